import JvmDerived
import JvmDerived.Pilot.@@N@@Statement
import JvmDerived.Pilot.@@N@@Code
set_option linter.unusedVariables false
set_option linter.unusedSimpArgs false
@@BLOCK:NumsL.lean.txt@@
namespace Jvm.Pilot.@@N@@
open Jvm Jvm.ClassFile Sem Op Lib Jvm.Free Jvm.Stand Jvm.LawKit Jvm.RoadKit Bundle Jvm.Pilot.@@N@@.Jvm.D
section Own
variable {p : Program} {l : Launch} {e : Env} {R : Room} {s : State} {m : MethodId} {args : Array Value} {below : List Frame} {meth : Method} {c : Code} {T : State} {cells slots n0 : Nat} {Z : State} {a0 : Array Value} {h h' h0 : Heap} {own nm : String} {bytes : ByteArray} {mx : Nat} {rt : Option FieldType} {Q : Option Value → Heap → Prop} {En : Outcome → State → List Loc → Prop} {pc : Nat} {Ls : Array Slot} {S : List Value} {a b : Addr}
/-- the run from here ends as Q says -/
def ownGo (p : Program) (e : Env) (m : MethodId) (below : List Frame) (n0 : Nat) (En : Outcome → State → List Loc → Prop) (Q : Option Value → Heap → Prop) (T : State) (pc : Nat) (Ls : Array Slot) (S : List Value) : Prop :=
  ∃ s₂ o, Steps p.tables e below (T.setTop (mkF m pc Ls S)) s₂ ∧ s₂.status = .running ∧ Ended s₂ below o ∧ ∃ v L, o = .returned v ∧ (Q v s₂.heap ∧ Fr n0 L) ∧ En o s₂ L
abbrev ownEnd (s : State) (R : Room) (o : Outcome) (t : State) (L : List Loc) : Prop := FrameEnd s o t L R.cells R.slots
/-- where the walk stands -/
def ownSt (p : Program) (l : Launch) (e : Env) (R : Room) (s : State) (m : MethodId) (args : Array Value) (below : List Frame) (meth : Method) (c : Code) (Z : State) (n0 : Nat) (own : String) (bytes : ByteArray) (mx : Nat) (rt : Option FieldType) (nm : String) (T : State) (h : Heap) (cells slots : Nat) : Prop :=
  (p.tables.exec = Jvm.exec ∧ Z.Warmed39 s.vm ∧ c.code = bytes ∧ c.maxLocals = mx ∧ s.vm.findClass own = some m.cls ∧ meth.name = nm ∧ meth.sig.returnType = rt ∧ meth.locks = false) ∧ ∃ locs, Stand p l e R s m args below meth c T locs cells slots ∧ T.heap = h ∧ Fr n0 locs
def ownMet (l : Launch) (ws : List Jvm.Cond) (y : MethodName) (bytes : ByteArray) (mx : Nat) (rt : Option FieldType) (rm : Room) (Z : State) (n0 : Nat) (as' : Array Value) (h0 : Heap) (Q : Option Value → Heap → Prop) : Prop :=
  MetFree l y (head1 (Jvm.Cond.code y bytes mx rt :: ws) rm) (fun a U => a = as' ∧ Z.Warmed39 U.vm ∧ U.heap = h0) (fun _ _ _ _ _ => True) (fun _ U o U' => ∃ v L, o = .returned v ∧ (Q v U'.heap ∧ Fr n0 L) ∧ FrameEnd U o U' L rm.cells rm.slots)
theorem ownGo.step {T' : State} {pc' : Nat} {Ls' : Array Slot} {S' : List Value} (st : ∀ t, Steps p.tables e below (T'.setTop (mkF m pc' Ls' S')) t → Steps p.tables e below (T.setTop (mkF m pc Ls S)) t) (go : ownGo p e m below n0 En Q T' pc' Ls' S') : ownGo p e m below n0 En Q T pc Ls S := by
  obtain ⟨s₂, o, h1, h2⟩ := go
  exact ⟨s₂, o, st _ h1, h2⟩
theorem own_body {ws : List Jvm.Cond} {y : MethodName} {rm : Room} {as' : Array Value} {L0 : Array Slot} (pn : plainFor y = true) (ef : ∀ m, entryFrame m as' mx = mkF m 0 L0 []) (hc : y.cls = own) (hn : y.name = nm)
    (body : ∀ p e s m below meth c s₁, ownSt p l e rm s m as' below meth c Z n0 own bytes mx rt nm s₁ h0 0 0 → ownGo p e m below n0 (ownEnd s rm) Q s₁ 0 L0 []) : ownMet l ws y bytes mx rt rm Z n0 as' h0 Q := by
  subst hc hn
  refine MetFree.of_bodySF pn hisR ?_
  intro p e s m args below meth c s₁ Bd hml0 hP hK
  obtain ⟨rfl, hZ, hh⟩ := hP
  have e0 : s₁.heap = h0 := by rw [← hh, Bd.state]; rfl
  obtain ⟨s₂, o, h1, h2, h3, v, L, h4, h5, h6⟩ := body p e s m below meth c s₁ ⟨⟨Bd.exec, hZ, Bd.bytes, hml0, findClass_of_methodNamed Bd.named, (name_of_methodNamed Bd.named Bd.method).1, Bd.returns, Bd.notSynchronized⟩, [], Stand.of_body Bd, e0, Fr.nil n0⟩
  exact ⟨s₂, o, castTop (ef m) h1, h2, h3, v, L, h4, h5, h6⟩
theorem ownMet.mono {ws : List Jvm.Cond} {y : MethodName} {rm : Room} {as' : Array Value} {Q' : Option Value → Heap → Prop} (M : ownMet l ws y bytes mx rt rm Z n0 as' h0 Q) (q : ∀ v h, Q v h → Q' v h) : ownMet l ws y bytes mx rt rm Z n0 as' h0 Q' := by
  intro p e ha hc hk s m args below hf happ hP hK
  obtain ⟨n, o, h1, h2, h3, v, L, h4, ⟨h5, h5'⟩, h6⟩ := M p e ha hc hk s m args below hf happ hP hK
  exact ⟨n, o, h1, h2, h3, v, L, h4, ⟨q _ _ h5, h5'⟩, h6⟩
theorem ownGo.mono {Q' : Option Value → Heap → Prop} (go : ownGo p e m below n0 En Q T pc Ls S) (q : ∀ v h, Q v h → Q' v h) : ownGo p e m below n0 En Q' T pc Ls S := by
  obtain ⟨s₂, o, h1, h2, h3, v, L, h4, ⟨h5, h5'⟩, h6⟩ := go
  exact ⟨s₂, o, h1, h2, h3, v, L, h4, ⟨q _ _ h5, h5'⟩, h6⟩
theorem own_iload (G : ownSt p l e R s m args below meth c Z n0 own bytes mx rt nm T h cells slots) {k : Nat} {v : Int32} (hd : decode bytes pc = .ok (.iload k, 2)) (hl : Ls[k]? = some (.val (.int v))) (go : ownGo p e m below n0 En Q T (pc + 2) Ls (.int v :: S)) : ownGo p e m below n0 En Q T pc Ls S := by
  obtain ⟨⟨hx, hZ, hby, hml, hown, hnm, hret, hlk⟩, locs, X, eT, hN⟩ := G
  exact ownGo.step (fun t k => XS.iload X.here hx rfl (hb hby hd) hl k) go
theorem own_iloadN (G : ownSt p l e R s m args below meth c Z n0 own bytes mx rt nm T h cells slots) {k : Fin 4} {v : Int32} (hd : decode bytes pc = .ok (.iload_n k, 1)) (hl : Ls[k.val]? = some (.val (.int v))) (go : ownGo p e m below n0 En Q T (pc + 1) Ls (.int v :: S)) : ownGo p e m below n0 En Q T pc Ls S := by
  obtain ⟨⟨hx, hZ, hby, hml, hown, hnm, hret, hlk⟩, locs, X, eT, hN⟩ := G
  exact ownGo.step (fun t k => XS.iloadN X.here hx rfl (hb hby hd) hl k) go
theorem own_istore (G : ownSt p l e R s m args below meth c Z n0 own bytes mx rt nm T h cells slots) {k : Nat} {v : Int32} {L' : Array Slot} (hd : decode bytes pc = .ok (.istore k, 2)) (hl : storeLocals Ls k (.int v) = some L') (go : ownGo p e m below n0 En Q T (pc + 2) L' S) : ownGo p e m below n0 En Q T pc Ls (.int v :: S) := by
  obtain ⟨⟨hx, hZ, hby, hml, hown, hnm, hret, hlk⟩, locs, X, eT, hN⟩ := G
  exact ownGo.step (fun t k => XS.istore X.here hx rfl (hb hby hd) rfl (l' := L') hl k) go
theorem own_istoreN (G : ownSt p l e R s m args below meth c Z n0 own bytes mx rt nm T h cells slots) {k : Fin 4} {v : Int32} {L' : Array Slot} (hd : decode bytes pc = .ok (.istore_n k, 1)) (hl : storeLocals Ls k.val (.int v) = some L') (go : ownGo p e m below n0 En Q T (pc + 1) L' S) : ownGo p e m below n0 En Q T pc Ls (.int v :: S) := by
  obtain ⟨⟨hx, hZ, hby, hml, hown, hnm, hret, hlk⟩, locs, X, eT, hN⟩ := G
  exact ownGo.step (fun t k => XS.istoreN X.here hx rfl (hb hby hd) rfl (l' := L') hl k) go
theorem own_lload (G : ownSt p l e R s m args below meth c Z n0 own bytes mx rt nm T h cells slots) {k : Nat} {v : Int64} (hd : decode bytes pc = .ok (.lload k, 2)) (hl : Ls[k]? = some (.val (.long v))) (go : ownGo p e m below n0 En Q T (pc + 2) Ls (.long v :: S)) : ownGo p e m below n0 En Q T pc Ls S := by
  obtain ⟨⟨hx, hZ, hby, hml, hown, hnm, hret, hlk⟩, locs, X, eT, hN⟩ := G
  exact ownGo.step (fun t k => XS.lload X.here hx rfl (hb hby hd) hl k) go
theorem own_lloadN (G : ownSt p l e R s m args below meth c Z n0 own bytes mx rt nm T h cells slots) {k : Fin 4} {v : Int64} (hd : decode bytes pc = .ok (.lload_n k, 1)) (hl : Ls[k.val]? = some (.val (.long v))) (go : ownGo p e m below n0 En Q T (pc + 1) Ls (.long v :: S)) : ownGo p e m below n0 En Q T pc Ls S := by
  obtain ⟨⟨hx, hZ, hby, hml, hown, hnm, hret, hlk⟩, locs, X, eT, hN⟩ := G
  exact ownGo.step (fun t k => XS.lloadN X.here hx rfl (hb hby hd) hl k) go
theorem own_lstore (G : ownSt p l e R s m args below meth c Z n0 own bytes mx rt nm T h cells slots) {k : Nat} {v : Int64} {L' : Array Slot} (hd : decode bytes pc = .ok (.lstore k, 2)) (hl : storeLocals Ls k (.long v) = some L') (go : ownGo p e m below n0 En Q T (pc + 2) L' S) : ownGo p e m below n0 En Q T pc Ls (.long v :: S) := by
  obtain ⟨⟨hx, hZ, hby, hml, hown, hnm, hret, hlk⟩, locs, X, eT, hN⟩ := G
  exact ownGo.step (fun t k => XS.lstore X.here hx rfl (hb hby hd) rfl (l' := L') hl k) go
theorem own_lstoreN (G : ownSt p l e R s m args below meth c Z n0 own bytes mx rt nm T h cells slots) {k : Fin 4} {v : Int64} {L' : Array Slot} (hd : decode bytes pc = .ok (.lstore_n k, 1)) (hl : storeLocals Ls k.val (.long v) = some L') (go : ownGo p e m below n0 En Q T (pc + 1) L' S) : ownGo p e m below n0 En Q T pc Ls (.long v :: S) := by
  obtain ⟨⟨hx, hZ, hby, hml, hown, hnm, hret, hlk⟩, locs, X, eT, hN⟩ := G
  exact ownGo.step (fun t k => XS.lstoreN X.here hx rfl (hb hby hd) rfl (l' := L') hl k) go
theorem own_aload (G : ownSt p l e R s m args below meth c Z n0 own bytes mx rt nm T h cells slots) {k : Nat} {v : Value} (hd : decode bytes pc = .ok (.aload k, 2)) (hl : Ls[k]? = some (.val v)) (hv : v.isRef = true) (go : ownGo p e m below n0 En Q T (pc + 2) Ls (v :: S)) : ownGo p e m below n0 En Q T pc Ls S := by
  obtain ⟨⟨hx, hZ, hby, hml, hown, hnm, hret, hlk⟩, locs, X, eT, hN⟩ := G
  exact ownGo.step (fun t k => XS.aload X.here hx rfl (hb hby hd) hl hv k) go
theorem own_aloadN (G : ownSt p l e R s m args below meth c Z n0 own bytes mx rt nm T h cells slots) {k : Fin 4} {v : Value} (hd : decode bytes pc = .ok (.aload_n k, 1)) (hl : Ls[k.val]? = some (.val v)) (hv : v.isRef = true) (go : ownGo p e m below n0 En Q T (pc + 1) Ls (v :: S)) : ownGo p e m below n0 En Q T pc Ls S := by
  obtain ⟨⟨hx, hZ, hby, hml, hown, hnm, hret, hlk⟩, locs, X, eT, hN⟩ := G
  exact ownGo.step (fun t k => XS.aloadN X.here hx rfl (hb hby hd) hl hv k) go
theorem own_astore (G : ownSt p l e R s m args below meth c Z n0 own bytes mx rt nm T h cells slots) {k : Nat} {v : Value} {L' : Array Slot} (hd : decode bytes pc = .ok (.astore k, 2)) (hv : v.isRef = true) (hl : storeLocals Ls k v = some L') (go : ownGo p e m below n0 En Q T (pc + 2) L' S) : ownGo p e m below n0 En Q T pc Ls (v :: S) := by
  obtain ⟨⟨hx, hZ, hby, hml, hown, hnm, hret, hlk⟩, locs, X, eT, hN⟩ := G
  exact ownGo.step (fun t k => XS.astore X.here hx rfl (hb hby hd) rfl hv (l' := L') hl k) go
theorem own_astoreN (G : ownSt p l e R s m args below meth c Z n0 own bytes mx rt nm T h cells slots) {k : Fin 4} {v : Value} {L' : Array Slot} (hd : decode bytes pc = .ok (.astore_n k, 1)) (hv : v.isRef = true) (hl : storeLocals Ls k.val v = some L') (go : ownGo p e m below n0 En Q T (pc + 1) L' S) : ownGo p e m below n0 En Q T pc Ls (v :: S) := by
  obtain ⟨⟨hx, hZ, hby, hml, hown, hnm, hret, hlk⟩, locs, X, eT, hN⟩ := G
  exact ownGo.step (fun t k => XS.astoreN X.here hx rfl (hb hby hd) rfl hv (l' := L') hl k) go
theorem own_iconst (G : ownSt p l e R s m args below meth c Z n0 own bytes mx rt nm T h cells slots) {i : Int} (hd : decode bytes pc = .ok (.iconst i, 1))  (go : ownGo p e m below n0 En Q T (pc + 1) Ls (.int (Int32.ofInt i) :: S)) : ownGo p e m below n0 En Q T pc Ls S := by
  obtain ⟨⟨hx, hZ, hby, hml, hown, hnm, hret, hlk⟩, locs, X, eT, hN⟩ := G
  exact ownGo.step (fun t k => XS.iconst X.here hx rfl (hb hby hd)  k) go
theorem own_bipush (G : ownSt p l e R s m args below meth c Z n0 own bytes mx rt nm T h cells slots) {i : Int} (hd : decode bytes pc = .ok (.bipush i, 2))  (go : ownGo p e m below n0 En Q T (pc + 2) Ls (.int (Int8.ofInt i).toInt32 :: S)) : ownGo p e m below n0 En Q T pc Ls S := by
  obtain ⟨⟨hx, hZ, hby, hml, hown, hnm, hret, hlk⟩, locs, X, eT, hN⟩ := G
  exact ownGo.step (fun t k => XS.bipush X.here hx rfl (hb hby hd)  k) go
theorem own_sipush (G : ownSt p l e R s m args below meth c Z n0 own bytes mx rt nm T h cells slots) {i : Int} (hd : decode bytes pc = .ok (.sipush i, 3))  (go : ownGo p e m below n0 En Q T (pc + 3) Ls (.int (Int16.ofInt i).toInt32 :: S)) : ownGo p e m below n0 En Q T pc Ls S := by
  obtain ⟨⟨hx, hZ, hby, hml, hown, hnm, hret, hlk⟩, locs, X, eT, hN⟩ := G
  exact ownGo.step (fun t k => XS.sipush X.here hx rfl (hb hby hd)  k) go
theorem own_lconst (G : ownSt p l e R s m args below meth c Z n0 own bytes mx rt nm T h cells slots) {k : Fin 2} (hd : decode bytes pc = .ok (.lconst k, 1))  (go : ownGo p e m below n0 En Q T (pc + 1) Ls (.long (Int64.ofNat k.val) :: S)) : ownGo p e m below n0 En Q T pc Ls S := by
  obtain ⟨⟨hx, hZ, hby, hml, hown, hnm, hret, hlk⟩, locs, X, eT, hN⟩ := G
  exact ownGo.step (fun t k => XS.lconst X.here hx rfl (hb hby hd)  k) go
theorem own_aconst_null (G : ownSt p l e R s m args below meth c Z n0 own bytes mx rt nm T h cells slots)  (hd : decode bytes pc = .ok (.aconst_null, 1))  (go : ownGo p e m below n0 En Q T (pc + 1) Ls (.null :: S)) : ownGo p e m below n0 En Q T pc Ls S := by
  obtain ⟨⟨hx, hZ, hby, hml, hown, hnm, hret, hlk⟩, locs, X, eT, hN⟩ := G
  exact ownGo.step (fun t k => XS.aconstNull X.here hx rfl (hb hby hd)  k) go
theorem own_iadd (G : ownSt p l e R s m args below meth c Z n0 own bytes mx rt nm T h cells slots) {x y : Int32} (hd : decode bytes pc = .ok (.iadd, 1))  (go : ownGo p e m below n0 En Q T (pc + 1) Ls (.int (x + y) :: S)) : ownGo p e m below n0 En Q T pc Ls (.int y :: .int x :: S) := by
  obtain ⟨⟨hx, hZ, hby, hml, hown, hnm, hret, hlk⟩, locs, X, eT, hN⟩ := G
  exact ownGo.step (fun t k => XS.iadd X.here hx rfl (hb hby hd) rfl k) go
theorem own_isub (G : ownSt p l e R s m args below meth c Z n0 own bytes mx rt nm T h cells slots) {x y : Int32} (hd : decode bytes pc = .ok (.isub, 1))  (go : ownGo p e m below n0 En Q T (pc + 1) Ls (.int (x - y) :: S)) : ownGo p e m below n0 En Q T pc Ls (.int y :: .int x :: S) := by
  obtain ⟨⟨hx, hZ, hby, hml, hown, hnm, hret, hlk⟩, locs, X, eT, hN⟩ := G
  exact ownGo.step (fun t k => XS.isub X.here hx rfl (hb hby hd) rfl k) go
theorem own_imul (G : ownSt p l e R s m args below meth c Z n0 own bytes mx rt nm T h cells slots) {x y : Int32} (hd : decode bytes pc = .ok (.imul, 1))  (go : ownGo p e m below n0 En Q T (pc + 1) Ls (.int (x * y) :: S)) : ownGo p e m below n0 En Q T pc Ls (.int y :: .int x :: S) := by
  obtain ⟨⟨hx, hZ, hby, hml, hown, hnm, hret, hlk⟩, locs, X, eT, hN⟩ := G
  exact ownGo.step (fun t k => XS.imul X.here hx rfl (hb hby hd) rfl k) go
theorem own_iand (G : ownSt p l e R s m args below meth c Z n0 own bytes mx rt nm T h cells slots) {x y : Int32} (hd : decode bytes pc = .ok (.iand, 1))  (go : ownGo p e m below n0 En Q T (pc + 1) Ls (.int (x &&& y) :: S)) : ownGo p e m below n0 En Q T pc Ls (.int y :: .int x :: S) := by
  obtain ⟨⟨hx, hZ, hby, hml, hown, hnm, hret, hlk⟩, locs, X, eT, hN⟩ := G
  exact ownGo.step (fun t k => XS.iand X.here hx rfl (hb hby hd) rfl k) go
theorem own_ior (G : ownSt p l e R s m args below meth c Z n0 own bytes mx rt nm T h cells slots) {x y : Int32} (hd : decode bytes pc = .ok (.ior, 1))  (go : ownGo p e m below n0 En Q T (pc + 1) Ls (.int (x ||| y) :: S)) : ownGo p e m below n0 En Q T pc Ls (.int y :: .int x :: S) := by
  obtain ⟨⟨hx, hZ, hby, hml, hown, hnm, hret, hlk⟩, locs, X, eT, hN⟩ := G
  exact ownGo.step (fun t k => XS.ior X.here hx rfl (hb hby hd) rfl k) go
theorem own_ixor (G : ownSt p l e R s m args below meth c Z n0 own bytes mx rt nm T h cells slots) {x y : Int32} (hd : decode bytes pc = .ok (.ixor, 1))  (go : ownGo p e m below n0 En Q T (pc + 1) Ls (.int (x ^^^ y) :: S)) : ownGo p e m below n0 En Q T pc Ls (.int y :: .int x :: S) := by
  obtain ⟨⟨hx, hZ, hby, hml, hown, hnm, hret, hlk⟩, locs, X, eT, hN⟩ := G
  exact ownGo.step (fun t k => XS.ixor X.here hx rfl (hb hby hd) rfl k) go
theorem own_ishl (G : ownSt p l e R s m args below meth c Z n0 own bytes mx rt nm T h cells slots) {x y : Int32} (hd : decode bytes pc = .ok (.ishl, 1))  (go : ownGo p e m below n0 En Q T (pc + 1) Ls (.int (x <<< (y &&& 31)) :: S)) : ownGo p e m below n0 En Q T pc Ls (.int y :: .int x :: S) := by
  obtain ⟨⟨hx, hZ, hby, hml, hown, hnm, hret, hlk⟩, locs, X, eT, hN⟩ := G
  exact ownGo.step (fun t k => XS.ishl X.here hx rfl (hb hby hd) rfl k) go
theorem own_ishr (G : ownSt p l e R s m args below meth c Z n0 own bytes mx rt nm T h cells slots) {x y : Int32} (hd : decode bytes pc = .ok (.ishr, 1))  (go : ownGo p e m below n0 En Q T (pc + 1) Ls (.int (x >>> (y &&& 31)) :: S)) : ownGo p e m below n0 En Q T pc Ls (.int y :: .int x :: S) := by
  obtain ⟨⟨hx, hZ, hby, hml, hown, hnm, hret, hlk⟩, locs, X, eT, hN⟩ := G
  exact ownGo.step (fun t k => XS.ishr X.here hx rfl (hb hby hd) rfl k) go
theorem own_iushr (G : ownSt p l e R s m args below meth c Z n0 own bytes mx rt nm T h cells slots) {x y : Int32} (hd : decode bytes pc = .ok (.iushr, 1))  (go : ownGo p e m below n0 En Q T (pc + 1) Ls (.int ((x.toUInt32 >>> (y &&& 31).toUInt32).toInt32) :: S)) : ownGo p e m below n0 En Q T pc Ls (.int y :: .int x :: S) := by
  obtain ⟨⟨hx, hZ, hby, hml, hown, hnm, hret, hlk⟩, locs, X, eT, hN⟩ := G
  exact ownGo.step (fun t k => XS.iushr X.here hx rfl (hb hby hd) rfl k) go
theorem own_ladd (G : ownSt p l e R s m args below meth c Z n0 own bytes mx rt nm T h cells slots) {x y : Int64} (hd : decode bytes pc = .ok (.ladd, 1))  (go : ownGo p e m below n0 En Q T (pc + 1) Ls (.long (x + y) :: S)) : ownGo p e m below n0 En Q T pc Ls (.long y :: .long x :: S) := by
  obtain ⟨⟨hx, hZ, hby, hml, hown, hnm, hret, hlk⟩, locs, X, eT, hN⟩ := G
  exact ownGo.step (fun t k => XS.ladd X.here hx rfl (hb hby hd) rfl k) go
theorem own_lsub (G : ownSt p l e R s m args below meth c Z n0 own bytes mx rt nm T h cells slots) {x y : Int64} (hd : decode bytes pc = .ok (.lsub, 1))  (go : ownGo p e m below n0 En Q T (pc + 1) Ls (.long (x - y) :: S)) : ownGo p e m below n0 En Q T pc Ls (.long y :: .long x :: S) := by
  obtain ⟨⟨hx, hZ, hby, hml, hown, hnm, hret, hlk⟩, locs, X, eT, hN⟩ := G
  exact ownGo.step (fun t k => XS.lsub X.here hx rfl (hb hby hd) rfl k) go
theorem own_lmul (G : ownSt p l e R s m args below meth c Z n0 own bytes mx rt nm T h cells slots) {x y : Int64} (hd : decode bytes pc = .ok (.lmul, 1))  (go : ownGo p e m below n0 En Q T (pc + 1) Ls (.long (x * y) :: S)) : ownGo p e m below n0 En Q T pc Ls (.long y :: .long x :: S) := by
  obtain ⟨⟨hx, hZ, hby, hml, hown, hnm, hret, hlk⟩, locs, X, eT, hN⟩ := G
  exact ownGo.step (fun t k => XS.lmul X.here hx rfl (hb hby hd) rfl k) go
theorem own_land (G : ownSt p l e R s m args below meth c Z n0 own bytes mx rt nm T h cells slots) {x y : Int64} (hd : decode bytes pc = .ok (.land, 1))  (go : ownGo p e m below n0 En Q T (pc + 1) Ls (.long (x &&& y) :: S)) : ownGo p e m below n0 En Q T pc Ls (.long y :: .long x :: S) := by
  obtain ⟨⟨hx, hZ, hby, hml, hown, hnm, hret, hlk⟩, locs, X, eT, hN⟩ := G
  exact ownGo.step (fun t k => XS.land X.here hx rfl (hb hby hd) rfl k) go
theorem own_lor (G : ownSt p l e R s m args below meth c Z n0 own bytes mx rt nm T h cells slots) {x y : Int64} (hd : decode bytes pc = .ok (.lor, 1))  (go : ownGo p e m below n0 En Q T (pc + 1) Ls (.long (x ||| y) :: S)) : ownGo p e m below n0 En Q T pc Ls (.long y :: .long x :: S) := by
  obtain ⟨⟨hx, hZ, hby, hml, hown, hnm, hret, hlk⟩, locs, X, eT, hN⟩ := G
  exact ownGo.step (fun t k => XS.lor X.here hx rfl (hb hby hd) rfl k) go
theorem own_lxor (G : ownSt p l e R s m args below meth c Z n0 own bytes mx rt nm T h cells slots) {x y : Int64} (hd : decode bytes pc = .ok (.lxor, 1))  (go : ownGo p e m below n0 En Q T (pc + 1) Ls (.long (x ^^^ y) :: S)) : ownGo p e m below n0 En Q T pc Ls (.long y :: .long x :: S) := by
  obtain ⟨⟨hx, hZ, hby, hml, hown, hnm, hret, hlk⟩, locs, X, eT, hN⟩ := G
  exact ownGo.step (fun t k => XS.lxor X.here hx rfl (hb hby hd) rfl k) go
theorem own_lshl (G : ownSt p l e R s m args below meth c Z n0 own bytes mx rt nm T h cells slots) {x : Int64} {y : Int32} (hd : decode bytes pc = .ok (.lshl, 1))  (go : ownGo p e m below n0 En Q T (pc + 1) Ls (.long (x <<< (y &&& 0x3f).toInt64) :: S)) : ownGo p e m below n0 En Q T pc Ls (.int y :: .long x :: S) := by
  obtain ⟨⟨hx, hZ, hby, hml, hown, hnm, hret, hlk⟩, locs, X, eT, hN⟩ := G
  exact ownGo.step (fun t k => XS.lshl X.here hx rfl (hb hby hd) rfl k) go
theorem own_lshr (G : ownSt p l e R s m args below meth c Z n0 own bytes mx rt nm T h cells slots) {x : Int64} {y : Int32} (hd : decode bytes pc = .ok (.lshr, 1))  (go : ownGo p e m below n0 En Q T (pc + 1) Ls (.long (x >>> (y &&& 0x3f).toInt64) :: S)) : ownGo p e m below n0 En Q T pc Ls (.int y :: .long x :: S) := by
  obtain ⟨⟨hx, hZ, hby, hml, hown, hnm, hret, hlk⟩, locs, X, eT, hN⟩ := G
  exact ownGo.step (fun t k => XS.lshr X.here hx rfl (hb hby hd) rfl k) go
theorem own_lushr (G : ownSt p l e R s m args below meth c Z n0 own bytes mx rt nm T h cells slots) {x : Int64} {y : Int32} (hd : decode bytes pc = .ok (.lushr, 1))  (go : ownGo p e m below n0 En Q T (pc + 1) Ls (.long ((x.toUInt64 >>> (y &&& 0x3f).toInt64.toUInt64).toInt64) :: S)) : ownGo p e m below n0 En Q T pc Ls (.int y :: .long x :: S) := by
  obtain ⟨⟨hx, hZ, hby, hml, hown, hnm, hret, hlk⟩, locs, X, eT, hN⟩ := G
  exact ownGo.step (fun t k => XS.lushr X.here hx rfl (hb hby hd) rfl k) go
theorem own_ineg (G : ownSt p l e R s m args below meth c Z n0 own bytes mx rt nm T h cells slots) {x : Int32} (hd : decode bytes pc = .ok (.ineg, 1))  (go : ownGo p e m below n0 En Q T (pc + 1) Ls (.int (-x) :: S)) : ownGo p e m below n0 En Q T pc Ls (.int x :: S) := by
  obtain ⟨⟨hx, hZ, hby, hml, hown, hnm, hret, hlk⟩, locs, X, eT, hN⟩ := G
  exact ownGo.step (fun t k => XS.ineg X.here hx rfl (hb hby hd) rfl k) go
theorem own_lneg (G : ownSt p l e R s m args below meth c Z n0 own bytes mx rt nm T h cells slots) {x : Int64} (hd : decode bytes pc = .ok (.lneg, 1))  (go : ownGo p e m below n0 En Q T (pc + 1) Ls (.long (-x) :: S)) : ownGo p e m below n0 En Q T pc Ls (.long x :: S) := by
  obtain ⟨⟨hx, hZ, hby, hml, hown, hnm, hret, hlk⟩, locs, X, eT, hN⟩ := G
  exact ownGo.step (fun t k => XS.lneg X.here hx rfl (hb hby hd) rfl k) go
theorem own_i2l (G : ownSt p l e R s m args below meth c Z n0 own bytes mx rt nm T h cells slots) {x : Int32} (hd : decode bytes pc = .ok (.i2l, 1))  (go : ownGo p e m below n0 En Q T (pc + 1) Ls (.long (x.toInt64) :: S)) : ownGo p e m below n0 En Q T pc Ls (.int x :: S) := by
  obtain ⟨⟨hx, hZ, hby, hml, hown, hnm, hret, hlk⟩, locs, X, eT, hN⟩ := G
  exact ownGo.step (fun t k => XS.i2l X.here hx rfl (hb hby hd) rfl k) go
theorem own_l2i (G : ownSt p l e R s m args below meth c Z n0 own bytes mx rt nm T h cells slots) {x : Int64} (hd : decode bytes pc = .ok (.l2i, 1))  (go : ownGo p e m below n0 En Q T (pc + 1) Ls (.int (x.toInt32) :: S)) : ownGo p e m below n0 En Q T pc Ls (.long x :: S) := by
  obtain ⟨⟨hx, hZ, hby, hml, hown, hnm, hret, hlk⟩, locs, X, eT, hN⟩ := G
  exact ownGo.step (fun t k => XS.l2i X.here hx rfl (hb hby hd) rfl k) go
theorem own_i2b (G : ownSt p l e R s m args below meth c Z n0 own bytes mx rt nm T h cells slots) {x : Int32} (hd : decode bytes pc = .ok (.i2b, 1))  (go : ownGo p e m below n0 En Q T (pc + 1) Ls (.int (x.toInt8.toInt32) :: S)) : ownGo p e m below n0 En Q T pc Ls (.int x :: S) := by
  obtain ⟨⟨hx, hZ, hby, hml, hown, hnm, hret, hlk⟩, locs, X, eT, hN⟩ := G
  exact ownGo.step (fun t k => XS.i2b X.here hx rfl (hb hby hd) rfl k) go
theorem own_i2s (G : ownSt p l e R s m args below meth c Z n0 own bytes mx rt nm T h cells slots) {x : Int32} (hd : decode bytes pc = .ok (.i2s, 1))  (go : ownGo p e m below n0 En Q T (pc + 1) Ls (.int (x.toInt16.toInt32) :: S)) : ownGo p e m below n0 En Q T pc Ls (.int x :: S) := by
  obtain ⟨⟨hx, hZ, hby, hml, hown, hnm, hret, hlk⟩, locs, X, eT, hN⟩ := G
  exact ownGo.step (fun t k => XS.i2s X.here hx rfl (hb hby hd) rfl k) go
theorem own_i2c (G : ownSt p l e R s m args below meth c Z n0 own bytes mx rt nm T h cells slots) {x : Int32} (hd : decode bytes pc = .ok (.i2c, 1))  (go : ownGo p e m below n0 En Q T (pc + 1) Ls (.int (x.toUInt32.toUInt16.toUInt32.toInt32) :: S)) : ownGo p e m below n0 En Q T pc Ls (.int x :: S) := by
  obtain ⟨⟨hx, hZ, hby, hml, hown, hnm, hret, hlk⟩, locs, X, eT, hN⟩ := G
  exact ownGo.step (fun t k => XS.i2c X.here hx rfl (hb hby hd) rfl k) go
theorem own_lcmp (G : ownSt p l e R s m args below meth c Z n0 own bytes mx rt nm T h cells slots) {x y : Int64} (hd : decode bytes pc = .ok (.lcmp, 1))  (go : ownGo p e m below n0 En Q T (pc + 1) Ls (.int (lcmpW x y) :: S)) : ownGo p e m below n0 En Q T pc Ls (.long y :: .long x :: S) := by
  obtain ⟨⟨hx, hZ, hby, hml, hown, hnm, hret, hlk⟩, locs, X, eT, hN⟩ := G
  exact ownGo.step (fun t k => XS.lcmp X.here hx rfl (hb hby hd) rfl k) go
theorem own_pop (G : ownSt p l e R s m args below meth c Z n0 own bytes mx rt nm T h cells slots) {v : Value} (hd : decode bytes pc = .ok (.pop, 1)) (hc : v.category = 1) (go : ownGo p e m below n0 En Q T (pc + 1) Ls S) : ownGo p e m below n0 En Q T pc Ls (v :: S) := by
  obtain ⟨⟨hx, hZ, hby, hml, hown, hnm, hret, hlk⟩, locs, X, eT, hN⟩ := G
  exact ownGo.step (fun t k => XS.pop X.here hx rfl (hb hby hd) rfl hc k) go
theorem own_dup (G : ownSt p l e R s m args below meth c Z n0 own bytes mx rt nm T h cells slots) {v : Value} (hd : decode bytes pc = .ok (.dup, 1)) (hc : v.category = 1) (go : ownGo p e m below n0 En Q T (pc + 1) Ls (v :: v :: S)) : ownGo p e m below n0 En Q T pc Ls (v :: S) := by
  obtain ⟨⟨hx, hZ, hby, hml, hown, hnm, hret, hlk⟩, locs, X, eT, hN⟩ := G
  exact ownGo.step (fun t k => XS.dup X.here hx rfl (hb hby hd) rfl hc k) go
theorem own_dup_x1 (G : ownSt p l e R s m args below meth c Z n0 own bytes mx rt nm T h cells slots) {v w : Value} (hd : decode bytes pc = .ok (.dup_x1, 1)) (hc : v.category = 1) (hc' : w.category = 1) (go : ownGo p e m below n0 En Q T (pc + 1) Ls (v :: w :: v :: S)) : ownGo p e m below n0 En Q T pc Ls (v :: w :: S) := by
  obtain ⟨⟨hx, hZ, hby, hml, hown, hnm, hret, hlk⟩, locs, X, eT, hN⟩ := G
  exact ownGo.step (fun t k => XS.dupX1 X.here hx rfl (hb hby hd) rfl hc hc' k) go
theorem own_irem (G : ownSt p l e R s m args below meth c Z n0 own bytes mx rt nm T h cells slots) {x y : Int32} (hd : decode bytes pc = .ok (.irem, 1)) (hy : y ≠ 0) (go : ownGo p e m below n0 En Q T (pc + 1) Ls (.int (x % y) :: S)) : ownGo p e m below n0 En Q T pc Ls (.int y :: .int x :: S) := by
  obtain ⟨⟨hx, hZ, hby, hml, hown, hnm, hret, hlk⟩, locs, X, eT, hN⟩ := G
  exact ownGo.step (fun t k => iremM X hx rfl (hb hby hd) rfl hy k) go
theorem own_iinc (G : ownSt p l e R s m args below meth c Z n0 own bytes mx rt nm T h cells slots) {k : Nat} {d : Int} {v : Int32} {L' : Array Slot} (hd : decode bytes pc = .ok (.iinc k d, 3)) (hv : Ls[k]? = some (.val (.int v))) (hl : storeLocals Ls k (.int (v + Int32.ofInt d)) = some L') (go : ownGo p e m below n0 En Q T (pc + 3) L' S) : ownGo p e m below n0 En Q T pc Ls S := by
  obtain ⟨⟨hx, hZ, hby, hml, hown, hnm, hret, hlk⟩, locs, X, eT, hN⟩ := G
  exact ownGo.step (fun t k => XS.iinc X.here hx rfl (hb hby hd) hv (l' := L') hl k) go
theorem own_goto (G : ownSt p l e R s m args below meth c Z n0 own bytes mx rt nm T h cells slots) {o : Int} {pc' : Nat} (hd : decode bytes pc = .ok (.goto o, 3)) (ho : 0 ≤ (pc : Int) + o) (hp : ((pc : Int) + o).toNat = pc') (go : ownGo p e m below n0 En Q T pc' Ls S) : ownGo p e m below n0 En Q T pc Ls S := by
  obtain ⟨⟨hx, hZ, hby, hml, hown, hnm, hret, hlk⟩, locs, X, eT, hN⟩ := G
  exact ownGo.step (fun t k => XS.goto X.here hx rfl (pc0 := pc) rfl (hb hby hd) ho hp k) go
theorem own_icmp_lt (G : ownSt p l e R s m args below meth c Z n0 own bytes mx rt nm T h cells slots) {x y : Int32} {o : Int} {pc' : Nat} (hd : decode bytes pc = .ok (.if_icmp .lt o, 3)) (ho : 0 ≤ (pc : Int) + o) (hp : ((pc : Int) + o).toNat = pc') (yes : x < y → ownGo p e m below n0 En Q T pc' Ls S) (no : ¬ x < y → ownGo p e m below n0 En Q T (pc + 3) Ls S) : ownGo p e m below n0 En Q T pc Ls (.int y :: .int x :: S) := by
  obtain ⟨⟨hx, hZ, hby, hml, hown, hnm, hret, hlk⟩, locs, X, eT, hN⟩ := G
  by_cases q : x < y
  · exact ownGo.step (fun t k => XS.icmpYes X.here hx rfl (pc0 := pc) rfl (hb hby hd) rfl (tlt q).1 ho hp k) (yes q)
  · exact ownGo.step (fun t k => XS.icmpNo X.here hx rfl (hb hby hd) rfl (flt q).1 k) (no q)
theorem own_if_lt (G : ownSt p l e R s m args below meth c Z n0 own bytes mx rt nm T h cells slots) {x : Int32} {o : Int} {pc' : Nat} (hd : decode bytes pc = .ok (.ifCond .lt o, 3)) (ho : 0 ≤ (pc : Int) + o) (hp : ((pc : Int) + o).toNat = pc') (yes : x < (0 : Int32) → ownGo p e m below n0 En Q T pc' Ls S) (no : ¬ x < (0 : Int32) → ownGo p e m below n0 En Q T (pc + 3) Ls S) : ownGo p e m below n0 En Q T pc Ls (.int x :: S) := by
  obtain ⟨⟨hx, hZ, hby, hml, hown, hnm, hret, hlk⟩, locs, X, eT, hN⟩ := G
  by_cases q : x < (0 : Int32)
  · exact ownGo.step (fun t k => XS.ifYes X.here hx rfl (pc0 := pc) rfl (hb hby hd) rfl ((if0 _ _).trans (tlt q).1) ho hp k) (yes q)
  · exact ownGo.step (fun t k => XS.ifNo X.here hx rfl (hb hby hd) rfl ((if0 _ _).trans (flt q).1) k) (no q)
theorem own_icmp_ge (G : ownSt p l e R s m args below meth c Z n0 own bytes mx rt nm T h cells slots) {x y : Int32} {o : Int} {pc' : Nat} (hd : decode bytes pc = .ok (.if_icmp .ge o, 3)) (ho : 0 ≤ (pc : Int) + o) (hp : ((pc : Int) + o).toNat = pc') (yes : ¬ x < y → ownGo p e m below n0 En Q T pc' Ls S) (no : x < y → ownGo p e m below n0 En Q T (pc + 3) Ls S) : ownGo p e m below n0 En Q T pc Ls (.int y :: .int x :: S) := by
  obtain ⟨⟨hx, hZ, hby, hml, hown, hnm, hret, hlk⟩, locs, X, eT, hN⟩ := G
  by_cases q : x < y
  · exact ownGo.step (fun t k => XS.icmpNo X.here hx rfl (hb hby hd) rfl (tlt q).2.1 k) (no q)
  · exact ownGo.step (fun t k => XS.icmpYes X.here hx rfl (pc0 := pc) rfl (hb hby hd) rfl (flt q).2.1 ho hp k) (yes q)
theorem own_if_ge (G : ownSt p l e R s m args below meth c Z n0 own bytes mx rt nm T h cells slots) {x : Int32} {o : Int} {pc' : Nat} (hd : decode bytes pc = .ok (.ifCond .ge o, 3)) (ho : 0 ≤ (pc : Int) + o) (hp : ((pc : Int) + o).toNat = pc') (yes : ¬ x < (0 : Int32) → ownGo p e m below n0 En Q T pc' Ls S) (no : x < (0 : Int32) → ownGo p e m below n0 En Q T (pc + 3) Ls S) : ownGo p e m below n0 En Q T pc Ls (.int x :: S) := by
  obtain ⟨⟨hx, hZ, hby, hml, hown, hnm, hret, hlk⟩, locs, X, eT, hN⟩ := G
  by_cases q : x < (0 : Int32)
  · exact ownGo.step (fun t k => XS.ifNo X.here hx rfl (hb hby hd) rfl ((if0 _ _).trans (tlt q).2.1) k) (no q)
  · exact ownGo.step (fun t k => XS.ifYes X.here hx rfl (pc0 := pc) rfl (hb hby hd) rfl ((if0 _ _).trans (flt q).2.1) ho hp k) (yes q)
theorem own_icmp_gt (G : ownSt p l e R s m args below meth c Z n0 own bytes mx rt nm T h cells slots) {x y : Int32} {o : Int} {pc' : Nat} (hd : decode bytes pc = .ok (.if_icmp .gt o, 3)) (ho : 0 ≤ (pc : Int) + o) (hp : ((pc : Int) + o).toNat = pc') (yes : y < x → ownGo p e m below n0 En Q T pc' Ls S) (no : ¬ y < x → ownGo p e m below n0 En Q T (pc + 3) Ls S) : ownGo p e m below n0 En Q T pc Ls (.int y :: .int x :: S) := by
  obtain ⟨⟨hx, hZ, hby, hml, hown, hnm, hret, hlk⟩, locs, X, eT, hN⟩ := G
  by_cases q : y < x
  · exact ownGo.step (fun t k => XS.icmpYes X.here hx rfl (pc0 := pc) rfl (hb hby hd) rfl (tlt q).2.2.1 ho hp k) (yes q)
  · exact ownGo.step (fun t k => XS.icmpNo X.here hx rfl (hb hby hd) rfl (flt q).2.2.1 k) (no q)
theorem own_if_gt (G : ownSt p l e R s m args below meth c Z n0 own bytes mx rt nm T h cells slots) {x : Int32} {o : Int} {pc' : Nat} (hd : decode bytes pc = .ok (.ifCond .gt o, 3)) (ho : 0 ≤ (pc : Int) + o) (hp : ((pc : Int) + o).toNat = pc') (yes : (0 : Int32) < x → ownGo p e m below n0 En Q T pc' Ls S) (no : ¬ (0 : Int32) < x → ownGo p e m below n0 En Q T (pc + 3) Ls S) : ownGo p e m below n0 En Q T pc Ls (.int x :: S) := by
  obtain ⟨⟨hx, hZ, hby, hml, hown, hnm, hret, hlk⟩, locs, X, eT, hN⟩ := G
  by_cases q : (0 : Int32) < x
  · exact ownGo.step (fun t k => XS.ifYes X.here hx rfl (pc0 := pc) rfl (hb hby hd) rfl ((if0 _ _).trans (tlt q).2.2.1) ho hp k) (yes q)
  · exact ownGo.step (fun t k => XS.ifNo X.here hx rfl (hb hby hd) rfl ((if0 _ _).trans (flt q).2.2.1) k) (no q)
theorem own_icmp_le (G : ownSt p l e R s m args below meth c Z n0 own bytes mx rt nm T h cells slots) {x y : Int32} {o : Int} {pc' : Nat} (hd : decode bytes pc = .ok (.if_icmp .le o, 3)) (ho : 0 ≤ (pc : Int) + o) (hp : ((pc : Int) + o).toNat = pc') (yes : ¬ y < x → ownGo p e m below n0 En Q T pc' Ls S) (no : y < x → ownGo p e m below n0 En Q T (pc + 3) Ls S) : ownGo p e m below n0 En Q T pc Ls (.int y :: .int x :: S) := by
  obtain ⟨⟨hx, hZ, hby, hml, hown, hnm, hret, hlk⟩, locs, X, eT, hN⟩ := G
  by_cases q : y < x
  · exact ownGo.step (fun t k => XS.icmpNo X.here hx rfl (hb hby hd) rfl (tlt q).2.2.2 k) (no q)
  · exact ownGo.step (fun t k => XS.icmpYes X.here hx rfl (pc0 := pc) rfl (hb hby hd) rfl (flt q).2.2.2 ho hp k) (yes q)
theorem own_if_le (G : ownSt p l e R s m args below meth c Z n0 own bytes mx rt nm T h cells slots) {x : Int32} {o : Int} {pc' : Nat} (hd : decode bytes pc = .ok (.ifCond .le o, 3)) (ho : 0 ≤ (pc : Int) + o) (hp : ((pc : Int) + o).toNat = pc') (yes : ¬ (0 : Int32) < x → ownGo p e m below n0 En Q T pc' Ls S) (no : (0 : Int32) < x → ownGo p e m below n0 En Q T (pc + 3) Ls S) : ownGo p e m below n0 En Q T pc Ls (.int x :: S) := by
  obtain ⟨⟨hx, hZ, hby, hml, hown, hnm, hret, hlk⟩, locs, X, eT, hN⟩ := G
  by_cases q : (0 : Int32) < x
  · exact ownGo.step (fun t k => XS.ifNo X.here hx rfl (hb hby hd) rfl ((if0 _ _).trans (tlt q).2.2.2) k) (no q)
  · exact ownGo.step (fun t k => XS.ifYes X.here hx rfl (pc0 := pc) rfl (hb hby hd) rfl ((if0 _ _).trans (flt q).2.2.2) ho hp k) (yes q)
theorem own_icmp_eq (G : ownSt p l e R s m args below meth c Z n0 own bytes mx rt nm T h cells slots) {x y : Int32} {o : Int} {pc' : Nat} (hd : decode bytes pc = .ok (.if_icmp .eq o, 3)) (ho : 0 ≤ (pc : Int) + o) (hp : ((pc : Int) + o).toNat = pc') (yes : x = y → ownGo p e m below n0 En Q T pc' Ls S) (no : ¬ x = y → ownGo p e m below n0 En Q T (pc + 3) Ls S) : ownGo p e m below n0 En Q T pc Ls (.int y :: .int x :: S) := by
  obtain ⟨⟨hx, hZ, hby, hml, hown, hnm, hret, hlk⟩, locs, X, eT, hN⟩ := G
  by_cases q : x = y
  · exact ownGo.step (fun t k => XS.icmpYes X.here hx rfl (pc0 := pc) rfl (hb hby hd) rfl (teq q).1 ho hp k) (yes q)
  · exact ownGo.step (fun t k => XS.icmpNo X.here hx rfl (hb hby hd) rfl (feq q).1 k) (no q)
theorem own_if_eq (G : ownSt p l e R s m args below meth c Z n0 own bytes mx rt nm T h cells slots) {x : Int32} {o : Int} {pc' : Nat} (hd : decode bytes pc = .ok (.ifCond .eq o, 3)) (ho : 0 ≤ (pc : Int) + o) (hp : ((pc : Int) + o).toNat = pc') (yes : x = (0 : Int32) → ownGo p e m below n0 En Q T pc' Ls S) (no : ¬ x = (0 : Int32) → ownGo p e m below n0 En Q T (pc + 3) Ls S) : ownGo p e m below n0 En Q T pc Ls (.int x :: S) := by
  obtain ⟨⟨hx, hZ, hby, hml, hown, hnm, hret, hlk⟩, locs, X, eT, hN⟩ := G
  by_cases q : x = (0 : Int32)
  · exact ownGo.step (fun t k => XS.ifYes X.here hx rfl (pc0 := pc) rfl (hb hby hd) rfl ((if0 _ _).trans (teq q).1) ho hp k) (yes q)
  · exact ownGo.step (fun t k => XS.ifNo X.here hx rfl (hb hby hd) rfl ((if0 _ _).trans (feq q).1) k) (no q)
theorem own_icmp_ne (G : ownSt p l e R s m args below meth c Z n0 own bytes mx rt nm T h cells slots) {x y : Int32} {o : Int} {pc' : Nat} (hd : decode bytes pc = .ok (.if_icmp .ne o, 3)) (ho : 0 ≤ (pc : Int) + o) (hp : ((pc : Int) + o).toNat = pc') (yes : ¬ x = y → ownGo p e m below n0 En Q T pc' Ls S) (no : x = y → ownGo p e m below n0 En Q T (pc + 3) Ls S) : ownGo p e m below n0 En Q T pc Ls (.int y :: .int x :: S) := by
  obtain ⟨⟨hx, hZ, hby, hml, hown, hnm, hret, hlk⟩, locs, X, eT, hN⟩ := G
  by_cases q : x = y
  · exact ownGo.step (fun t k => XS.icmpNo X.here hx rfl (hb hby hd) rfl (teq q).2 k) (no q)
  · exact ownGo.step (fun t k => XS.icmpYes X.here hx rfl (pc0 := pc) rfl (hb hby hd) rfl (feq q).2 ho hp k) (yes q)
theorem own_if_ne (G : ownSt p l e R s m args below meth c Z n0 own bytes mx rt nm T h cells slots) {x : Int32} {o : Int} {pc' : Nat} (hd : decode bytes pc = .ok (.ifCond .ne o, 3)) (ho : 0 ≤ (pc : Int) + o) (hp : ((pc : Int) + o).toNat = pc') (yes : ¬ x = (0 : Int32) → ownGo p e m below n0 En Q T pc' Ls S) (no : x = (0 : Int32) → ownGo p e m below n0 En Q T (pc + 3) Ls S) : ownGo p e m below n0 En Q T pc Ls (.int x :: S) := by
  obtain ⟨⟨hx, hZ, hby, hml, hown, hnm, hret, hlk⟩, locs, X, eT, hN⟩ := G
  by_cases q : x = (0 : Int32)
  · exact ownGo.step (fun t k => XS.ifNo X.here hx rfl (hb hby hd) rfl ((if0 _ _).trans (teq q).2) k) (no q)
  · exact ownGo.step (fun t k => XS.ifYes X.here hx rfl (pc0 := pc) rfl (hb hby hd) rfl ((if0 _ _).trans (feq q).2) ho hp k) (yes q)
theorem own_lcif_lt (G : ownSt p l e R s m args below meth c Z n0 own bytes mx rt nm T h cells slots) {x y : Int64} {o : Int} {pc' : Nat} (hd : decode bytes pc = .ok (.lcmp, 1)) (hd' : decode bytes (pc + 1) = .ok (.ifCond .lt o, 3)) (ho : 0 ≤ ((pc + 1 : Nat) : Int) + o) (hp : (((pc + 1 : Nat) : Int) + o).toNat = pc') (yes : x < y → ownGo p e m below n0 En Q T pc' Ls S) (no : ¬ x < y → ownGo p e m below n0 En Q T (pc + 1 + 3) Ls S) : ownGo p e m below n0 En Q T pc Ls (.long y :: .long x :: S) :=
  own_lcmp G hd (own_if_lt G hd' ho hp (fun q => yes ((lw_lt _ _).mp q)) (fun q => no (fun r => q ((lw_lt _ _).mpr r))))
theorem own_lcif_ge (G : ownSt p l e R s m args below meth c Z n0 own bytes mx rt nm T h cells slots) {x y : Int64} {o : Int} {pc' : Nat} (hd : decode bytes pc = .ok (.lcmp, 1)) (hd' : decode bytes (pc + 1) = .ok (.ifCond .ge o, 3)) (ho : 0 ≤ ((pc + 1 : Nat) : Int) + o) (hp : (((pc + 1 : Nat) : Int) + o).toNat = pc') (yes : ¬ x < y → ownGo p e m below n0 En Q T pc' Ls S) (no : x < y → ownGo p e m below n0 En Q T (pc + 1 + 3) Ls S) : ownGo p e m below n0 En Q T pc Ls (.long y :: .long x :: S) :=
  own_lcmp G hd (own_if_ge G hd' ho hp (fun q => yes (fun r => q ((lw_lt _ _).mpr r))) (fun q => no ((lw_lt _ _).mp q)))
theorem own_lcif_gt (G : ownSt p l e R s m args below meth c Z n0 own bytes mx rt nm T h cells slots) {x y : Int64} {o : Int} {pc' : Nat} (hd : decode bytes pc = .ok (.lcmp, 1)) (hd' : decode bytes (pc + 1) = .ok (.ifCond .gt o, 3)) (ho : 0 ≤ ((pc + 1 : Nat) : Int) + o) (hp : (((pc + 1 : Nat) : Int) + o).toNat = pc') (yes : y < x → ownGo p e m below n0 En Q T pc' Ls S) (no : ¬ y < x → ownGo p e m below n0 En Q T (pc + 1 + 3) Ls S) : ownGo p e m below n0 En Q T pc Ls (.long y :: .long x :: S) :=
  own_lcmp G hd (own_if_gt G hd' ho hp (fun q => yes ((lw_gt _ _).mp q)) (fun q => no (fun r => q ((lw_gt _ _).mpr r))))
theorem own_lcif_le (G : ownSt p l e R s m args below meth c Z n0 own bytes mx rt nm T h cells slots) {x y : Int64} {o : Int} {pc' : Nat} (hd : decode bytes pc = .ok (.lcmp, 1)) (hd' : decode bytes (pc + 1) = .ok (.ifCond .le o, 3)) (ho : 0 ≤ ((pc + 1 : Nat) : Int) + o) (hp : (((pc + 1 : Nat) : Int) + o).toNat = pc') (yes : ¬ y < x → ownGo p e m below n0 En Q T pc' Ls S) (no : y < x → ownGo p e m below n0 En Q T (pc + 1 + 3) Ls S) : ownGo p e m below n0 En Q T pc Ls (.long y :: .long x :: S) :=
  own_lcmp G hd (own_if_le G hd' ho hp (fun q => yes (fun r => q ((lw_gt _ _).mpr r))) (fun q => no ((lw_gt _ _).mp q)))
theorem own_lcif_eq (G : ownSt p l e R s m args below meth c Z n0 own bytes mx rt nm T h cells slots) {x y : Int64} {o : Int} {pc' : Nat} (hd : decode bytes pc = .ok (.lcmp, 1)) (hd' : decode bytes (pc + 1) = .ok (.ifCond .eq o, 3)) (ho : 0 ≤ ((pc + 1 : Nat) : Int) + o) (hp : (((pc + 1 : Nat) : Int) + o).toNat = pc') (yes : x = y → ownGo p e m below n0 En Q T pc' Ls S) (no : ¬ x = y → ownGo p e m below n0 En Q T (pc + 1 + 3) Ls S) : ownGo p e m below n0 En Q T pc Ls (.long y :: .long x :: S) :=
  own_lcmp G hd (own_if_eq G hd' ho hp (fun q => yes ((lw_eq _ _).mp q)) (fun q => no (fun r => q ((lw_eq _ _).mpr r))))
theorem own_lcif_ne (G : ownSt p l e R s m args below meth c Z n0 own bytes mx rt nm T h cells slots) {x y : Int64} {o : Int} {pc' : Nat} (hd : decode bytes pc = .ok (.lcmp, 1)) (hd' : decode bytes (pc + 1) = .ok (.ifCond .ne o, 3)) (ho : 0 ≤ ((pc + 1 : Nat) : Int) + o) (hp : (((pc + 1 : Nat) : Int) + o).toNat = pc') (yes : ¬ x = y → ownGo p e m below n0 En Q T pc' Ls S) (no : x = y → ownGo p e m below n0 En Q T (pc + 1 + 3) Ls S) : ownGo p e m below n0 En Q T pc Ls (.long y :: .long x :: S) :=
  own_lcmp G hd (own_if_ne G hd' ho hp (fun q => yes (fun r => q ((lw_eq _ _).mpr r))) (fun q => no ((lw_eq _ _).mp q)))
theorem own_ifnull_null (G : ownSt p l e R s m args below meth c Z n0 own bytes mx rt nm T h cells slots) {o : Int} {pc' : Nat} (hd : decode bytes pc = .ok (.ifnull o, 3)) (ho : 0 ≤ (pc : Int) + o) (hp : ((pc : Int) + o).toNat = pc') (go : ownGo p e m below n0 En Q T pc' Ls S) : ownGo p e m below n0 En Q T pc Ls (.null :: S) := by
  obtain ⟨⟨hx, hZ, hby, hml, hown, hnm, hret, hlk⟩, locs, X, eT, hN⟩ := G
  exact ownGo.step (fun t k => XS.ifnullYes X.here hx rfl (pc0 := pc) rfl (hb hby hd) rfl ho hp k) go
theorem own_ifnull_ref (G : ownSt p l e R s m args below meth c Z n0 own bytes mx rt nm T h cells slots) {o : Int} (hd : decode bytes pc = .ok (.ifnull o, 3)) (go : ownGo p e m below n0 En Q T (pc + 3) Ls S) : ownGo p e m below n0 En Q T pc Ls (.ref b :: S) := by
  obtain ⟨⟨hx, hZ, hby, hml, hown, hnm, hret, hlk⟩, locs, X, eT, hN⟩ := G
  exact ownGo.step (fun t k => XS.ifnullNo X.here hx rfl (hb hby hd) rfl k) go
theorem own_ifnonnull_ref (G : ownSt p l e R s m args below meth c Z n0 own bytes mx rt nm T h cells slots) {o : Int} {pc' : Nat} (hd : decode bytes pc = .ok (.ifnonnull o, 3)) (ho : 0 ≤ (pc : Int) + o) (hp : ((pc : Int) + o).toNat = pc') (go : ownGo p e m below n0 En Q T pc' Ls S) : ownGo p e m below n0 En Q T pc Ls (.ref b :: S) := by
  obtain ⟨⟨hx, hZ, hby, hml, hown, hnm, hret, hlk⟩, locs, X, eT, hN⟩ := G
  exact ownGo.step (fun t k => XS.ifnonnullYes X.here hx rfl (pc0 := pc) rfl (hb hby hd) rfl ho hp k) go
theorem own_ifnonnull_null (G : ownSt p l e R s m args below meth c Z n0 own bytes mx rt nm T h cells slots) {o : Int} (hd : decode bytes pc = .ok (.ifnonnull o, 3)) (go : ownGo p e m below n0 En Q T (pc + 3) Ls S) : ownGo p e m below n0 En Q T pc Ls (.null :: S) := by
  obtain ⟨⟨hx, hZ, hby, hml, hown, hnm, hret, hlk⟩, locs, X, eT, hN⟩ := G
  exact ownGo.step (fun t k => XS.ifnonnullNo X.here hx rfl (hb hby hd) rfl k) go
theorem own_acmp (G : ownSt p l e R s m args below meth c Z n0 own bytes mx rt nm T h cells slots) {cd : ACond} {x y : Value} {o : Int} {pc' : Nat} {same : Bool} (hd : decode bytes pc = .ok (.if_acmp cd o, 3)) (h1 : x.isRef = true) (h2 : y.isRef = true) (hq : decide (x = y) = same) (ho : 0 ≤ (pc : Int) + o) (hp : pc' = if acV cd same = true then ((pc : Int) + o).toNat else pc + 3) (go : ownGo p e m below n0 En Q T pc' Ls S) : ownGo p e m below n0 En Q T pc Ls (y :: x :: S) := by
  obtain ⟨⟨hx, hZ, hby, hml, hown, hnm, hret, hlk⟩, locs, X, eT, hN⟩ := G
  exact ownGo.step (fun t k => Jvm.RoadKit.acmp (g := mkF m pc Ls (y :: x :: S)) X hx rfl h1 h2 (pc0 := pc) rfl (hb hby hd) rfl hq ho hp k) go
theorem own_ret (G : ownSt p l e R s m args below meth c Z n0 own bytes mx rt nm T h cells slots) (hd : decode bytes pc = .ok (.return_, 1)) (hrt : rt = none) (hc : cells ≤ R.cells) (hs : slots ≤ R.slots) (q : Q none h) : ownGo p e m below n0 (ownEnd s R) Q T pc Ls [] := by
  obtain ⟨⟨hx, hZ, hby, hml, hown, hnm, hret, hlk⟩, locs, X, eT, hN⟩ := G
  obtain ⟨fs, hr, hrun, hended, hW, hsame⟩ := X.leave (v := none) (fun _ => rfl)
  exact ⟨_, _, X.returnOut hx (hret.trans hrt) (hb hby hd) hr, hrun, hended, _, _, rfl, ⟨by show Q none T.heap; rw [eT]; exact q, hN⟩, ⟨_, rfl⟩, hW, hsame.mono hc hs⟩
theorem own_ireturn (G : ownSt p l e R s m args below meth c Z n0 own bytes mx rt nm T h cells slots) {z : Int32} (hd : decode bytes pc = .ok (.ireturn, 1)) (hrt : rt = some .int) (hc : cells ≤ R.cells) (hs : slots ≤ R.slots) (q : Q (some (.int z)) h) : ownGo p e m below n0 (ownEnd s R) Q T pc Ls (.int z :: S) := by
  obtain ⟨⟨hx, hZ, hby, hml, hown, hnm, hret, hlk⟩, locs, X, eT, hN⟩ := G
  obtain ⟨fs, hr, hrun, hended, hW, hsame⟩ := X.leave (v := some (.int z)) (fun h => by rw [hret, hrt] at h; cases h)
  exact ⟨_, _, retOut X hx (hret.trans hrt) rfl (Or.inl ⟨rfl, Or.inl rfl, _, rfl⟩) (hb hby hd) hr, hrun, hended, _, _, rfl, ⟨by show Q _ T.heap; rw [eT]; exact q, hN⟩, ⟨_, rfl⟩, hW, hsame.mono hc hs⟩
theorem own_zreturn (G : ownSt p l e R s m args below meth c Z n0 own bytes mx rt nm T h cells slots) {z : Int32} (hd : decode bytes pc = .ok (.ireturn, 1)) (hrt : rt = some .boolean) (hc : cells ≤ R.cells) (hs : slots ≤ R.slots) (q : Q (some (.int (nar .boolean z))) h) : ownGo p e m below n0 (ownEnd s R) Q T pc Ls (.int z :: S) := by
  obtain ⟨⟨hx, hZ, hby, hml, hown, hnm, hret, hlk⟩, locs, X, eT, hN⟩ := G
  obtain ⟨fs, hr, hrun, hended, hW, hsame⟩ := X.leave (v := some (.int (nar .boolean z))) (fun h => by rw [hret, hrt] at h; cases h)
  exact ⟨_, _, retN X hx (t := .boolean) (hret.trans hrt) (by simp) (hb hby hd) hr, hrun, hended, _, _, rfl, ⟨by show Q _ T.heap; rw [eT]; exact q, hN⟩, ⟨_, rfl⟩, hW, hsame.mono hc hs⟩
theorem own_lreturn (G : ownSt p l e R s m args below meth c Z n0 own bytes mx rt nm T h cells slots) {z : Int64} (hd : decode bytes pc = .ok (.lreturn, 1)) (hrt : rt = some .long) (hc : cells ≤ R.cells) (hs : slots ≤ R.slots) (q : Q (some (.long z)) h) : ownGo p e m below n0 (ownEnd s R) Q T pc Ls (.long z :: S) := by
  obtain ⟨⟨hx, hZ, hby, hml, hown, hnm, hret, hlk⟩, locs, X, eT, hN⟩ := G
  obtain ⟨fs, hr, hrun, hended, hW, hsame⟩ := X.leave (v := some (.long z)) (fun h => by rw [hret, hrt] at h; cases h)
  exact ⟨_, _, retOut X hx (hret.trans hrt) rfl (Or.inr (Or.inl ⟨rfl, rfl, _, rfl⟩)) (hb hby hd) hr, hrun, hended, _, _, rfl, ⟨by show Q _ T.heap; rw [eT]; exact q, hN⟩, ⟨_, rfl⟩, hW, hsame.mono hc hs⟩
theorem own_areturn (G : ownSt p l e R s m args below meth c Z n0 own bytes mx rt nm T h cells slots) {v : Value} {t : FieldType} (hd : decode bytes pc = .ok (.areturn, 1)) (hrt : rt = some t) (ht : t.isReference = true) (hv : v.isRef = true) (hn : narrow t v = v) (hc : cells ≤ R.cells) (hs : slots ≤ R.slots) (q : Q (some v) h) : ownGo p e m below n0 (ownEnd s R) Q T pc Ls (v :: S) := by
  obtain ⟨⟨hx, hZ, hby, hml, hown, hnm, hret, hlk⟩, locs, X, eT, hN⟩ := G
  obtain ⟨fs, hr, hrun, hended, hW, hsame⟩ := X.leave (v := some v) (fun h => by rw [hret, hrt] at h; cases h)
  exact ⟨_, _, retOut X hx (hret.trans hrt) hn (Or.inr (Or.inr (Or.inr (Or.inr ⟨rfl, ht, hv⟩)))) (hb hby hd) hr, hrun, hended, _, _, rfl, ⟨by show Q _ T.heap; rw [eT]; exact q, hN⟩, ⟨_, rfl⟩, hW, hsame.mono hc hs⟩
theorem own_ldcInt (G : ownSt p l e R s m args below meth c Z n0 own bytes mx rt nm T h cells slots) {index : Nat} {v : Int32} (hd : decode bytes pc = .ok (.ldc index, 2)) (w : (Cond.constant own index v).before a0 Z = true) (go : ownGo p e m below n0 En Q T (pc + 2) Ls (.int v :: S)) : ownGo p e m below n0 En Q T pc Ls S := by
  obtain ⟨⟨hx, hZ, hby, hml, hown, hnm, hret, hlk⟩, locs, X, eT, hN⟩ := G
  exact ownGo.step (fun t k => X.ldcInt hx hown (mvT hZ w) (g := mkF m pc Ls S) rfl (hb hby hd) _ k) go
theorem own_ldcw (G : ownSt p l e R s m args below meth c Z n0 own bytes mx rt nm T h cells slots) {index : Nat} {v : Int32} (hd : decode bytes pc = .ok (.ldc_w index, 3)) (w : (Cond.constant own index v).before a0 Z = true) (go : ownGo p e m below n0 En Q T (pc + 3) Ls (.int v :: S)) : ownGo p e m below n0 En Q T pc Ls S := by
  obtain ⟨⟨hx, hZ, hby, hml, hown, hnm, hret, hlk⟩, locs, X, eT, hN⟩ := G
  exact ownGo.step (fun t k => X.ldcwInt hx hown (mvT hZ w) (g := mkF m pc Ls S) rfl (hb hby hd) _ k) go
theorem own_ldc2 (G : ownSt p l e R s m args below meth c Z n0 own bytes mx rt nm T h cells slots) {index : Nat} {v : Int64} (hd : decode bytes pc = .ok (.ldc2_w index, 3)) (w : (Cond.constantLong own index v).before a0 Z = true) (go : ownGo p e m below n0 En Q T (pc + 3) Ls (.long v :: S)) : ownGo p e m below n0 En Q T pc Ls S := by
  obtain ⟨⟨hx, hZ, hby, hml, hown, hnm, hret, hlk⟩, locs, X, eT, hN⟩ := G
  exact ownGo.step (fun t k => X.ldc2Long hx hown (mvT hZ w) (g := mkF m pc Ls S) rfl (hb hby hd) _ k) go
theorem own_getF (G : ownSt p l e R s m args below meth c Z n0 own bytes mx rt nm T h cells slots) {R0 O n d : String} {index : Nat} {v : Value} (hd : decode bytes pc = .ok (.getfield index, 3)) (w : (Cond.fieldLink own index R0 n d).before a0 Z = true) (via : Via Z R0 O n d) (F : Fld Z h a O n d v)
    (go : ∀ T', ownSt p l e R s m args below meth c Z n0 own bytes mx rt nm T' h cells slots → ownGo p e m below n0 En Q T' (pc + 3) Ls (v :: S)) : ownGo p e m below n0 En Q T pc Ls (.ref a :: S) := by
  obtain ⟨⟨hx, hZ, hby, hml, hown, hnm, hret, hlk⟩, locs, X, eT, hN⟩ := G
  obtain ⟨T', X', e', st⟩ := getF X hx hZ hown (host := "") (Or.inl w) via eT F (g := mkF m pc Ls (.ref a :: S)) rfl rfl (hb hby hd)
  exact ownGo.step (fun t k => st t k) (go T' ⟨⟨hx, hZ, hby, hml, hown, hnm, hret, hlk⟩, locs, X', e', hN⟩)
theorem own_putF (G : ownSt p l e R s m args below meth c Z n0 own bytes mx rt nm T h cells slots) {R0 O n d C : String} {index kk : Nat} {ty : FieldType} {v old : Value} (hd : decode bytes pc = .ok (.putfield index, 3)) (w : (Cond.fieldLink own index R0 n d).before a0 Z = true) (via : Via Z R0 O n d) (F : Fld Z h a O n d old) (E : Exa Z h a C) (L : (Cond.lays C O n d).before a0 Z = true ∨ ((Cond.laysFinal C O n d).before a0 Z = true ∧ own = O ∧ nm = "<init>")) (wi : (Cond.instantiable C kk).before a0 Z = true)
    (hty : parseFieldDescriptor d = some ty) (hn : narrow ty v = v) (hf : fits ty v = true) (hfr : n0 ≤ a)
    (go : ∀ T' h', Wr h h' a (Jvm.RoadKit.slotOf Z O n d) v → ownSt p l e R s m args below meth c Z n0 own bytes mx rt nm T' h' cells slots → ownGo p e m below n0 En Q T' (pc + 3) Ls S) : ownGo p e m below n0 En Q T pc Ls (v :: .ref a :: S) := by
  obtain ⟨⟨hx, hZ, hby, hml, hown, hnm, hret, hlk⟩, locs, X, eT, hN⟩ := G
  obtain ⟨T', h', X', e', W', st⟩ := putF X hx hZ hown (host := "") (Or.inl w) via eT F E (L.imp id fun q => ⟨q.1, q.2.1, hnm.trans q.2.2⟩) wi hty hn hf (g := mkF m pc Ls (v :: .ref a :: S)) rfl rfl (hb hby hd)
  exact ownGo.step (fun t k => st t k) (go T' h' W' ⟨⟨hx, hZ, hby, hml, hown, hnm, hret, hlk⟩, _, X', e', Fr.snoc X' hN hfr⟩)
theorem own_getS (G : ownSt p l e R s m args below meth c Z n0 own bytes mx rt nm T h cells slots) {R0 O n d : String} {index : Nat} {v : Value} (hd : decode bytes pc = .ok (.getstatic index, 3)) (w : (Cond.fieldLink own index R0 n d).before a0 Z = true) (via : Via Z R0 O n d) (F : Sta Z h O n d v)
    (go : ∀ T', ownSt p l e R s m args below meth c Z n0 own bytes mx rt nm T' h cells slots → ownGo p e m below n0 En Q T' (pc + 3) Ls (v :: S)) : ownGo p e m below n0 En Q T pc Ls S := by
  obtain ⟨⟨hx, hZ, hby, hml, hown, hnm, hret, hlk⟩, locs, X, eT, hN⟩ := G
  obtain ⟨T', X', e', st⟩ := getS2 X hx hZ hown (host := "") (Or.inl w) via eT F (g := mkF m pc Ls S) rfl (hb hby hd)
  exact ownGo.step (fun t k => st t k) (go T' ⟨⟨hx, hZ, hby, hml, hown, hnm, hret, hlk⟩, locs, X', e', hN⟩)
theorem own_new (G : ownSt p l e R s m args below meth c Z n0 own bytes mx rt nm T h cells slots) {C : String} {index n : Nat} (hd : decode bytes pc = .ok (.new index, 3)) (w : (Cond.classLink own index C).before a0 Z = true) (wi : (Cond.instantiable C n).before a0 Z = true) (wz : (Cond.initialized C).before a0 Z = true) (hc : cells + 1 ≤ R.cells) (hl : slots + n ≤ R.slots)
    (go : ∀ T' h' a, a = h.size → Ext h h' → Exa Z h' a C → (∀ {O nm d : String} {ty : FieldType}, Laid Z a0 C O nm d → parseFieldDescriptor d = some ty → Fld Z h' a O nm d (defaultValue ty)) → ownSt p l e R s m args below meth c Z n0 own bytes mx rt nm T' h' (cells + 1) (slots + n) → ownGo p e m below n0 En Q T' (pc + 3) Ls (.ref a :: S)) : ownGo p e m below n0 En Q T pc Ls S := by
  obtain ⟨⟨hx, hZ, hby, hml, hown, hnm, hret, hlk⟩, locs, X, eT, hN⟩ := G
  obtain ⟨T', h', X', e', E', A', D', -, st⟩ := newO X hx hZ hown w wi wz eT (g := mkF m pc Ls S) rfl (hb hby hd) hc hl
  exact ownGo.step (fun t k => st t k) (go T' h' h.size rfl E' A' D' ⟨⟨hx, hZ, hby, hml, hown, hnm, hret, hlk⟩, locs, X', e', hN⟩)
theorem own_initO (G : ownSt p l e R s m args below meth c Z n0 own bytes mx rt nm T h cells slots) {idx : Nat} (hd : decode bytes pc = .ok (.invokespecial idx, 3)) (w1 : (Cond.methodLink own idx Lib.objectInit).before a0 Z = true) (w2 : (Cond.instanceMethod Lib.objectInit).before a0 Z = true) (w3 : (Cond.code Lib.objectInit object_method_1_code 1 none).before a0 Z = true) (hsz : Ls.size = mx) (hf : 1 ≤ R.frames) {W : Nat} (hW : (S.map fun v => v.category).sum ≤ W) (hl : W + 12 ≤ R.locals)
    (go : ∀ T', ownSt p l e R s m args below meth c Z n0 own bytes mx rt nm T' h cells slots → ownGo p e m below n0 En Q T' (pc + 3) Ls S) : ownGo p e m below n0 En Q T pc Ls (.ref a :: S) := by
  obtain ⟨⟨hx, hZ, hby, hml, hown, hnm, hret, hlk⟩, locs, X, eT, hN⟩ := G
  obtain ⟨T', X', e', st⟩ := initO X hx hZ hown w1 w2 w3 eT (g := mkF m pc Ls (.ref a :: S)) rfl (hsz.trans hml.symm) rfl (hb hby hd) hf (W := W) (by show 2 * 0 + _ ≤ _; omega) hl
  exact ownGo.step (fun t k => st t k) (go T' ⟨⟨hx, hZ, hby, hml, hown, hnm, hret, hlk⟩, locs, X', e', hN⟩)
/-- an array of n places: place j holds f j -/
def ownArr (Z : State) (h : Heap) (a : Addr) (ty : FieldType) (n : Nat) (f : Nat → Value) : Prop := ∃ cl : Cell, Arr Z h a cl ty ∧ cl.slots.size = n ∧ ∀ j, j < n → cl.slots[j]? = some (f j)
variable {ty : FieldType} {n i : Nat} {f g : Nat → Value} {j : Int32}
theorem ownArr.lt (A : ownArr Z h a ty n f) : a < h.size := by obtain ⟨cl, A, -⟩ := A; exact A.lt
theorem ownArr.ext (A : ownArr Z h a ty n f) (E : Ext h h') : ownArr Z h' a ty n f := by obtain ⟨cl, A, r⟩ := A; exact ⟨cl, A.ext E, r⟩
theorem ownArr.keep (A : ownArr Z h a ty n f) {ws : List Addr} (K : Keep h h' ws) (q : a ∉ ws) : ownArr Z h' a ty n f := by obtain ⟨cl, A, r⟩ := A; exact ⟨cl, ⟨K.2.1 a cl A.1 q, A.2⟩, r⟩
theorem ownArr.congr (A : ownArr Z h a ty n f) (q : ∀ j, j < n → f j = g j) : ownArr Z h a ty n g := by obtain ⟨cl, A, r1, r2⟩ := A; exact ⟨cl, A, r1, fun j hj => by rw [← q j hj]; exact r2 j hj⟩
theorem ownArr.other (A : ownArr Z h a ty n f) {sl : Nat} {v : Value} (W : Wr h h' b sl v) (q : a ≠ b) : ownArr Z h' a ty n f := by obtain ⟨cl, A, r⟩ := A; exact ⟨cl, A.other W q, r⟩
theorem ownArr.same (A : ownArr Z h a ty n f) {v : Value} (W : Wr h h' a i v) : ownArr Z h' a ty n (fun j => if j = i then v else f j) := by
  obtain ⟨cl, A, r1, r2⟩ := A
  refine ⟨_, A.same W, by rw [sz_set]; exact r1, fun j hj => ?_⟩
  by_cases q : j = i
  · subst q; simp [Cell.setSlot, r1, hj]
  · simp only [if_neg q]; rw [← r2 j hj]; exact Array.getElem?_setIfInBounds_ne (Ne.symm q)
theorem ownArr.wr (A : ownArr Z h a ty n f) {v : Value} (W : Wr h h' b i v) : ownArr Z h' a ty n (fun j => if a = b ∧ j = i then v else f j) := by
  by_cases q : a = b
  · subst q; exact (A.same W).congr fun j _ => by simp
  · exact (A.other W q).congr fun j _ => by simp [q]
theorem own_in {cl : Cell} (S : cl.slots.size = n) (ix : ¬ j < 0 ∧ j.toNatClampNeg = i ∧ i < n) : ¬ (j < 0 ∨ cl.slots.size ≤ j.toNatClampNeg) := by
  obtain ⟨q1, q2, q3⟩ := ix; rw [S, q2]; intro q; exact q.elim q1 fun r => absurd q3 (Nat.not_lt.mpr r)
theorem own_iaload (G : ownSt p l e R s m args below meth c Z n0 own bytes mx rt nm T h cells slots) {v : Value} (hd : decode bytes pc = .ok (.iaload, 1)) (A : ownArr Z h a .int n f) (ix : ¬ j < 0 ∧ j.toNatClampNeg = i ∧ i < n) (hv : f i = v) (go : ownGo p e m below n0 En Q T (pc + 1) Ls (v :: S)) : ownGo p e m below n0 En Q T pc Ls (.int j :: .ref a :: S) := by
  obtain ⟨⟨hx, hZ, hby, hml, hown, hnm, hret, hlk⟩, locs, X, eT, hN⟩ := G
  obtain ⟨cl, A, r1, r2⟩ := A
  exact ownGo.step (fun t k => X.iaload hx (by rw [eT]; exact A.1) (State.isArrayOf_alike hZ.alike A.2.1) A.2.2 (own_in r1 ix) (by rw [ix.2.1, ← hv]; exact r2 i ix.2.2) (g := mkF m pc Ls (.int j :: .ref a :: S)) rfl rfl (hb hby hd) _ k) go
theorem own_laload (G : ownSt p l e R s m args below meth c Z n0 own bytes mx rt nm T h cells slots) {v : Value} (hd : decode bytes pc = .ok (.laload, 1)) (A : ownArr Z h a .long n f) (ix : ¬ j < 0 ∧ j.toNatClampNeg = i ∧ i < n) (hv : f i = v) (go : ownGo p e m below n0 En Q T (pc + 1) Ls (v :: S)) : ownGo p e m below n0 En Q T pc Ls (.int j :: .ref a :: S) := by
  obtain ⟨⟨hx, hZ, hby, hml, hown, hnm, hret, hlk⟩, locs, X, eT, hN⟩ := G
  obtain ⟨cl, A, r1, r2⟩ := A
  exact ownGo.step (fun t k => X.laload hx (by rw [eT]; exact A.1) (State.isArrayOf_alike hZ.alike A.2.1) A.2.2 (own_in r1 ix) (by rw [ix.2.1, ← hv]; exact r2 i ix.2.2) (g := mkF m pc Ls (.int j :: .ref a :: S)) rfl rfl (hb hby hd) _ k) go
theorem own_baload (G : ownSt p l e R s m args below meth c Z n0 own bytes mx rt nm T h cells slots) {v : Value} (hd : decode bytes pc = .ok (.baload, 1)) (A : ownArr Z h a .byte n f) (ix : ¬ j < 0 ∧ j.toNatClampNeg = i ∧ i < n) (hv : f i = v) (go : ownGo p e m below n0 En Q T (pc + 1) Ls (v :: S)) : ownGo p e m below n0 En Q T pc Ls (.int j :: .ref a :: S) := by
  obtain ⟨⟨hx, hZ, hby, hml, hown, hnm, hret, hlk⟩, locs, X, eT, hN⟩ := G
  obtain ⟨cl, A, r1, r2⟩ := A
  exact ownGo.step (fun t k => X.baloadBytes hx (by rw [eT]; exact A.1) (State.isArrayOf_alike hZ.alike A.2.1) A.2.2 (own_in r1 ix) (by rw [ix.2.1, ← hv]; exact r2 i ix.2.2) (g := mkF m pc Ls (.int j :: .ref a :: S)) rfl rfl (hb hby hd) _ k) go
theorem own_aaload (G : ownSt p l e R s m args below meth c Z n0 own bytes mx rt nm T h cells slots) {v : Value} (hd : decode bytes pc = .ok (.aaload, 1)) (A : ownArr Z h a ty n f) (hty : ty.isReference = true) (ix : ¬ j < 0 ∧ j.toNatClampNeg = i ∧ i < n) (hv : f i = v) (go : ownGo p e m below n0 En Q T (pc + 1) Ls (v :: S)) : ownGo p e m below n0 En Q T pc Ls (.int j :: .ref a :: S) := by
  obtain ⟨⟨hx, hZ, hby, hml, hown, hnm, hret, hlk⟩, locs, X, eT, hN⟩ := G
  obtain ⟨cl, A, r1, r2⟩ := A
  exact ownGo.step (fun t k => X.aaload hx (by rw [eT]; exact A.1) (State.isArrayOf_alike hZ.alike A.2.1) hty A.2.2 (own_in r1 ix) (by rw [ix.2.1, ← hv]; exact r2 i ix.2.2) (g := mkF m pc Ls (.int j :: .ref a :: S)) rfl rfl (hb hby hd) _ k) go
theorem own_arraylength (G : ownSt p l e R s m args below meth c Z n0 own bytes mx rt nm T h cells slots) (hd : decode bytes pc = .ok (.arraylength, 1)) (A : ownArr Z h a ty n f) (go : ownGo p e m below n0 En Q T (pc + 1) Ls (.int n.toInt32 :: S)) : ownGo p e m below n0 En Q T pc Ls (.ref a :: S) := by
  obtain ⟨⟨hx, hZ, hby, hml, hown, hnm, hret, hlk⟩, locs, X, eT, hN⟩ := G
  obtain ⟨cl, A, r1, r2⟩ := A
  subst r1
  exact ownGo.step (fun t k => X.arraylength hx (by rw [eT]; exact A.1) (State.isArrayOf_alike hZ.alike A.2.1) (g := mkF m pc Ls (.ref a :: S)) rfl rfl (hb hby hd) _ k) go
theorem own_iastore (G : ownSt p l e R s m args below meth c Z n0 own bytes mx rt nm T h cells slots) {x : Int32} (hd : decode bytes pc = .ok (.iastore, 1)) (A : ownArr Z h a .int n f) (ix : ¬ j < 0 ∧ j.toNatClampNeg = i ∧ i < n) (hfr : n0 ≤ a) (go : ∀ T' h', Wr h h' a i (.int x) → ownSt p l e R s m args below meth c Z n0 own bytes mx rt nm T' h' cells slots → ownGo p e m below n0 En Q T' (pc + 1) Ls S) : ownGo p e m below n0 En Q T pc Ls (.int x :: .int j :: .ref a :: S) := by
  obtain ⟨⟨hx, hZ, hby, hml, hown, hnm, hret, hlk⟩, locs, X, eT, hN⟩ := G
  obtain ⟨cl, A, r1, r2⟩ := A
  obtain ⟨T', h', X', e', W', st⟩ := stI X hx hZ eT A (own_in r1 ix) (g := mkF m pc Ls (.int x :: .int j :: .ref a :: S)) rfl rfl (hb hby hd)
  exact ownGo.step (fun t k => st t k) (go T' h' (ix.2.1 ▸ W') ⟨⟨hx, hZ, hby, hml, hown, hnm, hret, hlk⟩, _, X', e', Fr.snoc X' hN hfr⟩)
theorem own_lastore (G : ownSt p l e R s m args below meth c Z n0 own bytes mx rt nm T h cells slots) {x : Int64} (hd : decode bytes pc = .ok (.lastore, 1)) (A : ownArr Z h a .long n f) (ix : ¬ j < 0 ∧ j.toNatClampNeg = i ∧ i < n) (hfr : n0 ≤ a) (go : ∀ T' h', Wr h h' a i (.long x) → ownSt p l e R s m args below meth c Z n0 own bytes mx rt nm T' h' cells slots → ownGo p e m below n0 En Q T' (pc + 1) Ls S) : ownGo p e m below n0 En Q T pc Ls (.long x :: .int j :: .ref a :: S) := by
  obtain ⟨⟨hx, hZ, hby, hml, hown, hnm, hret, hlk⟩, locs, X, eT, hN⟩ := G
  obtain ⟨cl, A, r1, r2⟩ := A
  obtain ⟨T', h', X', e', W', st⟩ := stJ X hx hZ eT A (own_in r1 ix) (g := mkF m pc Ls (.long x :: .int j :: .ref a :: S)) rfl rfl (hb hby hd)
  exact ownGo.step (fun t k => st t k) (go T' h' (ix.2.1 ▸ W') ⟨⟨hx, hZ, hby, hml, hown, hnm, hret, hlk⟩, _, X', e', Fr.snoc X' hN hfr⟩)
theorem own_bastore (G : ownSt p l e R s m args below meth c Z n0 own bytes mx rt nm T h cells slots) {x : Int32} (hd : decode bytes pc = .ok (.bastore, 1)) (A : ownArr Z h a .byte n f) (ix : ¬ j < 0 ∧ j.toNatClampNeg = i ∧ i < n) (hfr : n0 ≤ a) (go : ∀ T' h', Wr h h' a i (.int (nar .byte x)) → ownSt p l e R s m args below meth c Z n0 own bytes mx rt nm T' h' cells slots → ownGo p e m below n0 En Q T' (pc + 1) Ls S) : ownGo p e m below n0 En Q T pc Ls (.int x :: .int j :: .ref a :: S) := by
  obtain ⟨⟨hx, hZ, hby, hml, hown, hnm, hret, hlk⟩, locs, X, eT, hN⟩ := G
  obtain ⟨cl, A, r1, r2⟩ := A
  obtain ⟨T', h', X', e', W', st⟩ := stB X hx hZ eT A (own_in r1 ix) (g := mkF m pc Ls (.int x :: .int j :: .ref a :: S)) rfl rfl (hb hby hd)
  exact ownGo.step (fun t k => st t k) (go T' h' (ix.2.1 ▸ W') ⟨⟨hx, hZ, hby, hml, hown, hnm, hret, hlk⟩, _, X', e', Fr.snoc X' hN hfr⟩)
theorem own_newarr (G : ownSt p l e R s m args below meth c Z n0 own bytes mx rt nm T h cells slots) {aty : ArrayType} {x : Int32} (hd : decode bytes pc = .ok (.newarray aty, 2)) (w : (Cond.arrayClass (newarray.typeOf aty)).before a0 Z = true) (hn : ¬ x < 0) {k cap : Nat} (hk : x.toNatClampNeg = k) (hcap : k ≤ cap) (hb8 : cap * 8 ≤ 536870912) (hc : cells + 1 ≤ R.cells) (hl : slots + cap ≤ R.slots)
    (go : ∀ T' h' a, a = h.size → Ext h h' → ownArr Z h' a (newarray.typeOf aty) k (fun _ => defaultValue (newarray.typeOf aty)) → ownSt p l e R s m args below meth c Z n0 own bytes mx rt nm T' h' (cells + 1) (slots + cap) → ownGo p e m below n0 En Q T' (pc + 2) Ls (.ref a :: S)) : ownGo p e m below n0 En Q T pc Ls (.int x :: S) := by
  obtain ⟨⟨hx, hZ, hby, hml, hown, hnm, hret, hlk⟩, locs, X, eT, hN⟩ := G
  subst hk
  obtain ⟨T', h', cA, X', e', E', A', st⟩ := newP X hx hZ w eT (g := mkF m pc Ls (.int x :: S)) rfl (hb hby hd) rfl hn hcap hb8 hc hl
  exact ownGo.step (fun t k => st t k) (go T' h' h.size rfl E' ⟨_, A', sz_new _ _ _, fun j hj => by simp [newA, hj]⟩ ⟨⟨hx, hZ, hby, hml, hown, hnm, hret, hlk⟩, locs, X', e', hN⟩)
theorem own_ldcFloat (G : ownSt p l e R s m args below meth c Z n0 own bytes mx rt nm T h cells slots) {index : Nat} {v : UInt32} (hd : decode bytes pc = .ok (.ldc index, 2)) (w : (Cond.constantFloat own index v).before a0 Z = true) (go : ownGo p e m below n0 En Q T (pc + 2) Ls (.float v :: S)) : ownGo p e m below n0 En Q T pc Ls S := by
  obtain ⟨⟨hx, hZ, hby, hml, hown, hnm, hret, hlk⟩, locs, X, eT, hN⟩ := G
  exact ownGo.step (fun t k => X.ldcFloatC hx hown (mvT hZ w) (g := mkF m pc Ls S) rfl (hb hby hd) _ k) go
/-- an array of references to objects of C -/
def ownRef (Z : State) (h : Heap) (a : Addr) (C : String) (n : Nat) (f : Nat → Value) : Prop := ∃ cl : Cell, Arr Z h a cl (.object C) ∧ Ovr Z cl.cls C ∧ cl.slots.size = n ∧ ∀ j, j < n → cl.slots[j]? = some (f j)
theorem ownRef.arr {C : String} (A : ownRef Z h a C n f) : ownArr Z h a (.object C) n f := by obtain ⟨cl, A, -, r⟩ := A; exact ⟨cl, A, r⟩
theorem ownRef.lt {C : String} (A : ownRef Z h a C n f) : a < h.size := A.arr.lt
theorem ownRef.ext {C : String} (A : ownRef Z h a C n f) (E : Ext h h') : ownRef Z h' a C n f := by obtain ⟨cl, A, r⟩ := A; exact ⟨cl, A.ext E, r⟩
theorem ownRef.keep {C : String} (A : ownRef Z h a C n f) {ws : List Addr} (K : Keep h h' ws) (q : a ∉ ws) : ownRef Z h' a C n f := by obtain ⟨cl, A, r⟩ := A; exact ⟨cl, ⟨K.2.1 a cl A.1 q, A.2⟩, r⟩
theorem ownRef.congr {C : String} (A : ownRef Z h a C n f) (q : ∀ j, j < n → f j = g j) : ownRef Z h a C n g := by obtain ⟨cl, A, r0, r1, r2⟩ := A; exact ⟨cl, A, r0, r1, fun j hj => by rw [← q j hj]; exact r2 j hj⟩
theorem ownRef.other {C : String} (A : ownRef Z h a C n f) {sl : Nat} {v : Value} (W : Wr h h' b sl v) (q : a ≠ b) : ownRef Z h' a C n f := by obtain ⟨cl, A, r⟩ := A; exact ⟨cl, A.other W q, r⟩
theorem ownRef.same {C : String} (A : ownRef Z h a C n f) {v : Value} (W : Wr h h' a i v) : ownRef Z h' a C n (fun j => if j = i then v else f j) := by
  obtain ⟨cl, A, r0, r1, r2⟩ := A
  refine ⟨_, A.same W, r0, by rw [sz_set]; exact r1, fun j hj => ?_⟩
  by_cases q : j = i
  · subst q; simp [Cell.setSlot, r1, hj]
  · simp only [if_neg q]; rw [← r2 j hj]; exact Array.getElem?_setIfInBounds_ne (Ne.symm q)
theorem own_aastore (G : ownSt p l e R s m args below meth c Z n0 own bytes mx rt nm T h cells slots) {C : String} {v : Value} (hd : decode bytes pc = .ok (.aastore, 1)) (A : ownRef Z h a C n f) (ix : ¬ j < 0 ∧ j.toNatClampNeg = i ∧ i < n) (hv : v = .null ∨ ∃ y, v = .ref y ∧ Ins Z h y C true) (hfr : n0 ≤ a) (go : ∀ T' h', Wr h h' a i v → ownSt p l e R s m args below meth c Z n0 own bytes mx rt nm T' h' cells slots → ownGo p e m below n0 En Q T' (pc + 1) Ls S) : ownGo p e m below n0 En Q T pc Ls (v :: .int j :: .ref a :: S) := by
  obtain ⟨⟨hx, hZ, hby, hml, hown, hnm, hret, hlk⟩, locs, X, eT, hN⟩ := G
  obtain ⟨cl, A, r0, r1, r2⟩ := A
  have F : Sto Z h a v := by
    rcases hv with rfl | ⟨y, rfl, I⟩
    · exact Or.inl rfl
    · exact Sto.of A r0 I
  obtain ⟨T', h', X', e', W', st⟩ := stR X hx hZ eT A (own_in r1 ix) rfl F (g := mkF m pc Ls (v :: .int j :: .ref a :: S)) rfl rfl (hb hby hd)
  exact ownGo.step (fun t k => st t k) (go T' h' (ix.2.1 ▸ W') ⟨⟨hx, hZ, hby, hml, hown, hnm, hret, hlk⟩, _, X', e', Fr.snoc X' hN hfr⟩)
theorem own_anewarr (G : ownSt p l e R s m args below meth c Z n0 own bytes mx rt nm T h cells slots) {C : String} {index : Nat} {x : Int32} (hd : decode bytes pc = .ok (.anewarray index, 3)) (w1 : (Cond.classLink own index C).before a0 Z = true) (w2 : (Cond.arrayOver (.object C)).before a0 Z = true) (hn : ¬ x < 0) {k cap : Nat} (hk : x.toNatClampNeg = k) (hcap : k ≤ cap) (hb8 : cap * 8 ≤ 536870912) (hc : cells + 1 ≤ R.cells) (hl : slots + cap ≤ R.slots)
    (go : ∀ T' h' a, a = h.size → Ext h h' → ownRef Z h' a C k (fun _ => .null) → ownSt p l e R s m args below meth c Z n0 own bytes mx rt nm T' h' (cells + 1) (slots + cap) → ownGo p e m below n0 En Q T' (pc + 3) Ls (.ref a :: S)) : ownGo p e m below n0 En Q T pc Ls (.int x :: S) := by
  obtain ⟨⟨hx, hZ, hby, hml, hown, hnm, hret, hlk⟩, locs, X, eT, hN⟩ := G
  subst hk
  obtain ⟨T', h', cA, X', e', E', A', O', st⟩ := newR X hx hZ hown w1 w2 eT (g := mkF m pc Ls (.int x :: S)) rfl (hb hby hd) rfl hn hcap hb8 hc hl
  exact ownGo.step (fun t k => st t k) (go T' h' h.size rfl E' ⟨_, A', O', sz_new _ _ _, fun j hj => by simp [newA, hj, defaultValue]⟩ ⟨⟨hx, hZ, hby, hml, hown, hnm, hret, hlk⟩, locs, X', e', hN⟩)
theorem own_callS (G : ownSt p l e R s m args below meth c Z n0 own bytes mx rt nm T h cells slots) {index : Nat} {y : MethodName} {by' : ByteArray} {mx' : Nat} {rt' : Option FieldType} {rm : Room} {as' : Array Value} {Q' : Option Value → Heap → Prop} (hd : decode bytes pc = .ok (.invokestatic index, 3))
    (w1 : (Cond.methodLink own index y).before a0 Z = true) (w2 : (Cond.static y).before a0 Z = true) (w3 : (Cond.initialized y.cls).before a0 Z = true) (w4 : (Cond.code y by' mx' rt').before a0 Z = true) (hy : y.cls ≠ "java/lang/invoke/MethodHandle" ∧ y.cls ≠ "java/lang/invoke/VarHandle")
    {argsL rest : List Value} (hM : ownMet l [] y by' mx' rt' rm Z n0 as' h Q') (has : as' = argsL.toArray) (hst : S = argsL.reverse ++ rest) (hsz : Ls.size = mx) (hlen : ∀ sig, parseMethodDescriptor y.desc = some sig → argsL.length = sig.parameters.length)
    {W : Nat} (hW : (rest.map fun v => v.category).sum ≤ W) (hf : rm.frames + 1 ≤ R.frames) (hl : W + (mx' + 11) + rm.locals ≤ R.locals) (hc : cells + rm.cells ≤ R.cells) (hs : slots + rm.slots ≤ R.slots)
    (go : ∀ v T' h', Q' v h' → ownSt p l e R s m args below meth c Z n0 own bytes mx rt nm T' h' (cells + rm.cells) (slots + rm.slots) → ownGo p e m below n0 En Q T' (pc + 3) Ls (v.toList ++ rest)) : ownGo p e m below n0 En Q T pc Ls S := by
  obtain ⟨⟨hx, hZ, hby, hml, hown, hnm, hret, hlk⟩, locs, X, eT, hN⟩ := G
  subst has hst
  obtain ⟨v, _, ⟨T', L', k', n'⟩, -, X', ⟨Lc, ⟨hQ, hN'⟩, l', y', z'⟩, st⟩ := Jvm.LawKit.callS X hx (y := y) hown (mvT hZ w1) (mvT hZ w2) (mvT hZ w3) (mvT hZ w4) hy (backOf (W := W) (Q := fun v h L => Q' v h ∧ Fr n0 L) hM hZ w4 w3 hf hl) (g := mkF m pc Ls (argsL.reverse ++ rest)) rfl (hsz.trans hml.symm) (argsL := argsL) (rest := rest) hlen rfl (by show 2 * 0 + _ ≤ _; omega) (hb hby hd) (fun _ _ => ⟨rfl, eT, hc, hs⟩)
  dsimp only [Pt.U, Pt.locs, Pt.cells, Pt.slots] at X' l' y' z' st hQ
  subst l' y' z'
  exact ownGo.step (fun t k => st t k) (go v T' T'.heap hQ ⟨⟨hx, hZ, hby, hml, hown, hnm, hret, hlk⟩, _, X', rfl, Fr.app hN hN'⟩)
theorem own_callSUp (G : ownSt p l e R s m args below meth c Z n0 own bytes mx rt nm T h cells slots) {owner : String} {index : Nat} {x : MethodName} {by' : ByteArray} {mx' : Nat} {rt' : Option FieldType} {rm : Room} {as' : Array Value} {Q' : Option Value → Heap → Prop} (hd : decode bytes pc = .ok (.invokestatic index, 3))
    (w1 : (Cond.methodLink own index x).before a0 Z = true) (wm : (Cond.sameMethod x.cls owner x.name x.desc).before a0 Z = true) (w2 : (Cond.static ⟨owner, x.name, x.desc⟩).before a0 Z = true) (w3 : (Cond.initialized owner).before a0 Z = true) (w4 : (Cond.code ⟨owner, x.name, x.desc⟩ by' mx' rt').before a0 Z = true) (hy : owner ≠ "java/lang/invoke/MethodHandle" ∧ owner ≠ "java/lang/invoke/VarHandle")
    {argsL rest : List Value} (hM : ownMet l [] ⟨owner, x.name, x.desc⟩ by' mx' rt' rm Z n0 as' h Q') (has : as' = argsL.toArray) (hst : S = argsL.reverse ++ rest) (hsz : Ls.size = mx) (hlen : ∀ sig, parseMethodDescriptor x.desc = some sig → argsL.length = sig.parameters.length)
    {W : Nat} (hW : (rest.map fun v => v.category).sum ≤ W) (hf : rm.frames + 1 ≤ R.frames) (hl : W + (mx' + 11) + rm.locals ≤ R.locals) (hc : cells + rm.cells ≤ R.cells) (hs : slots + rm.slots ≤ R.slots)
    (go : ∀ v T' h', Q' v h' → ownSt p l e R s m args below meth c Z n0 own bytes mx rt nm T' h' (cells + rm.cells) (slots + rm.slots) → ownGo p e m below n0 En Q T' (pc + 3) Ls (v.toList ++ rest)) : ownGo p e m below n0 En Q T pc Ls S := by
  obtain ⟨⟨hx, hZ, hby, hml, hown, hnm, hret, hlk⟩, locs, X, eT, hN⟩ := G
  subst has hst
  have w4s : (Cond.code ⟨owner, x.name, x.desc⟩ by' mx' rt').before args s = true := mvT hZ w4
  obtain ⟨mk, hnamed⟩ := Cond.code_named w4s
  obtain ⟨methM, cM, hmethM, -, -, -, -, -, -, hsigM⟩ := Cond.code_spec hnamed w4s
  obtain ⟨v, _, ⟨T', L', k', n'⟩, -, X', ⟨Lc, ⟨hQ, hN'⟩, l', y', z'⟩, st⟩ := X.staticBackUp hx (x := x) hown (mvT hZ w1) (mvT hZ wm) (mvT hZ w2) (mvT hZ w3) hnamed hmethM hsigM hy (backOf (W := W) (Q := fun v h L => Q' v h ∧ Fr n0 L) hM hZ w4 w3 hf hl) (g := mkF m pc Ls (argsL.reverse ++ rest)) rfl (hsz.trans hml.symm) (Steps.refl _) (argsL := argsL) (rest := rest) hlen rfl (by show 2 * 0 + _ ≤ _; omega) (hb hby hd) (fun _ _ => ⟨rfl, eT, hc, hs⟩)
  dsimp only [Pt.U, Pt.locs, Pt.cells, Pt.slots] at X' l' y' z' st hQ
  subst l' y' z'
  exact ownGo.step (fun t k => st.trans k) (go v T' T'.heap hQ ⟨⟨hx, hZ, hby, hml, hown, hnm, hret, hlk⟩, _, X', rfl, Fr.app hN hN'⟩)
theorem own_special (G : ownSt p l e R s m args below meth c Z n0 own bytes mx rt nm T h cells slots) {index : Nat} {y : MethodName} {by' : ByteArray} {mx' : Nat} {rm : Room} {as' : Array Value} {Q' : Option Value → Heap → Prop} (hd : decode bytes pc = .ok (.invokespecial index, 3)) (hy1 : y.name = "<init>")
    (w1 : (Cond.methodLink own index y).before a0 Z = true) (w2 : (Cond.instanceMethod y).before a0 Z = true) (w3 : (Cond.initialized y.cls).before a0 Z = true) (w4 : (Cond.code y by' mx' none).before a0 Z = true) (hy : y.cls ≠ "java/lang/invoke/MethodHandle" ∧ y.cls ≠ "java/lang/invoke/VarHandle")
    {argsL rest : List Value} (hM : ownMet l [] y by' mx' none rm Z n0 as' h Q') (has : as' = (.ref a :: argsL).toArray) (hst : S = argsL.reverse ++ .ref a :: rest) (hsz : Ls.size = mx) (hlen : ∀ sig, parseMethodDescriptor y.desc = some sig → argsL.length = sig.parameters.length)
    {W : Nat} (hW : (rest.map fun v => v.category).sum ≤ W) (hf : rm.frames + 1 ≤ R.frames) (hl : W + (mx' + 11) + rm.locals ≤ R.locals) (hc : cells + rm.cells ≤ R.cells) (hs : slots + rm.slots ≤ R.slots)
    (go : ∀ v T' h', Q' v h' → ownSt p l e R s m args below meth c Z n0 own bytes mx rt nm T' h' (cells + rm.cells) (slots + rm.slots) → ownGo p e m below n0 En Q T' (pc + 3) Ls (v.toList ++ rest)) : ownGo p e m below n0 En Q T pc Ls S := by
  obtain ⟨⟨hx, hZ, hby, hml, hown, hnm, hret, hlk⟩, locs, X, eT, hN⟩ := G
  subst has hst
  obtain ⟨v, _, ⟨T', L', k', n'⟩, -, X', ⟨Lc, ⟨hQ, hN'⟩, l', y', z'⟩, st⟩ := X.specialBack hx (y := y) hy1 hown (mvT hZ w1) (mvT hZ w2) (mvT hZ w4) hy (backOf (W := W) (Q := fun v h L => Q' v h ∧ Fr n0 L) hM hZ w4 w3 hf hl) (g := mkF m pc Ls (argsL.reverse ++ .ref a :: rest)) rfl (hsz.trans hml.symm) (Steps.refl _) (a := a) (argsL := argsL) (rest := rest) hlen rfl (by show 2 * 0 + _ ≤ _; omega) (hb hby hd) (fun _ _ => ⟨rfl, eT, hc, hs⟩)
  dsimp only [Pt.U, Pt.locs, Pt.cells, Pt.slots] at X' l' y' z' st hQ
  subst l' y' z'
  exact ownGo.step (fun t k => st.trans k) (go v T' T'.heap hQ ⟨⟨hx, hZ, hby, hml, hown, hnm, hret, hlk⟩, _, X', rfl, Fr.app hN hN'⟩)
theorem own_virtual (G : ownSt p l e R s m args below meth c Z n0 own bytes mx rt nm T h cells slots) {C : String} {index : Nat} {y : MethodName} {by' : ByteArray} {mx' : Nat} {rt' : Option FieldType} {rm : Room} {as' : Array Value} {Q' : Option Value → Heap → Prop} (hd : decode bytes pc = .ok (.invokevirtual index, 3))
    (w1 : (Cond.methodLink own index y).before a0 Z = true) (w2 : (Cond.declares y).before a0 Z = true) (ws : (Cond.selects C y y).before a0 Z = true) (wi : (Cond.instanceMethod y).before a0 Z = true) (w3 : (Cond.initialized y.cls).before a0 Z = true) (w4 : (Cond.code y by' mx' rt').before a0 Z = true) (hy : y.cls ≠ "java/lang/invoke/MethodHandle" ∧ y.cls ≠ "java/lang/invoke/VarHandle")
    {argsL rest : List Value} (E : Exa Z h a C) (hM : ownMet l [] y by' mx' rt' rm Z n0 as' h Q') (has : as' = (.ref a :: argsL).toArray) (hst : S = argsL.reverse ++ .ref a :: rest) (hsz : Ls.size = mx) (hlen : ∀ sig, parseMethodDescriptor y.desc = some sig → argsL.length = sig.parameters.length)
    {W : Nat} (hW : (rest.map fun v => v.category).sum ≤ W) (hf : rm.frames + 1 ≤ R.frames) (hl : W + (mx' + 11) + rm.locals ≤ R.locals) (hc : cells + rm.cells ≤ R.cells) (hs : slots + rm.slots ≤ R.slots)
    (go : ∀ v T' h', Q' v h' → ownSt p l e R s m args below meth c Z n0 own bytes mx rt nm T' h' (cells + rm.cells) (slots + rm.slots) → ownGo p e m below n0 En Q T' (pc + 3) Ls (v.toList ++ rest)) : ownGo p e m below n0 En Q T pc Ls S := by
  obtain ⟨⟨hx, hZ, hby, hml, hown, hnm, hret, hlk⟩, locs, X, eT, hN⟩ := G
  subst has hst
  obtain ⟨cq, kq, qa, qb, qc⟩ := isOf hZ eT E
  obtain ⟨v, _, ⟨T', L', k', n'⟩, -, X', ⟨Lc, ⟨hQ, hN'⟩, l', y', z'⟩, st⟩ := X.virtualBack hx (y := y) (z := y) hown (mvT hZ w1) (mvT hZ w2) (notFace_of_selects (args := #[]) (mvT hZ ws)) (mvT hZ ws) (mvT hZ wi) hy (backOf (W := W) (Q := fun v h L => Q' v h ∧ Fr n0 L) hM hZ w4 w3 hf hl) qa qc (g := mkF m pc Ls (argsL.reverse ++ .ref a :: rest)) rfl (hsz.trans hml.symm) (Steps.refl _) (argsL := argsL) (rest := rest) hlen rfl (by show 2 * 0 + _ ≤ _; omega) (hb hby hd) (fun _ _ => ⟨rfl, eT, hc, hs⟩)
  dsimp only [Pt.U, Pt.locs, Pt.cells, Pt.slots] at X' l' y' z' st hQ
  subst l' y' z'
  exact ownGo.step (fun t k => st.trans k) (go v T' T'.heap hQ ⟨⟨hx, hZ, hby, hml, hown, hnm, hret, hlk⟩, _, X', rfl, Fr.app hN hN'⟩)
theorem own_interface (G : ownSt p l e R s m args below meth c Z n0 own bytes mx rt nm T h cells slots) {C : String} {index count : Nat} {xi y : MethodName} {by' : ByteArray} {mx' : Nat} {rt' : Option FieldType} {rm : Room} {as' : Array Value} {Q' : Option Value → Heap → Prop} (hd : decode bytes pc = .ok (.invokeinterface index count, 5))
    (w1 : (Cond.methodLink own index xi).before a0 Z = true) (w2 : (Cond.declares xi).before a0 Z = true) (wf : (Cond.interfaceMethod xi.cls xi.cls xi.name xi.desc).before a0 Z = true) (ws : (Cond.selects C xi y).before a0 Z = true) (wi : (Cond.instanceMethod y).before a0 Z = true) (wp : (Cond.publicMethod y).before a0 Z = true) (wu : (Cond.unhidden C xi.name xi.desc).before a0 Z = true) (wc : (Cond.castable C xi.cls).before a0 Z = true) (w3 : (Cond.initialized y.cls).before a0 Z = true) (w4 : (Cond.code y by' mx' rt').before a0 Z = true) (hy : xi.cls ≠ "java/lang/invoke/MethodHandle" ∧ xi.cls ≠ "java/lang/invoke/VarHandle")
    {argsL rest : List Value} (E : Exa Z h a C) (hM : ownMet l [] y by' mx' rt' rm Z n0 as' h Q') (has : as' = (.ref a :: argsL).toArray) (hst : S = argsL.reverse ++ .ref a :: rest) (hsz : Ls.size = mx) (hlen : ∀ sig, parseMethodDescriptor xi.desc = some sig → argsL.length = sig.parameters.length)
    {W : Nat} (hW : (rest.map fun v => v.category).sum ≤ W) (hf : rm.frames + 1 ≤ R.frames) (hl : W + (mx' + 11) + rm.locals ≤ R.locals) (hc : cells + rm.cells ≤ R.cells) (hs : slots + rm.slots ≤ R.slots)
    (go : ∀ v T' h', Q' v h' → ownSt p l e R s m args below meth c Z n0 own bytes mx rt nm T' h' (cells + rm.cells) (slots + rm.slots) → ownGo p e m below n0 En Q T' (pc + 5) Ls (v.toList ++ rest)) : ownGo p e m below n0 En Q T pc Ls S := by
  obtain ⟨⟨hx, hZ, hby, hml, hown, hnm, hret, hlk⟩, locs, X, eT, hN⟩ := G
  subst has hst
  obtain ⟨cq, kq, qa, qb, qc⟩ := isOf hZ eT E
  obtain ⟨v, _, ⟨T', L', k', n'⟩, -, X', ⟨Lc, ⟨hQ, hN'⟩, l', y', z'⟩, st⟩ := X.interfaceBack hx (xi := xi) (y := y) hown (mvT hZ w1) (mvT hZ w2) (mvT hZ wf (by simp [Cond.onTables, Cond.keepsFace, Cond.keeps, Cond.steady, Cond.faceAtom, hy])) (mvT hZ ws) (mvT hZ wi) (mvT hZ wp) (mvT hZ wu) (mvT hZ wc) hy (backOf (W := W) (Q := fun v h L => Q' v h ∧ Fr n0 L) hM hZ w4 w3 hf hl) qa qb qc (g := mkF m pc Ls (argsL.reverse ++ .ref a :: rest)) rfl (hsz.trans hml.symm) (Steps.refl _) (argsL := argsL) (rest := rest) hlen rfl (by show 2 * 0 + _ ≤ _; omega) (hb hby hd) (fun _ _ => ⟨rfl, eT, hc, hs⟩)
  dsimp only [Pt.U, Pt.locs, Pt.cells, Pt.slots] at X' l' y' z' st hQ
  subst l' y' z'
  exact ownGo.step (fun t k => st.trans k) (go v T' T'.heap hQ ⟨⟨hx, hZ, hby, hml, hown, hnm, hret, hlk⟩, _, X', rfl, Fr.app hN hN'⟩)
theorem own_private (G : ownSt p l e R s m args below meth c Z n0 own bytes mx rt nm T h cells slots) {index : Nat} {y : MethodName} {by' : ByteArray} {mx' : Nat} {rt' : Option FieldType} {rm : Room} {as' : Array Value} {Q' : Option Value → Heap → Prop} {C : String} (hd : decode bytes pc = .ok (.invokevirtual index, 3))
    (w1 : (Cond.methodLink own index y).before a0 Z = true) (wi : (Cond.instanceMethod y).before a0 Z = true) (ws : (Cond.selects y.cls y y).before a0 Z = true) (wp : (Cond.privateMethod y).before a0 Z = true) (w3 : (Cond.initialized y.cls).before a0 Z = true) (w4 : (Cond.code y by' mx' rt').before a0 Z = true) (hy : y.cls ≠ "java/lang/invoke/MethodHandle" ∧ y.cls ≠ "java/lang/invoke/VarHandle")
    {argsL rest : List Value} (E : Exa Z h a C) (hM : ownMet l [] y by' mx' rt' rm Z n0 as' h Q') (has : as' = (.ref a :: argsL).toArray) (hst : S = argsL.reverse ++ .ref a :: rest) (hsz : Ls.size = mx) (hlen : ∀ sig, parseMethodDescriptor y.desc = some sig → argsL.length = sig.parameters.length)
    {W : Nat} (hW : (rest.map fun v => v.category).sum ≤ W) (hf : rm.frames + 1 ≤ R.frames) (hl : W + (mx' + 11) + rm.locals ≤ R.locals) (hc : cells + rm.cells ≤ R.cells) (hs : slots + rm.slots ≤ R.slots)
    (go : ∀ v T' h', Q' v h' → ownSt p l e R s m args below meth c Z n0 own bytes mx rt nm T' h' (cells + rm.cells) (slots + rm.slots) → ownGo p e m below n0 En Q T' (pc + 3) Ls (v.toList ++ rest)) : ownGo p e m below n0 En Q T pc Ls S := by
  obtain ⟨⟨hx, hZ, hby, hml, hown, hnm, hret, hlk⟩, locs, X, eT, hN⟩ := G
  subst has hst
  obtain ⟨cq, q1, q2⟩ := E.cell
  obtain ⟨v, _, ⟨T', L', k', n'⟩, -, X', ⟨Lc, ⟨hQ, hN'⟩, l', y', z'⟩, st⟩ := X.privateBack hx (y := y) hown (mvT hZ w1) (mvT hZ wi) (mvT hZ ws) (Cond.privateMethod_at (mvP hZ wp (args := #[]))) (mvT hZ w4) hy (backOf (W := W) (Q := fun v h L => Q' v h ∧ Fr n0 L) hM hZ w4 w3 hf hl) (g := mkF m pc Ls (argsL.reverse ++ .ref a :: rest)) rfl (hsz.trans hml.symm) (Steps.refl _) (a := a) (by rw [eT]; exact q1) q2 (argsL := argsL) (rest := rest) hlen rfl (by show 2 * 0 + _ ≤ _; omega) (hb hby hd) (fun _ _ => ⟨rfl, eT, hc, hs⟩)
  dsimp only [Pt.U, Pt.locs, Pt.cells, Pt.slots] at X' l' y' z' st hQ
  subst l' y' z'
  exact ownGo.step (fun t k => st.trans k) (go v T' T'.heap hQ ⟨⟨hx, hZ, hby, hml, hown, hnm, hret, hlk⟩, _, X', rfl, Fr.app hN hN'⟩)
theorem own_more (G : ownSt p l e R s m args below meth c Z n0 own bytes mx rt nm T h cells slots) {k n' : Nat} (hc : cells ≤ k) (hs : slots ≤ n') : ownSt p l e R s m args below meth c Z n0 own bytes mx rt nm T h k n' := by
  obtain ⟨⟨hx, hZ, hby, hml, hown, hnm, hret, hlk⟩, locs, X, eT, hN⟩ := G
  exact ⟨⟨hx, hZ, hby, hml, hown, hnm, hret, hlk⟩, locs, X.more hc hs, eT, hN⟩
end Own
def ownUpd {α : Type} (f : Nat → α) (i : Nat) (v : α) (j : Nat) : α := if j = i then v else f j
theorem ownArr.setL {Z : State} {h h' : Heap} {a : Addr} {n i : Nat} {f : Nat → Int64} {v : Int64} (A : ownArr Z h a .long n (fun j => .long (f j))) (W : Wr h h' a i (.long v)) : ownArr Z h' a .long n (fun j => .long (ownUpd f i v j)) :=
  (A.same W).congr fun j _ => by unfold ownUpd; by_cases q : j = i <;> simp [q]
theorem ownArr.setI {Z : State} {h h' : Heap} {a : Addr} {n i : Nat} {f : Nat → Int32} {v : Int32} (A : ownArr Z h a .int n (fun j => .int (f j))) (W : Wr h h' a i (.int v)) : ownArr Z h' a .int n (fun j => .int (ownUpd f i v j)) :=
  (A.same W).congr fun j _ => by unfold ownUpd; by_cases q : j = i <;> simp [q]
theorem ownArr.setN {Z : State} {h h' : Heap} {a : Addr} {n i : Nat} {f : Nat → Nat} {v : Nat} (A : ownArr Z h a .int n (fun j => .int (Int32.ofNat (f j)))) (W : Wr h h' a i (.int (Int32.ofNat v))) : ownArr Z h' a .int n (fun j => .int (Int32.ofNat (ownUpd f i v j))) :=
  (A.same W).congr fun j _ => by unfold ownUpd; by_cases q : j = i <;> simp [q]
theorem own_neA {a b : Nat} (h : ¬ @Eq Nat a b) : @Ne Addr a b := h
theorem own_n32 {i : Nat} (hi : i < 2147483648) : (Int32.ofNat i).toInt = (i : Int) := by
  rw [Int32.toInt_ofNat_of_lt (by simpa using hi)]
theorem own_ltN {i n : Nat} (hi : i < 2147483648) (hn : n < 2147483648) : Int32.ofNat i < Int32.ofNat n ↔ i < n := by
  rw [Int32.lt_iff_toInt_lt, own_n32 hi, own_n32 hn]; omega
theorem own_injN {i n : Nat} (hi : i < 2147483648) (hn : n < 2147483648) (h : Int32.ofNat i = Int32.ofNat n) : i = n := by
  have q := congrArg Int32.toInt h; rw [own_n32 hi, own_n32 hn] at q; omega
theorem own_clampN {i : Nat} (hi : i < 2147483648) : (Int32.ofNat i).toNatClampNeg = i := by
  show (Int32.ofNat i).toInt.toNat = i; rw [own_n32 hi]; omega
theorem own_nonneg {i : Nat} (hi : i < 2147483648) : ¬ Int32.ofNat i < 0 := by
  rw [Int32.lt_iff_toInt_lt, own_n32 hi]; show ¬ (i : Int) < 0; omega
theorem own_ixN {i n : Nat} (hi : i < n) (hn : n < 2147483648) : ¬ Int32.ofNat i < 0 ∧ (Int32.ofNat i).toNatClampNeg = i ∧ i < n := ⟨own_nonneg (by omega), own_clampN (by omega), hi⟩
theorem own_succN' (i : Nat) : Int32.ofNat i + 1 = Int32.ofNat (i + 1) := (Int32.ofNat_add i 1).symm
theorem own_predN (i : Nat) : Int32.ofNat (i + 1) - 1 = Int32.ofNat i := by
  rw [← own_succN']; exact Int32.add_sub_cancel _ _
theorem own_decN (i : Nat) : Int32.ofNat i + (-1 : Int32) = Int32.ofNat i - 1 := (Int32.sub_eq_add_neg _ _).symm
theorem own_succN (i : Nat) : Int32.ofNat i + 1 = Int32.ofNat (i + 1) := (Int32.ofNat_add i 1).symm
theorem d1_0 : decode jdk_42_method_139_code 0 = .ok (.getstatic 38, 3) := by decide +kernel
theorem d1_3 : decode jdk_42_method_139_code 3 = .ok (.ifCond .eq 23, 3) := by decide +kernel
theorem d1_6 : decode jdk_42_method_139_code 6 = .ok (.iload_n 0, 1) := by decide +kernel
theorem d1_7 : decode jdk_42_method_139_code 7 = .ok (.invokestatic 1015, 3) := by decide +kernel
theorem d1_10 : decode jdk_42_method_139_code 10 = .ok (.ifCond .eq 16, 3) := by decide +kernel
theorem d1_13 : decode jdk_42_method_139_code 13 = .ok (.new 10, 3) := by decide +kernel
theorem d1_16 : decode jdk_42_method_139_code 16 = .ok (.dup, 1) := by decide +kernel
theorem d1_17 : decode jdk_42_method_139_code 17 = .ok (.iload_n 0, 1) := by decide +kernel
theorem d1_18 : decode jdk_42_method_139_code 18 = .ok (.invokestatic 1018, 3) := by decide +kernel
theorem d1_21 : decode jdk_42_method_139_code 21 = .ok (.iconst 0, 1) := by decide +kernel
theorem d1_22 : decode jdk_42_method_139_code 22 = .ok (.invokespecial 209, 3) := by decide +kernel
theorem d1_25 : decode jdk_42_method_139_code 25 = .ok (.areturn, 1) := by decide +kernel
theorem d2_0 : decode jdk_43_method_3_code 0 = .ok (.iload_n 0, 1) := by decide +kernel
theorem d2_1 : decode jdk_43_method_3_code 1 = .ok (.sipush 255, 3) := by decide +kernel
theorem d2_4 : decode jdk_43_method_3_code 4 = .ok (.if_icmp .gt 7, 3) := by decide +kernel
theorem d2_7 : decode jdk_43_method_3_code 7 = .ok (.iconst 1, 1) := by decide +kernel
theorem d2_8 : decode jdk_43_method_3_code 8 = .ok (.goto 4, 3) := by decide +kernel
theorem d2_12 : decode jdk_43_method_3_code 12 = .ok (.ireturn, 1) := by decide +kernel
theorem d3_0 : decode jdk_43_method_46_code 0 = .ok (.iconst 1, 1) := by decide +kernel
theorem d3_1 : decode jdk_43_method_46_code 1 = .ok (.newarray .byte, 2) := by decide +kernel
theorem d3_3 : decode jdk_43_method_46_code 3 = .ok (.dup, 1) := by decide +kernel
theorem d3_4 : decode jdk_43_method_46_code 4 = .ok (.iconst 0, 1) := by decide +kernel
theorem d3_5 : decode jdk_43_method_46_code 5 = .ok (.iload_n 0, 1) := by decide +kernel
theorem d3_6 : decode jdk_43_method_46_code 6 = .ok (.i2b, 1) := by decide +kernel
theorem d3_7 : decode jdk_43_method_46_code 7 = .ok (.bastore, 1) := by decide +kernel
theorem d3_8 : decode jdk_43_method_46_code 8 = .ok (.areturn, 1) := by decide +kernel
theorem d4_0 : decode jdk_42_method_151_code 0 = .ok (.aload_n 0, 1) := by decide +kernel
theorem d4_1 : decode jdk_42_method_151_code 1 = .ok (.invokespecial 1, 3) := by decide +kernel
theorem d4_4 : decode jdk_42_method_151_code 4 = .ok (.aload_n 0, 1) := by decide +kernel
theorem d4_5 : decode jdk_42_method_151_code 5 = .ok (.aload_n 1, 1) := by decide +kernel
theorem d4_6 : decode jdk_42_method_151_code 6 = .ok (.putfield 9, 3) := by decide +kernel
theorem d4_9 : decode jdk_42_method_151_code 9 = .ok (.aload_n 0, 1) := by decide +kernel
theorem d4_10 : decode jdk_42_method_151_code 10 = .ok (.iload_n 2, 1) := by decide +kernel
theorem d4_11 : decode jdk_42_method_151_code 11 = .ok (.putfield 15, 3) := by decide +kernel
theorem d4_14 : decode jdk_42_method_151_code 14 = .ok (.return_, 1) := by decide +kernel
theorem d6_0 : decode prog_43_method_1_code 0 = .ok (.aload_n 0, 1) := by decide +kernel
theorem d6_1 : decode prog_43_method_1_code 1 = .ok (.invokespecial 1, 3) := by decide +kernel
theorem d6_4 : decode prog_43_method_1_code 4 = .ok (.aload_n 0, 1) := by decide +kernel
theorem d6_5 : decode prog_43_method_1_code 5 = .ok (.bipush 16, 2) := by decide +kernel
theorem d6_7 : decode prog_43_method_1_code 7 = .ok (.newarray .int, 2) := by decide +kernel
theorem d6_9 : decode prog_43_method_1_code 9 = .ok (.putfield 9, 3) := by decide +kernel
theorem d6_12 : decode prog_43_method_1_code 12 = .ok (.aload_n 0, 1) := by decide +kernel
theorem d6_13 : decode prog_43_method_1_code 13 = .ok (.bipush 16, 2) := by decide +kernel
theorem d6_15 : decode prog_43_method_1_code 15 = .ok (.newarray .int, 2) := by decide +kernel
theorem d6_17 : decode prog_43_method_1_code 17 = .ok (.putfield 13, 3) := by decide +kernel
theorem d6_20 : decode prog_43_method_1_code 20 = .ok (.aload_n 0, 1) := by decide +kernel
theorem d6_21 : decode prog_43_method_1_code 21 = .ok (.bipush 16, 2) := by decide +kernel
theorem d6_23 : decode prog_43_method_1_code 23 = .ok (.newarray .long, 2) := by decide +kernel
theorem d6_25 : decode prog_43_method_1_code 25 = .ok (.putfield 16, 3) := by decide +kernel
theorem d6_28 : decode prog_43_method_1_code 28 = .ok (.aload_n 0, 1) := by decide +kernel
theorem d6_29 : decode prog_43_method_1_code 29 = .ok (.bipush 16, 2) := by decide +kernel
theorem d6_31 : decode prog_43_method_1_code 31 = .ok (.anewarray 20, 3) := by decide +kernel
theorem d6_34 : decode prog_43_method_1_code 34 = .ok (.putfield 22, 3) := by decide +kernel
theorem d6_37 : decode prog_43_method_1_code 37 = .ok (.aload_n 0, 1) := by decide +kernel
theorem d6_38 : decode prog_43_method_1_code 38 = .ok (.new 26, 3) := by decide +kernel
theorem d6_41 : decode prog_43_method_1_code 41 = .ok (.dup, 1) := by decide +kernel
theorem d6_42 : decode prog_43_method_1_code 42 = .ok (.invokespecial 28, 3) := by decide +kernel
theorem d6_45 : decode prog_43_method_1_code 45 = .ok (.putfield 29, 3) := by decide +kernel
theorem d6_48 : decode prog_43_method_1_code 48 = .ok (.aload_n 0, 1) := by decide +kernel
theorem d6_49 : decode prog_43_method_1_code 49 = .ok (.new 33, 3) := by decide +kernel
theorem d6_52 : decode prog_43_method_1_code 52 = .ok (.dup, 1) := by decide +kernel
theorem d6_53 : decode prog_43_method_1_code 53 = .ok (.invokespecial 35, 3) := by decide +kernel
theorem d6_56 : decode prog_43_method_1_code 56 = .ok (.putfield 36, 3) := by decide +kernel
theorem d6_59 : decode prog_43_method_1_code 59 = .ok (.return_, 1) := by decide +kernel
theorem d7_0 : decode jdk_38_method_2_code 0 = .ok (.aload_n 0, 1) := by decide +kernel
theorem d7_1 : decode jdk_38_method_2_code 1 = .ok (.invokespecial 1, 3) := by decide +kernel
theorem d7_4 : decode jdk_38_method_2_code 4 = .ok (.aload_n 0, 1) := by decide +kernel
theorem d7_5 : decode jdk_38_method_2_code 5 = .ok (.getstatic 39, 3) := by decide +kernel
theorem d7_8 : decode jdk_38_method_2_code 8 = .ok (.putfield 9, 3) := by decide +kernel
theorem d7_11 : decode jdk_38_method_2_code 11 = .ok (.return_, 1) := by decide +kernel
theorem d8_0 : decode jdk_39_method_1_code 0 = .ok (.aload_n 0, 1) := by decide +kernel
theorem d8_1 : decode jdk_39_method_1_code 1 = .ok (.invokespecial 1, 3) := by decide +kernel
theorem d8_4 : decode jdk_39_method_1_code 4 = .ok (.aload_n 0, 1) := by decide +kernel
theorem d8_5 : decode jdk_39_method_1_code 5 = .ok (.iconst 0, 1) := by decide +kernel
theorem d8_6 : decode jdk_39_method_1_code 6 = .ok (.putfield 7, 3) := by decide +kernel
theorem d8_9 : decode jdk_39_method_1_code 9 = .ok (.return_, 1) := by decide +kernel
theorem d9_0 : decode jdk_22_method_1_code 0 = .ok (.aload_n 0, 1) := by decide +kernel
theorem d9_1 : decode jdk_22_method_1_code 1 = .ok (.invokespecial 1, 3) := by decide +kernel
theorem d9_4 : decode jdk_22_method_1_code 4 = .ok (.return_, 1) := by decide +kernel
theorem d10_0 : decode jdk_69_method_7_code 0 = .ok (.aload_n 0, 1) := by decide +kernel
theorem d10_1 : decode jdk_69_method_7_code 1 = .ok (.invokespecial 43, 3) := by decide +kernel
theorem d10_4 : decode jdk_69_method_7_code 4 = .ok (.aload_n 0, 1) := by decide +kernel
theorem d10_5 : decode jdk_69_method_7_code 5 = .ok (.ldc 92, 2) := by decide +kernel
theorem d10_7 : decode jdk_69_method_7_code 7 = .ok (.putfield 81, 3) := by decide +kernel
theorem d10_10 : decode jdk_69_method_7_code 10 = .ok (.return_, 1) := by decide +kernel
theorem d11_0 : decode jdk_71_method_1_code 0 = .ok (.aload_n 0, 1) := by decide +kernel
theorem d11_1 : decode jdk_71_method_1_code 1 = .ok (.invokespecial 1, 3) := by decide +kernel
theorem d11_4 : decode jdk_71_method_1_code 4 = .ok (.return_, 1) := by decide +kernel
theorem d12_0 : decode prog_43_method_2_code 0 = .ok (.aload_n 0, 1) := by decide +kernel
theorem d12_1 : decode prog_43_method_2_code 1 = .ok (.getfield 40, 3) := by decide +kernel
theorem d12_4 : decode prog_43_method_2_code 4 = .ok (.aload_n 0, 1) := by decide +kernel
theorem d12_5 : decode prog_43_method_2_code 5 = .ok (.getfield 13, 3) := by decide +kernel
theorem d12_8 : decode prog_43_method_2_code 8 = .ok (.arraylength, 1) := by decide +kernel
theorem d12_9 : decode prog_43_method_2_code 9 = .ok (.if_icmp .ne 61, 3) := by decide +kernel
theorem d12_70 : decode prog_43_method_2_code 70 = .ok (.aload_n 0, 1) := by decide +kernel
theorem d12_71 : decode prog_43_method_2_code 71 = .ok (.getfield 9, 3) := by decide +kernel
theorem d12_74 : decode prog_43_method_2_code 74 = .ok (.aload_n 0, 1) := by decide +kernel
theorem d12_75 : decode prog_43_method_2_code 75 = .ok (.getfield 40, 3) := by decide +kernel
theorem d12_78 : decode prog_43_method_2_code 78 = .ok (.iload_n 1, 1) := by decide +kernel
theorem d12_79 : decode prog_43_method_2_code 79 = .ok (.iastore, 1) := by decide +kernel
theorem d12_80 : decode prog_43_method_2_code 80 = .ok (.aload_n 0, 1) := by decide +kernel
theorem d12_81 : decode prog_43_method_2_code 81 = .ok (.getfield 13, 3) := by decide +kernel
theorem d12_84 : decode prog_43_method_2_code 84 = .ok (.aload_n 0, 1) := by decide +kernel
theorem d12_85 : decode prog_43_method_2_code 85 = .ok (.getfield 40, 3) := by decide +kernel
theorem d12_88 : decode prog_43_method_2_code 88 = .ok (.iload_n 1, 1) := by decide +kernel
theorem d12_89 : decode prog_43_method_2_code 89 = .ok (.iastore, 1) := by decide +kernel
theorem d12_90 : decode prog_43_method_2_code 90 = .ok (.aload_n 0, 1) := by decide +kernel
theorem d12_91 : decode prog_43_method_2_code 91 = .ok (.getfield 29, 3) := by decide +kernel
theorem d12_94 : decode prog_43_method_2_code 94 = .ok (.aconst_null, 1) := by decide +kernel
theorem d12_95 : decode prog_43_method_2_code 95 = .ok (.invokeinterface 57 2, 5) := by decide +kernel
theorem d12_100 : decode prog_43_method_2_code 100 = .ok (.pop, 1) := by decide +kernel
theorem d12_101 : decode prog_43_method_2_code 101 = .ok (.aload_n 0, 1) := by decide +kernel
theorem d12_102 : decode prog_43_method_2_code 102 = .ok (.dup, 1) := by decide +kernel
theorem d12_103 : decode prog_43_method_2_code 103 = .ok (.getfield 40, 3) := by decide +kernel
theorem d12_106 : decode prog_43_method_2_code 106 = .ok (.iconst 1, 1) := by decide +kernel
theorem d12_107 : decode prog_43_method_2_code 107 = .ok (.iadd, 1) := by decide +kernel
theorem d12_108 : decode prog_43_method_2_code 108 = .ok (.putfield 40, 3) := by decide +kernel
theorem d12_111 : decode prog_43_method_2_code 111 = .ok (.return_, 1) := by decide +kernel
theorem d13_0 : decode jdk_38_method_25_code 0 = .ok (.aload_n 0, 1) := by decide +kernel
theorem d13_1 : decode jdk_38_method_25_code 1 = .ok (.dup, 1) := by decide +kernel
theorem d13_2 : decode jdk_38_method_25_code 2 = .ok (.getfield 63, 3) := by decide +kernel
theorem d13_5 : decode jdk_38_method_25_code 5 = .ok (.iconst 1, 1) := by decide +kernel
theorem d13_6 : decode jdk_38_method_25_code 6 = .ok (.iadd, 1) := by decide +kernel
theorem d13_7 : decode jdk_38_method_25_code 7 = .ok (.putfield 63, 3) := by decide +kernel
theorem d13_10 : decode jdk_38_method_25_code 10 = .ok (.aload_n 0, 1) := by decide +kernel
theorem d13_11 : decode jdk_38_method_25_code 11 = .ok (.aload_n 1, 1) := by decide +kernel
theorem d13_12 : decode jdk_38_method_25_code 12 = .ok (.aload_n 0, 1) := by decide +kernel
theorem d13_13 : decode jdk_38_method_25_code 13 = .ok (.getfield 9, 3) := by decide +kernel
theorem d13_16 : decode jdk_38_method_25_code 16 = .ok (.aload_n 0, 1) := by decide +kernel
theorem d13_17 : decode jdk_38_method_25_code 17 = .ok (.getfield 48, 3) := by decide +kernel
theorem d13_20 : decode jdk_38_method_25_code 20 = .ok (.invokevirtual 131, 3) := by decide +kernel
theorem d13_23 : decode jdk_38_method_25_code 23 = .ok (.iconst 1, 1) := by decide +kernel
theorem d13_24 : decode jdk_38_method_25_code 24 = .ok (.ireturn, 1) := by decide +kernel
theorem d14_0 : decode jdk_38_method_24_code 0 = .ok (.iload_n 3, 1) := by decide +kernel
theorem d14_1 : decode jdk_38_method_24_code 1 = .ok (.aload_n 2, 1) := by decide +kernel
theorem d14_2 : decode jdk_38_method_24_code 2 = .ok (.arraylength, 1) := by decide +kernel
theorem d14_3 : decode jdk_38_method_24_code 3 = .ok (.if_icmp .ne 8, 3) := by decide +kernel
theorem d14_6 : decode jdk_38_method_24_code 6 = .ok (.aload_n 0, 1) := by decide +kernel
theorem d14_7 : decode jdk_38_method_24_code 7 = .ok (.invokevirtual 129, 3) := by decide +kernel
theorem d14_10 : decode jdk_38_method_24_code 10 = .ok (.astore_n 2, 1) := by decide +kernel
theorem d14_11 : decode jdk_38_method_24_code 11 = .ok (.aload_n 2, 1) := by decide +kernel
theorem d14_12 : decode jdk_38_method_24_code 12 = .ok (.iload_n 3, 1) := by decide +kernel
theorem d14_13 : decode jdk_38_method_24_code 13 = .ok (.aload_n 1, 1) := by decide +kernel
theorem d14_14 : decode jdk_38_method_24_code 14 = .ok (.aastore, 1) := by decide +kernel
theorem d14_15 : decode jdk_38_method_24_code 15 = .ok (.aload_n 0, 1) := by decide +kernel
theorem d14_16 : decode jdk_38_method_24_code 16 = .ok (.iload_n 3, 1) := by decide +kernel
theorem d14_17 : decode jdk_38_method_24_code 17 = .ok (.iconst 1, 1) := by decide +kernel
theorem d14_18 : decode jdk_38_method_24_code 18 = .ok (.iadd, 1) := by decide +kernel
theorem d14_19 : decode jdk_38_method_24_code 19 = .ok (.putfield 48, 3) := by decide +kernel
theorem d14_22 : decode jdk_38_method_24_code 22 = .ok (.return_, 1) := by decide +kernel
theorem d15_0 : decode jdk_38_method_7_code 0 = .ok (.aload_n 0, 1) := by decide +kernel
theorem d15_1 : decode jdk_38_method_7_code 1 = .ok (.aload_n 0, 1) := by decide +kernel
theorem d15_2 : decode jdk_38_method_7_code 2 = .ok (.getfield 48, 3) := by decide +kernel
theorem d15_5 : decode jdk_38_method_7_code 5 = .ok (.iconst 1, 1) := by decide +kernel
theorem d15_6 : decode jdk_38_method_7_code 6 = .ok (.iadd, 1) := by decide +kernel
theorem d15_7 : decode jdk_38_method_7_code 7 = .ok (.invokevirtual 69, 3) := by decide +kernel
theorem d15_10 : decode jdk_38_method_7_code 10 = .ok (.areturn, 1) := by decide +kernel
theorem d16_0 : decode jdk_38_method_6_code 0 = .ok (.aload_n 0, 1) := by decide +kernel
theorem d16_1 : decode jdk_38_method_6_code 1 = .ok (.getfield 9, 3) := by decide +kernel
theorem d16_4 : decode jdk_38_method_6_code 4 = .ok (.arraylength, 1) := by decide +kernel
theorem d16_5 : decode jdk_38_method_6_code 5 = .ok (.istore_n 2, 1) := by decide +kernel
theorem d16_6 : decode jdk_38_method_6_code 6 = .ok (.iload_n 2, 1) := by decide +kernel
theorem d16_7 : decode jdk_38_method_6_code 7 = .ok (.ifCond .gt 13, 3) := by decide +kernel
theorem d16_10 : decode jdk_38_method_6_code 10 = .ok (.aload_n 0, 1) := by decide +kernel
theorem d16_11 : decode jdk_38_method_6_code 11 = .ok (.getfield 9, 3) := by decide +kernel
theorem d16_14 : decode jdk_38_method_6_code 14 = .ok (.getstatic 39, 3) := by decide +kernel
theorem d16_17 : decode jdk_38_method_6_code 17 = .ok (.if_acmp .eq 28, 3) := by decide +kernel
theorem d16_45 : decode jdk_38_method_6_code 45 = .ok (.aload_n 0, 1) := by decide +kernel
theorem d16_46 : decode jdk_38_method_6_code 46 = .ok (.bipush 10, 2) := by decide +kernel
theorem d16_48 : decode jdk_38_method_6_code 48 = .ok (.iload_n 1, 1) := by decide +kernel
theorem d16_49 : decode jdk_38_method_6_code 49 = .ok (.invokestatic 79, 3) := by decide +kernel
theorem d16_52 : decode jdk_38_method_6_code 52 = .ok (.anewarray 7, 3) := by decide +kernel
theorem d16_55 : decode jdk_38_method_6_code 55 = .ok (.dup_x1, 1) := by decide +kernel
theorem d16_56 : decode jdk_38_method_6_code 56 = .ok (.putfield 9, 3) := by decide +kernel
theorem d16_59 : decode jdk_38_method_6_code 59 = .ok (.areturn, 1) := by decide +kernel
theorem d17_0 : decode jdk_29_method_65_code 0 = .ok (.iload_n 0, 1) := by decide +kernel
theorem d17_1 : decode jdk_29_method_65_code 1 = .ok (.iload_n 1, 1) := by decide +kernel
theorem d17_2 : decode jdk_29_method_65_code 2 = .ok (.if_icmp .lt 7, 3) := by decide +kernel
theorem d17_5 : decode jdk_29_method_65_code 5 = .ok (.iload_n 0, 1) := by decide +kernel
theorem d17_6 : decode jdk_29_method_65_code 6 = .ok (.goto 4, 3) := by decide +kernel
theorem d17_10 : decode jdk_29_method_65_code 10 = .ok (.ireturn, 1) := by decide +kernel
theorem d18_0 : decode prog_43_method_7_code 0 = .ok (.iload_n 2, 1) := by decide +kernel
theorem d18_1 : decode prog_43_method_7_code 1 = .ok (.aload_n 0, 1) := by decide +kernel
theorem d18_2 : decode prog_43_method_7_code 2 = .ok (.getfield 13, 3) := by decide +kernel
theorem d18_5 : decode prog_43_method_7_code 5 = .ok (.iload_n 1, 1) := by decide +kernel
theorem d18_6 : decode prog_43_method_7_code 6 = .ok (.iaload, 1) := by decide +kernel
theorem d18_7 : decode prog_43_method_7_code 7 = .ok (.if_icmp .le 25, 3) := by decide +kernel
theorem d18_10 : decode prog_43_method_7_code 10 = .ok (.aload_n 0, 1) := by decide +kernel
theorem d18_11 : decode prog_43_method_7_code 11 = .ok (.getfield 13, 3) := by decide +kernel
theorem d18_14 : decode prog_43_method_7_code 14 = .ok (.iload_n 1, 1) := by decide +kernel
theorem d18_15 : decode prog_43_method_7_code 15 = .ok (.iload_n 2, 1) := by decide +kernel
theorem d18_16 : decode prog_43_method_7_code 16 = .ok (.iastore, 1) := by decide +kernel
theorem d18_17 : decode prog_43_method_7_code 17 = .ok (.aload_n 0, 1) := by decide +kernel
theorem d18_18 : decode prog_43_method_7_code 18 = .ok (.getfield 22, 3) := by decide +kernel
theorem d18_21 : decode prog_43_method_7_code 21 = .ok (.iload_n 1, 1) := by decide +kernel
theorem d18_22 : decode prog_43_method_7_code 22 = .ok (.aload_n 3, 1) := by decide +kernel
theorem d18_23 : decode prog_43_method_7_code 23 = .ok (.aastore, 1) := by decide +kernel
theorem d18_24 : decode prog_43_method_7_code 24 = .ok (.aload_n 0, 1) := by decide +kernel
theorem d18_25 : decode prog_43_method_7_code 25 = .ok (.getfield 16, 3) := by decide +kernel
theorem d18_28 : decode prog_43_method_7_code 28 = .ok (.iload_n 1, 1) := by decide +kernel
theorem d18_29 : decode prog_43_method_7_code 29 = .ok (.lload 4, 2) := by decide +kernel
theorem d18_31 : decode prog_43_method_7_code 31 = .ok (.lastore, 1) := by decide +kernel
theorem d18_32 : decode prog_43_method_7_code 32 = .ok (.return_, 1) := by decide +kernel
theorem d19_0 : decode prog_43_method_6_code 0 = .ok (.aload_n 0, 1) := by decide +kernel
theorem d19_1 : decode prog_43_method_6_code 1 = .ok (.getfield 13, 3) := by decide +kernel
theorem d19_4 : decode prog_43_method_6_code 4 = .ok (.iload_n 1, 1) := by decide +kernel
theorem d19_5 : decode prog_43_method_6_code 5 = .ok (.iaload, 1) := by decide +kernel
theorem d19_6 : decode prog_43_method_6_code 6 = .ok (.ireturn, 1) := by decide +kernel
theorem d20_0 : decode prog_43_method_10_code 0 = .ok (.aload_n 0, 1) := by decide +kernel
theorem d20_1 : decode prog_43_method_10_code 1 = .ok (.getfield 22, 3) := by decide +kernel
theorem d20_4 : decode prog_43_method_10_code 4 = .ok (.iload_n 1, 1) := by decide +kernel
theorem d20_5 : decode prog_43_method_10_code 5 = .ok (.aaload, 1) := by decide +kernel
theorem d20_6 : decode prog_43_method_10_code 6 = .ok (.areturn, 1) := by decide +kernel
theorem d21_0 : decode prog_43_method_11_code 0 = .ok (.aload_n 0, 1) := by decide +kernel
theorem d21_1 : decode prog_43_method_11_code 1 = .ok (.getfield 16, 3) := by decide +kernel
theorem d21_4 : decode prog_43_method_11_code 4 = .ok (.iload_n 1, 1) := by decide +kernel
theorem d21_5 : decode prog_43_method_11_code 5 = .ok (.laload, 1) := by decide +kernel
theorem d21_6 : decode prog_43_method_11_code 6 = .ok (.lreturn, 1) := by decide +kernel
theorem pd_0 : parseMethodDescriptor "()V" = some ⟨[], none⟩ := by decide +kernel
theorem pd_1 : parseMethodDescriptor "(II)I" = some ⟨[.int, .int], some .int⟩ := by decide +kernel
theorem pd_2 : parseMethodDescriptor "(I)[Ljava/lang/Object;" = some ⟨[.int], some (.array (.object "java/lang/Object"))⟩ := by decide +kernel
theorem pd_3 : parseMethodDescriptor "()[Ljava/lang/Object;" = some ⟨[], some (.array (.object "java/lang/Object"))⟩ := by decide +kernel
theorem pd_4 : parseMethodDescriptor "(Ljava/lang/Object;[Ljava/lang/Object;I)V" = some ⟨[(.object "java/lang/Object"), (.array (.object "java/lang/Object")), .int], none⟩ := by decide +kernel
theorem pd_5 : parseMethodDescriptor "(C)Z" = some ⟨[.char], some .boolean⟩ := by decide +kernel
theorem pd_6 : parseMethodDescriptor "(C)[B" = some ⟨[.char], some (.array .byte)⟩ := by decide +kernel
theorem pd_7 : parseMethodDescriptor "([BB)V" = some ⟨[(.array .byte), .byte], none⟩ := by decide +kernel
theorem pd_8 : parseMethodDescriptor "(Ljava/lang/Object;)Z" = some ⟨[(.object "java/lang/Object")], some .boolean⟩ := by decide +kernel
theorem pd_9 : parseMethodDescriptor "(C)Ljava/lang/String;" = some ⟨[.char], some (.object "java/lang/String")⟩ := by decide +kernel
theorem pd_10 : parseMethodDescriptor "(I)V" = some ⟨[.int], none⟩ := by decide +kernel
theorem pd_11 : parseMethodDescriptor "(IILjava/lang/String;J)V" = some ⟨[.int, .int, (.object "java/lang/String"), .long], none⟩ := by decide +kernel
theorem pd_12 : parseMethodDescriptor "(I)I" = some ⟨[.int], some .int⟩ := by decide +kernel
theorem pd_13 : parseMethodDescriptor "(I)Ljava/lang/String;" = some ⟨[.int], some (.object "java/lang/String")⟩ := by decide +kernel
theorem pd_14 : parseMethodDescriptor "(I)J" = some ⟨[.int], some .long⟩ := by decide +kernel
def ownA0 (Z : State) (h : Heap) (dc al : Addr) (mc : Int32) : Prop := Exa Z h al "java/util/ArrayList" ∧ Fld Z h al "java/util/AbstractList" "modCount" "I" (.int mc) ∧ Fld Z h al "java/util/ArrayList" "elementData" "[Ljava/lang/Object;" (.ref dc) ∧ Fld Z h al "java/util/ArrayList" "size" "I" (.int 0)
def ownA1 (Z : State) (h : Heap) (al ed : Addr) (mc : Int32) (k : Nat) (f : Nat → Value) : Prop := Exa Z h al "java/util/ArrayList" ∧ Fld Z h al "java/util/AbstractList" "modCount" "I" (.int mc) ∧ Fld Z h al "java/util/ArrayList" "elementData" "[Ljava/lang/Object;" (.ref ed) ∧ Fld Z h al "java/util/ArrayList" "size" "I" (.int (Int32.ofNat k)) ∧ ownRef Z h ed "java/lang/Object" 10 f
theorem ownA0.keep {Z : State} {h h' : Heap} {dc al : Addr} {mc : Int32} {ws : List Addr} (A : ownA0 Z h dc al mc) (K : Keep h h' ws) (q : al ∉ ws) : ownA0 Z h' dc al mc := by obtain ⟨E, F1, F2, F3⟩ := A; exact ⟨E.keep K, F1.keep K q, F2.keep K q, F3.keep K q⟩
theorem ownA1.keep {Z : State} {h h' : Heap} {al ed : Addr} {mc : Int32} {k : Nat} {f : Nat → Value} {ws : List Addr} (A : ownA1 Z h al ed mc k f) (K : Keep h h' ws) (q : al ∉ ws) (q' : ed ∉ ws) : ownA1 Z h' al ed mc k f := by obtain ⟨E, F1, F2, F3, R⟩ := A; exact ⟨E.keep K, F1.keep K q, F2.keep K q, F3.keep K q, R.keep K q'⟩
theorem ownA0.ext {Z : State} {h h' : Heap} {dc al : Addr} {mc : Int32} (A : ownA0 Z h dc al mc) (K : Ext h h') : ownA0 Z h' dc al mc := by obtain ⟨E, F1, F2, F3⟩ := A; exact ⟨E.ext K, F1.ext K, F2.ext K, F3.ext K⟩
theorem ownA1.ext {Z : State} {h h' : Heap} {al ed : Addr} {mc : Int32} {k : Nat} {f : Nat → Value} (A : ownA1 Z h al ed mc k f) (K : Ext h h') : ownA1 Z h' al ed mc k f := by obtain ⟨E, F1, F2, F3, R⟩ := A; exact ⟨E.ext K, F1.ext K, F2.ext K, F3.ext K, R.ext K⟩
theorem ownA0.other {Z : State} {h h' : Heap} {dc al b : Addr} {mc : Int32} {sl : Nat} {v : Value} (A : ownA0 Z h dc al mc) (W : Wr h h' b sl v) (q : al ≠ b) : ownA0 Z h' dc al mc := by obtain ⟨E, F1, F2, F3⟩ := A; exact ⟨E.wr W, F1.other W (Or.inl q), F2.other W (Or.inl q), F3.other W (Or.inl q)⟩
theorem ownA1.exa {Z : State} {h : Heap} {al ed : Addr} {mc : Int32} {k : Nat} {f : Nat → Value} (A : ownA1 Z h al ed mc k f) : Exa Z h al "java/util/ArrayList" := A.1
theorem ownA0.exa {Z : State} {h : Heap} {al dc : Addr} {mc : Int32} (A : ownA0 Z h dc al mc) : Exa Z h al "java/util/ArrayList" := A.1
theorem pn_rmAC : plainFor (⟨"java/util/AbstractCollection", "<init>", "()V"⟩ : MethodName) = true := plainFor_of_name (by first | (simp [plainName, overriddenIn]; done) | decide +kernel)
theorem ef_rmAC (m : MethodId) (al : Addr) : entryFrame m #[(.ref al)] 1 = mkF m 0 #[.val (.ref al)] [] := by first | (simp [entryFrame, mkF, argsToLocals, Value.category]; done) | rfl
set_option maxRecDepth 65536 in
set_option maxHeartbeats 40000000 in
theorem rmAC (l : Launch) (Z : State) (a0 : Array Value) (hw : ∀ d ∈ tables_1, d.before a0 Z = true) (al : Addr) (h0 : Heap) (n0 : Nat) (Z0 : n0 ≤ h0.size) :
    ownMet l [] (⟨"java/util/AbstractCollection", "<init>", "()V"⟩ : MethodName) jdk_22_method_1_code 1 none ({ frames := 1, cells := 0, slots := 0, locals := 12 } : Room) Z n0 #[(.ref al)] h0 (fun v h => v = none ∧ h0 = h) := by
  refine own_body (own := "java/util/AbstractCollection") (nm := "<init>") pn_rmAC (fun m => ef_rmAC m al) rfl rfl ?_
  intro p e s m below meth c T0 G0
  show ownGo _ _ _ _ _ _ _ T0 0 #[.val (.ref al)] []
  refine own_aloadN G0 d9_0 rfl rfl ?_
  show ownGo _ _ _ _ _ _ _ T0 1 #[.val (.ref al)] [(.ref al)]
  refine own_initO G0 d9_1 (hw _ (List.mem_of_getElem? (i := 63) rfl)) (hw _ (List.mem_of_getElem? (i := 20) rfl)) (hw _ (List.mem_of_getElem? (i := 21) rfl)) rfl (by decide) (W := 0) (Nat.le_of_eq rfl) (by decide) ?_
  intro T1 G1
  show ownGo _ _ _ _ _ _ _ T1 4 #[.val (.ref al)] []
  exact own_ret G1 d9_4 rfl (by decide) (by decide) ⟨rfl, rfl⟩
theorem pn_rmALi : plainFor (⟨"java/util/AbstractList", "<init>", "()V"⟩ : MethodName) = true := plainFor_of_name (by first | (simp [plainName, overriddenIn]; done) | decide +kernel)
theorem ef_rmALi (m : MethodId) (al : Addr) : entryFrame m #[(.ref al)] 1 = mkF m 0 #[.val (.ref al)] [] := by first | (simp [entryFrame, mkF, argsToLocals, Value.category]; done) | rfl
set_option maxRecDepth 65536 in
set_option maxHeartbeats 40000000 in
theorem rmALi (l : Launch) (Z : State) (a0 : Array Value) (hw : ∀ d ∈ tables_1, d.before a0 Z = true) (al : Addr) (u1 u2 u3 : Value) (h0 : Heap) (n0 : Nat) (Z0 : n0 ≤ h0.size) (E : Exa Z h0 al "java/util/ArrayList") (F1 : Fld Z h0 al "java/util/AbstractList" "modCount" "I" u1) (F2 : Fld Z h0 al "java/util/ArrayList" "elementData" "[Ljava/lang/Object;" u2) (F3 : Fld Z h0 al "java/util/ArrayList" "size" "I" u3) (g : n0 ≤ al) :
    ownMet l [] (⟨"java/util/AbstractList", "<init>", "()V"⟩ : MethodName) jdk_39_method_1_code 1 none ({ frames := 2, cells := 0, slots := 0, locals := 24 } : Room) Z n0 #[(.ref al)] h0 (fun v h => v = none ∧ Keep h0 h [al] ∧ Exa Z h al "java/util/ArrayList" ∧ Fld Z h al "java/util/AbstractList" "modCount" "I" (.int 0) ∧ Fld Z h al "java/util/ArrayList" "elementData" "[Ljava/lang/Object;" u2 ∧ Fld Z h al "java/util/ArrayList" "size" "I" u3) := by
  refine own_body (own := "java/util/AbstractList") (nm := "<init>") pn_rmALi (fun m => ef_rmALi m al) rfl rfl ?_
  intro p e s m below meth c T0 G0
  show ownGo _ _ _ _ _ _ _ T0 0 #[.val (.ref al)] []
  refine own_aloadN G0 d8_0 rfl rfl ?_
  show ownGo _ _ _ _ _ _ _ T0 1 #[.val (.ref al)] [(.ref al)]
  refine own_special G0 d8_1 (y := (⟨"java/util/AbstractCollection", "<init>", "()V"⟩ : MethodName)) rfl (hw _ (List.mem_of_getElem? (i := 57) rfl)) (hw _ (List.mem_of_getElem? (i := 58) rfl)) (hw _ (List.mem_of_getElem? (i := 61) rfl)) (hw _ (List.mem_of_getElem? (i := 62) rfl)) (by decide) (a := al) (argsL := []) (rest := []) (rmAC l Z a0 hw al h0 n0 Z0) rfl rfl rfl (lenOf pd_0 rfl) (W := 0) (Nat.le_of_eq rfl) (by decide) (by decide) (by decide) (by decide) ?_
  intro v2 T2 h2 hq2 G2
  obtain ⟨rfl, rfl⟩ := hq2
  show ownGo _ _ _ _ _ _ _ T2 4 #[.val (.ref al)] []
  have K : Keep h0 h0 [al] := Keep.refl _ _
  refine own_aloadN G2 d8_4 rfl rfl ?_
  show ownGo _ _ _ _ _ _ _ T2 5 #[.val (.ref al)] [(.ref al)]
  refine own_iconst G2 d8_5 ?_
  show ownGo _ _ _ _ _ _ _ T2 6 #[.val (.ref al)] [(.int (0 : Int32)), (.ref al)]
  refine own_putF G2 d8_6 (hw _ (List.mem_of_getElem? (i := 64) rfl)) Via.refl F1 E (Or.inl (hw _ (List.mem_of_getElem? (i := 65) rfl))) (hw _ (List.mem_of_getElem? (i := 46) rfl)) (ty := .int) (by decide) rfl rfl g ?_
  intro T3 h3 W3 G3
  show ownGo _ _ _ _ _ _ _ T3 9 #[.val (.ref al)] []
  have z3 : h3.size = h0.size := W3.size
  replace E := E.wr W3
  replace F1 := F1.same W3
  replace F2 := F2.other W3 (Or.inr (slot_ne (Or.inl (hw _ (List.mem_of_getElem? (i := 68) rfl))) (Or.inl (hw _ (List.mem_of_getElem? (i := 65) rfl))) (by decide) (t := (.array (.object "java/lang/Object"))) (t' := .int) (by decide) (by decide)))
  replace F3 := F3.other W3 (Or.inr (slot_ne (Or.inl (hw _ (List.mem_of_getElem? (i := 108) rfl))) (Or.inl (hw _ (List.mem_of_getElem? (i := 65) rfl))) (by decide) (t := .int) (t' := .int) (by decide) (by decide)))
  replace Z0 : n0 ≤ h3.size := by rw [W3.size]; exact Z0
  replace K := K.wr W3 (Or.inl (by simp))
  exact own_ret G3 d8_9 rfl (by decide) (by decide) ⟨rfl, K, E, F1, F2, F3⟩
theorem pn_rmNewAL : plainFor (⟨"java/util/ArrayList", "<init>", "()V"⟩ : MethodName) = true := plainFor_of_name (by first | (simp [plainName, overriddenIn]; done) | decide +kernel)
theorem ef_rmNewAL (m : MethodId) (al : Addr) : entryFrame m #[(.ref al)] 1 = mkF m 0 #[.val (.ref al)] [] := by first | (simp [entryFrame, mkF, argsToLocals, Value.category]; done) | rfl
set_option maxRecDepth 65536 in
set_option maxHeartbeats 40000000 in
theorem rmNewAL (l : Launch) (Z : State) (a0 : Array Value) (hw : ∀ d ∈ tables_1, d.before a0 Z = true) (al dc : Addr) (u1 u2 : Value) (h0 : Heap) (n0 : Nat) (Z0 : n0 ≤ h0.size) (E : Exa Z h0 al "java/util/ArrayList") (F1 : Fld Z h0 al "java/util/AbstractList" "modCount" "I" u1) (F2 : Fld Z h0 al "java/util/ArrayList" "elementData" "[Ljava/lang/Object;" u2) (F3 : Fld Z h0 al "java/util/ArrayList" "size" "I" (.int 0)) (g : n0 ≤ al) (O : Old Z n0 h0) (SD : Sta Z Z.heap "java/util/ArrayList" "DEFAULTCAPACITY_EMPTY_ELEMENTDATA" "[Ljava/lang/Object;" (.ref dc)) :
    ownMet l [] (⟨"java/util/ArrayList", "<init>", "()V"⟩ : MethodName) jdk_38_method_2_code 1 none ({ frames := 3, cells := 0, slots := 0, locals := 36 } : Room) Z n0 #[(.ref al)] h0 (fun v h => v = none ∧ Keep h0 h [al] ∧ ownA0 Z h dc al 0) := by
  refine own_body (own := "java/util/ArrayList") (nm := "<init>") pn_rmNewAL (fun m => ef_rmNewAL m al) rfl rfl ?_
  intro p e s m below meth c T0 G0
  show ownGo _ _ _ _ _ _ _ T0 0 #[.val (.ref al)] []
  refine own_aloadN G0 d7_0 rfl rfl ?_
  show ownGo _ _ _ _ _ _ _ T0 1 #[.val (.ref al)] [(.ref al)]
  refine own_special G0 d7_1 (y := (⟨"java/util/AbstractList", "<init>", "()V"⟩ : MethodName)) rfl (hw _ (List.mem_of_getElem? (i := 51) rfl)) (hw _ (List.mem_of_getElem? (i := 52) rfl)) (hw _ (List.mem_of_getElem? (i := 55) rfl)) (hw _ (List.mem_of_getElem? (i := 56) rfl)) (by decide) (a := al) (argsL := []) (rest := []) (rmALi l Z a0 hw al _ _ _ h0 n0 Z0 E F1 F2 F3 g) rfl rfl rfl (lenOf pd_0 rfl) (W := 0) (Nat.le_of_eq rfl) (by decide) (by decide) (by decide) (by decide) ?_
  intro v4 T4 h4 hq4 G4
  obtain ⟨rfl, K, E', F1', F2', F3'⟩ := hq4
  show ownGo _ _ _ _ _ _ _ T4 4 #[.val (.ref al)] []
  replace O := O.keep K (allS g all0)
  refine own_aloadN G4 d7_4 rfl rfl ?_
  show ownGo _ _ _ _ _ _ _ T4 5 #[.val (.ref al)] [(.ref al)]
  refine own_getS G4 d7_5 (hw _ (List.mem_of_getElem? (i := 66) rfl)) Via.refl (SD.ext O.2) ?_
  intro T5 G5
  show ownGo _ _ _ _ _ _ _ T5 8 #[.val (.ref al)] [(.ref dc), (.ref al)]
  refine own_putF G5 d7_8 (hw _ (List.mem_of_getElem? (i := 67) rfl)) Via.refl F2' E' (Or.inl (hw _ (List.mem_of_getElem? (i := 68) rfl))) (hw _ (List.mem_of_getElem? (i := 46) rfl)) (ty := (.array (.object "java/lang/Object"))) (by decide) rfl rfl g ?_
  intro T6 h6 W6 G6
  show ownGo _ _ _ _ _ _ _ T6 11 #[.val (.ref al)] []
  exact own_ret G6 d7_11 rfl (by decide) (by decide) ⟨rfl, K.wr W6 (Or.inl (by simp)), E'.wr W6, F1'.other W6 (Or.inr (slot_ne (Or.inl (hw _ (List.mem_of_getElem? (i := 65) rfl))) (Or.inl (hw _ (List.mem_of_getElem? (i := 68) rfl))) (by decide) (t := .int) (t' := (.array (.object "java/lang/Object"))) (by decide) (by decide))), F2'.same W6, F3'.other W6 (Or.inr (slot_ne (Or.inl (hw _ (List.mem_of_getElem? (i := 108) rfl))) (Or.inl (hw _ (List.mem_of_getElem? (i := 68) rfl))) (by decide) (t := .int) (t' := (.array (.object "java/lang/Object"))) (by decide) (by decide)))⟩
theorem ef_rmMax (m : MethodId)  : entryFrame m #[(.int (10 : Int32)), (.int (1 : Int32))] 2 = mkF m 0 #[.val (.int (10 : Int32)), .val (.int (1 : Int32))] [] := by first | (simp [entryFrame, mkF, argsToLocals, Value.category]; done) | rfl
set_option maxRecDepth 65536 in
set_option maxHeartbeats 40000000 in
theorem rmMax (l : Launch) (Z : State) (a0 : Array Value) (hw : ∀ d ∈ tables_1, d.before a0 Z = true)  (h0 : Heap) (n0 : Nat) (Z0 : n0 ≤ h0.size) :
    ownMet l [] (⟨"java/lang/Math", "max", "(II)I"⟩ : MethodName) jdk_29_method_65_code 2 (some .int) ({ frames := 0, cells := 0, slots := 0, locals := 0 } : Room) Z n0 #[(.int (10 : Int32)), (.int (1 : Int32))] h0 (fun v h => v = some (.int (10 : Int32)) ∧ h0 = h) := by
  refine own_body (own := "java/lang/Math") (nm := "max") (Jvm.Free.JP.mathPlain rfl (by decide +kernel)) (fun m => ef_rmMax m ) rfl rfl ?_
  intro p e s m below meth c T0 G0
  show ownGo _ _ _ _ _ _ _ T0 0 #[.val (.int (10 : Int32)), .val (.int (1 : Int32))] []
  refine own_iloadN G0 d17_0 rfl ?_
  show ownGo _ _ _ _ _ _ _ T0 1 #[.val (.int (10 : Int32)), .val (.int (1 : Int32))] [(.int (10 : Int32))]
  refine own_iloadN G0 d17_1 rfl ?_
  show ownGo _ _ _ _ _ _ _ T0 2 #[.val (.int (10 : Int32)), .val (.int (1 : Int32))] [(.int (1 : Int32)), (.int (10 : Int32))]
  refine own_icmp_lt G0 d17_2 (pc' := 9) (by decide) (by decide) (fun hc => False.elim (absurd hc (by decide))) (fun hc => ?_)
  show ownGo _ _ _ _ _ _ _ T0 5 #[.val (.int (10 : Int32)), .val (.int (1 : Int32))] []
  refine own_iloadN G0 d17_5 rfl ?_
  show ownGo _ _ _ _ _ _ _ T0 6 #[.val (.int (10 : Int32)), .val (.int (1 : Int32))] [(.int (10 : Int32))]
  refine own_goto G0 d17_6 (pc' := 10) (by decide) (by decide) ?_
  show ownGo _ _ _ _ _ _ _ T0 10 #[.val (.int (10 : Int32)), .val (.int (1 : Int32))] [(.int (10 : Int32))]
  exact own_ireturn G0 d17_10 rfl (by decide) (by decide) ⟨rfl, rfl⟩
theorem pn_rmGrowI : plainFor (⟨"java/util/ArrayList", "grow", "(I)[Ljava/lang/Object;"⟩ : MethodName) = true := plainFor_of_name (by first | (simp [plainName, overriddenIn]; done) | decide +kernel)
theorem ef_rmGrowI (m : MethodId) (al : Addr) : entryFrame m #[(.ref al), (.int (1 : Int32))] 4 = mkF m 0 #[.val (.ref al), .val (.int (1 : Int32)), .unset, .unset] [] := by first | (simp [entryFrame, mkF, argsToLocals, Value.category]; done) | rfl
set_option maxRecDepth 65536 in
set_option maxHeartbeats 40000000 in
theorem rmGrowI (l : Launch) (Z : State) (a0 : Array Value) (hw : ∀ d ∈ tables_1, d.before a0 Z = true) (al dc : Addr) (mc : Int32) (h0 : Heap) (n0 : Nat) (Z0 : n0 ≤ h0.size) (A : ownA0 Z h0 dc al mc) (g : n0 ≤ al) (O : Old Z n0 h0) (SD : Sta Z Z.heap "java/util/ArrayList" "DEFAULTCAPACITY_EMPTY_ELEMENTDATA" "[Ljava/lang/Object;" (.ref dc)) (AD : ∃ f, ownArr Z Z.heap dc (.object "java/lang/Object") 0 f) :
    ownMet l [] (⟨"java/util/ArrayList", "grow", "(I)[Ljava/lang/Object;"⟩ : MethodName) jdk_38_method_6_code 4 (some (.array (.object "java/lang/Object"))) ({ frames := 1, cells := 1, slots := 10, locals := 14 } : Room) Z n0 #[(.ref al), (.int (1 : Int32))] h0 (fun v h => ∃ ed, v = some (.ref ed) ∧ h0.size ≤ ed ∧ h.size > ed ∧ Keep h0 h [al] ∧ ownA1 Z h al ed mc 0 (fun _ => .null)) := by
  refine own_body (own := "java/util/ArrayList") (nm := "grow") pn_rmGrowI (fun m => ef_rmGrowI m al) rfl rfl ?_
  intro p e s m below meth c T0 G0
  show ownGo _ _ _ _ _ _ _ T0 0 #[.val (.ref al), .val (.int (1 : Int32)), .unset, .unset] []
  obtain ⟨E, F1, F2, F3⟩ := A
  obtain ⟨fd, AD⟩ := AD
  refine own_aloadN G0 d16_0 rfl rfl ?_
  show ownGo _ _ _ _ _ _ _ T0 1 #[.val (.ref al), .val (.int (1 : Int32)), .unset, .unset] [(.ref al)]
  refine own_getF G0 d16_1 (hw _ (List.mem_of_getElem? (i := 67) rfl)) Via.refl F2 ?_
  intro T7 G7
  show ownGo _ _ _ _ _ _ _ T7 4 #[.val (.ref al), .val (.int (1 : Int32)), .unset, .unset] [(.ref dc)]
  refine own_arraylength G7 d16_4 (AD.ext O.2) ?_
  show ownGo _ _ _ _ _ _ _ T7 5 #[.val (.ref al), .val (.int (1 : Int32)), .unset, .unset] [(.int (0 : Int32))]
  refine own_istoreN G7 d16_5 (L' := #[.val (.ref al), .val (.int (1 : Int32)), .val (.int (0 : Int32)), .unset]) rfl ?_
  show ownGo _ _ _ _ _ _ _ T7 6 #[.val (.ref al), .val (.int (1 : Int32)), .val (.int (0 : Int32)), .unset] []
  refine own_iloadN G7 d16_6 rfl ?_
  show ownGo _ _ _ _ _ _ _ T7 7 #[.val (.ref al), .val (.int (1 : Int32)), .val (.int (0 : Int32)), .unset] [(.int (0 : Int32))]
  refine own_if_gt G7 d16_7 (pc' := 20) (by decide) (by decide) (fun hc => False.elim (absurd hc (by decide))) (fun hc => ?_)
  show ownGo _ _ _ _ _ _ _ T7 10 #[.val (.ref al), .val (.int (1 : Int32)), .val (.int (0 : Int32)), .unset] []
  refine own_aloadN G7 d16_10 rfl rfl ?_
  show ownGo _ _ _ _ _ _ _ T7 11 #[.val (.ref al), .val (.int (1 : Int32)), .val (.int (0 : Int32)), .unset] [(.ref al)]
  refine own_getF G7 d16_11 (hw _ (List.mem_of_getElem? (i := 67) rfl)) Via.refl F2 ?_
  intro T8 G8
  show ownGo _ _ _ _ _ _ _ T8 14 #[.val (.ref al), .val (.int (1 : Int32)), .val (.int (0 : Int32)), .unset] [(.ref dc)]
  refine own_getS G8 d16_14 (hw _ (List.mem_of_getElem? (i := 66) rfl)) Via.refl (SD.ext O.2) ?_
  intro T9 G9
  show ownGo _ _ _ _ _ _ _ T9 17 #[.val (.ref al), .val (.int (1 : Int32)), .val (.int (0 : Int32)), .unset] [(.ref dc), (.ref dc)]
  refine own_acmp G9 d16_17 (pc' := 45) (same := true) rfl rfl (decide_eq_true rfl) (by decide) (by decide) ?_
  show ownGo _ _ _ _ _ _ _ T9 45 #[.val (.ref al), .val (.int (1 : Int32)), .val (.int (0 : Int32)), .unset] []
  refine own_aloadN G9 d16_45 rfl rfl ?_
  show ownGo _ _ _ _ _ _ _ T9 46 #[.val (.ref al), .val (.int (1 : Int32)), .val (.int (0 : Int32)), .unset] [(.ref al)]
  refine own_bipush G9 d16_46 ?_
  show ownGo _ _ _ _ _ _ _ T9 48 #[.val (.ref al), .val (.int (1 : Int32)), .val (.int (0 : Int32)), .unset] [(.int (10 : Int32)), (.ref al)]
  refine own_iloadN G9 d16_48 rfl ?_
  show ownGo _ _ _ _ _ _ _ T9 49 #[.val (.ref al), .val (.int (1 : Int32)), .val (.int (0 : Int32)), .unset] [(.int (1 : Int32)), (.int (10 : Int32)), (.ref al)]
  refine own_callS G9 d16_49 (y := (⟨"java/lang/Math", "max", "(II)I"⟩ : MethodName)) (hw _ (List.mem_of_getElem? (i := 124) rfl)) (hw _ (List.mem_of_getElem? (i := 125) rfl)) (hw _ (List.mem_of_getElem? (i := 126) rfl)) (hw _ (List.mem_of_getElem? (i := 127) rfl)) (by decide) (argsL := [(.int (10 : Int32)), (.int (1 : Int32))]) (rest := [(.ref al)]) (rmMax l Z a0 hw h0 n0 Z0) rfl rfl rfl (lenOf pd_1 rfl) (W := 1) (Nat.le_of_eq rfl) (by decide) (by decide) (by decide) (by decide) ?_
  intro v10 T10 h10 hq10 G10
  obtain ⟨rfl, rfl⟩ := hq10
  show ownGo _ _ _ _ _ _ _ T10 52 #[.val (.ref al), .val (.int (1 : Int32)), .val (.int (0 : Int32)), .unset] [(.int (10 : Int32)), (.ref al)]
  refine own_anewarr G10 d16_52 (hw _ (List.mem_of_getElem? (i := 128) rfl)) (hw _ (List.mem_of_getElem? (i := 129) rfl)) (by decide) (k := 10) (cap := 10) (by decide) (by decide) (by decide) (by decide) (by decide) ?_
  intro T11 h11 b11 g11 E11 A11 G11
  show ownGo _ _ _ _ _ _ _ T11 55 #[.val (.ref al), .val (.int (1 : Int32)), .val (.int (0 : Int32)), .unset] [(.ref b11), (.ref al)]
  have lt : h0.size > al := E.lt
  have K : Keep h0 h0 [al] := Keep.refl _ _
  have z11 : h0.size ≤ h11.size := E11.1
  replace E := E.ext E11
  replace F1 := F1.ext E11
  replace F2 := F2.ext E11
  replace F3 := F3.ext E11
  replace K := K.ext E11
  have lb : h11.size > b11 := A11.lt
  refine own_dup_x1 G11 d16_55 rfl rfl ?_
  show ownGo _ _ _ _ _ _ _ T11 56 #[.val (.ref al), .val (.int (1 : Int32)), .val (.int (0 : Int32)), .unset] [(.ref b11), (.ref al), (.ref b11)]
  refine own_putF G11 d16_56 (hw _ (List.mem_of_getElem? (i := 67) rfl)) Via.refl F2 E (Or.inl (hw _ (List.mem_of_getElem? (i := 68) rfl))) (hw _ (List.mem_of_getElem? (i := 46) rfl)) (ty := (.array (.object "java/lang/Object"))) (by decide) rfl rfl g ?_
  intro T12 h12 W12 G12
  show ownGo _ _ _ _ _ _ _ T12 59 #[.val (.ref al), .val (.int (1 : Int32)), .val (.int (0 : Int32)), .unset] [(.ref b11)]
  have z12 : h12.size = h11.size := W12.size
  replace E := E.wr W12
  replace F1 := F1.other W12 (Or.inr (slot_ne (Or.inl (hw _ (List.mem_of_getElem? (i := 65) rfl))) (Or.inl (hw _ (List.mem_of_getElem? (i := 68) rfl))) (by decide) (t := .int) (t' := (.array (.object "java/lang/Object"))) (by decide) (by decide)))
  replace F2 := F2.same W12
  replace F3 := F3.other W12 (Or.inr (slot_ne (Or.inl (hw _ (List.mem_of_getElem? (i := 108) rfl))) (Or.inl (hw _ (List.mem_of_getElem? (i := 68) rfl))) (by decide) (t := .int) (t' := (.array (.object "java/lang/Object"))) (by decide) (by decide)))
  replace A11 := A11.other W12 (own_neA (by omega))
  replace K := K.wr W12 (Or.inl (by simp))
  exact own_areturn G12 d16_59 rfl rfl rfl rfl (by decide) (by decide) ⟨b11, rfl, by omega, by omega, K, E, F1, F2, F3, A11⟩
theorem pn_rmGrow : plainFor (⟨"java/util/ArrayList", "grow", "()[Ljava/lang/Object;"⟩ : MethodName) = true := plainFor_of_name (by first | (simp [plainName, overriddenIn]; done) | decide +kernel)
theorem ef_rmGrow (m : MethodId) (al : Addr) : entryFrame m #[(.ref al)] 1 = mkF m 0 #[.val (.ref al)] [] := by first | (simp [entryFrame, mkF, argsToLocals, Value.category]; done) | rfl
set_option maxRecDepth 65536 in
set_option maxHeartbeats 40000000 in
theorem rmGrow (l : Launch) (Z : State) (a0 : Array Value) (hw : ∀ d ∈ tables_1, d.before a0 Z = true) (al dc : Addr) (mc : Int32) (h0 : Heap) (n0 : Nat) (Z0 : n0 ≤ h0.size) (A : ownA0 Z h0 dc al mc) (g : n0 ≤ al) (O : Old Z n0 h0) (SD : Sta Z Z.heap "java/util/ArrayList" "DEFAULTCAPACITY_EMPTY_ELEMENTDATA" "[Ljava/lang/Object;" (.ref dc)) (AD : ∃ f, ownArr Z Z.heap dc (.object "java/lang/Object") 0 f) :
    ownMet l [] (⟨"java/util/ArrayList", "grow", "()[Ljava/lang/Object;"⟩ : MethodName) jdk_38_method_7_code 1 (some (.array (.object "java/lang/Object"))) ({ frames := 2, cells := 1, slots := 10, locals := 29 } : Room) Z n0 #[(.ref al)] h0 (fun v h => ∃ ed, v = some (.ref ed) ∧ h0.size ≤ ed ∧ h.size > ed ∧ Keep h0 h [al] ∧ ownA1 Z h al ed mc 0 (fun _ => .null)) := by
  refine own_body (own := "java/util/ArrayList") (nm := "grow") pn_rmGrow (fun m => ef_rmGrow m al) rfl rfl ?_
  intro p e s m below meth c T0 G0
  show ownGo _ _ _ _ _ _ _ T0 0 #[.val (.ref al)] []
  have A' := A
  obtain ⟨E, F1, F2, F3⟩ := A'
  refine own_aloadN G0 d15_0 rfl rfl ?_
  show ownGo _ _ _ _ _ _ _ T0 1 #[.val (.ref al)] [(.ref al)]
  refine own_aloadN G0 d15_1 rfl rfl ?_
  show ownGo _ _ _ _ _ _ _ T0 2 #[.val (.ref al)] [(.ref al), (.ref al)]
  refine own_getF G0 d15_2 (hw _ (List.mem_of_getElem? (i := 107) rfl)) Via.refl F3 ?_
  intro T13 G13
  show ownGo _ _ _ _ _ _ _ T13 5 #[.val (.ref al)] [(.int (0 : Int32)), (.ref al)]
  refine own_iconst G13 d15_5 ?_
  show ownGo _ _ _ _ _ _ _ T13 6 #[.val (.ref al)] [(.int (1 : Int32)), (.int (0 : Int32)), (.ref al)]
  refine own_iadd G13 d15_6 ?_
  show ownGo _ _ _ _ _ _ _ T13 7 #[.val (.ref al)] [(.int ((0 : Int32) + (1 : Int32))), (.ref al)]
  rw [(by decide : (0 : Int32) + (1 : Int32) = 1)]
  show ownGo _ _ _ _ _ _ _ T13 7 #[.val (.ref al)] [(.int (1 : Int32)), (.ref al)]
  refine own_private G13 d15_7 (y := (⟨"java/util/ArrayList", "grow", "(I)[Ljava/lang/Object;"⟩ : MethodName)) (hw _ (List.mem_of_getElem? (i := 119) rfl)) (hw _ (List.mem_of_getElem? (i := 120) rfl)) (hw _ (List.mem_of_getElem? (i := 122) rfl)) (hw _ (List.mem_of_getElem? (i := 121) rfl)) (hw _ (List.mem_of_getElem? (i := 47) rfl)) (hw _ (List.mem_of_getElem? (i := 123) rfl)) (by decide) (a := al) (argsL := [(.int (1 : Int32))]) (rest := []) E (rmGrowI l Z a0 hw al dc mc h0 n0 Z0 A g O SD AD) rfl rfl rfl (lenOf pd_2 rfl) (W := 0) (Nat.le_of_eq rfl) (by decide) (by decide) (by decide) (by decide) ?_
  intro v14 T14 h14 hq14 G14
  obtain ⟨ed, rfl, q1, q2, K, A1⟩ := hq14
  show ownGo _ _ _ _ _ _ _ T14 10 #[.val (.ref al)] [(.ref ed)]
  exact own_areturn G14 d15_10 rfl rfl rfl rfl (by decide) (by decide) ⟨ed, rfl, q1, q2, K, A1⟩
theorem pn_rmAdd3a : plainFor (⟨"java/util/ArrayList", "add", "(Ljava/lang/Object;[Ljava/lang/Object;I)V"⟩ : MethodName) = true := plainFor_of_name (by first | (simp [plainName, overriddenIn]; done) | decide +kernel)
theorem ef_rmAdd3a (m : MethodId) (al : Addr) (dc : Addr) : entryFrame m #[(.ref al), .null, (.ref dc), (.int (0 : Int32))] 4 = mkF m 0 #[.val (.ref al), .val .null, .val (.ref dc), .val (.int (0 : Int32))] [] := by first | (simp [entryFrame, mkF, argsToLocals, Value.category]; done) | rfl
set_option maxRecDepth 65536 in
set_option maxHeartbeats 40000000 in
theorem rmAdd3a (l : Launch) (Z : State) (a0 : Array Value) (hw : ∀ d ∈ tables_1, d.before a0 Z = true) (al : Addr) (dc : Addr) (mc : Int32) (h0 : Heap) (n0 : Nat) (Z0 : n0 ≤ h0.size) (A : ownA0 Z h0 dc al mc) (g : n0 ≤ al) (O : Old Z n0 h0) (SD : Sta Z Z.heap "java/util/ArrayList" "DEFAULTCAPACITY_EMPTY_ELEMENTDATA" "[Ljava/lang/Object;" (.ref dc)) (AD : ∃ f, ownArr Z Z.heap dc (.object "java/lang/Object") 0 f) :
    ownMet l [] (⟨"java/util/ArrayList", "add", "(Ljava/lang/Object;[Ljava/lang/Object;I)V"⟩ : MethodName) jdk_38_method_24_code 4 none ({ frames := 3, cells := 1, slots := 10, locals := 41 } : Room) Z n0 #[(.ref al), .null, (.ref dc), (.int (0 : Int32))] h0 (fun v h => ∃ ed, v = none ∧ h0.size ≤ ed ∧ h.size > ed ∧ Keep h0 h [al] ∧ ownA1 Z h al ed mc 1 (fun j => if j = 0 then .null else .null)) := by
  refine own_body (own := "java/util/ArrayList") (nm := "add") pn_rmAdd3a (fun m => ef_rmAdd3a m al dc) rfl rfl ?_
  intro p e s m below meth c T0 G0
  show ownGo _ _ _ _ _ _ _ T0 0 #[.val (.ref al), .val .null, .val (.ref dc), .val (.int (0 : Int32))] []
  have A' := A
  obtain ⟨E, F1, F2, F3⟩ := A'
  obtain ⟨fd, AD'⟩ := AD
  refine own_iloadN G0 d14_0 rfl ?_
  show ownGo _ _ _ _ _ _ _ T0 1 #[.val (.ref al), .val .null, .val (.ref dc), .val (.int (0 : Int32))] [(.int (0 : Int32))]
  refine own_aloadN G0 d14_1 rfl rfl ?_
  show ownGo _ _ _ _ _ _ _ T0 2 #[.val (.ref al), .val .null, .val (.ref dc), .val (.int (0 : Int32))] [(.ref dc), (.int (0 : Int32))]
  refine own_arraylength G0 d14_2 (AD'.ext O.2) ?_
  show ownGo _ _ _ _ _ _ _ T0 3 #[.val (.ref al), .val .null, .val (.ref dc), .val (.int (0 : Int32))] [(.int (0 : Int32)), (.int (0 : Int32))]
  refine own_icmp_ne G0 d14_3 (pc' := 11) (by decide) (by decide) (fun hc => False.elim (hc rfl)) (fun hc => ?_)
  show ownGo _ _ _ _ _ _ _ T0 6 #[.val (.ref al), .val .null, .val (.ref dc), .val (.int (0 : Int32))] []
  refine own_aloadN G0 d14_6 rfl rfl ?_
  show ownGo _ _ _ _ _ _ _ T0 7 #[.val (.ref al), .val .null, .val (.ref dc), .val (.int (0 : Int32))] [(.ref al)]
  refine own_private G0 d14_7 (y := (⟨"java/util/ArrayList", "grow", "()[Ljava/lang/Object;"⟩ : MethodName)) (hw _ (List.mem_of_getElem? (i := 114) rfl)) (hw _ (List.mem_of_getElem? (i := 115) rfl)) (hw _ (List.mem_of_getElem? (i := 117) rfl)) (hw _ (List.mem_of_getElem? (i := 116) rfl)) (hw _ (List.mem_of_getElem? (i := 47) rfl)) (hw _ (List.mem_of_getElem? (i := 118) rfl)) (by decide) (a := al) (argsL := []) (rest := []) E (rmGrow l Z a0 hw al dc mc h0 n0 Z0 A g O SD ⟨fd, AD'⟩) rfl rfl rfl (lenOf pd_3 rfl) (W := 0) (Nat.le_of_eq rfl) (by decide) (by decide) (by decide) (by decide) ?_
  intro v15 T15 h15 hq15 G15
  obtain ⟨ed, rfl, q1, q2, K, A1⟩ := hq15
  show ownGo _ _ _ _ _ _ _ T15 10 #[.val (.ref al), .val .null, .val (.ref dc), .val (.int (0 : Int32))] [(.ref ed)]
  have lt : h0.size > al := E.lt
  clear E F1 F2 F3
  obtain ⟨E, F1, F2, F3, R⟩ := A1
  refine own_astoreN G15 d14_10 (L' := #[.val (.ref al), .val .null, .val (.ref ed), .val (.int (0 : Int32))]) rfl rfl ?_
  show ownGo _ _ _ _ _ _ _ T15 11 #[.val (.ref al), .val .null, .val (.ref ed), .val (.int (0 : Int32))] []
  refine own_aloadN G15 d14_11 rfl rfl ?_
  show ownGo _ _ _ _ _ _ _ T15 12 #[.val (.ref al), .val .null, .val (.ref ed), .val (.int (0 : Int32))] [(.ref ed)]
  refine own_iloadN G15 d14_12 rfl ?_
  show ownGo _ _ _ _ _ _ _ T15 13 #[.val (.ref al), .val .null, .val (.ref ed), .val (.int (0 : Int32))] [(.int (0 : Int32)), (.ref ed)]
  refine own_aloadN G15 d14_13 rfl rfl ?_
  show ownGo _ _ _ _ _ _ _ T15 14 #[.val (.ref al), .val .null, .val (.ref ed), .val (.int (0 : Int32))] [.null, (.int (0 : Int32)), (.ref ed)]
  refine own_aastore G15 d14_14 R (i := 0) (by decide) (Or.inl rfl) (by omega) ?_
  intro T16 h16 W16 G16
  show ownGo _ _ _ _ _ _ _ T16 15 #[.val (.ref al), .val .null, .val (.ref ed), .val (.int (0 : Int32))] []
  have z16 : h16.size = h15.size := W16.size
  replace E := E.wr W16
  replace F1 := F1.other W16 (Or.inl (own_neA (by omega)))
  replace F2 := F2.other W16 (Or.inl (own_neA (by omega)))
  replace F3 := F3.other W16 (Or.inl (own_neA (by omega)))
  replace R := R.same W16
  replace K := K.wr W16 (Or.inr (by omega))
  refine own_aloadN G16 d14_15 rfl rfl ?_
  show ownGo _ _ _ _ _ _ _ T16 16 #[.val (.ref al), .val .null, .val (.ref ed), .val (.int (0 : Int32))] [(.ref al)]
  refine own_iloadN G16 d14_16 rfl ?_
  show ownGo _ _ _ _ _ _ _ T16 17 #[.val (.ref al), .val .null, .val (.ref ed), .val (.int (0 : Int32))] [(.int (0 : Int32)), (.ref al)]
  refine own_iconst G16 d14_17 ?_
  show ownGo _ _ _ _ _ _ _ T16 18 #[.val (.ref al), .val .null, .val (.ref ed), .val (.int (0 : Int32))] [(.int (1 : Int32)), (.int (0 : Int32)), (.ref al)]
  refine own_iadd G16 d14_18 ?_
  show ownGo _ _ _ _ _ _ _ T16 19 #[.val (.ref al), .val .null, .val (.ref ed), .val (.int (0 : Int32))] [(.int ((0 : Int32) + (1 : Int32))), (.ref al)]
  rw [(by decide : (0 : Int32) + (1 : Int32) = 1)]
  show ownGo _ _ _ _ _ _ _ T16 19 #[.val (.ref al), .val .null, .val (.ref ed), .val (.int (0 : Int32))] [(.int (1 : Int32)), (.ref al)]
  refine own_putF G16 d14_19 (hw _ (List.mem_of_getElem? (i := 107) rfl)) Via.refl F3 E (Or.inl (hw _ (List.mem_of_getElem? (i := 108) rfl))) (hw _ (List.mem_of_getElem? (i := 46) rfl)) (ty := .int) (by decide) rfl rfl g ?_
  intro T17 h17 W17 G17
  show ownGo _ _ _ _ _ _ _ T17 22 #[.val (.ref al), .val .null, .val (.ref ed), .val (.int (0 : Int32))] []
  have z17 : h17.size = h16.size := W17.size
  replace E := E.wr W17
  replace F1 := F1.other W17 (Or.inr (slot_ne (Or.inl (hw _ (List.mem_of_getElem? (i := 65) rfl))) (Or.inl (hw _ (List.mem_of_getElem? (i := 108) rfl))) (by decide) (t := .int) (t' := .int) (by decide) (by decide)))
  replace F2 := F2.other W17 (Or.inr (slot_ne (Or.inl (hw _ (List.mem_of_getElem? (i := 68) rfl))) (Or.inl (hw _ (List.mem_of_getElem? (i := 108) rfl))) (by decide) (t := (.array (.object "java/lang/Object"))) (t' := .int) (by decide) (by decide)))
  replace F3 := F3.same W17
  replace R := R.other W17 (own_neA (by omega))
  replace K := K.wr W17 (Or.inl (by simp))
  exact own_ret G17 d14_22 rfl (by decide) (by decide) ⟨ed, rfl, q1, by omega, K, E, F1, F2, F3, R⟩
theorem pn_rmAdd3b : plainFor (⟨"java/util/ArrayList", "add", "(Ljava/lang/Object;[Ljava/lang/Object;I)V"⟩ : MethodName) = true := plainFor_of_name (by first | (simp [plainName, overriddenIn]; done) | decide +kernel)
theorem ef_rmAdd3b (m : MethodId) (al : Addr) (ed : Addr) (p3 : Int32) : entryFrame m #[(.ref al), .null, (.ref ed), (.int p3)] 4 = mkF m 0 #[.val (.ref al), .val .null, .val (.ref ed), .val (.int p3)] [] := by first | (simp [entryFrame, mkF, argsToLocals, Value.category]; done) | rfl
set_option maxRecDepth 65536 in
set_option maxHeartbeats 40000000 in
theorem rmAdd3b (l : Launch) (Z : State) (a0 : Array Value) (hw : ∀ d ∈ tables_1, d.before a0 Z = true) (al : Addr) (ed : Addr) (p3 : Int32) (mc : Int32) (k : Nat) (f : Nat → Value) (h0 : Heap) (n0 : Nat) (Z0 : n0 ≤ h0.size) (A : ownA1 Z h0 al ed mc k f) (g : n0 ≤ al) (gd : n0 ≤ ed) (ne : al ≠ ed) (hk : k < 10) (e3 : p3 = Int32.ofNat k) :
    ownMet l [] (⟨"java/util/ArrayList", "add", "(Ljava/lang/Object;[Ljava/lang/Object;I)V"⟩ : MethodName) jdk_38_method_24_code 4 none ({ frames := 0, cells := 0, slots := 0, locals := 0 } : Room) Z n0 #[(.ref al), .null, (.ref ed), (.int p3)] h0 (fun v h => v = none ∧ Keep h0 h [al, ed] ∧ ownA1 Z h al ed mc (k + 1) (fun j => if j = k then .null else f j)) := by
  refine own_body (own := "java/util/ArrayList") (nm := "add") pn_rmAdd3b (fun m => ef_rmAdd3b m al ed p3) rfl rfl ?_
  intro p e s m below meth c T0 G0
  show ownGo _ _ _ _ _ _ _ T0 0 #[.val (.ref al), .val .null, .val (.ref ed), .val (.int p3)] []
  subst e3
  show ownGo _ _ _ _ _ _ _ T0 0 #[.val (.ref al), .val .null, .val (.ref ed), .val (.int (Int32.ofNat k))] []
  obtain ⟨E, F1, F2, F3, R⟩ := A
  refine own_iloadN G0 d14_0 rfl ?_
  show ownGo _ _ _ _ _ _ _ T0 1 #[.val (.ref al), .val .null, .val (.ref ed), .val (.int (Int32.ofNat k))] [(.int (Int32.ofNat k))]
  refine own_aloadN G0 d14_1 rfl rfl ?_
  show ownGo _ _ _ _ _ _ _ T0 2 #[.val (.ref al), .val .null, .val (.ref ed), .val (.int (Int32.ofNat k))] [(.ref ed), (.int (Int32.ofNat k))]
  refine own_arraylength G0 d14_2 R.arr ?_
  show ownGo _ _ _ _ _ _ _ T0 3 #[.val (.ref al), .val .null, .val (.ref ed), .val (.int (Int32.ofNat k))] [(.int (10 : Int32)), (.int (Int32.ofNat k))]
  refine own_icmp_ne G0 d14_3 (pc' := 11) (by decide) (by decide) (fun hc => ?_) (fun hc => False.elim (absurd (own_injN (n := 10) (by omega) (by decide) hc) (by omega)))
  show ownGo _ _ _ _ _ _ _ T0 11 #[.val (.ref al), .val .null, .val (.ref ed), .val (.int (Int32.ofNat k))] []
  refine own_aloadN G0 d14_11 rfl rfl ?_
  show ownGo _ _ _ _ _ _ _ T0 12 #[.val (.ref al), .val .null, .val (.ref ed), .val (.int (Int32.ofNat k))] [(.ref ed)]
  refine own_iloadN G0 d14_12 rfl ?_
  show ownGo _ _ _ _ _ _ _ T0 13 #[.val (.ref al), .val .null, .val (.ref ed), .val (.int (Int32.ofNat k))] [(.int (Int32.ofNat k)), (.ref ed)]
  refine own_aloadN G0 d14_13 rfl rfl ?_
  show ownGo _ _ _ _ _ _ _ T0 14 #[.val (.ref al), .val .null, .val (.ref ed), .val (.int (Int32.ofNat k))] [.null, (.int (Int32.ofNat k)), (.ref ed)]
  refine own_aastore G0 d14_14 R  (own_ixN hk (by decide)) (Or.inl rfl) gd ?_
  intro T18 h18 W18 G18
  show ownGo _ _ _ _ _ _ _ T18 15 #[.val (.ref al), .val .null, .val (.ref ed), .val (.int (Int32.ofNat k))] []
  have K : Keep h0 h18 [al, ed] := (Keep.refl h0 [al, ed]).wr W18 (Or.inl (by simp))
  have z18 : h18.size = h0.size := W18.size
  replace E := E.wr W18
  replace F1 := F1.other W18 (Or.inl ne)
  replace F2 := F2.other W18 (Or.inl ne)
  replace F3 := F3.other W18 (Or.inl ne)
  replace R := R.same W18
  refine own_aloadN G18 d14_15 rfl rfl ?_
  show ownGo _ _ _ _ _ _ _ T18 16 #[.val (.ref al), .val .null, .val (.ref ed), .val (.int (Int32.ofNat k))] [(.ref al)]
  refine own_iloadN G18 d14_16 rfl ?_
  show ownGo _ _ _ _ _ _ _ T18 17 #[.val (.ref al), .val .null, .val (.ref ed), .val (.int (Int32.ofNat k))] [(.int (Int32.ofNat k)), (.ref al)]
  refine own_iconst G18 d14_17 ?_
  show ownGo _ _ _ _ _ _ _ T18 18 #[.val (.ref al), .val .null, .val (.ref ed), .val (.int (Int32.ofNat k))] [(.int (1 : Int32)), (.int (Int32.ofNat k)), (.ref al)]
  refine own_iadd G18 d14_18 ?_
  show ownGo _ _ _ _ _ _ _ T18 19 #[.val (.ref al), .val .null, .val (.ref ed), .val (.int (Int32.ofNat k))] [(.int ((Int32.ofNat k) + (1 : Int32))), (.ref al)]
  rw [own_succN k]
  show ownGo _ _ _ _ _ _ _ T18 19 #[.val (.ref al), .val .null, .val (.ref ed), .val (.int (Int32.ofNat k))] [(.int (Int32.ofNat (k + 1))), (.ref al)]
  refine own_putF G18 d14_19 (hw _ (List.mem_of_getElem? (i := 107) rfl)) Via.refl F3 E (Or.inl (hw _ (List.mem_of_getElem? (i := 108) rfl))) (hw _ (List.mem_of_getElem? (i := 46) rfl)) (ty := .int) (by decide) rfl rfl g ?_
  intro T19 h19 W19 G19
  show ownGo _ _ _ _ _ _ _ T19 22 #[.val (.ref al), .val .null, .val (.ref ed), .val (.int (Int32.ofNat k))] []
  have z19 : h19.size = h18.size := W19.size
  replace E := E.wr W19
  replace F1 := F1.other W19 (Or.inr (slot_ne (Or.inl (hw _ (List.mem_of_getElem? (i := 65) rfl))) (Or.inl (hw _ (List.mem_of_getElem? (i := 108) rfl))) (by decide) (t := .int) (t' := .int) (by decide) (by decide)))
  replace F2 := F2.other W19 (Or.inr (slot_ne (Or.inl (hw _ (List.mem_of_getElem? (i := 68) rfl))) (Or.inl (hw _ (List.mem_of_getElem? (i := 108) rfl))) (by decide) (t := (.array (.object "java/lang/Object"))) (t' := .int) (by decide) (by decide)))
  replace F3 := F3.same W19
  replace R := R.other W19 ne.symm
  replace K := K.wr W19 (Or.inl (by simp))
  exact own_ret G19 d14_22 rfl (by decide) (by decide) ⟨rfl, K, E, F1, F2, F3, R⟩
theorem pn_rmAdda : plainFor (⟨"java/util/ArrayList", "add", "(Ljava/lang/Object;)Z"⟩ : MethodName) = true := plainFor_of_name (by first | (simp [plainName, overriddenIn]; done) | decide +kernel)
theorem ef_rmAdda (m : MethodId) (al : Addr) : entryFrame m #[(.ref al), .null] 2 = mkF m 0 #[.val (.ref al), .val .null] [] := by first | (simp [entryFrame, mkF, argsToLocals, Value.category]; done) | rfl
set_option maxRecDepth 65536 in
set_option maxHeartbeats 40000000 in
theorem rmAdda (l : Launch) (Z : State) (a0 : Array Value) (hw : ∀ d ∈ tables_1, d.before a0 Z = true) (al : Addr) (dc : Addr) (mc : Int32) (h0 : Heap) (n0 : Nat) (Z0 : n0 ≤ h0.size) (A : ownA0 Z h0 dc al mc) (g : n0 ≤ al) (O : Old Z n0 h0) (SD : Sta Z Z.heap "java/util/ArrayList" "DEFAULTCAPACITY_EMPTY_ELEMENTDATA" "[Ljava/lang/Object;" (.ref dc)) (AD : ∃ f, ownArr Z Z.heap dc (.object "java/lang/Object") 0 f) :
    ownMet l [] (⟨"java/util/ArrayList", "add", "(Ljava/lang/Object;)Z"⟩ : MethodName) jdk_38_method_25_code 2 (some .boolean) ({ frames := 4, cells := 1, slots := 10, locals := 56 } : Room) Z n0 #[(.ref al), .null] h0 (fun v h => ∃ ed, v = some (.int 1) ∧ h0.size ≤ ed ∧ h.size > ed ∧ Keep h0 h [al] ∧ ownA1 Z h al ed (mc + 1) 1 (fun j => if j = 0 then .null else .null)) := by
  refine own_body (own := "java/util/ArrayList") (nm := "add") pn_rmAdda (fun m => ef_rmAdda m al) rfl rfl ?_
  intro p e s m below meth c T0 G0
  show ownGo _ _ _ _ _ _ _ T0 0 #[.val (.ref al), .val .null] []
  obtain ⟨E, F1, F2, F3⟩ := A
  have K : Keep h0 h0 [al] := Keep.refl _ _
  refine own_aloadN G0 d13_0 rfl rfl ?_
  show ownGo _ _ _ _ _ _ _ T0 1 #[.val (.ref al), .val .null] [(.ref al)]
  refine own_dup G0 d13_1 rfl ?_
  show ownGo _ _ _ _ _ _ _ T0 2 #[.val (.ref al), .val .null] [(.ref al), (.ref al)]
  refine own_getF G0 d13_2 (hw _ (List.mem_of_getElem? (i := 105) rfl)) (Via.of (hw _ (List.mem_of_getElem? (i := 106) rfl))) F1 ?_
  intro T20 G20
  show ownGo _ _ _ _ _ _ _ T20 5 #[.val (.ref al), .val .null] [(.int mc), (.ref al)]
  refine own_iconst G20 d13_5 ?_
  show ownGo _ _ _ _ _ _ _ T20 6 #[.val (.ref al), .val .null] [(.int (1 : Int32)), (.int mc), (.ref al)]
  refine own_iadd G20 d13_6 ?_
  show ownGo _ _ _ _ _ _ _ T20 7 #[.val (.ref al), .val .null] [(.int (mc + (1 : Int32))), (.ref al)]
  refine own_putF G20 d13_7 (hw _ (List.mem_of_getElem? (i := 105) rfl)) (Via.of (hw _ (List.mem_of_getElem? (i := 106) rfl))) F1 E (Or.inl (hw _ (List.mem_of_getElem? (i := 65) rfl))) (hw _ (List.mem_of_getElem? (i := 46) rfl)) (ty := .int) (by decide) rfl rfl g ?_
  intro T21 h21 W21 G21
  show ownGo _ _ _ _ _ _ _ T21 10 #[.val (.ref al), .val .null] []
  have z21 : h21.size = h0.size := W21.size
  replace E := E.wr W21
  replace F1 := F1.same W21
  replace F2 := F2.other W21 (Or.inr (slot_ne (Or.inl (hw _ (List.mem_of_getElem? (i := 68) rfl))) (Or.inl (hw _ (List.mem_of_getElem? (i := 65) rfl))) (by decide) (t := (.array (.object "java/lang/Object"))) (t' := .int) (by decide) (by decide)))
  replace F3 := F3.other W21 (Or.inr (slot_ne (Or.inl (hw _ (List.mem_of_getElem? (i := 108) rfl))) (Or.inl (hw _ (List.mem_of_getElem? (i := 65) rfl))) (by decide) (t := .int) (t' := .int) (by decide) (by decide)))
  replace Z0 : n0 ≤ h21.size := by rw [W21.size]; exact Z0
  replace O := O.wr W21 g
  replace K := K.wr W21 (Or.inl (by simp))
  refine own_aloadN G21 d13_10 rfl rfl ?_
  show ownGo _ _ _ _ _ _ _ T21 11 #[.val (.ref al), .val .null] [(.ref al)]
  refine own_aloadN G21 d13_11 rfl rfl ?_
  show ownGo _ _ _ _ _ _ _ T21 12 #[.val (.ref al), .val .null] [.null, (.ref al)]
  refine own_aloadN G21 d13_12 rfl rfl ?_
  show ownGo _ _ _ _ _ _ _ T21 13 #[.val (.ref al), .val .null] [(.ref al), .null, (.ref al)]
  refine own_getF G21 d13_13 (hw _ (List.mem_of_getElem? (i := 67) rfl)) Via.refl F2 ?_
  intro T22 G22
  show ownGo _ _ _ _ _ _ _ T22 16 #[.val (.ref al), .val .null] [(.ref dc), .null, (.ref al)]
  refine own_aloadN G22 d13_16 rfl rfl ?_
  show ownGo _ _ _ _ _ _ _ T22 17 #[.val (.ref al), .val .null] [(.ref al), (.ref dc), .null, (.ref al)]
  refine own_getF G22 d13_17 (hw _ (List.mem_of_getElem? (i := 107) rfl)) Via.refl F3 ?_
  intro T23 G23
  show ownGo _ _ _ _ _ _ _ T23 20 #[.val (.ref al), .val .null] [(.int (0 : Int32)), (.ref dc), .null, (.ref al)]
  refine own_private G23 d13_20 (y := (⟨"java/util/ArrayList", "add", "(Ljava/lang/Object;[Ljava/lang/Object;I)V"⟩ : MethodName)) (hw _ (List.mem_of_getElem? (i := 109) rfl)) (hw _ (List.mem_of_getElem? (i := 110) rfl)) (hw _ (List.mem_of_getElem? (i := 112) rfl)) (hw _ (List.mem_of_getElem? (i := 111) rfl)) (hw _ (List.mem_of_getElem? (i := 47) rfl)) (hw _ (List.mem_of_getElem? (i := 113) rfl)) (by decide) (a := al) (argsL := [.null, (.ref dc), (.int (0 : Int32))]) (rest := []) E (rmAdd3a l Z a0 hw al dc (mc + 1) h21 n0 Z0 ⟨E, F1, F2, F3⟩ g O SD AD) rfl rfl rfl (lenOf pd_4 rfl) (W := 0) (Nat.le_of_eq rfl) (by decide) (by decide) (by decide) (by decide) ?_
  intro v24 T24 h24 hq24 G24
  obtain ⟨ed, rfl, q1, q2, K', A1⟩ := hq24
  show ownGo _ _ _ _ _ _ _ T24 23 #[.val (.ref al), .val .null] []
  refine own_iconst G24 d13_23 ?_
  show ownGo _ _ _ _ _ _ _ T24 24 #[.val (.ref al), .val .null] [(.int (1 : Int32))]
  exact own_zreturn G24 d13_24 rfl (by decide) (by decide) ⟨ed, rfl, by omega, q2, K.trans K' (allS (Or.inl (by simp)) all0), A1⟩
theorem pn_rmAddb : plainFor (⟨"java/util/ArrayList", "add", "(Ljava/lang/Object;)Z"⟩ : MethodName) = true := plainFor_of_name (by first | (simp [plainName, overriddenIn]; done) | decide +kernel)
theorem ef_rmAddb (m : MethodId) (al : Addr) : entryFrame m #[(.ref al), .null] 2 = mkF m 0 #[.val (.ref al), .val .null] [] := by first | (simp [entryFrame, mkF, argsToLocals, Value.category]; done) | rfl
set_option maxRecDepth 65536 in
set_option maxHeartbeats 40000000 in
theorem rmAddb (l : Launch) (Z : State) (a0 : Array Value) (hw : ∀ d ∈ tables_1, d.before a0 Z = true) (al : Addr) (ed : Addr) (mc : Int32) (k : Nat) (f : Nat → Value) (h0 : Heap) (n0 : Nat) (Z0 : n0 ≤ h0.size) (A : ownA1 Z h0 al ed mc k f) (g : n0 ≤ al) (gd : n0 ≤ ed) (ne : al ≠ ed) (hk : k < 10) :
    ownMet l [] (⟨"java/util/ArrayList", "add", "(Ljava/lang/Object;)Z"⟩ : MethodName) jdk_38_method_25_code 2 (some .boolean) ({ frames := 1, cells := 0, slots := 0, locals := 15 } : Room) Z n0 #[(.ref al), .null] h0 (fun v h => v = some (.int 1) ∧ Keep h0 h [al, ed] ∧ ownA1 Z h al ed (mc + 1) (k + 1) (fun j => if j = k then .null else f j)) := by
  refine own_body (own := "java/util/ArrayList") (nm := "add") pn_rmAddb (fun m => ef_rmAddb m al) rfl rfl ?_
  intro p e s m below meth c T0 G0
  show ownGo _ _ _ _ _ _ _ T0 0 #[.val (.ref al), .val .null] []
  obtain ⟨E, F1, F2, F3, R⟩ := A
  have K : Keep h0 h0 [al, ed] := Keep.refl _ _
  refine own_aloadN G0 d13_0 rfl rfl ?_
  show ownGo _ _ _ _ _ _ _ T0 1 #[.val (.ref al), .val .null] [(.ref al)]
  refine own_dup G0 d13_1 rfl ?_
  show ownGo _ _ _ _ _ _ _ T0 2 #[.val (.ref al), .val .null] [(.ref al), (.ref al)]
  refine own_getF G0 d13_2 (hw _ (List.mem_of_getElem? (i := 105) rfl)) (Via.of (hw _ (List.mem_of_getElem? (i := 106) rfl))) F1 ?_
  intro T25 G25
  show ownGo _ _ _ _ _ _ _ T25 5 #[.val (.ref al), .val .null] [(.int mc), (.ref al)]
  refine own_iconst G25 d13_5 ?_
  show ownGo _ _ _ _ _ _ _ T25 6 #[.val (.ref al), .val .null] [(.int (1 : Int32)), (.int mc), (.ref al)]
  refine own_iadd G25 d13_6 ?_
  show ownGo _ _ _ _ _ _ _ T25 7 #[.val (.ref al), .val .null] [(.int (mc + (1 : Int32))), (.ref al)]
  refine own_putF G25 d13_7 (hw _ (List.mem_of_getElem? (i := 105) rfl)) (Via.of (hw _ (List.mem_of_getElem? (i := 106) rfl))) F1 E (Or.inl (hw _ (List.mem_of_getElem? (i := 65) rfl))) (hw _ (List.mem_of_getElem? (i := 46) rfl)) (ty := .int) (by decide) rfl rfl g ?_
  intro T26 h26 W26 G26
  show ownGo _ _ _ _ _ _ _ T26 10 #[.val (.ref al), .val .null] []
  have z26 : h26.size = h0.size := W26.size
  replace E := E.wr W26
  replace F1 := F1.same W26
  replace F2 := F2.other W26 (Or.inr (slot_ne (Or.inl (hw _ (List.mem_of_getElem? (i := 68) rfl))) (Or.inl (hw _ (List.mem_of_getElem? (i := 65) rfl))) (by decide) (t := (.array (.object "java/lang/Object"))) (t' := .int) (by decide) (by decide)))
  replace F3 := F3.other W26 (Or.inr (slot_ne (Or.inl (hw _ (List.mem_of_getElem? (i := 108) rfl))) (Or.inl (hw _ (List.mem_of_getElem? (i := 65) rfl))) (by decide) (t := .int) (t' := .int) (by decide) (by decide)))
  replace R := R.other W26 ne.symm
  replace Z0 : n0 ≤ h26.size := by rw [W26.size]; exact Z0
  replace K := K.wr W26 (Or.inl (by simp))
  refine own_aloadN G26 d13_10 rfl rfl ?_
  show ownGo _ _ _ _ _ _ _ T26 11 #[.val (.ref al), .val .null] [(.ref al)]
  refine own_aloadN G26 d13_11 rfl rfl ?_
  show ownGo _ _ _ _ _ _ _ T26 12 #[.val (.ref al), .val .null] [.null, (.ref al)]
  refine own_aloadN G26 d13_12 rfl rfl ?_
  show ownGo _ _ _ _ _ _ _ T26 13 #[.val (.ref al), .val .null] [(.ref al), .null, (.ref al)]
  refine own_getF G26 d13_13 (hw _ (List.mem_of_getElem? (i := 67) rfl)) Via.refl F2 ?_
  intro T27 G27
  show ownGo _ _ _ _ _ _ _ T27 16 #[.val (.ref al), .val .null] [(.ref ed), .null, (.ref al)]
  refine own_aloadN G27 d13_16 rfl rfl ?_
  show ownGo _ _ _ _ _ _ _ T27 17 #[.val (.ref al), .val .null] [(.ref al), (.ref ed), .null, (.ref al)]
  refine own_getF G27 d13_17 (hw _ (List.mem_of_getElem? (i := 107) rfl)) Via.refl F3 ?_
  intro T28 G28
  show ownGo _ _ _ _ _ _ _ T28 20 #[.val (.ref al), .val .null] [(.int (Int32.ofNat k)), (.ref ed), .null, (.ref al)]
  refine own_private G28 d13_20 (y := (⟨"java/util/ArrayList", "add", "(Ljava/lang/Object;[Ljava/lang/Object;I)V"⟩ : MethodName)) (hw _ (List.mem_of_getElem? (i := 109) rfl)) (hw _ (List.mem_of_getElem? (i := 110) rfl)) (hw _ (List.mem_of_getElem? (i := 112) rfl)) (hw _ (List.mem_of_getElem? (i := 111) rfl)) (hw _ (List.mem_of_getElem? (i := 47) rfl)) (hw _ (List.mem_of_getElem? (i := 113) rfl)) (by decide) (a := al) (argsL := [.null, (.ref ed), (.int (Int32.ofNat k))]) (rest := []) E (rmAdd3b l Z a0 hw al ed _ (mc + 1) k f h26 n0 Z0 ⟨E, F1, F2, F3, R⟩ g gd ne hk rfl) rfl rfl rfl (lenOf pd_4 rfl) (W := 0) (Nat.le_of_eq rfl) (by decide) (by decide) (by decide) (by decide) ?_
  intro v29 T29 h29 hq29 G29
  obtain ⟨rfl, K', A1⟩ := hq29
  show ownGo _ _ _ _ _ _ _ T29 23 #[.val (.ref al), .val .null] []
  refine own_iconst G29 d13_23 ?_
  show ownGo _ _ _ _ _ _ _ T29 24 #[.val (.ref al), .val .null] [(.int (1 : Int32))]
  exact own_zreturn G29 d13_24 rfl (by decide) (by decide) ⟨rfl, K.trans K' (allS (Or.inl (by simp)) (allS (Or.inl (by simp)) all0)), A1⟩
theorem pn_rmCan : plainFor (⟨"java/lang/StringLatin1", "canEncode", "(C)Z"⟩ : MethodName) = true := plainFor_of_name (by first | (simp [plainName, overriddenIn]; done) | decide +kernel)
theorem ef_rmCan (m : MethodId) (p1 : Int32) : entryFrame m #[(.int p1)] 1 = mkF m 0 #[.val (.int p1)] [] := by first | (simp [entryFrame, mkF, argsToLocals, Value.category]; done) | rfl
set_option maxRecDepth 65536 in
set_option maxHeartbeats 40000000 in
theorem rmCan (l : Launch) (Z : State) (a0 : Array Value) (hw : ∀ d ∈ tables_1, d.before a0 Z = true) (p1 : Int32) (h0 : Heap) (n0 : Nat) (Z0 : n0 ≤ h0.size) (hp : ¬ (255 : Int32) < p1) :
    ownMet l [] (⟨"java/lang/StringLatin1", "canEncode", "(C)Z"⟩ : MethodName) jdk_43_method_3_code 1 (some .boolean) ({ frames := 0, cells := 0, slots := 0, locals := 0 } : Room) Z n0 #[(.int p1)] h0 (fun v h => v = some (.int 1) ∧ h0 = h) := by
  refine own_body (own := "java/lang/StringLatin1") (nm := "canEncode") pn_rmCan (fun m => ef_rmCan m p1) rfl rfl ?_
  intro p e s m below meth c T0 G0
  show ownGo _ _ _ _ _ _ _ T0 0 #[.val (.int p1)] []
  refine own_iloadN G0 d2_0 rfl ?_
  show ownGo _ _ _ _ _ _ _ T0 1 #[.val (.int p1)] [(.int p1)]
  refine own_sipush G0 d2_1 ?_
  show ownGo _ _ _ _ _ _ _ T0 4 #[.val (.int p1)] [(.int (255 : Int32)), (.int p1)]
  refine own_icmp_gt G0 d2_4 (pc' := 11) (by decide) (by decide) (fun hc => False.elim (hp hc)) (fun hc => ?_)
  show ownGo _ _ _ _ _ _ _ T0 7 #[.val (.int p1)] []
  refine own_iconst G0 d2_7 ?_
  show ownGo _ _ _ _ _ _ _ T0 8 #[.val (.int p1)] [(.int (1 : Int32))]
  refine own_goto G0 d2_8 (pc' := 12) (by decide) (by decide) ?_
  show ownGo _ _ _ _ _ _ _ T0 12 #[.val (.int p1)] [(.int (1 : Int32))]
  exact own_zreturn G0 d2_12 rfl (by decide) (by decide) ⟨rfl, rfl⟩
theorem pn_rmToB : plainFor (⟨"java/lang/StringLatin1", "toBytes", "(C)[B"⟩ : MethodName) = true := plainFor_of_name (by first | (simp [plainName, overriddenIn]; done) | decide +kernel)
theorem ef_rmToB (m : MethodId) (p1 : Int32) : entryFrame m #[(.int p1)] 1 = mkF m 0 #[.val (.int p1)] [] := by first | (simp [entryFrame, mkF, argsToLocals, Value.category]; done) | rfl
set_option maxRecDepth 65536 in
set_option maxHeartbeats 40000000 in
theorem rmToB (l : Launch) (Z : State) (a0 : Array Value) (hw : ∀ d ∈ tables_1, d.before a0 Z = true) (p1 : Int32) (h0 : Heap) (n0 : Nat) (Z0 : n0 ≤ h0.size) :
    ownMet l [] (⟨"java/lang/StringLatin1", "toBytes", "(C)[B"⟩ : MethodName) jdk_43_method_46_code 1 (some (.array .byte)) ({ frames := 0, cells := 1, slots := 1, locals := 0 } : Room) Z n0 #[(.int p1)] h0 (fun v h => ∃ b, v = some (.ref b) ∧ h0.size ≤ b ∧ Keep h0 h []) := by
  refine own_body (own := "java/lang/StringLatin1") (nm := "toBytes") pn_rmToB (fun m => ef_rmToB m p1) rfl rfl ?_
  intro p e s m below meth c T0 G0
  show ownGo _ _ _ _ _ _ _ T0 0 #[.val (.int p1)] []
  refine own_iconst G0 d3_0 ?_
  show ownGo _ _ _ _ _ _ _ T0 1 #[.val (.int p1)] [(.int (1 : Int32))]
  refine own_newarr G0 d3_1 (hw _ (List.mem_of_getElem? (i := 14) rfl)) (by decide) (k := 1) (cap := 1) (by decide) (by decide) (by decide) (by decide) (by decide) ?_
  intro T30 h30 b30 g30 E30 A30 G30
  replace A30 : ownArr Z h30 b30 .byte 1 (fun _ => .int 0) := A30
  show ownGo _ _ _ _ _ _ _ T30 3 #[.val (.int p1)] [(.ref b30)]
  have fr : n0 ≤ b30 := Nat.le_trans Z0 (Nat.le_of_eq g30.symm)
  refine own_dup G30 d3_3 rfl ?_
  show ownGo _ _ _ _ _ _ _ T30 4 #[.val (.int p1)] [(.ref b30), (.ref b30)]
  refine own_iconst G30 d3_4 ?_
  show ownGo _ _ _ _ _ _ _ T30 5 #[.val (.int p1)] [(.int (0 : Int32)), (.ref b30), (.ref b30)]
  refine own_iloadN G30 d3_5 rfl ?_
  show ownGo _ _ _ _ _ _ _ T30 6 #[.val (.int p1)] [(.int p1), (.int (0 : Int32)), (.ref b30), (.ref b30)]
  refine own_i2b G30 d3_6 ?_
  show ownGo _ _ _ _ _ _ _ T30 7 #[.val (.int p1)] [(.int (p1.toInt8.toInt32)), (.int (0 : Int32)), (.ref b30), (.ref b30)]
  refine own_bastore G30 d3_7 A30 (i := 0) (by decide) fr ?_
  intro T31 h31 W31 G31
  show ownGo _ _ _ _ _ _ _ T31 8 #[.val (.int p1)] [(.ref b30)]
  exact own_areturn G31 d3_8 rfl rfl rfl rfl (by decide) (by decide) ⟨b30, rfl, Nat.le_of_eq g30.symm, ((Keep.refl h0 []).ext E30).wr W31 (Or.inr (Nat.le_of_eq g30.symm))⟩
theorem pn_rmStr : plainFor (⟨"java/lang/String", "<init>", "([BB)V"⟩ : MethodName) = true := plainFor_of_name (by first | (simp [plainName, overriddenIn]; done) | decide +kernel)
theorem ef_rmStr (m : MethodId) (st : Addr) (by1 : Addr) : entryFrame m #[(.ref st), (.ref by1), (.int (0 : Int32))] 3 = mkF m 0 #[.val (.ref st), .val (.ref by1), .val (.int (0 : Int32))] [] := by first | (simp [entryFrame, mkF, argsToLocals, Value.category]; done) | rfl
set_option maxRecDepth 65536 in
set_option maxHeartbeats 40000000 in
theorem rmStr (l : Launch) (Z : State) (a0 : Array Value) (hw : ∀ d ∈ tables_1, d.before a0 Z = true) (st by1 : Addr) (u1 u2 : Value) (h0 : Heap) (n0 : Nat) (Z0 : n0 ≤ h0.size) (E : Exa Z h0 st "java/lang/String") (F1 : Fld Z h0 st "java/lang/String" "value" "[B" u1) (F2 : Fld Z h0 st "java/lang/String" "coder" "B" u2) (g : n0 ≤ st) :
    ownMet l [] (⟨"java/lang/String", "<init>", "([BB)V"⟩ : MethodName) jdk_42_method_151_code 3 none ({ frames := 1, cells := 0, slots := 0, locals := 12 } : Room) Z n0 #[(.ref st), (.ref by1), (.int (0 : Int32))] h0 (fun v h => v = none ∧ Keep h0 h [st] ∧ Exa Z h st "java/lang/String") := by
  refine own_body (own := "java/lang/String") (nm := "<init>") pn_rmStr (fun m => ef_rmStr m st by1) rfl rfl ?_
  intro p e s m below meth c T0 G0
  show ownGo _ _ _ _ _ _ _ T0 0 #[.val (.ref st), .val (.ref by1), .val (.int (0 : Int32))] []
  refine own_aloadN G0 d4_0 rfl rfl ?_
  show ownGo _ _ _ _ _ _ _ T0 1 #[.val (.ref st), .val (.ref by1), .val (.int (0 : Int32))] [(.ref st)]
  refine own_initO G0 d4_1 (hw _ (List.mem_of_getElem? (i := 19) rfl)) (hw _ (List.mem_of_getElem? (i := 20) rfl)) (hw _ (List.mem_of_getElem? (i := 21) rfl)) rfl (by decide) (W := 0) (Nat.le_of_eq rfl) (by decide) ?_
  intro T32 G32
  show ownGo _ _ _ _ _ _ _ T32 4 #[.val (.ref st), .val (.ref by1), .val (.int (0 : Int32))] []
  have K : Keep h0 h0 [st] := Keep.refl _ _
  refine own_aloadN G32 d4_4 rfl rfl ?_
  show ownGo _ _ _ _ _ _ _ T32 5 #[.val (.ref st), .val (.ref by1), .val (.int (0 : Int32))] [(.ref st)]
  refine own_aloadN G32 d4_5 rfl rfl ?_
  show ownGo _ _ _ _ _ _ _ T32 6 #[.val (.ref st), .val (.ref by1), .val (.int (0 : Int32))] [(.ref by1), (.ref st)]
  refine own_putF G32 d4_6 (hw _ (List.mem_of_getElem? (i := 22) rfl)) Via.refl F1 E (Or.inr ⟨(hw _ (List.mem_of_getElem? (i := 23) rfl)), rfl, rfl⟩) (hw _ (List.mem_of_getElem? (i := 10) rfl)) (ty := (.array .byte)) (by decide) rfl rfl g ?_
  intro T33 h33 W33 G33
  show ownGo _ _ _ _ _ _ _ T33 9 #[.val (.ref st), .val (.ref by1), .val (.int (0 : Int32))] []
  have z33 : h33.size = h0.size := W33.size
  replace E := E.wr W33
  replace F1 := F1.same W33
  replace F2 := F2.other W33 (Or.inr (slot_ne (Or.inr (hw _ (List.mem_of_getElem? (i := 25) rfl))) (Or.inr (hw _ (List.mem_of_getElem? (i := 23) rfl))) (by decide) (t := .byte) (t' := (.array .byte)) (by decide) (by decide)))
  replace Z0 : n0 ≤ h33.size := by rw [W33.size]; exact Z0
  replace K := K.wr W33 (Or.inl (by simp))
  refine own_aloadN G33 d4_9 rfl rfl ?_
  show ownGo _ _ _ _ _ _ _ T33 10 #[.val (.ref st), .val (.ref by1), .val (.int (0 : Int32))] [(.ref st)]
  refine own_iloadN G33 d4_10 rfl ?_
  show ownGo _ _ _ _ _ _ _ T33 11 #[.val (.ref st), .val (.ref by1), .val (.int (0 : Int32))] [(.int (0 : Int32)), (.ref st)]
  refine own_putF G33 d4_11 (hw _ (List.mem_of_getElem? (i := 24) rfl)) Via.refl F2 E (Or.inr ⟨(hw _ (List.mem_of_getElem? (i := 25) rfl)), rfl, rfl⟩) (hw _ (List.mem_of_getElem? (i := 10) rfl)) (ty := .byte) (by decide) rfl rfl g ?_
  intro T34 h34 W34 G34
  show ownGo _ _ _ _ _ _ _ T34 14 #[.val (.ref st), .val (.ref by1), .val (.int (0 : Int32))] []
  have z34 : h34.size = h33.size := W34.size
  replace E := E.wr W34
  replace F1 := F1.other W34 (Or.inr (slot_ne (Or.inr (hw _ (List.mem_of_getElem? (i := 23) rfl))) (Or.inr (hw _ (List.mem_of_getElem? (i := 25) rfl))) (by decide) (t := (.array .byte)) (t' := .byte) (by decide) (by decide)))
  replace F2 := F2.same W34
  replace Z0 : n0 ≤ h34.size := by rw [W34.size]; exact Z0
  replace K := K.wr W34 (Or.inl (by simp))
  exact own_ret G34 d4_14 rfl (by decide) (by decide) ⟨rfl, K, E⟩
theorem pn_rmVal : plainFor (⟨"java/lang/String", "valueOf", "(C)Ljava/lang/String;"⟩ : MethodName) = true := plainFor_of_name (by first | (simp [plainName, overriddenIn]; done) | decide +kernel)
theorem ef_rmVal (m : MethodId) (p1 : Int32) : entryFrame m #[(.int p1)] 1 = mkF m 0 #[.val (.int p1)] [] := by first | (simp [entryFrame, mkF, argsToLocals, Value.category]; done) | rfl
set_option maxRecDepth 65536 in
set_option maxHeartbeats 40000000 in
theorem rmVal (l : Launch) (Z : State) (a0 : Array Value) (hw : ∀ d ∈ tables_1, d.before a0 Z = true) (p1 cs : Int32) (h0 : Heap) (n0 : Nat) (Z0 : n0 ≤ h0.size) (hp : ¬ (255 : Int32) < p1) (SC : Sta Z Z.heap "java/lang/String" "COMPACT_STRINGS" "Z" (.int cs)) (hcs : ¬ cs = 0) (O : Old Z n0 h0) :
    ownMet l [] (⟨"java/lang/String", "valueOf", "(C)Ljava/lang/String;"⟩ : MethodName) jdk_42_method_139_code 1 (some (.object "java/lang/String")) ({ frames := 2, cells := 2, slots := 5, locals := 29 } : Room) Z n0 #[(.int p1)] h0 (fun v h => ∃ st, v = some (.ref st) ∧ h0.size ≤ st ∧ h.size > st ∧ Keep h0 h [] ∧ Exa Z h st "java/lang/String") := by
  refine own_body (own := "java/lang/String") (nm := "valueOf") pn_rmVal (fun m => ef_rmVal m p1) rfl rfl ?_
  intro p e s m below meth c T0 G0
  show ownGo _ _ _ _ _ _ _ T0 0 #[.val (.int p1)] []
  refine own_getS G0 d1_0 (hw _ (List.mem_of_getElem? (i := 4) rfl)) Via.refl (SC.ext O.2) ?_
  intro T35 G35
  show ownGo _ _ _ _ _ _ _ T35 3 #[.val (.int p1)] [(.int cs)]
  refine own_if_eq G35 d1_3 (pc' := 26) (by decide) (by decide) (fun hc => False.elim (hcs hc)) (fun hc => ?_)
  show ownGo _ _ _ _ _ _ _ T35 6 #[.val (.int p1)] []
  refine own_iloadN G35 d1_6 rfl ?_
  show ownGo _ _ _ _ _ _ _ T35 7 #[.val (.int p1)] [(.int p1)]
  refine own_callS G35 d1_7 (y := (⟨"java/lang/StringLatin1", "canEncode", "(C)Z"⟩ : MethodName)) (hw _ (List.mem_of_getElem? (i := 5) rfl)) (hw _ (List.mem_of_getElem? (i := 6) rfl)) (hw _ (List.mem_of_getElem? (i := 7) rfl)) (hw _ (List.mem_of_getElem? (i := 8) rfl)) (by decide) (argsL := [(.int p1)]) (rest := []) (rmCan l Z a0 hw p1 h0 n0 Z0 hp) rfl rfl rfl (lenOf pd_5 rfl) (W := 0) (Nat.le_of_eq rfl) (by decide) (by decide) (by decide) (by decide) ?_
  intro v36 T36 h36 hq36 G36
  obtain ⟨rfl, rfl⟩ := hq36
  show ownGo _ _ _ _ _ _ _ T36 10 #[.val (.int p1)] [(.int (1 : Int32))]
  refine own_if_eq G36 d1_10 (pc' := 26) (by decide) (by decide) (fun hc => False.elim (absurd hc (by decide))) (fun hc => ?_)
  show ownGo _ _ _ _ _ _ _ T36 13 #[.val (.int p1)] []
  refine own_new G36 d1_13 (hw _ (List.mem_of_getElem? (i := 9) rfl)) (hw _ (List.mem_of_getElem? (i := 10) rfl)) (hw _ (List.mem_of_getElem? (i := 2) rfl)) (by decide) (by decide) ?_
  intro T37 h37 b37 g37 E37 A37 D37 G37
  show ownGo _ _ _ _ _ _ _ T37 16 #[.val (.int p1)] [(.ref b37)]
  have F_value_b37 : Fld Z h37 b37 "java/lang/String" "value" "[B" .null := D37 (Or.inr (hw _ (List.mem_of_getElem? (i := 23) rfl))) (ty := (.array .byte)) (by decide)
  have F_coder_b37 : Fld Z h37 b37 "java/lang/String" "coder" "B" (.int (0 : Int32)) := D37 (Or.inr (hw _ (List.mem_of_getElem? (i := 25) rfl))) (ty := .byte) (by decide)
  have K : Keep h0 h0 [] := Keep.refl _ _
  have g : n0 ≤ b37 := by omega
  have lt : h37.size > b37 := A37.lt
  have z37 : h0.size ≤ h37.size := E37.1
  replace Z0 : n0 ≤ h37.size := Nat.le_trans Z0 E37.1
  replace K := K.ext E37
  refine own_dup G37 d1_16 rfl ?_
  show ownGo _ _ _ _ _ _ _ T37 17 #[.val (.int p1)] [(.ref b37), (.ref b37)]
  refine own_iloadN G37 d1_17 rfl ?_
  show ownGo _ _ _ _ _ _ _ T37 18 #[.val (.int p1)] [(.int p1), (.ref b37), (.ref b37)]
  refine own_callS G37 d1_18 (y := (⟨"java/lang/StringLatin1", "toBytes", "(C)[B"⟩ : MethodName)) (hw _ (List.mem_of_getElem? (i := 11) rfl)) (hw _ (List.mem_of_getElem? (i := 12) rfl)) (hw _ (List.mem_of_getElem? (i := 7) rfl)) (hw _ (List.mem_of_getElem? (i := 13) rfl)) (by decide) (argsL := [(.int p1)]) (rest := [(.ref b37), (.ref b37)]) (rmToB l Z a0 hw p1 h37 n0 Z0) rfl rfl rfl (lenOf pd_6 rfl) (W := 2) (Nat.le_of_eq rfl) (by decide) (by decide) (by decide) (by decide) ?_
  intro v38 T38 h38 hq38 G38
  obtain ⟨by1, rfl, q1, K1⟩ := hq38
  show ownGo _ _ _ _ _ _ _ T38 21 #[.val (.int p1)] [(.ref by1), (.ref b37), (.ref b37)]
  have z_K1 : h37.size ≤ h38.size := K1.1
  replace A37 := A37.keep K1
  replace F_value_b37 := F_value_b37.keep K1 nin0
  replace F_coder_b37 := F_coder_b37.keep K1 nin0
  replace Z0 : n0 ≤ h38.size := Nat.le_trans Z0 K1.1
  replace K := K.trans K1 all0
  refine own_iconst G38 d1_21 ?_
  show ownGo _ _ _ _ _ _ _ T38 22 #[.val (.int p1)] [(.int (0 : Int32)), (.ref by1), (.ref b37), (.ref b37)]
  refine own_special G38 d1_22 (y := (⟨"java/lang/String", "<init>", "([BB)V"⟩ : MethodName)) rfl (hw _ (List.mem_of_getElem? (i := 15) rfl)) (hw _ (List.mem_of_getElem? (i := 16) rfl)) (hw _ (List.mem_of_getElem? (i := 2) rfl)) (hw _ (List.mem_of_getElem? (i := 18) rfl)) (by decide) (a := b37) (argsL := [(.ref by1), (.int (0 : Int32))]) (rest := [(.ref b37)]) (rmStr l Z a0 hw b37 by1 _ _ h38 n0 Z0 A37 F_value_b37 F_coder_b37 g) rfl rfl rfl (lenOf pd_7 rfl) (W := 1) (Nat.le_of_eq rfl) (by decide) (by decide) (by decide) (by decide) ?_
  intro v39 T39 h39 hq39 G39
  obtain ⟨rfl, K2, E2⟩ := hq39
  show ownGo _ _ _ _ _ _ _ T39 25 #[.val (.int p1)] [(.ref b37)]
  have z2 := K2.1
  exact own_areturn G39 d1_25 rfl rfl rfl rfl (by decide) (by decide) ⟨b37, rfl, by omega, by omega, K.trans K2 (allS (Or.inr (by omega)) all0), E2⟩
theorem pn_rmAM : plainFor (⟨"java/util/AbstractMap", "<init>", "()V"⟩ : MethodName) = true := plainFor_of_name (by first | (simp [plainName, overriddenIn]; done) | decide +kernel)
theorem ef_rmAM (m : MethodId) (hm : Addr) : entryFrame m #[(.ref hm)] 1 = mkF m 0 #[.val (.ref hm)] [] := by first | (simp [entryFrame, mkF, argsToLocals, Value.category]; done) | rfl
set_option maxRecDepth 65536 in
set_option maxHeartbeats 40000000 in
theorem rmAM (l : Launch) (Z : State) (a0 : Array Value) (hw : ∀ d ∈ tables_1, d.before a0 Z = true) (hm : Addr) (h0 : Heap) (n0 : Nat) (Z0 : n0 ≤ h0.size) :
    ownMet l [] (⟨"java/util/AbstractMap", "<init>", "()V"⟩ : MethodName) jdk_71_method_1_code 1 none ({ frames := 1, cells := 0, slots := 0, locals := 12 } : Room) Z n0 #[(.ref hm)] h0 (fun v h => v = none ∧ h0 = h) := by
  refine own_body (own := "java/util/AbstractMap") (nm := "<init>") pn_rmAM (fun m => ef_rmAM m hm) rfl rfl ?_
  intro p e s m below meth c T0 G0
  show ownGo _ _ _ _ _ _ _ T0 0 #[.val (.ref hm)] []
  refine own_aloadN G0 d11_0 rfl rfl ?_
  show ownGo _ _ _ _ _ _ _ T0 1 #[.val (.ref hm)] [(.ref hm)]
  refine own_initO G0 d11_1 (hw _ (List.mem_of_getElem? (i := 83) rfl)) (hw _ (List.mem_of_getElem? (i := 20) rfl)) (hw _ (List.mem_of_getElem? (i := 21) rfl)) rfl (by decide) (W := 0) (Nat.le_of_eq rfl) (by decide) ?_
  intro T40 G40
  show ownGo _ _ _ _ _ _ _ T40 4 #[.val (.ref hm)] []
  exact own_ret G40 d11_4 rfl (by decide) (by decide) ⟨rfl, rfl⟩
theorem pn_rmHM : plainFor (⟨"java/util/HashMap", "<init>", "()V"⟩ : MethodName) = true := plainFor_of_name (by first | (simp [plainName, overriddenIn]; done) | decide +kernel)
theorem ef_rmHM (m : MethodId) (hm : Addr) : entryFrame m #[(.ref hm)] 1 = mkF m 0 #[.val (.ref hm)] [] := by first | (simp [entryFrame, mkF, argsToLocals, Value.category]; done) | rfl
set_option maxRecDepth 65536 in
set_option maxHeartbeats 40000000 in
theorem rmHM (l : Launch) (Z : State) (a0 : Array Value) (hw : ∀ d ∈ tables_1, d.before a0 Z = true) (hm : Addr) (u1 : Value) (h0 : Heap) (n0 : Nat) (Z0 : n0 ≤ h0.size) (E : Exa Z h0 hm "java/util/HashMap") (F1 : Fld Z h0 hm "java/util/HashMap" "loadFactor" "F" u1) (g : n0 ≤ hm) :
    ownMet l [] (⟨"java/util/HashMap", "<init>", "()V"⟩ : MethodName) jdk_69_method_7_code 1 none ({ frames := 2, cells := 0, slots := 0, locals := 24 } : Room) Z n0 #[(.ref hm)] h0 (fun v h => v = none ∧ Keep h0 h [hm]) := by
  refine own_body (own := "java/util/HashMap") (nm := "<init>") pn_rmHM (fun m => ef_rmHM m hm) rfl rfl ?_
  intro p e s m below meth c T0 G0
  show ownGo _ _ _ _ _ _ _ T0 0 #[.val (.ref hm)] []
  refine own_aloadN G0 d10_0 rfl rfl ?_
  show ownGo _ _ _ _ _ _ _ T0 1 #[.val (.ref hm)] [(.ref hm)]
  refine own_special G0 d10_1 (y := (⟨"java/util/AbstractMap", "<init>", "()V"⟩ : MethodName)) rfl (hw _ (List.mem_of_getElem? (i := 77) rfl)) (hw _ (List.mem_of_getElem? (i := 78) rfl)) (hw _ (List.mem_of_getElem? (i := 81) rfl)) (hw _ (List.mem_of_getElem? (i := 82) rfl)) (by decide) (a := hm) (argsL := []) (rest := []) (rmAM l Z a0 hw hm h0 n0 Z0) rfl rfl rfl (lenOf pd_0 rfl) (W := 0) (Nat.le_of_eq rfl) (by decide) (by decide) (by decide) (by decide) ?_
  intro v41 T41 h41 hq41 G41
  obtain ⟨rfl, rfl⟩ := hq41
  show ownGo _ _ _ _ _ _ _ T41 4 #[.val (.ref hm)] []
  refine own_aloadN G41 d10_4 rfl rfl ?_
  show ownGo _ _ _ _ _ _ _ T41 5 #[.val (.ref hm)] [(.ref hm)]
  refine own_ldcFloat G41 d10_5 (hw _ (List.mem_of_getElem? (i := 84) rfl)) ?_
  show ownGo _ _ _ _ _ _ _ T41 7 #[.val (.ref hm)] [(.float (1061158912 : UInt32)), (.ref hm)]
  refine own_putF G41 d10_7 (hw _ (List.mem_of_getElem? (i := 85) rfl)) Via.refl F1 E (Or.inr ⟨(hw _ (List.mem_of_getElem? (i := 86) rfl)), rfl, rfl⟩) (hw _ (List.mem_of_getElem? (i := 72) rfl)) (ty := .float) (by decide) rfl rfl g ?_
  intro T42 h42 W42 G42
  show ownGo _ _ _ _ _ _ _ T42 10 #[.val (.ref hm)] []
  exact own_ret G42 d10_10 rfl (by decide) (by decide) ⟨rfl, (Keep.refl _ _).wr W42 (Or.inl (by simp))⟩
def ownC (Z : State) (h : Heap) (t ac de da co al : Addr) (k : Nat) (D : Nat → Int32) (A : Nat → Int64) (C : Nat → Value) : Prop :=
  Exa Z h t "com/example/once_in_order/onceinorder/service/CursorTable" ∧ Fld Z h t "com/example/once_in_order/onceinorder/service/CursorTable" "acknowledged" "[I" (.ref ac) ∧ Fld Z h t "com/example/once_in_order/onceinorder/service/CursorTable" "delivered" "[I" (.ref de) ∧ Fld Z h t "com/example/once_in_order/onceinorder/service/CursorTable" "deliveredAt" "[J" (.ref da) ∧ Fld Z h t "com/example/once_in_order/onceinorder/service/CursorTable" "consumers" "[Ljava/lang/String;" (.ref co) ∧ Fld Z h t "com/example/once_in_order/onceinorder/service/CursorTable" "recorded" "Ljava/util/List;" (.ref al) ∧ Fld Z h t "com/example/once_in_order/onceinorder/service/CursorTable" "size" "I" (.int (Int32.ofNat k)) ∧
  (∃ g, ownArr Z h ac .int 16 g) ∧ ownArr Z h de .int 16 (fun j => .int (D j)) ∧ ownArr Z h da .long 16 (fun j => .long (A j)) ∧ ownRef Z h co "java/lang/String" 16 C
def ownOrd (n0 t ac de da co al : Nat) : Prop := n0 ≤ t ∧ t < ac ∧ ac < de ∧ de < da ∧ da < co ∧ co < al
theorem ownC.exa {Z : State} {h : Heap} {t ac de da co al : Addr} {k : Nat} {D : Nat → Int32} {A : Nat → Int64} {C : Nat → Value} (V : ownC Z h t ac de da co al k D A C) : Exa Z h t "com/example/once_in_order/onceinorder/service/CursorTable" := V.1
theorem ownC.keep {Z : State} {h h' : Heap} {t ac de da co al : Addr} {k : Nat} {D : Nat → Int32} {A : Nat → Int64} {C : Nat → Value} {ws : List Addr} (V : ownC Z h t ac de da co al k D A C) (K : Keep h h' ws) (q : t ∉ ws) (q1 : ac ∉ ws) (q2 : de ∉ ws) (q3 : da ∉ ws) (q4 : co ∉ ws) : ownC Z h' t ac de da co al k D A C := by
  obtain ⟨E, F1, F2, F3, F4, F5, F6, ⟨g, A1⟩, A2, A3, A4⟩ := V
  exact ⟨E.keep K, F1.keep K q, F2.keep K q, F3.keep K q, F4.keep K q, F5.keep K q, F6.keep K q, ⟨g, A1.keep K q1⟩, A2.keep K q2, A3.keep K q3, A4.keep K q4⟩
theorem ownC.d {Z : State} {h : Heap} {t ac de da co al : Addr} {k : Nat} {D D' : Nat → Int32} {A : Nat → Int64} {C : Nat → Value} (V : ownC Z h t ac de da co al k D A C) (q : ∀ j, j < 16 → D j = D' j) : ownC Z h t ac de da co al k D' A C := by
  obtain ⟨E, F1, F2, F3, F4, F5, F6, A1, A2, A3, A4⟩ := V
  exact ⟨E, F1, F2, F3, F4, F5, F6, A1, A2.congr fun j hj => by rw [q j hj], A3, A4⟩
theorem pn_rmCT : plainFor (⟨"com/example/once_in_order/onceinorder/service/CursorTable", "<init>", "()V"⟩ : MethodName) = true := plainFor_of_name (by first | (simp [plainName, overriddenIn]; done) | decide +kernel)
theorem ef_rmCT (m : MethodId) (t : Addr) : entryFrame m #[(.ref t)] 1 = mkF m 0 #[.val (.ref t)] [] := by first | (simp [entryFrame, mkF, argsToLocals, Value.category]; done) | rfl
set_option maxRecDepth 65536 in
set_option maxHeartbeats 40000000 in
theorem rmCT (l : Launch) (Z : State) (a0 : Array Value) (hw : ∀ d ∈ tables_1, d.before a0 Z = true) (t dc : Addr) (h0 : Heap) (n0 : Nat) (Z0 : n0 ≤ h0.size) (E : Exa Z h0 t "com/example/once_in_order/onceinorder/service/CursorTable") (F_acknowledged : Fld Z h0 t "com/example/once_in_order/onceinorder/service/CursorTable" "acknowledged" "[I" .null) (F_delivered : Fld Z h0 t "com/example/once_in_order/onceinorder/service/CursorTable" "delivered" "[I" .null) (F_deliveredAt : Fld Z h0 t "com/example/once_in_order/onceinorder/service/CursorTable" "deliveredAt" "[J" .null) (F_consumers : Fld Z h0 t "com/example/once_in_order/onceinorder/service/CursorTable" "consumers" "[Ljava/lang/String;" .null) (F_recorded : Fld Z h0 t "com/example/once_in_order/onceinorder/service/CursorTable" "recorded" "Ljava/util/List;" .null) (F_acknowledgedAhead : Fld Z h0 t "com/example/once_in_order/onceinorder/service/CursorTable" "acknowledgedAhead" "Ljava/util/Map;" .null) (F_size : Fld Z h0 t "com/example/once_in_order/onceinorder/service/CursorTable" "size" "I" (.int 0)) (g : n0 ≤ t) (O : Old Z n0 h0) (SD : Sta Z Z.heap "java/util/ArrayList" "DEFAULTCAPACITY_EMPTY_ELEMENTDATA" "[Ljava/lang/Object;" (.ref dc)) :
    ownMet l [] (⟨"com/example/once_in_order/onceinorder/service/CursorTable", "<init>", "()V"⟩ : MethodName) prog_43_method_1_code 1 none ({ frames := 4, cells := 7, slots := 80, locals := 50 } : Room) Z n0 #[(.ref t)] h0 (fun v h => ∃ ac de da co al, v = none ∧ ownOrd n0 t ac de da co al ∧ h0.size ≤ ac ∧ h.size > al ∧ Keep h0 h [t] ∧ ownC Z h t ac de da co al 0 (fun _ => 0) (fun _ => 0) (fun _ => .null) ∧ ownA0 Z h dc al 0) := by
  refine own_body (own := "com/example/once_in_order/onceinorder/service/CursorTable") (nm := "<init>") pn_rmCT (fun m => ef_rmCT m t) rfl rfl ?_
  intro p e s m below meth c T0 G0
  show ownGo _ _ _ _ _ _ _ T0 0 #[.val (.ref t)] []
  have lt : h0.size > t := E.lt
  have K : Keep h0 h0 [t] := Keep.refl _ _
  refine own_aloadN G0 d6_0 rfl rfl ?_
  show ownGo _ _ _ _ _ _ _ T0 1 #[.val (.ref t)] [(.ref t)]
  refine own_initO G0 d6_1 (hw _ (List.mem_of_getElem? (i := 32) rfl)) (hw _ (List.mem_of_getElem? (i := 20) rfl)) (hw _ (List.mem_of_getElem? (i := 21) rfl)) rfl (by decide) (W := 0) (Nat.le_of_eq rfl) (by decide) ?_
  intro T43 G43
  show ownGo _ _ _ _ _ _ _ T43 4 #[.val (.ref t)] []
  refine own_aloadN G43 d6_4 rfl rfl ?_
  show ownGo _ _ _ _ _ _ _ T43 5 #[.val (.ref t)] [(.ref t)]
  refine own_bipush G43 d6_5 ?_
  show ownGo _ _ _ _ _ _ _ T43 7 #[.val (.ref t)] [(.int (16 : Int32)), (.ref t)]
  refine own_newarr G43 d6_7 (hw _ (List.mem_of_getElem? (i := 33) rfl)) (by decide) (k := 16) (cap := 16) (by decide) (by decide) (by decide) (by decide) (by decide) ?_
  intro T44 h44 b44 g44 E44 A44 G44
  replace A44 : ownArr Z h44 b44 .int 16 (fun _ => .int 0) := A44
  show ownGo _ _ _ _ _ _ _ T44 9 #[.val (.ref t)] [(.ref b44), (.ref t)]
  have lb44 : h44.size > b44 := A44.lt
  have z44 : h0.size ≤ h44.size := E44.1
  replace E := E.ext E44
  replace F_acknowledged := F_acknowledged.ext E44
  replace F_delivered := F_delivered.ext E44
  replace F_deliveredAt := F_deliveredAt.ext E44
  replace F_consumers := F_consumers.ext E44
  replace F_recorded := F_recorded.ext E44
  replace F_acknowledgedAhead := F_acknowledgedAhead.ext E44
  replace F_size := F_size.ext E44
  replace Z0 : n0 ≤ h44.size := Nat.le_trans Z0 E44.1
  replace O := O.ext E44
  replace K := K.ext E44
  refine own_putF G44 d6_9 (hw _ (List.mem_of_getElem? (i := 34) rfl)) Via.refl F_acknowledged E (Or.inl (hw _ (List.mem_of_getElem? (i := 35) rfl))) (hw _ (List.mem_of_getElem? (i := 27) rfl)) (ty := (.array .int)) (by decide) rfl rfl g ?_
  intro T45 h45 W45 G45
  show ownGo _ _ _ _ _ _ _ T45 12 #[.val (.ref t)] []
  have z45 : h45.size = h44.size := W45.size
  replace E := E.wr W45
  replace F_acknowledged := F_acknowledged.same W45
  replace F_delivered := F_delivered.other W45 (Or.inr (slot_ne (Or.inl (hw _ (List.mem_of_getElem? (i := 37) rfl))) (Or.inl (hw _ (List.mem_of_getElem? (i := 35) rfl))) (by decide) (t := (.array .int)) (t' := (.array .int)) (by decide) (by decide)))
  replace F_deliveredAt := F_deliveredAt.other W45 (Or.inr (slot_ne (Or.inl (hw _ (List.mem_of_getElem? (i := 40) rfl))) (Or.inl (hw _ (List.mem_of_getElem? (i := 35) rfl))) (by decide) (t := (.array .long)) (t' := (.array .int)) (by decide) (by decide)))
  replace F_consumers := F_consumers.other W45 (Or.inr (slot_ne (Or.inl (hw _ (List.mem_of_getElem? (i := 44) rfl))) (Or.inl (hw _ (List.mem_of_getElem? (i := 35) rfl))) (by decide) (t := (.array (.object "java/lang/String"))) (t' := (.array .int)) (by decide) (by decide)))
  replace F_recorded := F_recorded.other W45 (Or.inr (slot_ne (Or.inr (hw _ (List.mem_of_getElem? (i := 70) rfl))) (Or.inl (hw _ (List.mem_of_getElem? (i := 35) rfl))) (by decide) (t := (.object "java/util/List")) (t' := (.array .int)) (by decide) (by decide)))
  replace F_acknowledgedAhead := F_acknowledgedAhead.other W45 (Or.inr (slot_ne (Or.inr (hw _ (List.mem_of_getElem? (i := 88) rfl))) (Or.inl (hw _ (List.mem_of_getElem? (i := 35) rfl))) (by decide) (t := (.object "java/util/Map")) (t' := (.array .int)) (by decide) (by decide)))
  replace F_size := F_size.other W45 (Or.inr (slot_ne (Or.inl (hw _ (List.mem_of_getElem? (i := 95) rfl))) (Or.inl (hw _ (List.mem_of_getElem? (i := 35) rfl))) (by decide) (t := .int) (t' := (.array .int)) (by decide) (by decide)))
  replace A44 := A44.other W45 (own_neA (by omega))
  replace Z0 : n0 ≤ h45.size := by rw [W45.size]; exact Z0
  replace O := O.wr W45 g
  replace K := K.wr W45 (Or.inl (by simp))
  refine own_aloadN G45 d6_12 rfl rfl ?_
  show ownGo _ _ _ _ _ _ _ T45 13 #[.val (.ref t)] [(.ref t)]
  refine own_bipush G45 d6_13 ?_
  show ownGo _ _ _ _ _ _ _ T45 15 #[.val (.ref t)] [(.int (16 : Int32)), (.ref t)]
  refine own_newarr G45 d6_15 (hw _ (List.mem_of_getElem? (i := 33) rfl)) (by decide) (k := 16) (cap := 16) (by decide) (by decide) (by decide) (by decide) (by decide) ?_
  intro T46 h46 b46 g46 E46 A46 G46
  replace A46 : ownArr Z h46 b46 .int 16 (fun _ => .int 0) := A46
  show ownGo _ _ _ _ _ _ _ T46 17 #[.val (.ref t)] [(.ref b46), (.ref t)]
  have lb46 : h46.size > b46 := A46.lt
  have z46 : h45.size ≤ h46.size := E46.1
  replace E := E.ext E46
  replace F_acknowledged := F_acknowledged.ext E46
  replace F_delivered := F_delivered.ext E46
  replace F_deliveredAt := F_deliveredAt.ext E46
  replace F_consumers := F_consumers.ext E46
  replace F_recorded := F_recorded.ext E46
  replace F_acknowledgedAhead := F_acknowledgedAhead.ext E46
  replace F_size := F_size.ext E46
  replace A44 := A44.ext E46
  replace Z0 : n0 ≤ h46.size := Nat.le_trans Z0 E46.1
  replace O := O.ext E46
  replace K := K.ext E46
  refine own_putF G46 d6_17 (hw _ (List.mem_of_getElem? (i := 36) rfl)) Via.refl F_delivered E (Or.inl (hw _ (List.mem_of_getElem? (i := 37) rfl))) (hw _ (List.mem_of_getElem? (i := 27) rfl)) (ty := (.array .int)) (by decide) rfl rfl g ?_
  intro T47 h47 W47 G47
  show ownGo _ _ _ _ _ _ _ T47 20 #[.val (.ref t)] []
  have z47 : h47.size = h46.size := W47.size
  replace E := E.wr W47
  replace F_acknowledged := F_acknowledged.other W47 (Or.inr (slot_ne (Or.inl (hw _ (List.mem_of_getElem? (i := 35) rfl))) (Or.inl (hw _ (List.mem_of_getElem? (i := 37) rfl))) (by decide) (t := (.array .int)) (t' := (.array .int)) (by decide) (by decide)))
  replace F_delivered := F_delivered.same W47
  replace F_deliveredAt := F_deliveredAt.other W47 (Or.inr (slot_ne (Or.inl (hw _ (List.mem_of_getElem? (i := 40) rfl))) (Or.inl (hw _ (List.mem_of_getElem? (i := 37) rfl))) (by decide) (t := (.array .long)) (t' := (.array .int)) (by decide) (by decide)))
  replace F_consumers := F_consumers.other W47 (Or.inr (slot_ne (Or.inl (hw _ (List.mem_of_getElem? (i := 44) rfl))) (Or.inl (hw _ (List.mem_of_getElem? (i := 37) rfl))) (by decide) (t := (.array (.object "java/lang/String"))) (t' := (.array .int)) (by decide) (by decide)))
  replace F_recorded := F_recorded.other W47 (Or.inr (slot_ne (Or.inr (hw _ (List.mem_of_getElem? (i := 70) rfl))) (Or.inl (hw _ (List.mem_of_getElem? (i := 37) rfl))) (by decide) (t := (.object "java/util/List")) (t' := (.array .int)) (by decide) (by decide)))
  replace F_acknowledgedAhead := F_acknowledgedAhead.other W47 (Or.inr (slot_ne (Or.inr (hw _ (List.mem_of_getElem? (i := 88) rfl))) (Or.inl (hw _ (List.mem_of_getElem? (i := 37) rfl))) (by decide) (t := (.object "java/util/Map")) (t' := (.array .int)) (by decide) (by decide)))
  replace F_size := F_size.other W47 (Or.inr (slot_ne (Or.inl (hw _ (List.mem_of_getElem? (i := 95) rfl))) (Or.inl (hw _ (List.mem_of_getElem? (i := 37) rfl))) (by decide) (t := .int) (t' := (.array .int)) (by decide) (by decide)))
  replace A44 := A44.other W47 (own_neA (by omega))
  replace A46 := A46.other W47 (own_neA (by omega))
  replace Z0 : n0 ≤ h47.size := by rw [W47.size]; exact Z0
  replace O := O.wr W47 g
  replace K := K.wr W47 (Or.inl (by simp))
  refine own_aloadN G47 d6_20 rfl rfl ?_
  show ownGo _ _ _ _ _ _ _ T47 21 #[.val (.ref t)] [(.ref t)]
  refine own_bipush G47 d6_21 ?_
  show ownGo _ _ _ _ _ _ _ T47 23 #[.val (.ref t)] [(.int (16 : Int32)), (.ref t)]
  refine own_newarr G47 d6_23 (hw _ (List.mem_of_getElem? (i := 38) rfl)) (by decide) (k := 16) (cap := 16) (by decide) (by decide) (by decide) (by decide) (by decide) ?_
  intro T48 h48 b48 g48 E48 A48 G48
  replace A48 : ownArr Z h48 b48 .long 16 (fun _ => .long 0) := A48
  show ownGo _ _ _ _ _ _ _ T48 25 #[.val (.ref t)] [(.ref b48), (.ref t)]
  have lb48 : h48.size > b48 := A48.lt
  have z48 : h47.size ≤ h48.size := E48.1
  replace E := E.ext E48
  replace F_acknowledged := F_acknowledged.ext E48
  replace F_delivered := F_delivered.ext E48
  replace F_deliveredAt := F_deliveredAt.ext E48
  replace F_consumers := F_consumers.ext E48
  replace F_recorded := F_recorded.ext E48
  replace F_acknowledgedAhead := F_acknowledgedAhead.ext E48
  replace F_size := F_size.ext E48
  replace A44 := A44.ext E48
  replace A46 := A46.ext E48
  replace Z0 : n0 ≤ h48.size := Nat.le_trans Z0 E48.1
  replace O := O.ext E48
  replace K := K.ext E48
  refine own_putF G48 d6_25 (hw _ (List.mem_of_getElem? (i := 39) rfl)) Via.refl F_deliveredAt E (Or.inl (hw _ (List.mem_of_getElem? (i := 40) rfl))) (hw _ (List.mem_of_getElem? (i := 27) rfl)) (ty := (.array .long)) (by decide) rfl rfl g ?_
  intro T49 h49 W49 G49
  show ownGo _ _ _ _ _ _ _ T49 28 #[.val (.ref t)] []
  have z49 : h49.size = h48.size := W49.size
  replace E := E.wr W49
  replace F_acknowledged := F_acknowledged.other W49 (Or.inr (slot_ne (Or.inl (hw _ (List.mem_of_getElem? (i := 35) rfl))) (Or.inl (hw _ (List.mem_of_getElem? (i := 40) rfl))) (by decide) (t := (.array .int)) (t' := (.array .long)) (by decide) (by decide)))
  replace F_delivered := F_delivered.other W49 (Or.inr (slot_ne (Or.inl (hw _ (List.mem_of_getElem? (i := 37) rfl))) (Or.inl (hw _ (List.mem_of_getElem? (i := 40) rfl))) (by decide) (t := (.array .int)) (t' := (.array .long)) (by decide) (by decide)))
  replace F_deliveredAt := F_deliveredAt.same W49
  replace F_consumers := F_consumers.other W49 (Or.inr (slot_ne (Or.inl (hw _ (List.mem_of_getElem? (i := 44) rfl))) (Or.inl (hw _ (List.mem_of_getElem? (i := 40) rfl))) (by decide) (t := (.array (.object "java/lang/String"))) (t' := (.array .long)) (by decide) (by decide)))
  replace F_recorded := F_recorded.other W49 (Or.inr (slot_ne (Or.inr (hw _ (List.mem_of_getElem? (i := 70) rfl))) (Or.inl (hw _ (List.mem_of_getElem? (i := 40) rfl))) (by decide) (t := (.object "java/util/List")) (t' := (.array .long)) (by decide) (by decide)))
  replace F_acknowledgedAhead := F_acknowledgedAhead.other W49 (Or.inr (slot_ne (Or.inr (hw _ (List.mem_of_getElem? (i := 88) rfl))) (Or.inl (hw _ (List.mem_of_getElem? (i := 40) rfl))) (by decide) (t := (.object "java/util/Map")) (t' := (.array .long)) (by decide) (by decide)))
  replace F_size := F_size.other W49 (Or.inr (slot_ne (Or.inl (hw _ (List.mem_of_getElem? (i := 95) rfl))) (Or.inl (hw _ (List.mem_of_getElem? (i := 40) rfl))) (by decide) (t := .int) (t' := (.array .long)) (by decide) (by decide)))
  replace A44 := A44.other W49 (own_neA (by omega))
  replace A46 := A46.other W49 (own_neA (by omega))
  replace A48 := A48.other W49 (own_neA (by omega))
  replace Z0 : n0 ≤ h49.size := by rw [W49.size]; exact Z0
  replace O := O.wr W49 g
  replace K := K.wr W49 (Or.inl (by simp))
  refine own_aloadN G49 d6_28 rfl rfl ?_
  show ownGo _ _ _ _ _ _ _ T49 29 #[.val (.ref t)] [(.ref t)]
  refine own_bipush G49 d6_29 ?_
  show ownGo _ _ _ _ _ _ _ T49 31 #[.val (.ref t)] [(.int (16 : Int32)), (.ref t)]
  refine own_anewarr G49 d6_31 (hw _ (List.mem_of_getElem? (i := 41) rfl)) (hw _ (List.mem_of_getElem? (i := 42) rfl)) (by decide) (k := 16) (cap := 16) (by decide) (by decide) (by decide) (by decide) (by decide) ?_
  intro T50 h50 b50 g50 E50 A50 G50
  show ownGo _ _ _ _ _ _ _ T50 34 #[.val (.ref t)] [(.ref b50), (.ref t)]
  have lb50 : h50.size > b50 := A50.lt
  have z50 : h49.size ≤ h50.size := E50.1
  replace E := E.ext E50
  replace F_acknowledged := F_acknowledged.ext E50
  replace F_delivered := F_delivered.ext E50
  replace F_deliveredAt := F_deliveredAt.ext E50
  replace F_consumers := F_consumers.ext E50
  replace F_recorded := F_recorded.ext E50
  replace F_acknowledgedAhead := F_acknowledgedAhead.ext E50
  replace F_size := F_size.ext E50
  replace A44 := A44.ext E50
  replace A46 := A46.ext E50
  replace A48 := A48.ext E50
  replace Z0 : n0 ≤ h50.size := Nat.le_trans Z0 E50.1
  replace O := O.ext E50
  replace K := K.ext E50
  refine own_putF G50 d6_34 (hw _ (List.mem_of_getElem? (i := 43) rfl)) Via.refl F_consumers E (Or.inl (hw _ (List.mem_of_getElem? (i := 44) rfl))) (hw _ (List.mem_of_getElem? (i := 27) rfl)) (ty := (.array (.object "java/lang/String"))) (by decide) rfl rfl g ?_
  intro T51 h51 W51 G51
  show ownGo _ _ _ _ _ _ _ T51 37 #[.val (.ref t)] []
  have z51 : h51.size = h50.size := W51.size
  replace E := E.wr W51
  replace F_acknowledged := F_acknowledged.other W51 (Or.inr (slot_ne (Or.inl (hw _ (List.mem_of_getElem? (i := 35) rfl))) (Or.inl (hw _ (List.mem_of_getElem? (i := 44) rfl))) (by decide) (t := (.array .int)) (t' := (.array (.object "java/lang/String"))) (by decide) (by decide)))
  replace F_delivered := F_delivered.other W51 (Or.inr (slot_ne (Or.inl (hw _ (List.mem_of_getElem? (i := 37) rfl))) (Or.inl (hw _ (List.mem_of_getElem? (i := 44) rfl))) (by decide) (t := (.array .int)) (t' := (.array (.object "java/lang/String"))) (by decide) (by decide)))
  replace F_deliveredAt := F_deliveredAt.other W51 (Or.inr (slot_ne (Or.inl (hw _ (List.mem_of_getElem? (i := 40) rfl))) (Or.inl (hw _ (List.mem_of_getElem? (i := 44) rfl))) (by decide) (t := (.array .long)) (t' := (.array (.object "java/lang/String"))) (by decide) (by decide)))
  replace F_consumers := F_consumers.same W51
  replace F_recorded := F_recorded.other W51 (Or.inr (slot_ne (Or.inr (hw _ (List.mem_of_getElem? (i := 70) rfl))) (Or.inl (hw _ (List.mem_of_getElem? (i := 44) rfl))) (by decide) (t := (.object "java/util/List")) (t' := (.array (.object "java/lang/String"))) (by decide) (by decide)))
  replace F_acknowledgedAhead := F_acknowledgedAhead.other W51 (Or.inr (slot_ne (Or.inr (hw _ (List.mem_of_getElem? (i := 88) rfl))) (Or.inl (hw _ (List.mem_of_getElem? (i := 44) rfl))) (by decide) (t := (.object "java/util/Map")) (t' := (.array (.object "java/lang/String"))) (by decide) (by decide)))
  replace F_size := F_size.other W51 (Or.inr (slot_ne (Or.inl (hw _ (List.mem_of_getElem? (i := 95) rfl))) (Or.inl (hw _ (List.mem_of_getElem? (i := 44) rfl))) (by decide) (t := .int) (t' := (.array (.object "java/lang/String"))) (by decide) (by decide)))
  replace A44 := A44.other W51 (own_neA (by omega))
  replace A46 := A46.other W51 (own_neA (by omega))
  replace A48 := A48.other W51 (own_neA (by omega))
  replace A50 := A50.other W51 (own_neA (by omega))
  replace Z0 : n0 ≤ h51.size := by rw [W51.size]; exact Z0
  replace O := O.wr W51 g
  replace K := K.wr W51 (Or.inl (by simp))
  refine own_aloadN G51 d6_37 rfl rfl ?_
  show ownGo _ _ _ _ _ _ _ T51 38 #[.val (.ref t)] [(.ref t)]
  refine own_new G51 d6_38 (hw _ (List.mem_of_getElem? (i := 45) rfl)) (hw _ (List.mem_of_getElem? (i := 46) rfl)) (hw _ (List.mem_of_getElem? (i := 47) rfl)) (by decide) (by decide) ?_
  intro T52 h52 b52 g52 E52 A52 D52 G52
  show ownGo _ _ _ _ _ _ _ T52 41 #[.val (.ref t)] [(.ref b52), (.ref t)]
  have F_modCount_b52 : Fld Z h52 b52 "java/util/AbstractList" "modCount" "I" (.int (0 : Int32)) := D52 (Or.inl (hw _ (List.mem_of_getElem? (i := 65) rfl))) (ty := .int) (by decide)
  have F_elementData_b52 : Fld Z h52 b52 "java/util/ArrayList" "elementData" "[Ljava/lang/Object;" .null := D52 (Or.inl (hw _ (List.mem_of_getElem? (i := 68) rfl))) (ty := (.array (.object "java/lang/Object"))) (by decide)
  have F_size_b52 : Fld Z h52 b52 "java/util/ArrayList" "size" "I" (.int (0 : Int32)) := D52 (Or.inl (hw _ (List.mem_of_getElem? (i := 108) rfl))) (ty := .int) (by decide)
  have lb52 : h52.size > b52 := A52.lt
  have gl : n0 ≤ b52 := by omega
  have z52 : h51.size ≤ h52.size := E52.1
  replace E := E.ext E52
  replace F_acknowledged := F_acknowledged.ext E52
  replace F_delivered := F_delivered.ext E52
  replace F_deliveredAt := F_deliveredAt.ext E52
  replace F_consumers := F_consumers.ext E52
  replace F_recorded := F_recorded.ext E52
  replace F_acknowledgedAhead := F_acknowledgedAhead.ext E52
  replace F_size := F_size.ext E52
  replace A44 := A44.ext E52
  replace A46 := A46.ext E52
  replace A48 := A48.ext E52
  replace A50 := A50.ext E52
  replace Z0 : n0 ≤ h52.size := Nat.le_trans Z0 E52.1
  replace O := O.ext E52
  replace K := K.ext E52
  refine own_dup G52 d6_41 rfl ?_
  show ownGo _ _ _ _ _ _ _ T52 42 #[.val (.ref t)] [(.ref b52), (.ref b52), (.ref t)]
  refine own_special G52 d6_42 (y := (⟨"java/util/ArrayList", "<init>", "()V"⟩ : MethodName)) rfl (hw _ (List.mem_of_getElem? (i := 48) rfl)) (hw _ (List.mem_of_getElem? (i := 49) rfl)) (hw _ (List.mem_of_getElem? (i := 47) rfl)) (hw _ (List.mem_of_getElem? (i := 50) rfl)) (by decide) (a := b52) (argsL := []) (rest := [(.ref b52), (.ref t)]) (rmNewAL l Z a0 hw b52 dc _ _ h52 n0 Z0 A52 F_modCount_b52 F_elementData_b52 F_size_b52 gl O SD) rfl rfl rfl (lenOf pd_0 rfl) (W := 2) (Nat.le_of_eq rfl) (by decide) (by decide) (by decide) (by decide) ?_
  intro v53 T53 h53 hq53 G53
  obtain ⟨rfl, K1, AL0⟩ := hq53
  show ownGo _ _ _ _ _ _ _ T53 45 #[.val (.ref t)] [(.ref b52), (.ref t)]
  have z_K1 : h52.size ≤ h53.size := K1.1
  replace E := E.keep K1
  replace F_acknowledged := F_acknowledged.keep K1 (ninS (own_neA (by omega)) nin0)
  replace F_delivered := F_delivered.keep K1 (ninS (own_neA (by omega)) nin0)
  replace F_deliveredAt := F_deliveredAt.keep K1 (ninS (own_neA (by omega)) nin0)
  replace F_consumers := F_consumers.keep K1 (ninS (own_neA (by omega)) nin0)
  replace F_recorded := F_recorded.keep K1 (ninS (own_neA (by omega)) nin0)
  replace F_acknowledgedAhead := F_acknowledgedAhead.keep K1 (ninS (own_neA (by omega)) nin0)
  replace F_size := F_size.keep K1 (ninS (own_neA (by omega)) nin0)
  replace A44 := A44.keep K1 (ninS (own_neA (by omega)) nin0)
  replace A46 := A46.keep K1 (ninS (own_neA (by omega)) nin0)
  replace A48 := A48.keep K1 (ninS (own_neA (by omega)) nin0)
  replace A50 := A50.keep K1 (ninS (own_neA (by omega)) nin0)
  replace Z0 : n0 ≤ h53.size := Nat.le_trans Z0 K1.1
  replace O := O.keep K1 (allS (by omega) all0)
  replace K := K.trans K1 (allS (Or.inr (by omega)) all0)
  refine own_putF G53 d6_45 (hw _ (List.mem_of_getElem? (i := 69) rfl)) Via.refl F_recorded E (Or.inr ⟨(hw _ (List.mem_of_getElem? (i := 70) rfl)), rfl, rfl⟩) (hw _ (List.mem_of_getElem? (i := 27) rfl)) (ty := (.object "java/util/List")) (by decide) rfl rfl g ?_
  intro T54 h54 W54 G54
  show ownGo _ _ _ _ _ _ _ T54 48 #[.val (.ref t)] []
  have z54 : h54.size = h53.size := W54.size
  replace E := E.wr W54
  replace F_acknowledged := F_acknowledged.other W54 (Or.inr (slot_ne (Or.inl (hw _ (List.mem_of_getElem? (i := 35) rfl))) (Or.inr (hw _ (List.mem_of_getElem? (i := 70) rfl))) (by decide) (t := (.array .int)) (t' := (.object "java/util/List")) (by decide) (by decide)))
  replace F_delivered := F_delivered.other W54 (Or.inr (slot_ne (Or.inl (hw _ (List.mem_of_getElem? (i := 37) rfl))) (Or.inr (hw _ (List.mem_of_getElem? (i := 70) rfl))) (by decide) (t := (.array .int)) (t' := (.object "java/util/List")) (by decide) (by decide)))
  replace F_deliveredAt := F_deliveredAt.other W54 (Or.inr (slot_ne (Or.inl (hw _ (List.mem_of_getElem? (i := 40) rfl))) (Or.inr (hw _ (List.mem_of_getElem? (i := 70) rfl))) (by decide) (t := (.array .long)) (t' := (.object "java/util/List")) (by decide) (by decide)))
  replace F_consumers := F_consumers.other W54 (Or.inr (slot_ne (Or.inl (hw _ (List.mem_of_getElem? (i := 44) rfl))) (Or.inr (hw _ (List.mem_of_getElem? (i := 70) rfl))) (by decide) (t := (.array (.object "java/lang/String"))) (t' := (.object "java/util/List")) (by decide) (by decide)))
  replace F_recorded := F_recorded.same W54
  replace F_acknowledgedAhead := F_acknowledgedAhead.other W54 (Or.inr (slot_ne (Or.inr (hw _ (List.mem_of_getElem? (i := 88) rfl))) (Or.inr (hw _ (List.mem_of_getElem? (i := 70) rfl))) (by decide) (t := (.object "java/util/Map")) (t' := (.object "java/util/List")) (by decide) (by decide)))
  replace F_size := F_size.other W54 (Or.inr (slot_ne (Or.inl (hw _ (List.mem_of_getElem? (i := 95) rfl))) (Or.inr (hw _ (List.mem_of_getElem? (i := 70) rfl))) (by decide) (t := .int) (t' := (.object "java/util/List")) (by decide) (by decide)))
  replace A44 := A44.other W54 (own_neA (by omega))
  replace A46 := A46.other W54 (own_neA (by omega))
  replace A48 := A48.other W54 (own_neA (by omega))
  replace A50 := A50.other W54 (own_neA (by omega))
  replace AL0 := AL0.other W54 (own_neA (by omega))
  replace Z0 : n0 ≤ h54.size := by rw [W54.size]; exact Z0
  replace O := O.wr W54 g
  replace K := K.wr W54 (Or.inl (by simp))
  refine own_aloadN G54 d6_48 rfl rfl ?_
  show ownGo _ _ _ _ _ _ _ T54 49 #[.val (.ref t)] [(.ref t)]
  refine own_new G54 d6_49 (hw _ (List.mem_of_getElem? (i := 71) rfl)) (hw _ (List.mem_of_getElem? (i := 72) rfl)) (hw _ (List.mem_of_getElem? (i := 73) rfl)) (by decide) (by decide) ?_
  intro T55 h55 b55 g55 E55 A55 D55 G55
  show ownGo _ _ _ _ _ _ _ T55 52 #[.val (.ref t)] [(.ref b55), (.ref t)]
  have F_loadFactor_b55 : Fld Z h55 b55 "java/util/HashMap" "loadFactor" "F" (.float 0) := D55 (Or.inr (hw _ (List.mem_of_getElem? (i := 86) rfl))) (ty := .float) (by decide)
  have lb55 : h55.size > b55 := A55.lt
  have gh : n0 ≤ b55 := by omega
  have z55 : h54.size ≤ h55.size := E55.1
  replace E := E.ext E55
  replace F_acknowledged := F_acknowledged.ext E55
  replace F_delivered := F_delivered.ext E55
  replace F_deliveredAt := F_deliveredAt.ext E55
  replace F_consumers := F_consumers.ext E55
  replace F_recorded := F_recorded.ext E55
  replace F_acknowledgedAhead := F_acknowledgedAhead.ext E55
  replace F_size := F_size.ext E55
  replace A44 := A44.ext E55
  replace A46 := A46.ext E55
  replace A48 := A48.ext E55
  replace A50 := A50.ext E55
  replace AL0 := AL0.ext E55
  replace Z0 : n0 ≤ h55.size := Nat.le_trans Z0 E55.1
  replace O := O.ext E55
  replace K := K.ext E55
  refine own_dup G55 d6_52 rfl ?_
  show ownGo _ _ _ _ _ _ _ T55 53 #[.val (.ref t)] [(.ref b55), (.ref b55), (.ref t)]
  refine own_special G55 d6_53 (y := (⟨"java/util/HashMap", "<init>", "()V"⟩ : MethodName)) rfl (hw _ (List.mem_of_getElem? (i := 74) rfl)) (hw _ (List.mem_of_getElem? (i := 75) rfl)) (hw _ (List.mem_of_getElem? (i := 73) rfl)) (hw _ (List.mem_of_getElem? (i := 76) rfl)) (by decide) (a := b55) (argsL := []) (rest := [(.ref b55), (.ref t)]) (rmHM l Z a0 hw b55 _ h55 n0 Z0 A55 F_loadFactor_b55 gh) rfl rfl rfl (lenOf pd_0 rfl) (W := 2) (Nat.le_of_eq rfl) (by decide) (by decide) (by decide) (by decide) ?_
  intro v56 T56 h56 hq56 G56
  obtain ⟨rfl, K2⟩ := hq56
  show ownGo _ _ _ _ _ _ _ T56 56 #[.val (.ref t)] [(.ref b55), (.ref t)]
  have z_K2 : h55.size ≤ h56.size := K2.1
  replace E := E.keep K2
  replace F_acknowledged := F_acknowledged.keep K2 (ninS (own_neA (by omega)) nin0)
  replace F_delivered := F_delivered.keep K2 (ninS (own_neA (by omega)) nin0)
  replace F_deliveredAt := F_deliveredAt.keep K2 (ninS (own_neA (by omega)) nin0)
  replace F_consumers := F_consumers.keep K2 (ninS (own_neA (by omega)) nin0)
  replace F_recorded := F_recorded.keep K2 (ninS (own_neA (by omega)) nin0)
  replace F_acknowledgedAhead := F_acknowledgedAhead.keep K2 (ninS (own_neA (by omega)) nin0)
  replace F_size := F_size.keep K2 (ninS (own_neA (by omega)) nin0)
  replace A44 := A44.keep K2 (ninS (own_neA (by omega)) nin0)
  replace A46 := A46.keep K2 (ninS (own_neA (by omega)) nin0)
  replace A48 := A48.keep K2 (ninS (own_neA (by omega)) nin0)
  replace A50 := A50.keep K2 (ninS (own_neA (by omega)) nin0)
  replace AL0 := AL0.keep K2 (ninS (own_neA (by omega)) nin0)
  replace Z0 : n0 ≤ h56.size := Nat.le_trans Z0 K2.1
  replace O := O.keep K2 (allS (by omega) all0)
  replace K := K.trans K2 (allS (Or.inr (by omega)) all0)
  refine own_putF G56 d6_56 (hw _ (List.mem_of_getElem? (i := 87) rfl)) Via.refl F_acknowledgedAhead E (Or.inr ⟨(hw _ (List.mem_of_getElem? (i := 88) rfl)), rfl, rfl⟩) (hw _ (List.mem_of_getElem? (i := 27) rfl)) (ty := (.object "java/util/Map")) (by decide) rfl rfl g ?_
  intro T57 h57 W57 G57
  show ownGo _ _ _ _ _ _ _ T57 59 #[.val (.ref t)] []
  have z57 : h57.size = h56.size := W57.size
  replace E := E.wr W57
  replace F_acknowledged := F_acknowledged.other W57 (Or.inr (slot_ne (Or.inl (hw _ (List.mem_of_getElem? (i := 35) rfl))) (Or.inr (hw _ (List.mem_of_getElem? (i := 88) rfl))) (by decide) (t := (.array .int)) (t' := (.object "java/util/Map")) (by decide) (by decide)))
  replace F_delivered := F_delivered.other W57 (Or.inr (slot_ne (Or.inl (hw _ (List.mem_of_getElem? (i := 37) rfl))) (Or.inr (hw _ (List.mem_of_getElem? (i := 88) rfl))) (by decide) (t := (.array .int)) (t' := (.object "java/util/Map")) (by decide) (by decide)))
  replace F_deliveredAt := F_deliveredAt.other W57 (Or.inr (slot_ne (Or.inl (hw _ (List.mem_of_getElem? (i := 40) rfl))) (Or.inr (hw _ (List.mem_of_getElem? (i := 88) rfl))) (by decide) (t := (.array .long)) (t' := (.object "java/util/Map")) (by decide) (by decide)))
  replace F_consumers := F_consumers.other W57 (Or.inr (slot_ne (Or.inl (hw _ (List.mem_of_getElem? (i := 44) rfl))) (Or.inr (hw _ (List.mem_of_getElem? (i := 88) rfl))) (by decide) (t := (.array (.object "java/lang/String"))) (t' := (.object "java/util/Map")) (by decide) (by decide)))
  replace F_recorded := F_recorded.other W57 (Or.inr (slot_ne (Or.inr (hw _ (List.mem_of_getElem? (i := 70) rfl))) (Or.inr (hw _ (List.mem_of_getElem? (i := 88) rfl))) (by decide) (t := (.object "java/util/List")) (t' := (.object "java/util/Map")) (by decide) (by decide)))
  replace F_acknowledgedAhead := F_acknowledgedAhead.same W57
  replace F_size := F_size.other W57 (Or.inr (slot_ne (Or.inl (hw _ (List.mem_of_getElem? (i := 95) rfl))) (Or.inr (hw _ (List.mem_of_getElem? (i := 88) rfl))) (by decide) (t := .int) (t' := (.object "java/util/Map")) (by decide) (by decide)))
  replace A44 := A44.other W57 (own_neA (by omega))
  replace A46 := A46.other W57 (own_neA (by omega))
  replace A48 := A48.other W57 (own_neA (by omega))
  replace A50 := A50.other W57 (own_neA (by omega))
  replace AL0 := AL0.other W57 (own_neA (by omega))
  replace Z0 : n0 ≤ h57.size := by rw [W57.size]; exact Z0
  replace O := O.wr W57 g
  replace K := K.wr W57 (Or.inl (by simp))
  exact own_ret G57 d6_59 rfl (by decide) (by decide) ⟨b44, b46, b48, b50, b52, rfl, ⟨g, by omega, by omega, by omega, by omega, by omega⟩, by omega, by omega, K, ⟨E, F_acknowledged, F_delivered, F_deliveredAt, F_consumers, F_recorded, F_size, ⟨_, A44⟩, A46, A48, A50⟩, AL0⟩
theorem pn_rmCAdd1 : plainFor (⟨"com/example/once_in_order/onceinorder/service/CursorTable", "add", "(I)V"⟩ : MethodName) = true := plainFor_of_name (by first | (simp [plainName, overriddenIn]; done) | decide +kernel)
theorem ef_rmCAdd1 (m : MethodId) (t : Addr) (p1 : Int32) : entryFrame m #[(.ref t), (.int p1)] 3 = mkF m 0 #[.val (.ref t), .val (.int p1), .unset] [] := by first | (simp [entryFrame, mkF, argsToLocals, Value.category]; done) | rfl
set_option maxRecDepth 65536 in
set_option maxHeartbeats 40000000 in
theorem rmCAdd1 (l : Launch) (Z : State) (a0 : Array Value) (hw : ∀ d ∈ tables_1, d.before a0 Z = true) (t : Addr) (p1 : Int32) (ac de da co al : Addr) (D : Nat → Int32) (A : Nat → Int64) (C : Nat → Value) (dc : Addr) (h0 : Heap) (n0 : Nat) (Z0 : n0 ≤ h0.size) (V : ownC Z h0 t ac de da co al 0 D A C) (R : ownOrd n0 t ac de da co al) (L0 : ownA0 Z h0 dc al 0) (la : h0.size > al) (O : Old Z n0 h0) (SD : Sta Z Z.heap "java/util/ArrayList" "DEFAULTCAPACITY_EMPTY_ELEMENTDATA" "[Ljava/lang/Object;" (.ref dc)) (AD : ∃ f, ownArr Z Z.heap dc (.object "java/lang/Object") 0 f) :
    ownMet l [] (⟨"com/example/once_in_order/onceinorder/service/CursorTable", "add", "(I)V"⟩ : MethodName) prog_43_method_2_code 3 none ({ frames := 5, cells := 1, slots := 10, locals := 69 } : Room) Z n0 #[(.ref t), (.int p1)] h0 (fun v h => ∃ ed, h0.size ≤ ed ∧ h.size > ed ∧ v = none ∧ Keep h0 h [t, ac, de, al] ∧ ownC Z h t ac de da co al 1 (ownUpd D 0 p1) A C ∧ ownA1 Z h al ed (0 + 1) 1 (fun j => if j = 0 then .null else .null)) := by
  refine own_body (own := "com/example/once_in_order/onceinorder/service/CursorTable") (nm := "add") pn_rmCAdd1 (fun m => ef_rmCAdd1 m t p1) rfl rfl ?_
  intro p e s m below meth c T0 G0
  show ownGo _ _ _ _ _ _ _ T0 0 #[.val (.ref t), .val (.int p1), .unset] []
  obtain ⟨E, F1, F2, F3, F4, F5, F6, ⟨ga, A1⟩, A2, A3, A4⟩ := V
  obtain ⟨r1, r2, r3, r4, r5, r6⟩ := R
  have K : Keep h0 h0 [t, ac, de, al] := Keep.refl _ _
  refine own_aloadN G0 d12_0 rfl rfl ?_
  show ownGo _ _ _ _ _ _ _ T0 1 #[.val (.ref t), .val (.int p1), .unset] [(.ref t)]
  refine own_getF G0 d12_1 (hw _ (List.mem_of_getElem? (i := 94) rfl)) Via.refl F6 ?_
  intro T58 G58
  show ownGo _ _ _ _ _ _ _ T58 4 #[.val (.ref t), .val (.int p1), .unset] [(.int (Int32.ofNat 0))]
  refine own_aloadN G58 d12_4 rfl rfl ?_
  show ownGo _ _ _ _ _ _ _ T58 5 #[.val (.ref t), .val (.int p1), .unset] [(.ref t), (.int (Int32.ofNat 0))]
  refine own_getF G58 d12_5 (hw _ (List.mem_of_getElem? (i := 36) rfl)) Via.refl F2 ?_
  intro T59 G59
  show ownGo _ _ _ _ _ _ _ T59 8 #[.val (.ref t), .val (.int p1), .unset] [(.ref de), (.int (Int32.ofNat 0))]
  refine own_arraylength G59 d12_8 A2 ?_
  show ownGo _ _ _ _ _ _ _ T59 9 #[.val (.ref t), .val (.int p1), .unset] [(.int (16 : Int32)), (.int (Int32.ofNat 0))]
  refine own_icmp_ne G59 d12_9 (pc' := 70) (by decide) (by decide) (fun hc => ?_) (fun hc => False.elim (absurd hc (by decide)))
  show ownGo _ _ _ _ _ _ _ T59 70 #[.val (.ref t), .val (.int p1), .unset] []
  refine own_aloadN G59 d12_70 rfl rfl ?_
  show ownGo _ _ _ _ _ _ _ T59 71 #[.val (.ref t), .val (.int p1), .unset] [(.ref t)]
  refine own_getF G59 d12_71 (hw _ (List.mem_of_getElem? (i := 34) rfl)) Via.refl F1 ?_
  intro T60 G60
  show ownGo _ _ _ _ _ _ _ T60 74 #[.val (.ref t), .val (.int p1), .unset] [(.ref ac)]
  refine own_aloadN G60 d12_74 rfl rfl ?_
  show ownGo _ _ _ _ _ _ _ T60 75 #[.val (.ref t), .val (.int p1), .unset] [(.ref t), (.ref ac)]
  refine own_getF G60 d12_75 (hw _ (List.mem_of_getElem? (i := 94) rfl)) Via.refl F6 ?_
  intro T61 G61
  show ownGo _ _ _ _ _ _ _ T61 78 #[.val (.ref t), .val (.int p1), .unset] [(.int (Int32.ofNat 0)), (.ref ac)]
  refine own_iloadN G61 d12_78 rfl ?_
  show ownGo _ _ _ _ _ _ _ T61 79 #[.val (.ref t), .val (.int p1), .unset] [(.int p1), (.int (Int32.ofNat 0)), (.ref ac)]
  refine own_iastore G61 d12_79 A1 (i := 0) (by decide) (by omega) ?_
  intro T62 h62 W62 G62
  show ownGo _ _ _ _ _ _ _ T62 80 #[.val (.ref t), .val (.int p1), .unset] []
  have z62 : h62.size = h0.size := W62.size
  replace E := E.wr W62
  replace F1 := F1.other W62 (Or.inl (own_neA (by omega)))
  replace F2 := F2.other W62 (Or.inl (own_neA (by omega)))
  replace F3 := F3.other W62 (Or.inl (own_neA (by omega)))
  replace F4 := F4.other W62 (Or.inl (own_neA (by omega)))
  replace F5 := F5.other W62 (Or.inl (own_neA (by omega)))
  replace F6 := F6.other W62 (Or.inl (own_neA (by omega)))
  replace A1 := A1.same W62
  replace A2 := A2.other W62 (own_neA (by omega))
  replace A3 := A3.other W62 (own_neA (by omega))
  replace A4 := A4.other W62 (own_neA (by omega))
  replace Z0 : n0 ≤ h62.size := by rw [W62.size]; exact Z0
  replace O := O.wr W62 (by omega)
  replace K := K.wr W62 (Or.inl (by simp))
  replace L0 := L0.other W62 (own_neA (by omega))
  have la62 : h62.size > al := by rw [W62.size]; omega
  refine own_aloadN G62 d12_80 rfl rfl ?_
  show ownGo _ _ _ _ _ _ _ T62 81 #[.val (.ref t), .val (.int p1), .unset] [(.ref t)]
  refine own_getF G62 d12_81 (hw _ (List.mem_of_getElem? (i := 36) rfl)) Via.refl F2 ?_
  intro T63 G63
  show ownGo _ _ _ _ _ _ _ T63 84 #[.val (.ref t), .val (.int p1), .unset] [(.ref de)]
  refine own_aloadN G63 d12_84 rfl rfl ?_
  show ownGo _ _ _ _ _ _ _ T63 85 #[.val (.ref t), .val (.int p1), .unset] [(.ref t), (.ref de)]
  refine own_getF G63 d12_85 (hw _ (List.mem_of_getElem? (i := 94) rfl)) Via.refl F6 ?_
  intro T64 G64
  show ownGo _ _ _ _ _ _ _ T64 88 #[.val (.ref t), .val (.int p1), .unset] [(.int (Int32.ofNat 0)), (.ref de)]
  refine own_iloadN G64 d12_88 rfl ?_
  show ownGo _ _ _ _ _ _ _ T64 89 #[.val (.ref t), .val (.int p1), .unset] [(.int p1), (.int (Int32.ofNat 0)), (.ref de)]
  refine own_iastore G64 d12_89 A2 (i := 0) (by decide) (by omega) ?_
  intro T65 h65 W65 G65
  show ownGo _ _ _ _ _ _ _ T65 90 #[.val (.ref t), .val (.int p1), .unset] []
  have z65 : h65.size = h62.size := W65.size
  replace E := E.wr W65
  replace F1 := F1.other W65 (Or.inl (own_neA (by omega)))
  replace F2 := F2.other W65 (Or.inl (own_neA (by omega)))
  replace F3 := F3.other W65 (Or.inl (own_neA (by omega)))
  replace F4 := F4.other W65 (Or.inl (own_neA (by omega)))
  replace F5 := F5.other W65 (Or.inl (own_neA (by omega)))
  replace F6 := F6.other W65 (Or.inl (own_neA (by omega)))
  replace A1 := A1.other W65 (own_neA (by omega))
  replace A2 := A2.setI W65
  replace A3 := A3.other W65 (own_neA (by omega))
  replace A4 := A4.other W65 (own_neA (by omega))
  replace Z0 : n0 ≤ h65.size := by rw [W65.size]; exact Z0
  replace O := O.wr W65 (by omega)
  replace K := K.wr W65 (Or.inl (by simp))
  replace L0 := L0.other W65 (own_neA (by omega))
  have la65 : h65.size > al := by rw [W65.size]; omega
  refine own_aloadN G65 d12_90 rfl rfl ?_
  show ownGo _ _ _ _ _ _ _ T65 91 #[.val (.ref t), .val (.int p1), .unset] [(.ref t)]
  refine own_getF G65 d12_91 (hw _ (List.mem_of_getElem? (i := 69) rfl)) Via.refl F5 ?_
  intro T66 G66
  show ownGo _ _ _ _ _ _ _ T66 94 #[.val (.ref t), .val (.int p1), .unset] [(.ref al)]
  refine own_aconst_null G66 d12_94 ?_
  show ownGo _ _ _ _ _ _ _ T66 95 #[.val (.ref t), .val (.int p1), .unset] [.null, (.ref al)]
  refine own_interface G66 d12_95 (xi := (⟨"java/util/List", "add", "(Ljava/lang/Object;)Z"⟩ : MethodName)) (y := (⟨"java/util/ArrayList", "add", "(Ljava/lang/Object;)Z"⟩ : MethodName)) (hw _ (List.mem_of_getElem? (i := 96) rfl)) (hw _ (List.mem_of_getElem? (i := 97) rfl)) (hw _ (List.mem_of_getElem? (i := 98) rfl)) (hw _ (List.mem_of_getElem? (i := 99) rfl)) (hw _ (List.mem_of_getElem? (i := 100) rfl)) (hw _ (List.mem_of_getElem? (i := 101) rfl)) (hw _ (List.mem_of_getElem? (i := 102) rfl)) (hw _ (List.mem_of_getElem? (i := 103) rfl)) (hw _ (List.mem_of_getElem? (i := 47) rfl)) (hw _ (List.mem_of_getElem? (i := 104) rfl)) (by decide) (a := al) (argsL := [.null]) (rest := []) L0.exa (rmAdda l Z a0 hw al dc 0 h65 n0 Z0 L0 (by omega) O SD AD) rfl rfl rfl (lenOf pd_8 rfl) (W := 0) (Nat.le_of_eq rfl) (by decide) (by decide) (by decide) (by decide) ?_
  intro v67 T67 h67 hq67 G67
  obtain ⟨ed, rfl, q1, q2, K1, L1⟩ := hq67
  show ownGo _ _ _ _ _ _ _ T67 100 #[.val (.ref t), .val (.int p1), .unset] [(.int (1 : Int32))]
  have z_K1 : h65.size ≤ h67.size := K1.1
  replace E := E.keep K1
  replace F1 := F1.keep K1 (ninS (own_neA (by omega)) nin0)
  replace F2 := F2.keep K1 (ninS (own_neA (by omega)) nin0)
  replace F3 := F3.keep K1 (ninS (own_neA (by omega)) nin0)
  replace F4 := F4.keep K1 (ninS (own_neA (by omega)) nin0)
  replace F5 := F5.keep K1 (ninS (own_neA (by omega)) nin0)
  replace F6 := F6.keep K1 (ninS (own_neA (by omega)) nin0)
  replace A1 := A1.keep K1 (ninS (own_neA (by omega)) nin0)
  replace A2 := A2.keep K1 (ninS (own_neA (by omega)) nin0)
  replace A3 := A3.keep K1 (ninS (own_neA (by omega)) nin0)
  replace A4 := A4.keep K1 (ninS (own_neA (by omega)) nin0)
  replace Z0 : n0 ≤ h67.size := Nat.le_trans Z0 K1.1
  replace O := O.keep K1 (allS (by omega) all0)
  replace K := K.trans K1 (allS (Or.inl (by simp)) all0)
  refine own_pop G67 d12_100 rfl ?_
  show ownGo _ _ _ _ _ _ _ T67 101 #[.val (.ref t), .val (.int p1), .unset] []
  refine own_aloadN G67 d12_101 rfl rfl ?_
  show ownGo _ _ _ _ _ _ _ T67 102 #[.val (.ref t), .val (.int p1), .unset] [(.ref t)]
  refine own_dup G67 d12_102 rfl ?_
  show ownGo _ _ _ _ _ _ _ T67 103 #[.val (.ref t), .val (.int p1), .unset] [(.ref t), (.ref t)]
  refine own_getF G67 d12_103 (hw _ (List.mem_of_getElem? (i := 94) rfl)) Via.refl F6 ?_
  intro T68 G68
  show ownGo _ _ _ _ _ _ _ T68 106 #[.val (.ref t), .val (.int p1), .unset] [(.int (Int32.ofNat 0)), (.ref t)]
  refine own_iconst G68 d12_106 ?_
  show ownGo _ _ _ _ _ _ _ T68 107 #[.val (.ref t), .val (.int p1), .unset] [(.int (1 : Int32)), (.int (Int32.ofNat 0)), (.ref t)]
  refine own_iadd G68 d12_107 ?_
  show ownGo _ _ _ _ _ _ _ T68 108 #[.val (.ref t), .val (.int p1), .unset] [(.int ((Int32.ofNat 0) + (1 : Int32))), (.ref t)]
  rw [(by decide : (Int32.ofNat 0) + (1 : Int32) = Int32.ofNat 1)]
  show ownGo _ _ _ _ _ _ _ T68 108 #[.val (.ref t), .val (.int p1), .unset] [(.int (Int32.ofNat 1)), (.ref t)]
  refine own_putF G68 d12_108 (hw _ (List.mem_of_getElem? (i := 94) rfl)) Via.refl F6 E (Or.inl (hw _ (List.mem_of_getElem? (i := 95) rfl))) (hw _ (List.mem_of_getElem? (i := 27) rfl)) (ty := .int) (by decide) rfl rfl r1 ?_
  intro T69 h69 W69 G69
  show ownGo _ _ _ _ _ _ _ T69 111 #[.val (.ref t), .val (.int p1), .unset] []
  have z69 : h69.size = h67.size := W69.size
  replace E := E.wr W69
  replace F1 := F1.other W69 (Or.inr (slot_ne (Or.inl (hw _ (List.mem_of_getElem? (i := 35) rfl))) (Or.inl (hw _ (List.mem_of_getElem? (i := 95) rfl))) (by decide) (t := (.array .int)) (t' := .int) (by decide) (by decide)))
  replace F2 := F2.other W69 (Or.inr (slot_ne (Or.inl (hw _ (List.mem_of_getElem? (i := 37) rfl))) (Or.inl (hw _ (List.mem_of_getElem? (i := 95) rfl))) (by decide) (t := (.array .int)) (t' := .int) (by decide) (by decide)))
  replace F3 := F3.other W69 (Or.inr (slot_ne (Or.inl (hw _ (List.mem_of_getElem? (i := 40) rfl))) (Or.inl (hw _ (List.mem_of_getElem? (i := 95) rfl))) (by decide) (t := (.array .long)) (t' := .int) (by decide) (by decide)))
  replace F4 := F4.other W69 (Or.inr (slot_ne (Or.inl (hw _ (List.mem_of_getElem? (i := 44) rfl))) (Or.inl (hw _ (List.mem_of_getElem? (i := 95) rfl))) (by decide) (t := (.array (.object "java/lang/String"))) (t' := .int) (by decide) (by decide)))
  replace F5 := F5.other W69 (Or.inr (slot_ne (Or.inr (hw _ (List.mem_of_getElem? (i := 70) rfl))) (Or.inl (hw _ (List.mem_of_getElem? (i := 95) rfl))) (by decide) (t := (.object "java/util/List")) (t' := .int) (by decide) (by decide)))
  replace F6 := F6.same W69
  replace A1 := A1.other W69 (own_neA (by omega))
  replace A2 := A2.other W69 (own_neA (by omega))
  replace A3 := A3.other W69 (own_neA (by omega))
  replace A4 := A4.other W69 (own_neA (by omega))
  replace Z0 : n0 ≤ h69.size := by rw [W69.size]; exact Z0
  replace O := O.wr W69 r1
  replace K := K.wr W69 (Or.inl (by simp))
  replace L1 := L1.keep (Keep.of_wr W69) (ninS (own_neA (by omega)) nin0) (ninS (own_neA (by omega)) nin0)
  exact own_ret G69 d12_111 rfl (by decide) (by decide) ⟨ed, by omega, by omega, rfl, K, ⟨E, F1, F2, F3, F4, F5, F6, ⟨_, A1⟩, A2, A3, A4⟩, L1⟩
theorem pn_rmCAdd2 : plainFor (⟨"com/example/once_in_order/onceinorder/service/CursorTable", "add", "(I)V"⟩ : MethodName) = true := plainFor_of_name (by first | (simp [plainName, overriddenIn]; done) | decide +kernel)
theorem ef_rmCAdd2 (m : MethodId) (t : Addr) (p1 : Int32) : entryFrame m #[(.ref t), (.int p1)] 3 = mkF m 0 #[.val (.ref t), .val (.int p1), .unset] [] := by first | (simp [entryFrame, mkF, argsToLocals, Value.category]; done) | rfl
set_option maxRecDepth 65536 in
set_option maxHeartbeats 40000000 in
theorem rmCAdd2 (l : Launch) (Z : State) (a0 : Array Value) (hw : ∀ d ∈ tables_1, d.before a0 Z = true) (t : Addr) (p1 : Int32) (ac de da co al : Addr) (D : Nat → Int32) (A : Nat → Int64) (C : Nat → Value) (ed : Addr) (fl : Nat → Value) (h0 : Heap) (n0 : Nat) (Z0 : n0 ≤ h0.size) (V : ownC Z h0 t ac de da co al 1 D A C) (R : ownOrd n0 t ac de da co al) (L1 : ownA1 Z h0 al ed (0 + 1) 1 fl) (le : @LT.lt Nat instLTNat al ed) :
    ownMet l [] (⟨"com/example/once_in_order/onceinorder/service/CursorTable", "add", "(I)V"⟩ : MethodName) prog_43_method_2_code 3 none ({ frames := 2, cells := 0, slots := 0, locals := 28 } : Room) Z n0 #[(.ref t), (.int p1)] h0 (fun v h => v = none ∧ Keep h0 h [t, ac, de, al, ed] ∧ ownC Z h t ac de da co al 2 (ownUpd D 1 p1) A C ∧ ownA1 Z h al ed (0 + 1 + 1) 2 (fun j => if j = 1 then .null else fl j)) := by
  refine own_body (own := "com/example/once_in_order/onceinorder/service/CursorTable") (nm := "add") pn_rmCAdd2 (fun m => ef_rmCAdd2 m t p1) rfl rfl ?_
  intro p e s m below meth c T0 G0
  show ownGo _ _ _ _ _ _ _ T0 0 #[.val (.ref t), .val (.int p1), .unset] []
  obtain ⟨E, F1, F2, F3, F4, F5, F6, ⟨ga, A1⟩, A2, A3, A4⟩ := V
  obtain ⟨r1, r2, r3, r4, r5, r6⟩ := R
  have K : Keep h0 h0 [t, ac, de, al, ed] := Keep.refl _ _
  refine own_aloadN G0 d12_0 rfl rfl ?_
  show ownGo _ _ _ _ _ _ _ T0 1 #[.val (.ref t), .val (.int p1), .unset] [(.ref t)]
  refine own_getF G0 d12_1 (hw _ (List.mem_of_getElem? (i := 94) rfl)) Via.refl F6 ?_
  intro T70 G70
  show ownGo _ _ _ _ _ _ _ T70 4 #[.val (.ref t), .val (.int p1), .unset] [(.int (Int32.ofNat 1))]
  refine own_aloadN G70 d12_4 rfl rfl ?_
  show ownGo _ _ _ _ _ _ _ T70 5 #[.val (.ref t), .val (.int p1), .unset] [(.ref t), (.int (Int32.ofNat 1))]
  refine own_getF G70 d12_5 (hw _ (List.mem_of_getElem? (i := 36) rfl)) Via.refl F2 ?_
  intro T71 G71
  show ownGo _ _ _ _ _ _ _ T71 8 #[.val (.ref t), .val (.int p1), .unset] [(.ref de), (.int (Int32.ofNat 1))]
  refine own_arraylength G71 d12_8 A2 ?_
  show ownGo _ _ _ _ _ _ _ T71 9 #[.val (.ref t), .val (.int p1), .unset] [(.int (16 : Int32)), (.int (Int32.ofNat 1))]
  refine own_icmp_ne G71 d12_9 (pc' := 70) (by decide) (by decide) (fun hc => ?_) (fun hc => False.elim (absurd hc (by decide)))
  show ownGo _ _ _ _ _ _ _ T71 70 #[.val (.ref t), .val (.int p1), .unset] []
  refine own_aloadN G71 d12_70 rfl rfl ?_
  show ownGo _ _ _ _ _ _ _ T71 71 #[.val (.ref t), .val (.int p1), .unset] [(.ref t)]
  refine own_getF G71 d12_71 (hw _ (List.mem_of_getElem? (i := 34) rfl)) Via.refl F1 ?_
  intro T72 G72
  show ownGo _ _ _ _ _ _ _ T72 74 #[.val (.ref t), .val (.int p1), .unset] [(.ref ac)]
  refine own_aloadN G72 d12_74 rfl rfl ?_
  show ownGo _ _ _ _ _ _ _ T72 75 #[.val (.ref t), .val (.int p1), .unset] [(.ref t), (.ref ac)]
  refine own_getF G72 d12_75 (hw _ (List.mem_of_getElem? (i := 94) rfl)) Via.refl F6 ?_
  intro T73 G73
  show ownGo _ _ _ _ _ _ _ T73 78 #[.val (.ref t), .val (.int p1), .unset] [(.int (Int32.ofNat 1)), (.ref ac)]
  refine own_iloadN G73 d12_78 rfl ?_
  show ownGo _ _ _ _ _ _ _ T73 79 #[.val (.ref t), .val (.int p1), .unset] [(.int p1), (.int (Int32.ofNat 1)), (.ref ac)]
  refine own_iastore G73 d12_79 A1 (i := 1) (by decide) (by omega) ?_
  intro T74 h74 W74 G74
  show ownGo _ _ _ _ _ _ _ T74 80 #[.val (.ref t), .val (.int p1), .unset] []
  have z74 : h74.size = h0.size := W74.size
  replace E := E.wr W74
  replace F1 := F1.other W74 (Or.inl (own_neA (by omega)))
  replace F2 := F2.other W74 (Or.inl (own_neA (by omega)))
  replace F3 := F3.other W74 (Or.inl (own_neA (by omega)))
  replace F4 := F4.other W74 (Or.inl (own_neA (by omega)))
  replace F5 := F5.other W74 (Or.inl (own_neA (by omega)))
  replace F6 := F6.other W74 (Or.inl (own_neA (by omega)))
  replace A1 := A1.same W74
  replace A2 := A2.other W74 (own_neA (by omega))
  replace A3 := A3.other W74 (own_neA (by omega))
  replace A4 := A4.other W74 (own_neA (by omega))
  replace Z0 : n0 ≤ h74.size := by rw [W74.size]; exact Z0
  replace K := K.wr W74 (Or.inl (by simp))
  replace L1 := L1.keep (Keep.of_wr W74) (ninS (own_neA (by omega)) nin0) (ninS (own_neA (by omega)) nin0)
  refine own_aloadN G74 d12_80 rfl rfl ?_
  show ownGo _ _ _ _ _ _ _ T74 81 #[.val (.ref t), .val (.int p1), .unset] [(.ref t)]
  refine own_getF G74 d12_81 (hw _ (List.mem_of_getElem? (i := 36) rfl)) Via.refl F2 ?_
  intro T75 G75
  show ownGo _ _ _ _ _ _ _ T75 84 #[.val (.ref t), .val (.int p1), .unset] [(.ref de)]
  refine own_aloadN G75 d12_84 rfl rfl ?_
  show ownGo _ _ _ _ _ _ _ T75 85 #[.val (.ref t), .val (.int p1), .unset] [(.ref t), (.ref de)]
  refine own_getF G75 d12_85 (hw _ (List.mem_of_getElem? (i := 94) rfl)) Via.refl F6 ?_
  intro T76 G76
  show ownGo _ _ _ _ _ _ _ T76 88 #[.val (.ref t), .val (.int p1), .unset] [(.int (Int32.ofNat 1)), (.ref de)]
  refine own_iloadN G76 d12_88 rfl ?_
  show ownGo _ _ _ _ _ _ _ T76 89 #[.val (.ref t), .val (.int p1), .unset] [(.int p1), (.int (Int32.ofNat 1)), (.ref de)]
  refine own_iastore G76 d12_89 A2 (i := 1) (by decide) (by omega) ?_
  intro T77 h77 W77 G77
  show ownGo _ _ _ _ _ _ _ T77 90 #[.val (.ref t), .val (.int p1), .unset] []
  have z77 : h77.size = h74.size := W77.size
  replace E := E.wr W77
  replace F1 := F1.other W77 (Or.inl (own_neA (by omega)))
  replace F2 := F2.other W77 (Or.inl (own_neA (by omega)))
  replace F3 := F3.other W77 (Or.inl (own_neA (by omega)))
  replace F4 := F4.other W77 (Or.inl (own_neA (by omega)))
  replace F5 := F5.other W77 (Or.inl (own_neA (by omega)))
  replace F6 := F6.other W77 (Or.inl (own_neA (by omega)))
  replace A1 := A1.other W77 (own_neA (by omega))
  replace A2 := A2.setI W77
  replace A3 := A3.other W77 (own_neA (by omega))
  replace A4 := A4.other W77 (own_neA (by omega))
  replace Z0 : n0 ≤ h77.size := by rw [W77.size]; exact Z0
  replace K := K.wr W77 (Or.inl (by simp))
  replace L1 := L1.keep (Keep.of_wr W77) (ninS (own_neA (by omega)) nin0) (ninS (own_neA (by omega)) nin0)
  refine own_aloadN G77 d12_90 rfl rfl ?_
  show ownGo _ _ _ _ _ _ _ T77 91 #[.val (.ref t), .val (.int p1), .unset] [(.ref t)]
  refine own_getF G77 d12_91 (hw _ (List.mem_of_getElem? (i := 69) rfl)) Via.refl F5 ?_
  intro T78 G78
  show ownGo _ _ _ _ _ _ _ T78 94 #[.val (.ref t), .val (.int p1), .unset] [(.ref al)]
  refine own_aconst_null G78 d12_94 ?_
  show ownGo _ _ _ _ _ _ _ T78 95 #[.val (.ref t), .val (.int p1), .unset] [.null, (.ref al)]
  refine own_interface G78 d12_95 (xi := (⟨"java/util/List", "add", "(Ljava/lang/Object;)Z"⟩ : MethodName)) (y := (⟨"java/util/ArrayList", "add", "(Ljava/lang/Object;)Z"⟩ : MethodName)) (hw _ (List.mem_of_getElem? (i := 96) rfl)) (hw _ (List.mem_of_getElem? (i := 97) rfl)) (hw _ (List.mem_of_getElem? (i := 98) rfl)) (hw _ (List.mem_of_getElem? (i := 99) rfl)) (hw _ (List.mem_of_getElem? (i := 100) rfl)) (hw _ (List.mem_of_getElem? (i := 101) rfl)) (hw _ (List.mem_of_getElem? (i := 102) rfl)) (hw _ (List.mem_of_getElem? (i := 103) rfl)) (hw _ (List.mem_of_getElem? (i := 47) rfl)) (hw _ (List.mem_of_getElem? (i := 104) rfl)) (by decide) (a := al) (argsL := [.null]) (rest := []) L1.exa (rmAddb l Z a0 hw al ed (0 + 1) 1 fl h77 n0 Z0 L1 (by omega) (by omega) (own_neA (by omega)) (by decide)) rfl rfl rfl (lenOf pd_8 rfl) (W := 0) (Nat.le_of_eq rfl) (by decide) (by decide) (by decide) (by decide) ?_
  intro v79 T79 h79 hq79 G79
  obtain ⟨rfl, K1, L1⟩ := hq79
  show ownGo _ _ _ _ _ _ _ T79 100 #[.val (.ref t), .val (.int p1), .unset] [(.int (1 : Int32))]
  have z_K1 : h77.size ≤ h79.size := K1.1
  replace E := E.keep K1
  replace F1 := F1.keep K1 (ninS (own_neA (by omega)) (ninS (own_neA (by omega)) nin0))
  replace F2 := F2.keep K1 (ninS (own_neA (by omega)) (ninS (own_neA (by omega)) nin0))
  replace F3 := F3.keep K1 (ninS (own_neA (by omega)) (ninS (own_neA (by omega)) nin0))
  replace F4 := F4.keep K1 (ninS (own_neA (by omega)) (ninS (own_neA (by omega)) nin0))
  replace F5 := F5.keep K1 (ninS (own_neA (by omega)) (ninS (own_neA (by omega)) nin0))
  replace F6 := F6.keep K1 (ninS (own_neA (by omega)) (ninS (own_neA (by omega)) nin0))
  replace A1 := A1.keep K1 (ninS (own_neA (by omega)) (ninS (own_neA (by omega)) nin0))
  replace A2 := A2.keep K1 (ninS (own_neA (by omega)) (ninS (own_neA (by omega)) nin0))
  replace A3 := A3.keep K1 (ninS (own_neA (by omega)) (ninS (own_neA (by omega)) nin0))
  replace A4 := A4.keep K1 (ninS (own_neA (by omega)) (ninS (own_neA (by omega)) nin0))
  replace Z0 : n0 ≤ h79.size := Nat.le_trans Z0 K1.1
  replace K := K.trans K1 (allS (Or.inl (by simp)) (allS (Or.inl (by simp)) all0))
  refine own_pop G79 d12_100 rfl ?_
  show ownGo _ _ _ _ _ _ _ T79 101 #[.val (.ref t), .val (.int p1), .unset] []
  refine own_aloadN G79 d12_101 rfl rfl ?_
  show ownGo _ _ _ _ _ _ _ T79 102 #[.val (.ref t), .val (.int p1), .unset] [(.ref t)]
  refine own_dup G79 d12_102 rfl ?_
  show ownGo _ _ _ _ _ _ _ T79 103 #[.val (.ref t), .val (.int p1), .unset] [(.ref t), (.ref t)]
  refine own_getF G79 d12_103 (hw _ (List.mem_of_getElem? (i := 94) rfl)) Via.refl F6 ?_
  intro T80 G80
  show ownGo _ _ _ _ _ _ _ T80 106 #[.val (.ref t), .val (.int p1), .unset] [(.int (Int32.ofNat 1)), (.ref t)]
  refine own_iconst G80 d12_106 ?_
  show ownGo _ _ _ _ _ _ _ T80 107 #[.val (.ref t), .val (.int p1), .unset] [(.int (1 : Int32)), (.int (Int32.ofNat 1)), (.ref t)]
  refine own_iadd G80 d12_107 ?_
  show ownGo _ _ _ _ _ _ _ T80 108 #[.val (.ref t), .val (.int p1), .unset] [(.int ((Int32.ofNat 1) + (1 : Int32))), (.ref t)]
  rw [(by decide : (Int32.ofNat 1) + (1 : Int32) = Int32.ofNat 2)]
  show ownGo _ _ _ _ _ _ _ T80 108 #[.val (.ref t), .val (.int p1), .unset] [(.int (Int32.ofNat 2)), (.ref t)]
  refine own_putF G80 d12_108 (hw _ (List.mem_of_getElem? (i := 94) rfl)) Via.refl F6 E (Or.inl (hw _ (List.mem_of_getElem? (i := 95) rfl))) (hw _ (List.mem_of_getElem? (i := 27) rfl)) (ty := .int) (by decide) rfl rfl r1 ?_
  intro T81 h81 W81 G81
  show ownGo _ _ _ _ _ _ _ T81 111 #[.val (.ref t), .val (.int p1), .unset] []
  have z81 : h81.size = h79.size := W81.size
  replace E := E.wr W81
  replace F1 := F1.other W81 (Or.inr (slot_ne (Or.inl (hw _ (List.mem_of_getElem? (i := 35) rfl))) (Or.inl (hw _ (List.mem_of_getElem? (i := 95) rfl))) (by decide) (t := (.array .int)) (t' := .int) (by decide) (by decide)))
  replace F2 := F2.other W81 (Or.inr (slot_ne (Or.inl (hw _ (List.mem_of_getElem? (i := 37) rfl))) (Or.inl (hw _ (List.mem_of_getElem? (i := 95) rfl))) (by decide) (t := (.array .int)) (t' := .int) (by decide) (by decide)))
  replace F3 := F3.other W81 (Or.inr (slot_ne (Or.inl (hw _ (List.mem_of_getElem? (i := 40) rfl))) (Or.inl (hw _ (List.mem_of_getElem? (i := 95) rfl))) (by decide) (t := (.array .long)) (t' := .int) (by decide) (by decide)))
  replace F4 := F4.other W81 (Or.inr (slot_ne (Or.inl (hw _ (List.mem_of_getElem? (i := 44) rfl))) (Or.inl (hw _ (List.mem_of_getElem? (i := 95) rfl))) (by decide) (t := (.array (.object "java/lang/String"))) (t' := .int) (by decide) (by decide)))
  replace F5 := F5.other W81 (Or.inr (slot_ne (Or.inr (hw _ (List.mem_of_getElem? (i := 70) rfl))) (Or.inl (hw _ (List.mem_of_getElem? (i := 95) rfl))) (by decide) (t := (.object "java/util/List")) (t' := .int) (by decide) (by decide)))
  replace F6 := F6.same W81
  replace A1 := A1.other W81 (own_neA (by omega))
  replace A2 := A2.other W81 (own_neA (by omega))
  replace A3 := A3.other W81 (own_neA (by omega))
  replace A4 := A4.other W81 (own_neA (by omega))
  replace Z0 : n0 ≤ h81.size := by rw [W81.size]; exact Z0
  replace K := K.wr W81 (Or.inl (by simp))
  replace L1 := L1.keep (Keep.of_wr W81) (ninS (own_neA (by omega)) nin0) (ninS (own_neA (by omega)) nin0)
  exact own_ret G81 d12_111 rfl (by decide) (by decide) ⟨rfl, K, ⟨E, F1, F2, F3, F4, F5, F6, ⟨_, A1⟩, A2, A3, A4⟩, L1⟩
theorem pn_rmDel : plainFor (⟨"com/example/once_in_order/onceinorder/service/CursorTable", "delivered", "(IILjava/lang/String;J)V"⟩ : MethodName) = true := plainFor_of_name (by first | (simp [plainName, overriddenIn]; done) | decide +kernel)
theorem ef_rmDel (m : MethodId) (t : Addr) (p1 : Int32) (p2 : Int32) (c1 : Addr) (q1 : Int64) : entryFrame m #[(.ref t), (.int p1), (.int p2), (.ref c1), (.long q1)] 6 = mkF m 0 #[.val (.ref t), .val (.int p1), .val (.int p2), .val (.ref c1), .val (.long q1), .second] [] := by first | (simp [entryFrame, mkF, argsToLocals, Value.category]; done) | rfl
set_option maxRecDepth 65536 in
set_option maxHeartbeats 40000000 in
theorem rmDel (l : Launch) (Z : State) (a0 : Array Value) (hw : ∀ d ∈ tables_1, d.before a0 Z = true) (t : Addr) (p1 p2 : Int32) (c1 : Addr) (q1 : Int64) (ac de da co al : Addr) (k P : Nat) (dP : Int32) (D : Nat → Int32) (A : Nat → Int64) (C : Nat → Value) (h0 : Heap) (n0 : Nat) (Z0 : n0 ≤ h0.size) (V : ownC Z h0 t ac de da co al k D A C) (R : ownOrd n0 t ac de da co al) (Ec : Exa Z h0 c1 "java/lang/String") (hP : P < 16) (e1 : p1 = Int32.ofNat P) (eD : D P = dP) :
    ownMet l [] (⟨"com/example/once_in_order/onceinorder/service/CursorTable", "delivered", "(IILjava/lang/String;J)V"⟩ : MethodName) prog_43_method_7_code 6 none ({ frames := 0, cells := 0, slots := 0, locals := 0 } : Room) Z n0 #[(.ref t), (.int p1), (.int p2), (.ref c1), (.long q1)] h0 (fun v h => v = none ∧ Keep h0 h [de, co, da] ∧ ((dP < p2 ∧ ownC Z h t ac de da co al k (ownUpd D P p2) (ownUpd A P q1) (ownUpd C P (.ref c1))) ∨ (¬ dP < p2 ∧ ownC Z h t ac de da co al k D A C))) := by
  refine own_body (own := "com/example/once_in_order/onceinorder/service/CursorTable") (nm := "delivered") pn_rmDel (fun m => ef_rmDel m t p1 p2 c1 q1) rfl rfl ?_
  intro p e s m below meth c T0 G0
  show ownGo _ _ _ _ _ _ _ T0 0 #[.val (.ref t), .val (.int p1), .val (.int p2), .val (.ref c1), .val (.long q1), .second] []
  subst e1
  show ownGo _ _ _ _ _ _ _ T0 0 #[.val (.ref t), .val (.int (Int32.ofNat P)), .val (.int p2), .val (.ref c1), .val (.long q1), .second] []
  have V' := V
  obtain ⟨E, F1, F2, F3, F4, F5, F6, ⟨ga, A1⟩, A2, A3, A4⟩ := V'
  obtain ⟨r1, r2, r3, r4, r5, r6⟩ := R
  have K : Keep h0 h0 [de, co, da] := Keep.refl _ _
  refine own_iloadN G0 d18_0 rfl ?_
  show ownGo _ _ _ _ _ _ _ T0 1 #[.val (.ref t), .val (.int (Int32.ofNat P)), .val (.int p2), .val (.ref c1), .val (.long q1), .second] [(.int p2)]
  refine own_aloadN G0 d18_1 rfl rfl ?_
  show ownGo _ _ _ _ _ _ _ T0 2 #[.val (.ref t), .val (.int (Int32.ofNat P)), .val (.int p2), .val (.ref c1), .val (.long q1), .second] [(.ref t), (.int p2)]
  refine own_getF G0 d18_2 (hw _ (List.mem_of_getElem? (i := 36) rfl)) Via.refl F2 ?_
  intro T82 G82
  show ownGo _ _ _ _ _ _ _ T82 5 #[.val (.ref t), .val (.int (Int32.ofNat P)), .val (.int p2), .val (.ref c1), .val (.long q1), .second] [(.ref de), (.int p2)]
  refine own_iloadN G82 d18_5 rfl ?_
  show ownGo _ _ _ _ _ _ _ T82 6 #[.val (.ref t), .val (.int (Int32.ofNat P)), .val (.int p2), .val (.ref c1), .val (.long q1), .second] [(.int (Int32.ofNat P)), (.ref de), (.int p2)]
  refine own_iaload G82 d18_6 (v := (.int dP)) A2  (own_ixN hP (by decide)) (by rw [eD]) ?_
  show ownGo _ _ _ _ _ _ _ T82 7 #[.val (.ref t), .val (.int (Int32.ofNat P)), .val (.int p2), .val (.ref c1), .val (.long q1), .second] [(.int dP), (.int p2)]
  refine own_icmp_le G82 d18_7 (pc' := 32) (by decide) (by decide) (fun hc => ?_) (fun hc => ?_)
  · show ownGo _ _ _ _ _ _ _ T82 32 #[.val (.ref t), .val (.int (Int32.ofNat P)), .val (.int p2), .val (.ref c1), .val (.long q1), .second] []
    exact own_ret G82 d18_32 rfl (by decide) (by decide) ⟨rfl, Keep.refl _ _, Or.inr ⟨hc, V⟩⟩
  · show ownGo _ _ _ _ _ _ _ T82 10 #[.val (.ref t), .val (.int (Int32.ofNat P)), .val (.int p2), .val (.ref c1), .val (.long q1), .second] []
    refine own_aloadN G82 d18_10 rfl rfl ?_
    show ownGo _ _ _ _ _ _ _ T82 11 #[.val (.ref t), .val (.int (Int32.ofNat P)), .val (.int p2), .val (.ref c1), .val (.long q1), .second] [(.ref t)]
    refine own_getF G82 d18_11 (hw _ (List.mem_of_getElem? (i := 36) rfl)) Via.refl F2 ?_
    intro T83 G83
    show ownGo _ _ _ _ _ _ _ T83 14 #[.val (.ref t), .val (.int (Int32.ofNat P)), .val (.int p2), .val (.ref c1), .val (.long q1), .second] [(.ref de)]
    refine own_iloadN G83 d18_14 rfl ?_
    show ownGo _ _ _ _ _ _ _ T83 15 #[.val (.ref t), .val (.int (Int32.ofNat P)), .val (.int p2), .val (.ref c1), .val (.long q1), .second] [(.int (Int32.ofNat P)), (.ref de)]
    refine own_iloadN G83 d18_15 rfl ?_
    show ownGo _ _ _ _ _ _ _ T83 16 #[.val (.ref t), .val (.int (Int32.ofNat P)), .val (.int p2), .val (.ref c1), .val (.long q1), .second] [(.int p2), (.int (Int32.ofNat P)), (.ref de)]
    refine own_iastore G83 d18_16 A2  (own_ixN hP (by decide)) (by omega) ?_
    intro T84 h84 W84 G84
    show ownGo _ _ _ _ _ _ _ T84 17 #[.val (.ref t), .val (.int (Int32.ofNat P)), .val (.int p2), .val (.ref c1), .val (.long q1), .second] []
    have z84 : h84.size = h0.size := W84.size
    replace E := E.wr W84
    replace F1 := F1.other W84 (Or.inl (own_neA (by omega)))
    replace F2 := F2.other W84 (Or.inl (own_neA (by omega)))
    replace F3 := F3.other W84 (Or.inl (own_neA (by omega)))
    replace F4 := F4.other W84 (Or.inl (own_neA (by omega)))
    replace F5 := F5.other W84 (Or.inl (own_neA (by omega)))
    replace F6 := F6.other W84 (Or.inl (own_neA (by omega)))
    replace A1 := A1.other W84 (own_neA (by omega))
    replace A2 := A2.setI W84
    replace A3 := A3.other W84 (own_neA (by omega))
    replace A4 := A4.other W84 (own_neA (by omega))
    replace Ec := Ec.wr W84
    replace Z0 : n0 ≤ h84.size := by rw [W84.size]; exact Z0
    replace K := K.wr W84 (Or.inl (by simp))
    refine own_aloadN G84 d18_17 rfl rfl ?_
    show ownGo _ _ _ _ _ _ _ T84 18 #[.val (.ref t), .val (.int (Int32.ofNat P)), .val (.int p2), .val (.ref c1), .val (.long q1), .second] [(.ref t)]
    refine own_getF G84 d18_18 (hw _ (List.mem_of_getElem? (i := 43) rfl)) Via.refl F4 ?_
    intro T85 G85
    show ownGo _ _ _ _ _ _ _ T85 21 #[.val (.ref t), .val (.int (Int32.ofNat P)), .val (.int p2), .val (.ref c1), .val (.long q1), .second] [(.ref co)]
    refine own_iloadN G85 d18_21 rfl ?_
    show ownGo _ _ _ _ _ _ _ T85 22 #[.val (.ref t), .val (.int (Int32.ofNat P)), .val (.int p2), .val (.ref c1), .val (.long q1), .second] [(.int (Int32.ofNat P)), (.ref co)]
    refine own_aloadN G85 d18_22 rfl rfl ?_
    show ownGo _ _ _ _ _ _ _ T85 23 #[.val (.ref t), .val (.int (Int32.ofNat P)), .val (.int p2), .val (.ref c1), .val (.long q1), .second] [(.ref c1), (.int (Int32.ofNat P)), (.ref co)]
    refine own_aastore G85 d18_23 A4  (own_ixN hP (by decide)) (Or.inr ⟨_, rfl, Ins.self Ec⟩) (by omega) ?_
    intro T86 h86 W86 G86
    show ownGo _ _ _ _ _ _ _ T86 24 #[.val (.ref t), .val (.int (Int32.ofNat P)), .val (.int p2), .val (.ref c1), .val (.long q1), .second] []
    have z86 : h86.size = h84.size := W86.size
    replace E := E.wr W86
    replace F1 := F1.other W86 (Or.inl (own_neA (by omega)))
    replace F2 := F2.other W86 (Or.inl (own_neA (by omega)))
    replace F3 := F3.other W86 (Or.inl (own_neA (by omega)))
    replace F4 := F4.other W86 (Or.inl (own_neA (by omega)))
    replace F5 := F5.other W86 (Or.inl (own_neA (by omega)))
    replace F6 := F6.other W86 (Or.inl (own_neA (by omega)))
    replace A1 := A1.other W86 (own_neA (by omega))
    replace A2 := A2.other W86 (own_neA (by omega))
    replace A3 := A3.other W86 (own_neA (by omega))
    replace A4 := A4.same W86
    replace Ec := Ec.wr W86
    replace Z0 : n0 ≤ h86.size := by rw [W86.size]; exact Z0
    replace K := K.wr W86 (Or.inl (by simp))
    refine own_aloadN G86 d18_24 rfl rfl ?_
    show ownGo _ _ _ _ _ _ _ T86 25 #[.val (.ref t), .val (.int (Int32.ofNat P)), .val (.int p2), .val (.ref c1), .val (.long q1), .second] [(.ref t)]
    refine own_getF G86 d18_25 (hw _ (List.mem_of_getElem? (i := 39) rfl)) Via.refl F3 ?_
    intro T87 G87
    show ownGo _ _ _ _ _ _ _ T87 28 #[.val (.ref t), .val (.int (Int32.ofNat P)), .val (.int p2), .val (.ref c1), .val (.long q1), .second] [(.ref da)]
    refine own_iloadN G87 d18_28 rfl ?_
    show ownGo _ _ _ _ _ _ _ T87 29 #[.val (.ref t), .val (.int (Int32.ofNat P)), .val (.int p2), .val (.ref c1), .val (.long q1), .second] [(.int (Int32.ofNat P)), (.ref da)]
    refine own_lload G87 d18_29 rfl ?_
    show ownGo _ _ _ _ _ _ _ T87 31 #[.val (.ref t), .val (.int (Int32.ofNat P)), .val (.int p2), .val (.ref c1), .val (.long q1), .second] [(.long q1), (.int (Int32.ofNat P)), (.ref da)]
    refine own_lastore G87 d18_31 A3  (own_ixN hP (by decide)) (by omega) ?_
    intro T88 h88 W88 G88
    show ownGo _ _ _ _ _ _ _ T88 32 #[.val (.ref t), .val (.int (Int32.ofNat P)), .val (.int p2), .val (.ref c1), .val (.long q1), .second] []
    have z88 : h88.size = h86.size := W88.size
    replace E := E.wr W88
    replace F1 := F1.other W88 (Or.inl (own_neA (by omega)))
    replace F2 := F2.other W88 (Or.inl (own_neA (by omega)))
    replace F3 := F3.other W88 (Or.inl (own_neA (by omega)))
    replace F4 := F4.other W88 (Or.inl (own_neA (by omega)))
    replace F5 := F5.other W88 (Or.inl (own_neA (by omega)))
    replace F6 := F6.other W88 (Or.inl (own_neA (by omega)))
    replace A1 := A1.other W88 (own_neA (by omega))
    replace A2 := A2.other W88 (own_neA (by omega))
    replace A3 := A3.setL W88
    replace A4 := A4.other W88 (own_neA (by omega))
    replace Ec := Ec.wr W88
    replace Z0 : n0 ≤ h88.size := by rw [W88.size]; exact Z0
    replace K := K.wr W88 (Or.inl (by simp))
    exact own_ret G88 d18_32 rfl (by decide) (by decide) ⟨rfl, K, Or.inl ⟨hc, E, F1, F2, F3, F4, F5, F6, ⟨_, A1⟩, A2, A3, A4⟩⟩
theorem pn_rmD : plainFor (⟨"com/example/once_in_order/onceinorder/service/CursorTable", "delivered", "(I)I"⟩ : MethodName) = true := plainFor_of_name (by first | (simp [plainName, overriddenIn]; done) | decide +kernel)
theorem ef_rmD (m : MethodId) (t : Addr) (p1 : Int32) : entryFrame m #[(.ref t), (.int p1)] 2 = mkF m 0 #[.val (.ref t), .val (.int p1)] [] := by first | (simp [entryFrame, mkF, argsToLocals, Value.category]; done) | rfl
set_option maxRecDepth 65536 in
set_option maxHeartbeats 40000000 in
theorem rmD (l : Launch) (Z : State) (a0 : Array Value) (hw : ∀ d ∈ tables_1, d.before a0 Z = true) (t : Addr) (p1 : Int32) (ac de da co al : Addr) (k P : Nat) (x : Int32) (D : Nat → Int32) (A : Nat → Int64) (C : Nat → Value) (h0 : Heap) (n0 : Nat) (Z0 : n0 ≤ h0.size) (V : ownC Z h0 t ac de da co al k D A C) (hP : P < 16) (e1 : p1 = Int32.ofNat P) (eX : D P = x) :
    ownMet l [] (⟨"com/example/once_in_order/onceinorder/service/CursorTable", "delivered", "(I)I"⟩ : MethodName) prog_43_method_6_code 2 (some .int) ({ frames := 0, cells := 0, slots := 0, locals := 0 } : Room) Z n0 #[(.ref t), (.int p1)] h0 (fun v h => v = some (.int x) ∧ h0 = h) := by
  refine own_body (own := "com/example/once_in_order/onceinorder/service/CursorTable") (nm := "delivered") pn_rmD (fun m => ef_rmD m t p1) rfl rfl ?_
  intro p e s m below meth c T0 G0
  show ownGo _ _ _ _ _ _ _ T0 0 #[.val (.ref t), .val (.int p1)] []
  subst e1
  show ownGo _ _ _ _ _ _ _ T0 0 #[.val (.ref t), .val (.int (Int32.ofNat P))] []
  obtain ⟨E, F1, F2, F3, F4, F5, F6, A1, A2, A3, A4⟩ := V
  refine own_aloadN G0 d19_0 rfl rfl ?_
  show ownGo _ _ _ _ _ _ _ T0 1 #[.val (.ref t), .val (.int (Int32.ofNat P))] [(.ref t)]
  refine own_getF G0 d19_1 (hw _ (List.mem_of_getElem? (i := 36) rfl)) Via.refl F2 ?_
  intro T89 G89
  show ownGo _ _ _ _ _ _ _ T89 4 #[.val (.ref t), .val (.int (Int32.ofNat P))] [(.ref de)]
  refine own_iloadN G89 d19_4 rfl ?_
  show ownGo _ _ _ _ _ _ _ T89 5 #[.val (.ref t), .val (.int (Int32.ofNat P))] [(.int (Int32.ofNat P)), (.ref de)]
  refine own_iaload G89 d19_5 (v := (.int x)) A2  (own_ixN hP (by decide)) (by rw [eX]) ?_
  show ownGo _ _ _ _ _ _ _ T89 6 #[.val (.ref t), .val (.int (Int32.ofNat P))] [(.int x)]
  exact own_ireturn G89 d19_6 rfl (by decide) (by decide) ⟨rfl, rfl⟩
theorem pn_rmC : plainFor (⟨"com/example/once_in_order/onceinorder/service/CursorTable", "consumer", "(I)Ljava/lang/String;"⟩ : MethodName) = true := plainFor_of_name (by first | (simp [plainName, overriddenIn]; done) | decide +kernel)
theorem ef_rmC (m : MethodId) (t : Addr) (p1 : Int32) : entryFrame m #[(.ref t), (.int p1)] 2 = mkF m 0 #[.val (.ref t), .val (.int p1)] [] := by first | (simp [entryFrame, mkF, argsToLocals, Value.category]; done) | rfl
set_option maxRecDepth 65536 in
set_option maxHeartbeats 40000000 in
theorem rmC (l : Launch) (Z : State) (a0 : Array Value) (hw : ∀ d ∈ tables_1, d.before a0 Z = true) (t : Addr) (p1 : Int32) (ac de da co al : Addr) (k P : Nat) (x : Value) (D : Nat → Int32) (A : Nat → Int64) (C : Nat → Value) (h0 : Heap) (n0 : Nat) (Z0 : n0 ≤ h0.size) (V : ownC Z h0 t ac de da co al k D A C) (hP : P < 16) (e1 : p1 = Int32.ofNat P) (eX : C P = x) (hx : x.isRef = true) :
    ownMet l [] (⟨"com/example/once_in_order/onceinorder/service/CursorTable", "consumer", "(I)Ljava/lang/String;"⟩ : MethodName) prog_43_method_10_code 2 (some (.object "java/lang/String")) ({ frames := 0, cells := 0, slots := 0, locals := 0 } : Room) Z n0 #[(.ref t), (.int p1)] h0 (fun v h => v = some x ∧ h0 = h) := by
  refine own_body (own := "com/example/once_in_order/onceinorder/service/CursorTable") (nm := "consumer") pn_rmC (fun m => ef_rmC m t p1) rfl rfl ?_
  intro p e s m below meth c T0 G0
  show ownGo _ _ _ _ _ _ _ T0 0 #[.val (.ref t), .val (.int p1)] []
  subst e1
  show ownGo _ _ _ _ _ _ _ T0 0 #[.val (.ref t), .val (.int (Int32.ofNat P))] []
  obtain ⟨E, F1, F2, F3, F4, F5, F6, A1, A2, A3, A4⟩ := V
  refine own_aloadN G0 d20_0 rfl rfl ?_
  show ownGo _ _ _ _ _ _ _ T0 1 #[.val (.ref t), .val (.int (Int32.ofNat P))] [(.ref t)]
  refine own_getF G0 d20_1 (hw _ (List.mem_of_getElem? (i := 43) rfl)) Via.refl F4 ?_
  intro T90 G90
  show ownGo _ _ _ _ _ _ _ T90 4 #[.val (.ref t), .val (.int (Int32.ofNat P))] [(.ref co)]
  refine own_iloadN G90 d20_4 rfl ?_
  show ownGo _ _ _ _ _ _ _ T90 5 #[.val (.ref t), .val (.int (Int32.ofNat P))] [(.int (Int32.ofNat P)), (.ref co)]
  refine own_aaload G90 d20_5 (v := x) A4.arr rfl  (own_ixN hP (by decide)) eX ?_
  show ownGo _ _ _ _ _ _ _ T90 6 #[.val (.ref t), .val (.int (Int32.ofNat P))] [x]
  rcases ref_cases hx with rfl | ⟨y, rfl⟩
  · exact own_areturn G90 d20_6 rfl rfl rfl rfl (by decide) (by decide) ⟨rfl, rfl⟩
  · exact own_areturn G90 d20_6 rfl rfl rfl rfl (by decide) (by decide) ⟨rfl, rfl⟩
theorem pn_rmA : plainFor (⟨"com/example/once_in_order/onceinorder/service/CursorTable", "deliveredAt", "(I)J"⟩ : MethodName) = true := plainFor_of_name (by first | (simp [plainName, overriddenIn]; done) | decide +kernel)
theorem ef_rmA (m : MethodId) (t : Addr) (p1 : Int32) : entryFrame m #[(.ref t), (.int p1)] 2 = mkF m 0 #[.val (.ref t), .val (.int p1)] [] := by first | (simp [entryFrame, mkF, argsToLocals, Value.category]; done) | rfl
set_option maxRecDepth 65536 in
set_option maxHeartbeats 40000000 in
theorem rmA (l : Launch) (Z : State) (a0 : Array Value) (hw : ∀ d ∈ tables_1, d.before a0 Z = true) (t : Addr) (p1 : Int32) (ac de da co al : Addr) (k P : Nat) (x : Int64) (D : Nat → Int32) (A : Nat → Int64) (C : Nat → Value) (h0 : Heap) (n0 : Nat) (Z0 : n0 ≤ h0.size) (V : ownC Z h0 t ac de da co al k D A C) (hP : P < 16) (e1 : p1 = Int32.ofNat P) (eX : A P = x) :
    ownMet l [] (⟨"com/example/once_in_order/onceinorder/service/CursorTable", "deliveredAt", "(I)J"⟩ : MethodName) prog_43_method_11_code 2 (some .long) ({ frames := 0, cells := 0, slots := 0, locals := 0 } : Room) Z n0 #[(.ref t), (.int p1)] h0 (fun v h => v = some (.long x) ∧ h0 = h) := by
  refine own_body (own := "com/example/once_in_order/onceinorder/service/CursorTable") (nm := "deliveredAt") pn_rmA (fun m => ef_rmA m t p1) rfl rfl ?_
  intro p e s m below meth c T0 G0
  show ownGo _ _ _ _ _ _ _ T0 0 #[.val (.ref t), .val (.int p1)] []
  subst e1
  show ownGo _ _ _ _ _ _ _ T0 0 #[.val (.ref t), .val (.int (Int32.ofNat P))] []
  obtain ⟨E, F1, F2, F3, F4, F5, F6, A1, A2, A3, A4⟩ := V
  refine own_aloadN G0 d21_0 rfl rfl ?_
  show ownGo _ _ _ _ _ _ _ T0 1 #[.val (.ref t), .val (.int (Int32.ofNat P))] [(.ref t)]
  refine own_getF G0 d21_1 (hw _ (List.mem_of_getElem? (i := 39) rfl)) Via.refl F3 ?_
  intro T91 G91
  show ownGo _ _ _ _ _ _ _ T91 4 #[.val (.ref t), .val (.int (Int32.ofNat P))] [(.ref da)]
  refine own_iloadN G91 d21_4 rfl ?_
  show ownGo _ _ _ _ _ _ _ T91 5 #[.val (.ref t), .val (.int (Int32.ofNat P))] [(.int (Int32.ofNat P)), (.ref da)]
  refine own_laload G91 d21_5 (v := (.long x)) A3  (own_ixN hP (by decide)) (by rw [eX]) ?_
  show ownGo _ _ _ _ _ _ _ T91 6 #[.val (.ref t), .val (.int (Int32.ofNat P))] [(.long x)]
  exact own_lreturn G91 d21_6 rfl (by decide) (by decide) ⟨rfl, rfl⟩
theorem own_bit (x : Int32) : ∃ P, P ≤ 1 ∧ (((x.toUInt32 >>> ((16 : Int32) &&& 31).toUInt32).toInt32) &&& (1 : Int32)) = Int32.ofNat P := by
  have h : ∀ y : Int32, ∃ P, P ≤ 1 ∧ (y &&& (1 : Int32)) = Int32.ofNat P := fun y => by
    rcases and_one y with r | r
    · exact ⟨0, by decide, r⟩
    · exact ⟨1, by decide, r⟩
  exact h _
theorem own_flip {P : Nat} (h : P ≤ 1) : (1 : Int32) - Int32.ofNat P = Int32.ofNat (1 - P) := by
  rcases P with _ | _ | P
  · rfl
  · rfl
  · omega
theorem own_c255 (x : Int32) : ¬ (255 : Int32) < ((x &&& (255 : Int32)).toUInt32.toUInt16.toUInt32.toInt32) := by
  rw [i2c_mask]
  have h1 : (x &&& (255 : Int32)).toInt = x.toInt % 2 ^ 8 := Jvm.Kit.i32_mask x 255 (k := 8) (by decide) (by decide)
  rw [Int32.lt_iff_toInt_lt, h1]; show ¬ (255 : Int) < _; omega
theorem own_two {f : Nat → Int32} {a : Int32} {P : Nat} (h : P ≤ 1) : ownUpd (ownUpd f 0 a) 1 a P = a := by
  rcases P with _ | _ | P
  · rfl
  · rfl
  · omega
theorem pn_rm0 : plainFor (⟨"com/example/once_in_order/onceinorder/service/CursorTableDeliveredPinLaw", "law", "(IIIJJI)Z"⟩ : MethodName) = true := plainFor_of_name (by first | (simp [plainName, overriddenIn]; done) | decide +kernel)
theorem ef_rm0 (m : MethodId) (p1 : Int32) (p2 : Int32) (p3 : Int32) (q4 : Int64) (q5 : Int64) (p6 : Int32) : entryFrame m #[(.int p1), (.int p2), (.int p3), (.long q4), (.long q5), (.int p6)] maxLocals = mkF m 0 #[.val (.int p1), .val (.int p2), .val (.int p3), .val (.long q4), .second, .val (.long q5), .second, .val (.int p6), .unset, .unset, .unset, .unset, .unset, .unset, .unset, .unset, .unset, .unset, .unset, .unset, .unset] [] := by first | (simp [entryFrame, mkF, argsToLocals, Value.category, maxLocals]; done) | rfl
set_option maxRecDepth 65536 in
set_option maxHeartbeats 40000000 in
theorem rm0 (l : Launch) (Z : State) (a0 : Array Value) (hw : ∀ d ∈ tables_1, d.before a0 Z = true) (p1 p2 p3 : Int32) (q4 q5 : Int64) (p6 : Int32) (cs : Int32) (dc : Addr) (h0 : Heap) (n0 : Nat) (Z0 : n0 ≤ h0.size) (SC : Sta Z Z.heap "java/lang/String" "COMPACT_STRINGS" "Z" (.int cs)) (hcs : ¬ cs = 0) (O : Old Z n0 h0) (SD : Sta Z Z.heap "java/util/ArrayList" "DEFAULTCAPACITY_EMPTY_ELEMENTDATA" "[Ljava/lang/Object;" (.ref dc)) (AD : ∃ f, ownArr Z Z.heap dc (.object "java/lang/Object") 0 f) :
    ownMet l tables_1 x code maxLocals ret room_1 Z n0 #[(.int p1), (.int p2), (.int p3), (.long q4), (.long q5), (.int p6)] h0 (fun v h => v = some (.int 1)) := by
  refine own_body (own := "com/example/once_in_order/onceinorder/service/CursorTableDeliveredPinLaw") (nm := "law") pn_rm0 (fun m => ef_rm0 m p1 p2 p3 q4 q5 p6) rfl rfl ?_
  intro p e s m below meth c T0 G0
  show ownGo _ _ _ _ _ _ _ T0 0 #[.val (.int p1), .val (.int p2), .val (.int p3), .val (.long q4), .second, .val (.long q5), .second, .val (.int p6), .unset, .unset, .unset, .unset, .unset, .unset, .unset, .unset, .unset, .unset, .unset, .unset, .unset] []
  refine own_iload G0 at_0 rfl ?_
  show ownGo _ _ _ _ _ _ _ T0 2 #[.val (.int p1), .val (.int p2), .val (.int p3), .val (.long q4), .second, .val (.long q5), .second, .val (.int p6), .unset, .unset, .unset, .unset, .unset, .unset, .unset, .unset, .unset, .unset, .unset, .unset, .unset] [(.int p6)]
  refine own_bipush G0 at_2 ?_
  show ownGo _ _ _ _ _ _ _ T0 4 #[.val (.int p1), .val (.int p2), .val (.int p3), .val (.long q4), .second, .val (.long q5), .second, .val (.int p6), .unset, .unset, .unset, .unset, .unset, .unset, .unset, .unset, .unset, .unset, .unset, .unset, .unset] [(.int (16 : Int32)), (.int p6)]
  refine own_iushr G0 at_4 ?_
  show ownGo _ _ _ _ _ _ _ T0 5 #[.val (.int p1), .val (.int p2), .val (.int p3), .val (.long q4), .second, .val (.long q5), .second, .val (.int p6), .unset, .unset, .unset, .unset, .unset, .unset, .unset, .unset, .unset, .unset, .unset, .unset, .unset] [(.int ((p6.toUInt32 >>> ((16 : Int32) &&& 31).toUInt32).toInt32))]
  refine own_iconst G0 at_5 ?_
  show ownGo _ _ _ _ _ _ _ T0 6 #[.val (.int p1), .val (.int p2), .val (.int p3), .val (.long q4), .second, .val (.long q5), .second, .val (.int p6), .unset, .unset, .unset, .unset, .unset, .unset, .unset, .unset, .unset, .unset, .unset, .unset, .unset] [(.int (1 : Int32)), (.int ((p6.toUInt32 >>> ((16 : Int32) &&& 31).toUInt32).toInt32))]
  refine own_iand G0 at_6 ?_
  show ownGo _ _ _ _ _ _ _ T0 7 #[.val (.int p1), .val (.int p2), .val (.int p3), .val (.long q4), .second, .val (.long q5), .second, .val (.int p6), .unset, .unset, .unset, .unset, .unset, .unset, .unset, .unset, .unset, .unset, .unset, .unset, .unset] [(.int (((p6.toUInt32 >>> ((16 : Int32) &&& 31).toUInt32).toInt32) &&& (1 : Int32)))]
  obtain ⟨P, hP, eP⟩ := own_bit p6
  rw [eP]
  show ownGo _ _ _ _ _ _ _ T0 7 #[.val (.int p1), .val (.int p2), .val (.int p3), .val (.long q4), .second, .val (.long q5), .second, .val (.int p6), .unset, .unset, .unset, .unset, .unset, .unset, .unset, .unset, .unset, .unset, .unset, .unset, .unset] [(.int (Int32.ofNat P))]
  refine own_istore G0 at_7 (L' := #[.val (.int p1), .val (.int p2), .val (.int p3), .val (.long q4), .second, .val (.long q5), .second, .val (.int p6), .val (.int (Int32.ofNat P)), .unset, .unset, .unset, .unset, .unset, .unset, .unset, .unset, .unset, .unset, .unset, .unset]) rfl ?_
  show ownGo _ _ _ _ _ _ _ T0 9 #[.val (.int p1), .val (.int p2), .val (.int p3), .val (.long q4), .second, .val (.long q5), .second, .val (.int p6), .val (.int (Int32.ofNat P)), .unset, .unset, .unset, .unset, .unset, .unset, .unset, .unset, .unset, .unset, .unset, .unset] []
  refine own_iconst G0 at_9 ?_
  show ownGo _ _ _ _ _ _ _ T0 10 #[.val (.int p1), .val (.int p2), .val (.int p3), .val (.long q4), .second, .val (.long q5), .second, .val (.int p6), .val (.int (Int32.ofNat P)), .unset, .unset, .unset, .unset, .unset, .unset, .unset, .unset, .unset, .unset, .unset, .unset] [(.int (1 : Int32))]
  refine own_iload G0 at_10 rfl ?_
  show ownGo _ _ _ _ _ _ _ T0 12 #[.val (.int p1), .val (.int p2), .val (.int p3), .val (.long q4), .second, .val (.long q5), .second, .val (.int p6), .val (.int (Int32.ofNat P)), .unset, .unset, .unset, .unset, .unset, .unset, .unset, .unset, .unset, .unset, .unset, .unset] [(.int (Int32.ofNat P)), (.int (1 : Int32))]
  refine own_isub G0 at_12 ?_
  show ownGo _ _ _ _ _ _ _ T0 13 #[.val (.int p1), .val (.int p2), .val (.int p3), .val (.long q4), .second, .val (.long q5), .second, .val (.int p6), .val (.int (Int32.ofNat P)), .unset, .unset, .unset, .unset, .unset, .unset, .unset, .unset, .unset, .unset, .unset, .unset] [(.int ((1 : Int32) - (Int32.ofNat P)))]
  rw [own_flip hP]
  show ownGo _ _ _ _ _ _ _ T0 13 #[.val (.int p1), .val (.int p2), .val (.int p3), .val (.long q4), .second, .val (.long q5), .second, .val (.int p6), .val (.int (Int32.ofNat P)), .unset, .unset, .unset, .unset, .unset, .unset, .unset, .unset, .unset, .unset, .unset, .unset] [(.int (Int32.ofNat (1 - P)))]
  refine own_istore G0 at_13 (L' := #[.val (.int p1), .val (.int p2), .val (.int p3), .val (.long q4), .second, .val (.long q5), .second, .val (.int p6), .val (.int (Int32.ofNat P)), .val (.int (Int32.ofNat (1 - P))), .unset, .unset, .unset, .unset, .unset, .unset, .unset, .unset, .unset, .unset, .unset]) rfl ?_
  show ownGo _ _ _ _ _ _ _ T0 15 #[.val (.int p1), .val (.int p2), .val (.int p3), .val (.long q4), .second, .val (.long q5), .second, .val (.int p6), .val (.int (Int32.ofNat P)), .val (.int (Int32.ofNat (1 - P))), .unset, .unset, .unset, .unset, .unset, .unset, .unset, .unset, .unset, .unset, .unset] []
  refine own_iload G0 at_15 rfl ?_
  show ownGo _ _ _ _ _ _ _ T0 17 #[.val (.int p1), .val (.int p2), .val (.int p3), .val (.long q4), .second, .val (.long q5), .second, .val (.int p6), .val (.int (Int32.ofNat P)), .val (.int (Int32.ofNat (1 - P))), .unset, .unset, .unset, .unset, .unset, .unset, .unset, .unset, .unset, .unset, .unset] [(.int p6)]
  refine own_sipush G0 at_17 ?_
  show ownGo _ _ _ _ _ _ _ T0 20 #[.val (.int p1), .val (.int p2), .val (.int p3), .val (.long q4), .second, .val (.long q5), .second, .val (.int p6), .val (.int (Int32.ofNat P)), .val (.int (Int32.ofNat (1 - P))), .unset, .unset, .unset, .unset, .unset, .unset, .unset, .unset, .unset, .unset, .unset] [(.int (255 : Int32)), (.int p6)]
  refine own_iand G0 at_20 ?_
  show ownGo _ _ _ _ _ _ _ T0 21 #[.val (.int p1), .val (.int p2), .val (.int p3), .val (.long q4), .second, .val (.long q5), .second, .val (.int p6), .val (.int (Int32.ofNat P)), .val (.int (Int32.ofNat (1 - P))), .unset, .unset, .unset, .unset, .unset, .unset, .unset, .unset, .unset, .unset, .unset] [(.int (p6 &&& (255 : Int32)))]
  refine own_i2c G0 at_21 ?_
  show ownGo _ _ _ _ _ _ _ T0 22 #[.val (.int p1), .val (.int p2), .val (.int p3), .val (.long q4), .second, .val (.long q5), .second, .val (.int p6), .val (.int (Int32.ofNat P)), .val (.int (Int32.ofNat (1 - P))), .unset, .unset, .unset, .unset, .unset, .unset, .unset, .unset, .unset, .unset, .unset] [(.int ((p6 &&& (255 : Int32)).toUInt32.toUInt16.toUInt32.toInt32))]
  refine own_callS G0 at_22 (y := (⟨"java/lang/String", "valueOf", "(C)Ljava/lang/String;"⟩ : MethodName)) (hw _ (List.mem_of_getElem? (i := 0) rfl)) (hw _ (List.mem_of_getElem? (i := 1) rfl)) (hw _ (List.mem_of_getElem? (i := 2) rfl)) (hw _ (List.mem_of_getElem? (i := 3) rfl)) (by decide) (argsL := [(.int ((p6 &&& (255 : Int32)).toUInt32.toUInt16.toUInt32.toInt32))]) (rest := []) (rmVal l Z a0 hw _ cs h0 n0 Z0 (own_c255 _) SC hcs O) rfl rfl rfl (lenOf pd_9 rfl) (W := 0) (Nat.le_of_eq rfl) (by decide) (by decide) (by decide) (by decide) ?_
  intro v92 T92 h92 hq92 G92
  obtain ⟨s1, rfl, l1, u1, K1, E1⟩ := hq92
  show ownGo _ _ _ _ _ _ _ T92 25 #[.val (.int p1), .val (.int p2), .val (.int p3), .val (.long q4), .second, .val (.long q5), .second, .val (.int p6), .val (.int (Int32.ofNat P)), .val (.int (Int32.ofNat (1 - P))), .unset, .unset, .unset, .unset, .unset, .unset, .unset, .unset, .unset, .unset, .unset] [(.ref s1)]
  have z_K1 : h0.size ≤ h92.size := K1.1
  replace Z0 : n0 ≤ h92.size := Nat.le_trans Z0 K1.1
  replace O := O.keep K1 all0
  refine own_astore G92 at_25 (L' := #[.val (.int p1), .val (.int p2), .val (.int p3), .val (.long q4), .second, .val (.long q5), .second, .val (.int p6), .val (.int (Int32.ofNat P)), .val (.int (Int32.ofNat (1 - P))), .val (.ref s1), .unset, .unset, .unset, .unset, .unset, .unset, .unset, .unset, .unset, .unset]) rfl rfl ?_
  show ownGo _ _ _ _ _ _ _ T92 27 #[.val (.int p1), .val (.int p2), .val (.int p3), .val (.long q4), .second, .val (.long q5), .second, .val (.int p6), .val (.int (Int32.ofNat P)), .val (.int (Int32.ofNat (1 - P))), .val (.ref s1), .unset, .unset, .unset, .unset, .unset, .unset, .unset, .unset, .unset, .unset] []
  refine own_iload G92 at_27 rfl ?_
  show ownGo _ _ _ _ _ _ _ T92 29 #[.val (.int p1), .val (.int p2), .val (.int p3), .val (.long q4), .second, .val (.long q5), .second, .val (.int p6), .val (.int (Int32.ofNat P)), .val (.int (Int32.ofNat (1 - P))), .val (.ref s1), .unset, .unset, .unset, .unset, .unset, .unset, .unset, .unset, .unset, .unset] [(.int p6)]
  refine own_bipush G92 at_29 ?_
  show ownGo _ _ _ _ _ _ _ T92 31 #[.val (.int p1), .val (.int p2), .val (.int p3), .val (.long q4), .second, .val (.long q5), .second, .val (.int p6), .val (.int (Int32.ofNat P)), .val (.int (Int32.ofNat (1 - P))), .val (.ref s1), .unset, .unset, .unset, .unset, .unset, .unset, .unset, .unset, .unset, .unset] [(.int (8 : Int32)), (.int p6)]
  refine own_iushr G92 at_31 ?_
  show ownGo _ _ _ _ _ _ _ T92 32 #[.val (.int p1), .val (.int p2), .val (.int p3), .val (.long q4), .second, .val (.long q5), .second, .val (.int p6), .val (.int (Int32.ofNat P)), .val (.int (Int32.ofNat (1 - P))), .val (.ref s1), .unset, .unset, .unset, .unset, .unset, .unset, .unset, .unset, .unset, .unset] [(.int ((p6.toUInt32 >>> ((8 : Int32) &&& 31).toUInt32).toInt32))]
  refine own_sipush G92 at_32 ?_
  show ownGo _ _ _ _ _ _ _ T92 35 #[.val (.int p1), .val (.int p2), .val (.int p3), .val (.long q4), .second, .val (.long q5), .second, .val (.int p6), .val (.int (Int32.ofNat P)), .val (.int (Int32.ofNat (1 - P))), .val (.ref s1), .unset, .unset, .unset, .unset, .unset, .unset, .unset, .unset, .unset, .unset] [(.int (255 : Int32)), (.int ((p6.toUInt32 >>> ((8 : Int32) &&& 31).toUInt32).toInt32))]
  refine own_iand G92 at_35 ?_
  show ownGo _ _ _ _ _ _ _ T92 36 #[.val (.int p1), .val (.int p2), .val (.int p3), .val (.long q4), .second, .val (.long q5), .second, .val (.int p6), .val (.int (Int32.ofNat P)), .val (.int (Int32.ofNat (1 - P))), .val (.ref s1), .unset, .unset, .unset, .unset, .unset, .unset, .unset, .unset, .unset, .unset] [(.int (((p6.toUInt32 >>> ((8 : Int32) &&& 31).toUInt32).toInt32) &&& (255 : Int32)))]
  refine own_i2c G92 at_36 ?_
  show ownGo _ _ _ _ _ _ _ T92 37 #[.val (.int p1), .val (.int p2), .val (.int p3), .val (.long q4), .second, .val (.long q5), .second, .val (.int p6), .val (.int (Int32.ofNat P)), .val (.int (Int32.ofNat (1 - P))), .val (.ref s1), .unset, .unset, .unset, .unset, .unset, .unset, .unset, .unset, .unset, .unset] [(.int ((((p6.toUInt32 >>> ((8 : Int32) &&& 31).toUInt32).toInt32) &&& (255 : Int32)).toUInt32.toUInt16.toUInt32.toInt32))]
  refine own_callS G92 at_37 (y := (⟨"java/lang/String", "valueOf", "(C)Ljava/lang/String;"⟩ : MethodName)) (hw _ (List.mem_of_getElem? (i := 0) rfl)) (hw _ (List.mem_of_getElem? (i := 1) rfl)) (hw _ (List.mem_of_getElem? (i := 2) rfl)) (hw _ (List.mem_of_getElem? (i := 3) rfl)) (by decide) (argsL := [(.int ((((p6.toUInt32 >>> ((8 : Int32) &&& 31).toUInt32).toInt32) &&& (255 : Int32)).toUInt32.toUInt16.toUInt32.toInt32))]) (rest := []) (rmVal l Z a0 hw _ cs h92 n0 Z0 (own_c255 _) SC hcs O) rfl rfl rfl (lenOf pd_9 rfl) (W := 0) (Nat.le_of_eq rfl) (by decide) (by decide) (by decide) (by decide) ?_
  intro v93 T93 h93 hq93 G93
  obtain ⟨s2, rfl, l2, u2, K2, E2⟩ := hq93
  show ownGo _ _ _ _ _ _ _ T93 40 #[.val (.int p1), .val (.int p2), .val (.int p3), .val (.long q4), .second, .val (.long q5), .second, .val (.int p6), .val (.int (Int32.ofNat P)), .val (.int (Int32.ofNat (1 - P))), .val (.ref s1), .unset, .unset, .unset, .unset, .unset, .unset, .unset, .unset, .unset, .unset] [(.ref s2)]
  have z_K2 : h92.size ≤ h93.size := K2.1
  replace E1 := E1.keep K2
  replace Z0 : n0 ≤ h93.size := Nat.le_trans Z0 K2.1
  replace O := O.keep K2 all0
  refine own_astore G93 at_40 (L' := #[.val (.int p1), .val (.int p2), .val (.int p3), .val (.long q4), .second, .val (.long q5), .second, .val (.int p6), .val (.int (Int32.ofNat P)), .val (.int (Int32.ofNat (1 - P))), .val (.ref s1), .val (.ref s2), .unset, .unset, .unset, .unset, .unset, .unset, .unset, .unset, .unset]) rfl rfl ?_
  show ownGo _ _ _ _ _ _ _ T93 42 #[.val (.int p1), .val (.int p2), .val (.int p3), .val (.long q4), .second, .val (.long q5), .second, .val (.int p6), .val (.int (Int32.ofNat P)), .val (.int (Int32.ofNat (1 - P))), .val (.ref s1), .val (.ref s2), .unset, .unset, .unset, .unset, .unset, .unset, .unset, .unset, .unset] []
  refine own_new G93 at_42 (hw _ (List.mem_of_getElem? (i := 26) rfl)) (hw _ (List.mem_of_getElem? (i := 27) rfl)) (hw _ (List.mem_of_getElem? (i := 28) rfl)) (by decide) (by decide) ?_
  intro T94 h94 b94 g94 E94 A94 D94 G94
  show ownGo _ _ _ _ _ _ _ T94 45 #[.val (.int p1), .val (.int p2), .val (.int p3), .val (.long q4), .second, .val (.long q5), .second, .val (.int p6), .val (.int (Int32.ofNat P)), .val (.int (Int32.ofNat (1 - P))), .val (.ref s1), .val (.ref s2), .unset, .unset, .unset, .unset, .unset, .unset, .unset, .unset, .unset] [(.ref b94)]
  have F_acknowledged_b94 : Fld Z h94 b94 "com/example/once_in_order/onceinorder/service/CursorTable" "acknowledged" "[I" .null := D94 (Or.inl (hw _ (List.mem_of_getElem? (i := 35) rfl))) (ty := (.array .int)) (by decide)
  have F_delivered_b94 : Fld Z h94 b94 "com/example/once_in_order/onceinorder/service/CursorTable" "delivered" "[I" .null := D94 (Or.inl (hw _ (List.mem_of_getElem? (i := 37) rfl))) (ty := (.array .int)) (by decide)
  have F_deliveredAt_b94 : Fld Z h94 b94 "com/example/once_in_order/onceinorder/service/CursorTable" "deliveredAt" "[J" .null := D94 (Or.inl (hw _ (List.mem_of_getElem? (i := 40) rfl))) (ty := (.array .long)) (by decide)
  have F_consumers_b94 : Fld Z h94 b94 "com/example/once_in_order/onceinorder/service/CursorTable" "consumers" "[Ljava/lang/String;" .null := D94 (Or.inl (hw _ (List.mem_of_getElem? (i := 44) rfl))) (ty := (.array (.object "java/lang/String"))) (by decide)
  have F_recorded_b94 : Fld Z h94 b94 "com/example/once_in_order/onceinorder/service/CursorTable" "recorded" "Ljava/util/List;" .null := D94 (Or.inr (hw _ (List.mem_of_getElem? (i := 70) rfl))) (ty := (.object "java/util/List")) (by decide)
  have F_acknowledgedAhead_b94 : Fld Z h94 b94 "com/example/once_in_order/onceinorder/service/CursorTable" "acknowledgedAhead" "Ljava/util/Map;" .null := D94 (Or.inr (hw _ (List.mem_of_getElem? (i := 88) rfl))) (ty := (.object "java/util/Map")) (by decide)
  have F_size_b94 : Fld Z h94 b94 "com/example/once_in_order/onceinorder/service/CursorTable" "size" "I" (.int (0 : Int32)) := D94 (Or.inl (hw _ (List.mem_of_getElem? (i := 95) rfl))) (ty := .int) (by decide)
  have lb94 : h94.size > b94 := A94.lt
  have gt : n0 ≤ b94 := by omega
  have z94 : h93.size ≤ h94.size := E94.1
  replace E1 := E1.ext E94
  replace E2 := E2.ext E94
  replace Z0 : n0 ≤ h94.size := Nat.le_trans Z0 E94.1
  replace O := O.ext E94
  refine own_dup G94 at_45 rfl ?_
  show ownGo _ _ _ _ _ _ _ T94 46 #[.val (.int p1), .val (.int p2), .val (.int p3), .val (.long q4), .second, .val (.long q5), .second, .val (.int p6), .val (.int (Int32.ofNat P)), .val (.int (Int32.ofNat (1 - P))), .val (.ref s1), .val (.ref s2), .unset, .unset, .unset, .unset, .unset, .unset, .unset, .unset, .unset] [(.ref b94), (.ref b94)]
  refine own_special G94 at_46 (y := (⟨"com/example/once_in_order/onceinorder/service/CursorTable", "<init>", "()V"⟩ : MethodName)) rfl (hw _ (List.mem_of_getElem? (i := 29) rfl)) (hw _ (List.mem_of_getElem? (i := 30) rfl)) (hw _ (List.mem_of_getElem? (i := 28) rfl)) (hw _ (List.mem_of_getElem? (i := 31) rfl)) (by decide) (a := b94) (argsL := []) (rest := [(.ref b94)]) (rmCT l Z a0 hw b94 dc h94 n0 Z0 A94 F_acknowledged_b94 F_delivered_b94 F_deliveredAt_b94 F_consumers_b94 F_recorded_b94 F_acknowledgedAhead_b94 F_size_b94 gt O SD) rfl rfl rfl (lenOf pd_0 rfl) (W := 1) (Nat.le_of_eq rfl) (by decide) (by decide) (by decide) (by decide) ?_
  intro v95 T95 h95 hq95 G95
  obtain ⟨ac, de, da, co, al, rfl, R, x1, x2, K3, V, L0⟩ := hq95
  show ownGo _ _ _ _ _ _ _ T95 49 #[.val (.int p1), .val (.int p2), .val (.int p3), .val (.long q4), .second, .val (.long q5), .second, .val (.int p6), .val (.int (Int32.ofNat P)), .val (.int (Int32.ofNat (1 - P))), .val (.ref s1), .val (.ref s2), .unset, .unset, .unset, .unset, .unset, .unset, .unset, .unset, .unset] [(.ref b94)]
  have R' := R
  obtain ⟨r1, r2, r3, r4, r5, r6⟩ := R'
  have z_K3 : h94.size ≤ h95.size := K3.1
  replace E1 := E1.keep K3
  replace E2 := E2.keep K3
  replace Z0 : n0 ≤ h95.size := Nat.le_trans Z0 K3.1
  replace O := O.keep K3 (allS (by omega) all0)
  refine own_astore G95 at_49 (L' := #[.val (.int p1), .val (.int p2), .val (.int p3), .val (.long q4), .second, .val (.long q5), .second, .val (.int p6), .val (.int (Int32.ofNat P)), .val (.int (Int32.ofNat (1 - P))), .val (.ref s1), .val (.ref s2), .val (.ref b94), .unset, .unset, .unset, .unset, .unset, .unset, .unset, .unset]) rfl rfl ?_
  show ownGo _ _ _ _ _ _ _ T95 51 #[.val (.int p1), .val (.int p2), .val (.int p3), .val (.long q4), .second, .val (.long q5), .second, .val (.int p6), .val (.int (Int32.ofNat P)), .val (.int (Int32.ofNat (1 - P))), .val (.ref s1), .val (.ref s2), .val (.ref b94), .unset, .unset, .unset, .unset, .unset, .unset, .unset, .unset] []
  refine own_aload G95 at_51 rfl rfl ?_
  show ownGo _ _ _ _ _ _ _ T95 53 #[.val (.int p1), .val (.int p2), .val (.int p3), .val (.long q4), .second, .val (.long q5), .second, .val (.int p6), .val (.int (Int32.ofNat P)), .val (.int (Int32.ofNat (1 - P))), .val (.ref s1), .val (.ref s2), .val (.ref b94), .unset, .unset, .unset, .unset, .unset, .unset, .unset, .unset] [(.ref b94)]
  refine own_iloadN G95 at_53 rfl ?_
  show ownGo _ _ _ _ _ _ _ T95 54 #[.val (.int p1), .val (.int p2), .val (.int p3), .val (.long q4), .second, .val (.long q5), .second, .val (.int p6), .val (.int (Int32.ofNat P)), .val (.int (Int32.ofNat (1 - P))), .val (.ref s1), .val (.ref s2), .val (.ref b94), .unset, .unset, .unset, .unset, .unset, .unset, .unset, .unset] [(.int p1), (.ref b94)]
  refine own_virtual G95 at_54 (y := (⟨"com/example/once_in_order/onceinorder/service/CursorTable", "add", "(I)V"⟩ : MethodName)) (hw _ (List.mem_of_getElem? (i := 89) rfl)) (hw _ (List.mem_of_getElem? (i := 90) rfl)) (hw _ (List.mem_of_getElem? (i := 92) rfl)) (hw _ (List.mem_of_getElem? (i := 91) rfl)) (hw _ (List.mem_of_getElem? (i := 28) rfl)) (hw _ (List.mem_of_getElem? (i := 93) rfl)) (by decide) (a := b94) (argsL := [(.int p1)]) (rest := []) V.exa (rmCAdd1 l Z a0 hw b94 _ ac de da co al (fun _ => 0) (fun _ => 0) (fun _ => .null) dc h95 n0 Z0 V R L0 (by omega) O SD AD) rfl rfl rfl (lenOf pd_10 rfl) (W := 0) (Nat.le_of_eq rfl) (by decide) (by decide) (by decide) (by decide) ?_
  intro v96 T96 h96 hq96 G96
  obtain ⟨ed, y1, y2, rfl, K4, V4, L1⟩ := hq96
  show ownGo _ _ _ _ _ _ _ T96 57 #[.val (.int p1), .val (.int p2), .val (.int p3), .val (.long q4), .second, .val (.long q5), .second, .val (.int p6), .val (.int (Int32.ofNat P)), .val (.int (Int32.ofNat (1 - P))), .val (.ref s1), .val (.ref s2), .val (.ref b94), .unset, .unset, .unset, .unset, .unset, .unset, .unset, .unset] []
  have z_K4 : h95.size ≤ h96.size := K4.1
  replace E1 := E1.keep K4
  replace E2 := E2.keep K4
  replace Z0 : n0 ≤ h96.size := Nat.le_trans Z0 K4.1
  replace O := O.keep K4 (allS (by omega) (allS (by omega) (allS (by omega) (allS (by omega) all0))))
  refine own_aload G96 at_57 rfl rfl ?_
  show ownGo _ _ _ _ _ _ _ T96 59 #[.val (.int p1), .val (.int p2), .val (.int p3), .val (.long q4), .second, .val (.long q5), .second, .val (.int p6), .val (.int (Int32.ofNat P)), .val (.int (Int32.ofNat (1 - P))), .val (.ref s1), .val (.ref s2), .val (.ref b94), .unset, .unset, .unset, .unset, .unset, .unset, .unset, .unset] [(.ref b94)]
  refine own_iloadN G96 at_59 rfl ?_
  show ownGo _ _ _ _ _ _ _ T96 60 #[.val (.int p1), .val (.int p2), .val (.int p3), .val (.long q4), .second, .val (.long q5), .second, .val (.int p6), .val (.int (Int32.ofNat P)), .val (.int (Int32.ofNat (1 - P))), .val (.ref s1), .val (.ref s2), .val (.ref b94), .unset, .unset, .unset, .unset, .unset, .unset, .unset, .unset] [(.int p1), (.ref b94)]
  refine own_virtual G96 at_60 (y := (⟨"com/example/once_in_order/onceinorder/service/CursorTable", "add", "(I)V"⟩ : MethodName)) (hw _ (List.mem_of_getElem? (i := 89) rfl)) (hw _ (List.mem_of_getElem? (i := 90) rfl)) (hw _ (List.mem_of_getElem? (i := 92) rfl)) (hw _ (List.mem_of_getElem? (i := 91) rfl)) (hw _ (List.mem_of_getElem? (i := 28) rfl)) (hw _ (List.mem_of_getElem? (i := 93) rfl)) (by decide) (a := b94) (argsL := [(.int p1)]) (rest := []) V4.exa (rmCAdd2 l Z a0 hw b94 _ ac de da co al _ _ _ ed _ h96 n0 Z0 V4 R L1 (by omega)) rfl rfl rfl (lenOf pd_10 rfl) (W := 0) (Nat.le_of_eq rfl) (by decide) (by decide) (by decide) (by decide) ?_
  intro v97 T97 h97 hq97 G97
  obtain ⟨rfl, K5, V5, L2⟩ := hq97
  show ownGo _ _ _ _ _ _ _ T97 63 #[.val (.int p1), .val (.int p2), .val (.int p3), .val (.long q4), .second, .val (.long q5), .second, .val (.int p6), .val (.int (Int32.ofNat P)), .val (.int (Int32.ofNat (1 - P))), .val (.ref s1), .val (.ref s2), .val (.ref b94), .unset, .unset, .unset, .unset, .unset, .unset, .unset, .unset] []
  have z_K5 : h96.size ≤ h97.size := K5.1
  replace E1 := E1.keep K5
  replace E2 := E2.keep K5
  replace Z0 : n0 ≤ h97.size := Nat.le_trans Z0 K5.1
  replace O := O.keep K5 (allS (by omega) (allS (by omega) (allS (by omega) (allS (by omega) (allS (by omega) all0)))))
  refine own_aload G97 at_63 rfl rfl ?_
  show ownGo _ _ _ _ _ _ _ T97 65 #[.val (.int p1), .val (.int p2), .val (.int p3), .val (.long q4), .second, .val (.long q5), .second, .val (.int p6), .val (.int (Int32.ofNat P)), .val (.int (Int32.ofNat (1 - P))), .val (.ref s1), .val (.ref s2), .val (.ref b94), .unset, .unset, .unset, .unset, .unset, .unset, .unset, .unset] [(.ref b94)]
  refine own_iload G97 at_65 rfl ?_
  show ownGo _ _ _ _ _ _ _ T97 67 #[.val (.int p1), .val (.int p2), .val (.int p3), .val (.long q4), .second, .val (.long q5), .second, .val (.int p6), .val (.int (Int32.ofNat P)), .val (.int (Int32.ofNat (1 - P))), .val (.ref s1), .val (.ref s2), .val (.ref b94), .unset, .unset, .unset, .unset, .unset, .unset, .unset, .unset] [(.int (Int32.ofNat P)), (.ref b94)]
  refine own_iloadN G97 at_67 rfl ?_
  show ownGo _ _ _ _ _ _ _ T97 68 #[.val (.int p1), .val (.int p2), .val (.int p3), .val (.long q4), .second, .val (.long q5), .second, .val (.int p6), .val (.int (Int32.ofNat P)), .val (.int (Int32.ofNat (1 - P))), .val (.ref s1), .val (.ref s2), .val (.ref b94), .unset, .unset, .unset, .unset, .unset, .unset, .unset, .unset] [(.int p2), (.int (Int32.ofNat P)), (.ref b94)]
  refine own_aload G97 at_68 rfl rfl ?_
  show ownGo _ _ _ _ _ _ _ T97 70 #[.val (.int p1), .val (.int p2), .val (.int p3), .val (.long q4), .second, .val (.long q5), .second, .val (.int p6), .val (.int (Int32.ofNat P)), .val (.int (Int32.ofNat (1 - P))), .val (.ref s1), .val (.ref s2), .val (.ref b94), .unset, .unset, .unset, .unset, .unset, .unset, .unset, .unset] [(.ref s1), (.int p2), (.int (Int32.ofNat P)), (.ref b94)]
  refine own_lloadN G97 at_70 rfl ?_
  show ownGo _ _ _ _ _ _ _ T97 71 #[.val (.int p1), .val (.int p2), .val (.int p3), .val (.long q4), .second, .val (.long q5), .second, .val (.int p6), .val (.int (Int32.ofNat P)), .val (.int (Int32.ofNat (1 - P))), .val (.ref s1), .val (.ref s2), .val (.ref b94), .unset, .unset, .unset, .unset, .unset, .unset, .unset, .unset] [(.long q4), (.ref s1), (.int p2), (.int (Int32.ofNat P)), (.ref b94)]
  have eD : ownUpd (ownUpd (fun _ => (0 : Int32)) 0 p1) 1 p1 P = p1 := own_two hP
  have eO : ownUpd (ownUpd (fun _ => (0 : Int32)) 0 p1) 1 p1 (1 - P) = p1 := own_two (by omega)
  obtain ⟨D, hD⟩ : ∃ D, D = ownUpd (ownUpd (fun _ => (0 : Int32)) 0 p1) 1 p1 := ⟨_, rfl⟩
  rw [← hD] at V5 eD eO
  have nP : 1 - P ≠ P := by omega
  refine own_virtual G97 at_71 (y := (⟨"com/example/once_in_order/onceinorder/service/CursorTable", "delivered", "(IILjava/lang/String;J)V"⟩ : MethodName)) (hw _ (List.mem_of_getElem? (i := 130) rfl)) (hw _ (List.mem_of_getElem? (i := 131) rfl)) (hw _ (List.mem_of_getElem? (i := 133) rfl)) (hw _ (List.mem_of_getElem? (i := 132) rfl)) (hw _ (List.mem_of_getElem? (i := 28) rfl)) (hw _ (List.mem_of_getElem? (i := 134) rfl)) (by decide) (a := b94) (argsL := [(.int (Int32.ofNat P)), (.int p2), (.ref s1), (.long q4)]) (rest := []) V5.exa (rmDel l Z a0 hw b94 _ p2 s1 q4 ac de da co al 2 P p1 D (fun _ => 0) (fun _ => .null) h97 n0 Z0 V5 R E1 (by omega) rfl eD) rfl rfl rfl (lenOf pd_11 rfl) (W := 0) (Nat.le_of_eq rfl) (by decide) (by decide) (by decide) (by decide) ?_
  intro v98 T98 h98 hq98 G98
  obtain ⟨rfl, K6, ⟨c1, V6⟩ | ⟨c1, V6⟩⟩ := hq98
  · show ownGo _ _ _ _ _ _ _ T98 74 #[.val (.int p1), .val (.int p2), .val (.int p3), .val (.long q4), .second, .val (.long q5), .second, .val (.int p6), .val (.int (Int32.ofNat P)), .val (.int (Int32.ofNat (1 - P))), .val (.ref s1), .val (.ref s2), .val (.ref b94), .unset, .unset, .unset, .unset, .unset, .unset, .unset, .unset] []
    have z_K6 : h97.size ≤ h98.size := K6.1
    replace E1 := E1.keep K6
    replace E2 := E2.keep K6
    replace Z0 : n0 ≤ h98.size := Nat.le_trans Z0 K6.1
    replace O := O.keep K6 (allS (by omega) (allS (by omega) (allS (by omega) all0)))
    refine own_aload G98 at_74 rfl rfl ?_
    show ownGo _ _ _ _ _ _ _ T98 76 #[.val (.int p1), .val (.int p2), .val (.int p3), .val (.long q4), .second, .val (.long q5), .second, .val (.int p6), .val (.int (Int32.ofNat P)), .val (.int (Int32.ofNat (1 - P))), .val (.ref s1), .val (.ref s2), .val (.ref b94), .unset, .unset, .unset, .unset, .unset, .unset, .unset, .unset] [(.ref b94)]
    refine own_iload G98 at_76 rfl ?_
    show ownGo _ _ _ _ _ _ _ T98 78 #[.val (.int p1), .val (.int p2), .val (.int p3), .val (.long q4), .second, .val (.long q5), .second, .val (.int p6), .val (.int (Int32.ofNat P)), .val (.int (Int32.ofNat (1 - P))), .val (.ref s1), .val (.ref s2), .val (.ref b94), .unset, .unset, .unset, .unset, .unset, .unset, .unset, .unset] [(.int (Int32.ofNat P)), (.ref b94)]
    refine own_iloadN G98 at_78 rfl ?_
    show ownGo _ _ _ _ _ _ _ T98 79 #[.val (.int p1), .val (.int p2), .val (.int p3), .val (.long q4), .second, .val (.long q5), .second, .val (.int p6), .val (.int (Int32.ofNat P)), .val (.int (Int32.ofNat (1 - P))), .val (.ref s1), .val (.ref s2), .val (.ref b94), .unset, .unset, .unset, .unset, .unset, .unset, .unset, .unset] [(.int p3), (.int (Int32.ofNat P)), (.ref b94)]
    refine own_aload G98 at_79 rfl rfl ?_
    show ownGo _ _ _ _ _ _ _ T98 81 #[.val (.int p1), .val (.int p2), .val (.int p3), .val (.long q4), .second, .val (.long q5), .second, .val (.int p6), .val (.int (Int32.ofNat P)), .val (.int (Int32.ofNat (1 - P))), .val (.ref s1), .val (.ref s2), .val (.ref b94), .unset, .unset, .unset, .unset, .unset, .unset, .unset, .unset] [(.ref s2), (.int p3), (.int (Int32.ofNat P)), (.ref b94)]
    refine own_lload G98 at_81 rfl ?_
    show ownGo _ _ _ _ _ _ _ T98 83 #[.val (.int p1), .val (.int p2), .val (.int p3), .val (.long q4), .second, .val (.long q5), .second, .val (.int p6), .val (.int (Int32.ofNat P)), .val (.int (Int32.ofNat (1 - P))), .val (.ref s1), .val (.ref s2), .val (.ref b94), .unset, .unset, .unset, .unset, .unset, .unset, .unset, .unset] [(.long q5), (.ref s2), (.int p3), (.int (Int32.ofNat P)), (.ref b94)]
    refine own_virtual G98 at_83 (y := (⟨"com/example/once_in_order/onceinorder/service/CursorTable", "delivered", "(IILjava/lang/String;J)V"⟩ : MethodName)) (hw _ (List.mem_of_getElem? (i := 130) rfl)) (hw _ (List.mem_of_getElem? (i := 131) rfl)) (hw _ (List.mem_of_getElem? (i := 133) rfl)) (hw _ (List.mem_of_getElem? (i := 132) rfl)) (hw _ (List.mem_of_getElem? (i := 28) rfl)) (hw _ (List.mem_of_getElem? (i := 134) rfl)) (by decide) (a := b94) (argsL := [(.int (Int32.ofNat P)), (.int p3), (.ref s2), (.long q5)]) (rest := []) V6.exa (rmDel l Z a0 hw b94 _ p3 s2 q5 ac de da co al 2 P p2 (ownUpd D P p2) (ownUpd (fun _ => (0 : Int64)) P q4) (ownUpd (fun _ => .null) P (.ref s1)) h98 n0 Z0 V6 R E2 (by omega) rfl (by unfold ownUpd; simp)) rfl rfl rfl (lenOf pd_11 rfl) (W := 0) (Nat.le_of_eq rfl) (by decide) (by decide) (by decide) (by decide) ?_
    intro v99 T99 h99 hq99 G99
    obtain ⟨rfl, K7, ⟨c2, V7⟩ | ⟨c2, V7⟩⟩ := hq99
    · show ownGo _ _ _ _ _ _ _ T99 86 #[.val (.int p1), .val (.int p2), .val (.int p3), .val (.long q4), .second, .val (.long q5), .second, .val (.int p6), .val (.int (Int32.ofNat P)), .val (.int (Int32.ofNat (1 - P))), .val (.ref s1), .val (.ref s2), .val (.ref b94), .unset, .unset, .unset, .unset, .unset, .unset, .unset, .unset] []
      have z_K7 : h98.size ≤ h99.size := K7.1
      replace E1 := E1.keep K7
      replace E2 := E2.keep K7
      replace Z0 : n0 ≤ h99.size := Nat.le_trans Z0 K7.1
      replace O := O.keep K7 (allS (by omega) (allS (by omega) (allS (by omega) all0)))
      refine own_iloadN G99 at_86 rfl ?_
      show ownGo _ _ _ _ _ _ _ T99 87 #[.val (.int p1), .val (.int p2), .val (.int p3), .val (.long q4), .second, .val (.long q5), .second, .val (.int p6), .val (.int (Int32.ofNat P)), .val (.int (Int32.ofNat (1 - P))), .val (.ref s1), .val (.ref s2), .val (.ref b94), .unset, .unset, .unset, .unset, .unset, .unset, .unset, .unset] [(.int p2)]
      refine own_iloadN G99 at_87 rfl ?_
      show ownGo _ _ _ _ _ _ _ T99 88 #[.val (.int p1), .val (.int p2), .val (.int p3), .val (.long q4), .second, .val (.long q5), .second, .val (.int p6), .val (.int (Int32.ofNat P)), .val (.int (Int32.ofNat (1 - P))), .val (.ref s1), .val (.ref s2), .val (.ref b94), .unset, .unset, .unset, .unset, .unset, .unset, .unset, .unset] [(.int p1), (.int p2)]
      refine own_icmp_le G99 at_88 (pc' := 104) (by decide) (by decide) (fun hc => False.elim (hc c1)) (fun hc => ?_)
      show ownGo _ _ _ _ _ _ _ T99 91 #[.val (.int p1), .val (.int p2), .val (.int p3), .val (.long q4), .second, .val (.long q5), .second, .val (.int p6), .val (.int (Int32.ofNat P)), .val (.int (Int32.ofNat (1 - P))), .val (.ref s1), .val (.ref s2), .val (.ref b94), .unset, .unset, .unset, .unset, .unset, .unset, .unset, .unset] []
      refine own_iloadN G99 at_91 rfl ?_
      show ownGo _ _ _ _ _ _ _ T99 92 #[.val (.int p1), .val (.int p2), .val (.int p3), .val (.long q4), .second, .val (.long q5), .second, .val (.int p6), .val (.int (Int32.ofNat P)), .val (.int (Int32.ofNat (1 - P))), .val (.ref s1), .val (.ref s2), .val (.ref b94), .unset, .unset, .unset, .unset, .unset, .unset, .unset, .unset] [(.int p2)]
      refine own_istore G99 at_92 (L' := #[.val (.int p1), .val (.int p2), .val (.int p3), .val (.long q4), .second, .val (.long q5), .second, .val (.int p6), .val (.int (Int32.ofNat P)), .val (.int (Int32.ofNat (1 - P))), .val (.ref s1), .val (.ref s2), .val (.ref b94), .val (.int p2), .unset, .unset, .unset, .unset, .unset, .unset, .unset]) rfl ?_
      show ownGo _ _ _ _ _ _ _ T99 94 #[.val (.int p1), .val (.int p2), .val (.int p3), .val (.long q4), .second, .val (.long q5), .second, .val (.int p6), .val (.int (Int32.ofNat P)), .val (.int (Int32.ofNat (1 - P))), .val (.ref s1), .val (.ref s2), .val (.ref b94), .val (.int p2), .unset, .unset, .unset, .unset, .unset, .unset, .unset] []
      refine own_aload G99 at_94 rfl rfl ?_
      show ownGo _ _ _ _ _ _ _ T99 96 #[.val (.int p1), .val (.int p2), .val (.int p3), .val (.long q4), .second, .val (.long q5), .second, .val (.int p6), .val (.int (Int32.ofNat P)), .val (.int (Int32.ofNat (1 - P))), .val (.ref s1), .val (.ref s2), .val (.ref b94), .val (.int p2), .unset, .unset, .unset, .unset, .unset, .unset, .unset] [(.ref s1)]
      refine own_astore G99 at_96 (L' := #[.val (.int p1), .val (.int p2), .val (.int p3), .val (.long q4), .second, .val (.long q5), .second, .val (.int p6), .val (.int (Int32.ofNat P)), .val (.int (Int32.ofNat (1 - P))), .val (.ref s1), .val (.ref s2), .val (.ref b94), .val (.int p2), .val (.ref s1), .unset, .unset, .unset, .unset, .unset, .unset]) rfl rfl ?_
      show ownGo _ _ _ _ _ _ _ T99 98 #[.val (.int p1), .val (.int p2), .val (.int p3), .val (.long q4), .second, .val (.long q5), .second, .val (.int p6), .val (.int (Int32.ofNat P)), .val (.int (Int32.ofNat (1 - P))), .val (.ref s1), .val (.ref s2), .val (.ref b94), .val (.int p2), .val (.ref s1), .unset, .unset, .unset, .unset, .unset, .unset] []
      refine own_lloadN G99 at_98 rfl ?_
      show ownGo _ _ _ _ _ _ _ T99 99 #[.val (.int p1), .val (.int p2), .val (.int p3), .val (.long q4), .second, .val (.long q5), .second, .val (.int p6), .val (.int (Int32.ofNat P)), .val (.int (Int32.ofNat (1 - P))), .val (.ref s1), .val (.ref s2), .val (.ref b94), .val (.int p2), .val (.ref s1), .unset, .unset, .unset, .unset, .unset, .unset] [(.long q4)]
      refine own_lstore G99 at_99 (L' := #[.val (.int p1), .val (.int p2), .val (.int p3), .val (.long q4), .second, .val (.long q5), .second, .val (.int p6), .val (.int (Int32.ofNat P)), .val (.int (Int32.ofNat (1 - P))), .val (.ref s1), .val (.ref s2), .val (.ref b94), .val (.int p2), .val (.ref s1), .val (.long q4), .second, .unset, .unset, .unset, .unset]) rfl ?_
      show ownGo _ _ _ _ _ _ _ T99 101 #[.val (.int p1), .val (.int p2), .val (.int p3), .val (.long q4), .second, .val (.long q5), .second, .val (.int p6), .val (.int (Int32.ofNat P)), .val (.int (Int32.ofNat (1 - P))), .val (.ref s1), .val (.ref s2), .val (.ref b94), .val (.int p2), .val (.ref s1), .val (.long q4), .second, .unset, .unset, .unset, .unset] []
      refine own_goto G99 at_101 (pc' := 113) (by decide) (by decide) ?_
      show ownGo _ _ _ _ _ _ _ T99 113 #[.val (.int p1), .val (.int p2), .val (.int p3), .val (.long q4), .second, .val (.long q5), .second, .val (.int p6), .val (.int (Int32.ofNat P)), .val (.int (Int32.ofNat (1 - P))), .val (.ref s1), .val (.ref s2), .val (.ref b94), .val (.int p2), .val (.ref s1), .val (.long q4), .second, .unset, .unset, .unset, .unset] []
      refine own_iloadN G99 at_113 rfl ?_
      show ownGo _ _ _ _ _ _ _ T99 114 #[.val (.int p1), .val (.int p2), .val (.int p3), .val (.long q4), .second, .val (.long q5), .second, .val (.int p6), .val (.int (Int32.ofNat P)), .val (.int (Int32.ofNat (1 - P))), .val (.ref s1), .val (.ref s2), .val (.ref b94), .val (.int p2), .val (.ref s1), .val (.long q4), .second, .unset, .unset, .unset, .unset] [(.int p3)]
      refine own_iload G99 at_114 rfl ?_
      show ownGo _ _ _ _ _ _ _ T99 116 #[.val (.int p1), .val (.int p2), .val (.int p3), .val (.long q4), .second, .val (.long q5), .second, .val (.int p6), .val (.int (Int32.ofNat P)), .val (.int (Int32.ofNat (1 - P))), .val (.ref s1), .val (.ref s2), .val (.ref b94), .val (.int p2), .val (.ref s1), .val (.long q4), .second, .unset, .unset, .unset, .unset] [(.int p2), (.int p3)]
      refine own_icmp_le G99 at_116 (pc' := 133) (by decide) (by decide) (fun hc => False.elim (hc c2)) (fun hc => ?_)
      show ownGo _ _ _ _ _ _ _ T99 119 #[.val (.int p1), .val (.int p2), .val (.int p3), .val (.long q4), .second, .val (.long q5), .second, .val (.int p6), .val (.int (Int32.ofNat P)), .val (.int (Int32.ofNat (1 - P))), .val (.ref s1), .val (.ref s2), .val (.ref b94), .val (.int p2), .val (.ref s1), .val (.long q4), .second, .unset, .unset, .unset, .unset] []
      refine own_iloadN G99 at_119 rfl ?_
      show ownGo _ _ _ _ _ _ _ T99 120 #[.val (.int p1), .val (.int p2), .val (.int p3), .val (.long q4), .second, .val (.long q5), .second, .val (.int p6), .val (.int (Int32.ofNat P)), .val (.int (Int32.ofNat (1 - P))), .val (.ref s1), .val (.ref s2), .val (.ref b94), .val (.int p2), .val (.ref s1), .val (.long q4), .second, .unset, .unset, .unset, .unset] [(.int p3)]
      refine own_istore G99 at_120 (L' := #[.val (.int p1), .val (.int p2), .val (.int p3), .val (.long q4), .second, .val (.long q5), .second, .val (.int p6), .val (.int (Int32.ofNat P)), .val (.int (Int32.ofNat (1 - P))), .val (.ref s1), .val (.ref s2), .val (.ref b94), .val (.int p2), .val (.ref s1), .val (.long q4), .second, .val (.int p3), .unset, .unset, .unset]) rfl ?_
      show ownGo _ _ _ _ _ _ _ T99 122 #[.val (.int p1), .val (.int p2), .val (.int p3), .val (.long q4), .second, .val (.long q5), .second, .val (.int p6), .val (.int (Int32.ofNat P)), .val (.int (Int32.ofNat (1 - P))), .val (.ref s1), .val (.ref s2), .val (.ref b94), .val (.int p2), .val (.ref s1), .val (.long q4), .second, .val (.int p3), .unset, .unset, .unset] []
      refine own_aload G99 at_122 rfl rfl ?_
      show ownGo _ _ _ _ _ _ _ T99 124 #[.val (.int p1), .val (.int p2), .val (.int p3), .val (.long q4), .second, .val (.long q5), .second, .val (.int p6), .val (.int (Int32.ofNat P)), .val (.int (Int32.ofNat (1 - P))), .val (.ref s1), .val (.ref s2), .val (.ref b94), .val (.int p2), .val (.ref s1), .val (.long q4), .second, .val (.int p3), .unset, .unset, .unset] [(.ref s2)]
      refine own_astore G99 at_124 (L' := #[.val (.int p1), .val (.int p2), .val (.int p3), .val (.long q4), .second, .val (.long q5), .second, .val (.int p6), .val (.int (Int32.ofNat P)), .val (.int (Int32.ofNat (1 - P))), .val (.ref s1), .val (.ref s2), .val (.ref b94), .val (.int p2), .val (.ref s1), .val (.long q4), .second, .val (.int p3), .val (.ref s2), .unset, .unset]) rfl rfl ?_
      show ownGo _ _ _ _ _ _ _ T99 126 #[.val (.int p1), .val (.int p2), .val (.int p3), .val (.long q4), .second, .val (.long q5), .second, .val (.int p6), .val (.int (Int32.ofNat P)), .val (.int (Int32.ofNat (1 - P))), .val (.ref s1), .val (.ref s2), .val (.ref b94), .val (.int p2), .val (.ref s1), .val (.long q4), .second, .val (.int p3), .val (.ref s2), .unset, .unset] []
      refine own_lload G99 at_126 rfl ?_
      show ownGo _ _ _ _ _ _ _ T99 128 #[.val (.int p1), .val (.int p2), .val (.int p3), .val (.long q4), .second, .val (.long q5), .second, .val (.int p6), .val (.int (Int32.ofNat P)), .val (.int (Int32.ofNat (1 - P))), .val (.ref s1), .val (.ref s2), .val (.ref b94), .val (.int p2), .val (.ref s1), .val (.long q4), .second, .val (.int p3), .val (.ref s2), .unset, .unset] [(.long q5)]
      refine own_lstore G99 at_128 (L' := #[.val (.int p1), .val (.int p2), .val (.int p3), .val (.long q4), .second, .val (.long q5), .second, .val (.int p6), .val (.int (Int32.ofNat P)), .val (.int (Int32.ofNat (1 - P))), .val (.ref s1), .val (.ref s2), .val (.ref b94), .val (.int p2), .val (.ref s1), .val (.long q4), .second, .val (.int p3), .val (.ref s2), .val (.long q5), .second]) rfl ?_
      show ownGo _ _ _ _ _ _ _ T99 130 #[.val (.int p1), .val (.int p2), .val (.int p3), .val (.long q4), .second, .val (.long q5), .second, .val (.int p6), .val (.int (Int32.ofNat P)), .val (.int (Int32.ofNat (1 - P))), .val (.ref s1), .val (.ref s2), .val (.ref b94), .val (.int p2), .val (.ref s1), .val (.long q4), .second, .val (.int p3), .val (.ref s2), .val (.long q5), .second] []
      refine own_goto G99 at_130 (pc' := 145) (by decide) (by decide) ?_
      show ownGo _ _ _ _ _ _ _ T99 145 #[.val (.int p1), .val (.int p2), .val (.int p3), .val (.long q4), .second, .val (.long q5), .second, .val (.int p6), .val (.int (Int32.ofNat P)), .val (.int (Int32.ofNat (1 - P))), .val (.ref s1), .val (.ref s2), .val (.ref b94), .val (.int p2), .val (.ref s1), .val (.long q4), .second, .val (.int p3), .val (.ref s2), .val (.long q5), .second] []
      refine own_aload G99 at_145 rfl rfl ?_
      show ownGo _ _ _ _ _ _ _ T99 147 #[.val (.int p1), .val (.int p2), .val (.int p3), .val (.long q4), .second, .val (.long q5), .second, .val (.int p6), .val (.int (Int32.ofNat P)), .val (.int (Int32.ofNat (1 - P))), .val (.ref s1), .val (.ref s2), .val (.ref b94), .val (.int p2), .val (.ref s1), .val (.long q4), .second, .val (.int p3), .val (.ref s2), .val (.long q5), .second] [(.ref b94)]
      refine own_iload G99 at_147 rfl ?_
      show ownGo _ _ _ _ _ _ _ T99 149 #[.val (.int p1), .val (.int p2), .val (.int p3), .val (.long q4), .second, .val (.long q5), .second, .val (.int p6), .val (.int (Int32.ofNat P)), .val (.int (Int32.ofNat (1 - P))), .val (.ref s1), .val (.ref s2), .val (.ref b94), .val (.int p2), .val (.ref s1), .val (.long q4), .second, .val (.int p3), .val (.ref s2), .val (.long q5), .second] [(.int (Int32.ofNat P)), (.ref b94)]
      refine own_virtual G99 at_149 (y := (⟨"com/example/once_in_order/onceinorder/service/CursorTable", "delivered", "(I)I"⟩ : MethodName)) (hw _ (List.mem_of_getElem? (i := 135) rfl)) (hw _ (List.mem_of_getElem? (i := 136) rfl)) (hw _ (List.mem_of_getElem? (i := 138) rfl)) (hw _ (List.mem_of_getElem? (i := 137) rfl)) (hw _ (List.mem_of_getElem? (i := 28) rfl)) (hw _ (List.mem_of_getElem? (i := 139) rfl)) (by decide) (a := b94) (argsL := [(.int (Int32.ofNat P))]) (rest := []) V7.exa (rmD l Z a0 hw b94 _ ac de da co al 2 P p3 (ownUpd (ownUpd D P p2) P p3) (ownUpd (ownUpd (fun _ => (0 : Int64)) P q4) P q5) (ownUpd (ownUpd (fun _ => .null) P (.ref s1)) P (.ref s2)) h99 n0 Z0 V7 (by omega) rfl (by unfold ownUpd; simp)) rfl rfl rfl (lenOf pd_12 rfl) (W := 0) (Nat.le_of_eq rfl) (by decide) (by decide) (by decide) (by decide) ?_
      intro v100 T100 h100 hq100 G100
      obtain ⟨rfl, rfl⟩ := hq100
      show ownGo _ _ _ _ _ _ _ T100 152 #[.val (.int p1), .val (.int p2), .val (.int p3), .val (.long q4), .second, .val (.long q5), .second, .val (.int p6), .val (.int (Int32.ofNat P)), .val (.int (Int32.ofNat (1 - P))), .val (.ref s1), .val (.ref s2), .val (.ref b94), .val (.int p2), .val (.ref s1), .val (.long q4), .second, .val (.int p3), .val (.ref s2), .val (.long q5), .second] [(.int p3)]
      refine own_iload G100 at_152 rfl ?_
      show ownGo _ _ _ _ _ _ _ T100 154 #[.val (.int p1), .val (.int p2), .val (.int p3), .val (.long q4), .second, .val (.long q5), .second, .val (.int p6), .val (.int (Int32.ofNat P)), .val (.int (Int32.ofNat (1 - P))), .val (.ref s1), .val (.ref s2), .val (.ref b94), .val (.int p2), .val (.ref s1), .val (.long q4), .second, .val (.int p3), .val (.ref s2), .val (.long q5), .second] [(.int p3), (.int p3)]
      refine own_icmp_ne G100 at_154 (pc' := 207) (by decide) (by decide) (fun hc => False.elim (hc rfl)) (fun hc => ?_)
      show ownGo _ _ _ _ _ _ _ T100 157 #[.val (.int p1), .val (.int p2), .val (.int p3), .val (.long q4), .second, .val (.long q5), .second, .val (.int p6), .val (.int (Int32.ofNat P)), .val (.int (Int32.ofNat (1 - P))), .val (.ref s1), .val (.ref s2), .val (.ref b94), .val (.int p2), .val (.ref s1), .val (.long q4), .second, .val (.int p3), .val (.ref s2), .val (.long q5), .second] []
      refine own_aload G100 at_157 rfl rfl ?_
      show ownGo _ _ _ _ _ _ _ T100 159 #[.val (.int p1), .val (.int p2), .val (.int p3), .val (.long q4), .second, .val (.long q5), .second, .val (.int p6), .val (.int (Int32.ofNat P)), .val (.int (Int32.ofNat (1 - P))), .val (.ref s1), .val (.ref s2), .val (.ref b94), .val (.int p2), .val (.ref s1), .val (.long q4), .second, .val (.int p3), .val (.ref s2), .val (.long q5), .second] [(.ref b94)]
      refine own_iload G100 at_159 rfl ?_
      show ownGo _ _ _ _ _ _ _ T100 161 #[.val (.int p1), .val (.int p2), .val (.int p3), .val (.long q4), .second, .val (.long q5), .second, .val (.int p6), .val (.int (Int32.ofNat P)), .val (.int (Int32.ofNat (1 - P))), .val (.ref s1), .val (.ref s2), .val (.ref b94), .val (.int p2), .val (.ref s1), .val (.long q4), .second, .val (.int p3), .val (.ref s2), .val (.long q5), .second] [(.int (Int32.ofNat P)), (.ref b94)]
      refine own_virtual G100 at_161 (y := (⟨"com/example/once_in_order/onceinorder/service/CursorTable", "consumer", "(I)Ljava/lang/String;"⟩ : MethodName)) (hw _ (List.mem_of_getElem? (i := 140) rfl)) (hw _ (List.mem_of_getElem? (i := 141) rfl)) (hw _ (List.mem_of_getElem? (i := 143) rfl)) (hw _ (List.mem_of_getElem? (i := 142) rfl)) (hw _ (List.mem_of_getElem? (i := 28) rfl)) (hw _ (List.mem_of_getElem? (i := 144) rfl)) (by decide) (a := b94) (argsL := [(.int (Int32.ofNat P))]) (rest := []) V7.exa (rmC l Z a0 hw b94 _ ac de da co al 2 P (.ref s2) (ownUpd (ownUpd D P p2) P p3) (ownUpd (ownUpd (fun _ => (0 : Int64)) P q4) P q5) (ownUpd (ownUpd (fun _ => .null) P (.ref s1)) P (.ref s2)) h99 n0 Z0 V7 (by omega) rfl (by unfold ownUpd; simp) rfl) rfl rfl rfl (lenOf pd_13 rfl) (W := 0) (Nat.le_of_eq rfl) (by decide) (by decide) (by decide) (by decide) ?_
      intro v101 T101 h101 hq101 G101
      obtain ⟨rfl, rfl⟩ := hq101
      show ownGo _ _ _ _ _ _ _ T101 164 #[.val (.int p1), .val (.int p2), .val (.int p3), .val (.long q4), .second, .val (.long q5), .second, .val (.int p6), .val (.int (Int32.ofNat P)), .val (.int (Int32.ofNat (1 - P))), .val (.ref s1), .val (.ref s2), .val (.ref b94), .val (.int p2), .val (.ref s1), .val (.long q4), .second, .val (.int p3), .val (.ref s2), .val (.long q5), .second] [(.ref s2)]
      refine own_aload G101 at_164 rfl rfl ?_
      show ownGo _ _ _ _ _ _ _ T101 166 #[.val (.int p1), .val (.int p2), .val (.int p3), .val (.long q4), .second, .val (.long q5), .second, .val (.int p6), .val (.int (Int32.ofNat P)), .val (.int (Int32.ofNat (1 - P))), .val (.ref s1), .val (.ref s2), .val (.ref b94), .val (.int p2), .val (.ref s1), .val (.long q4), .second, .val (.int p3), .val (.ref s2), .val (.long q5), .second] [(.ref s2), (.ref s2)]
      refine own_acmp G101 at_166 (pc' := 169) (same := true) rfl rfl (decide_eq_true rfl) (by decide) (by decide) ?_
      show ownGo _ _ _ _ _ _ _ T101 169 #[.val (.int p1), .val (.int p2), .val (.int p3), .val (.long q4), .second, .val (.long q5), .second, .val (.int p6), .val (.int (Int32.ofNat P)), .val (.int (Int32.ofNat (1 - P))), .val (.ref s1), .val (.ref s2), .val (.ref b94), .val (.int p2), .val (.ref s1), .val (.long q4), .second, .val (.int p3), .val (.ref s2), .val (.long q5), .second] []
      refine own_aload G101 at_169 rfl rfl ?_
      show ownGo _ _ _ _ _ _ _ T101 171 #[.val (.int p1), .val (.int p2), .val (.int p3), .val (.long q4), .second, .val (.long q5), .second, .val (.int p6), .val (.int (Int32.ofNat P)), .val (.int (Int32.ofNat (1 - P))), .val (.ref s1), .val (.ref s2), .val (.ref b94), .val (.int p2), .val (.ref s1), .val (.long q4), .second, .val (.int p3), .val (.ref s2), .val (.long q5), .second] [(.ref b94)]
      refine own_iload G101 at_171 rfl ?_
      show ownGo _ _ _ _ _ _ _ T101 173 #[.val (.int p1), .val (.int p2), .val (.int p3), .val (.long q4), .second, .val (.long q5), .second, .val (.int p6), .val (.int (Int32.ofNat P)), .val (.int (Int32.ofNat (1 - P))), .val (.ref s1), .val (.ref s2), .val (.ref b94), .val (.int p2), .val (.ref s1), .val (.long q4), .second, .val (.int p3), .val (.ref s2), .val (.long q5), .second] [(.int (Int32.ofNat P)), (.ref b94)]
      refine own_virtual G101 at_173 (y := (⟨"com/example/once_in_order/onceinorder/service/CursorTable", "deliveredAt", "(I)J"⟩ : MethodName)) (hw _ (List.mem_of_getElem? (i := 145) rfl)) (hw _ (List.mem_of_getElem? (i := 146) rfl)) (hw _ (List.mem_of_getElem? (i := 148) rfl)) (hw _ (List.mem_of_getElem? (i := 147) rfl)) (hw _ (List.mem_of_getElem? (i := 28) rfl)) (hw _ (List.mem_of_getElem? (i := 149) rfl)) (by decide) (a := b94) (argsL := [(.int (Int32.ofNat P))]) (rest := []) V7.exa (rmA l Z a0 hw b94 _ ac de da co al 2 P q5 (ownUpd (ownUpd D P p2) P p3) (ownUpd (ownUpd (fun _ => (0 : Int64)) P q4) P q5) (ownUpd (ownUpd (fun _ => .null) P (.ref s1)) P (.ref s2)) h99 n0 Z0 V7 (by omega) rfl (by unfold ownUpd; simp)) rfl rfl rfl (lenOf pd_14 rfl) (W := 0) (Nat.le_of_eq rfl) (by decide) (by decide) (by decide) (by decide) ?_
      intro v102 T102 h102 hq102 G102
      obtain ⟨rfl, rfl⟩ := hq102
      show ownGo _ _ _ _ _ _ _ T102 176 #[.val (.int p1), .val (.int p2), .val (.int p3), .val (.long q4), .second, .val (.long q5), .second, .val (.int p6), .val (.int (Int32.ofNat P)), .val (.int (Int32.ofNat (1 - P))), .val (.ref s1), .val (.ref s2), .val (.ref b94), .val (.int p2), .val (.ref s1), .val (.long q4), .second, .val (.int p3), .val (.ref s2), .val (.long q5), .second] [(.long q5)]
      refine own_lload G102 at_176 rfl ?_
      show ownGo _ _ _ _ _ _ _ T102 178 #[.val (.int p1), .val (.int p2), .val (.int p3), .val (.long q4), .second, .val (.long q5), .second, .val (.int p6), .val (.int (Int32.ofNat P)), .val (.int (Int32.ofNat (1 - P))), .val (.ref s1), .val (.ref s2), .val (.ref b94), .val (.int p2), .val (.ref s1), .val (.long q4), .second, .val (.int p3), .val (.ref s2), .val (.long q5), .second] [(.long q5), (.long q5)]
      refine own_lcif_ne G102 at_178 at_179 (pc' := 207) (by decide) (by decide) (fun hc => False.elim (hc rfl)) (fun hc => ?_)
      show ownGo _ _ _ _ _ _ _ T102 182 #[.val (.int p1), .val (.int p2), .val (.int p3), .val (.long q4), .second, .val (.long q5), .second, .val (.int p6), .val (.int (Int32.ofNat P)), .val (.int (Int32.ofNat (1 - P))), .val (.ref s1), .val (.ref s2), .val (.ref b94), .val (.int p2), .val (.ref s1), .val (.long q4), .second, .val (.int p3), .val (.ref s2), .val (.long q5), .second] []
      refine own_aload G102 at_182 rfl rfl ?_
      show ownGo _ _ _ _ _ _ _ T102 184 #[.val (.int p1), .val (.int p2), .val (.int p3), .val (.long q4), .second, .val (.long q5), .second, .val (.int p6), .val (.int (Int32.ofNat P)), .val (.int (Int32.ofNat (1 - P))), .val (.ref s1), .val (.ref s2), .val (.ref b94), .val (.int p2), .val (.ref s1), .val (.long q4), .second, .val (.int p3), .val (.ref s2), .val (.long q5), .second] [(.ref b94)]
      refine own_iload G102 at_184 rfl ?_
      show ownGo _ _ _ _ _ _ _ T102 186 #[.val (.int p1), .val (.int p2), .val (.int p3), .val (.long q4), .second, .val (.long q5), .second, .val (.int p6), .val (.int (Int32.ofNat P)), .val (.int (Int32.ofNat (1 - P))), .val (.ref s1), .val (.ref s2), .val (.ref b94), .val (.int p2), .val (.ref s1), .val (.long q4), .second, .val (.int p3), .val (.ref s2), .val (.long q5), .second] [(.int (Int32.ofNat (1 - P))), (.ref b94)]
      refine own_virtual G102 at_186 (y := (⟨"com/example/once_in_order/onceinorder/service/CursorTable", "delivered", "(I)I"⟩ : MethodName)) (hw _ (List.mem_of_getElem? (i := 135) rfl)) (hw _ (List.mem_of_getElem? (i := 136) rfl)) (hw _ (List.mem_of_getElem? (i := 138) rfl)) (hw _ (List.mem_of_getElem? (i := 137) rfl)) (hw _ (List.mem_of_getElem? (i := 28) rfl)) (hw _ (List.mem_of_getElem? (i := 139) rfl)) (by decide) (a := b94) (argsL := [(.int (Int32.ofNat (1 - P)))]) (rest := []) V7.exa (rmD l Z a0 hw b94 _ ac de da co al 2 (1 - P) p1 (ownUpd (ownUpd D P p2) P p3) (ownUpd (ownUpd (fun _ => (0 : Int64)) P q4) P q5) (ownUpd (ownUpd (fun _ => .null) P (.ref s1)) P (.ref s2)) h99 n0 Z0 V7 (by omega) rfl (by unfold ownUpd; simp [nP, eO])) rfl rfl rfl (lenOf pd_12 rfl) (W := 0) (Nat.le_of_eq rfl) (by decide) (by decide) (by decide) (by decide) ?_
      intro v103 T103 h103 hq103 G103
      obtain ⟨rfl, rfl⟩ := hq103
      show ownGo _ _ _ _ _ _ _ T103 189 #[.val (.int p1), .val (.int p2), .val (.int p3), .val (.long q4), .second, .val (.long q5), .second, .val (.int p6), .val (.int (Int32.ofNat P)), .val (.int (Int32.ofNat (1 - P))), .val (.ref s1), .val (.ref s2), .val (.ref b94), .val (.int p2), .val (.ref s1), .val (.long q4), .second, .val (.int p3), .val (.ref s2), .val (.long q5), .second] [(.int p1)]
      refine own_iloadN G103 at_189 rfl ?_
      show ownGo _ _ _ _ _ _ _ T103 190 #[.val (.int p1), .val (.int p2), .val (.int p3), .val (.long q4), .second, .val (.long q5), .second, .val (.int p6), .val (.int (Int32.ofNat P)), .val (.int (Int32.ofNat (1 - P))), .val (.ref s1), .val (.ref s2), .val (.ref b94), .val (.int p2), .val (.ref s1), .val (.long q4), .second, .val (.int p3), .val (.ref s2), .val (.long q5), .second] [(.int p1), (.int p1)]
      refine own_icmp_ne G103 at_190 (pc' := 207) (by decide) (by decide) (fun hc => False.elim (hc rfl)) (fun hc => ?_)
      show ownGo _ _ _ _ _ _ _ T103 193 #[.val (.int p1), .val (.int p2), .val (.int p3), .val (.long q4), .second, .val (.long q5), .second, .val (.int p6), .val (.int (Int32.ofNat P)), .val (.int (Int32.ofNat (1 - P))), .val (.ref s1), .val (.ref s2), .val (.ref b94), .val (.int p2), .val (.ref s1), .val (.long q4), .second, .val (.int p3), .val (.ref s2), .val (.long q5), .second] []
      refine own_aload G103 at_193 rfl rfl ?_
      show ownGo _ _ _ _ _ _ _ T103 195 #[.val (.int p1), .val (.int p2), .val (.int p3), .val (.long q4), .second, .val (.long q5), .second, .val (.int p6), .val (.int (Int32.ofNat P)), .val (.int (Int32.ofNat (1 - P))), .val (.ref s1), .val (.ref s2), .val (.ref b94), .val (.int p2), .val (.ref s1), .val (.long q4), .second, .val (.int p3), .val (.ref s2), .val (.long q5), .second] [(.ref b94)]
      refine own_iload G103 at_195 rfl ?_
      show ownGo _ _ _ _ _ _ _ T103 197 #[.val (.int p1), .val (.int p2), .val (.int p3), .val (.long q4), .second, .val (.long q5), .second, .val (.int p6), .val (.int (Int32.ofNat P)), .val (.int (Int32.ofNat (1 - P))), .val (.ref s1), .val (.ref s2), .val (.ref b94), .val (.int p2), .val (.ref s1), .val (.long q4), .second, .val (.int p3), .val (.ref s2), .val (.long q5), .second] [(.int (Int32.ofNat (1 - P))), (.ref b94)]
      refine own_virtual G103 at_197 (y := (⟨"com/example/once_in_order/onceinorder/service/CursorTable", "consumer", "(I)Ljava/lang/String;"⟩ : MethodName)) (hw _ (List.mem_of_getElem? (i := 140) rfl)) (hw _ (List.mem_of_getElem? (i := 141) rfl)) (hw _ (List.mem_of_getElem? (i := 143) rfl)) (hw _ (List.mem_of_getElem? (i := 142) rfl)) (hw _ (List.mem_of_getElem? (i := 28) rfl)) (hw _ (List.mem_of_getElem? (i := 144) rfl)) (by decide) (a := b94) (argsL := [(.int (Int32.ofNat (1 - P)))]) (rest := []) V7.exa (rmC l Z a0 hw b94 _ ac de da co al 2 (1 - P) .null (ownUpd (ownUpd D P p2) P p3) (ownUpd (ownUpd (fun _ => (0 : Int64)) P q4) P q5) (ownUpd (ownUpd (fun _ => .null) P (.ref s1)) P (.ref s2)) h99 n0 Z0 V7 (by omega) rfl (by unfold ownUpd; simp [nP]) rfl) rfl rfl rfl (lenOf pd_13 rfl) (W := 0) (Nat.le_of_eq rfl) (by decide) (by decide) (by decide) (by decide) ?_
      intro v104 T104 h104 hq104 G104
      obtain ⟨rfl, rfl⟩ := hq104
      show ownGo _ _ _ _ _ _ _ T104 200 #[.val (.int p1), .val (.int p2), .val (.int p3), .val (.long q4), .second, .val (.long q5), .second, .val (.int p6), .val (.int (Int32.ofNat P)), .val (.int (Int32.ofNat (1 - P))), .val (.ref s1), .val (.ref s2), .val (.ref b94), .val (.int p2), .val (.ref s1), .val (.long q4), .second, .val (.int p3), .val (.ref s2), .val (.long q5), .second] [.null]
      refine own_ifnonnull_null G104 at_200 ?_
      show ownGo _ _ _ _ _ _ _ T104 203 #[.val (.int p1), .val (.int p2), .val (.int p3), .val (.long q4), .second, .val (.long q5), .second, .val (.int p6), .val (.int (Int32.ofNat P)), .val (.int (Int32.ofNat (1 - P))), .val (.ref s1), .val (.ref s2), .val (.ref b94), .val (.int p2), .val (.ref s1), .val (.long q4), .second, .val (.int p3), .val (.ref s2), .val (.long q5), .second] []
      refine own_iconst G104 at_203 ?_
      show ownGo _ _ _ _ _ _ _ T104 204 #[.val (.int p1), .val (.int p2), .val (.int p3), .val (.long q4), .second, .val (.long q5), .second, .val (.int p6), .val (.int (Int32.ofNat P)), .val (.int (Int32.ofNat (1 - P))), .val (.ref s1), .val (.ref s2), .val (.ref b94), .val (.int p2), .val (.ref s1), .val (.long q4), .second, .val (.int p3), .val (.ref s2), .val (.long q5), .second] [(.int (1 : Int32))]
      refine own_goto G104 at_204 (pc' := 208) (by decide) (by decide) ?_
      show ownGo _ _ _ _ _ _ _ T104 208 #[.val (.int p1), .val (.int p2), .val (.int p3), .val (.long q4), .second, .val (.long q5), .second, .val (.int p6), .val (.int (Int32.ofNat P)), .val (.int (Int32.ofNat (1 - P))), .val (.ref s1), .val (.ref s2), .val (.ref b94), .val (.int p2), .val (.ref s1), .val (.long q4), .second, .val (.int p3), .val (.ref s2), .val (.long q5), .second] [(.int (1 : Int32))]
      exact own_zreturn G104 at_208 rfl (by decide) (by decide) rfl
    · show ownGo _ _ _ _ _ _ _ T99 86 #[.val (.int p1), .val (.int p2), .val (.int p3), .val (.long q4), .second, .val (.long q5), .second, .val (.int p6), .val (.int (Int32.ofNat P)), .val (.int (Int32.ofNat (1 - P))), .val (.ref s1), .val (.ref s2), .val (.ref b94), .unset, .unset, .unset, .unset, .unset, .unset, .unset, .unset] []
      have z_K7 : h98.size ≤ h99.size := K7.1
      replace E1 := E1.keep K7
      replace E2 := E2.keep K7
      replace Z0 : n0 ≤ h99.size := Nat.le_trans Z0 K7.1
      replace O := O.keep K7 (allS (by omega) (allS (by omega) (allS (by omega) all0)))
      refine own_iloadN G99 at_86 rfl ?_
      show ownGo _ _ _ _ _ _ _ T99 87 #[.val (.int p1), .val (.int p2), .val (.int p3), .val (.long q4), .second, .val (.long q5), .second, .val (.int p6), .val (.int (Int32.ofNat P)), .val (.int (Int32.ofNat (1 - P))), .val (.ref s1), .val (.ref s2), .val (.ref b94), .unset, .unset, .unset, .unset, .unset, .unset, .unset, .unset] [(.int p2)]
      refine own_iloadN G99 at_87 rfl ?_
      show ownGo _ _ _ _ _ _ _ T99 88 #[.val (.int p1), .val (.int p2), .val (.int p3), .val (.long q4), .second, .val (.long q5), .second, .val (.int p6), .val (.int (Int32.ofNat P)), .val (.int (Int32.ofNat (1 - P))), .val (.ref s1), .val (.ref s2), .val (.ref b94), .unset, .unset, .unset, .unset, .unset, .unset, .unset, .unset] [(.int p1), (.int p2)]
      refine own_icmp_le G99 at_88 (pc' := 104) (by decide) (by decide) (fun hc => False.elim (hc c1)) (fun hc => ?_)
      show ownGo _ _ _ _ _ _ _ T99 91 #[.val (.int p1), .val (.int p2), .val (.int p3), .val (.long q4), .second, .val (.long q5), .second, .val (.int p6), .val (.int (Int32.ofNat P)), .val (.int (Int32.ofNat (1 - P))), .val (.ref s1), .val (.ref s2), .val (.ref b94), .unset, .unset, .unset, .unset, .unset, .unset, .unset, .unset] []
      refine own_iloadN G99 at_91 rfl ?_
      show ownGo _ _ _ _ _ _ _ T99 92 #[.val (.int p1), .val (.int p2), .val (.int p3), .val (.long q4), .second, .val (.long q5), .second, .val (.int p6), .val (.int (Int32.ofNat P)), .val (.int (Int32.ofNat (1 - P))), .val (.ref s1), .val (.ref s2), .val (.ref b94), .unset, .unset, .unset, .unset, .unset, .unset, .unset, .unset] [(.int p2)]
      refine own_istore G99 at_92 (L' := #[.val (.int p1), .val (.int p2), .val (.int p3), .val (.long q4), .second, .val (.long q5), .second, .val (.int p6), .val (.int (Int32.ofNat P)), .val (.int (Int32.ofNat (1 - P))), .val (.ref s1), .val (.ref s2), .val (.ref b94), .val (.int p2), .unset, .unset, .unset, .unset, .unset, .unset, .unset]) rfl ?_
      show ownGo _ _ _ _ _ _ _ T99 94 #[.val (.int p1), .val (.int p2), .val (.int p3), .val (.long q4), .second, .val (.long q5), .second, .val (.int p6), .val (.int (Int32.ofNat P)), .val (.int (Int32.ofNat (1 - P))), .val (.ref s1), .val (.ref s2), .val (.ref b94), .val (.int p2), .unset, .unset, .unset, .unset, .unset, .unset, .unset] []
      refine own_aload G99 at_94 rfl rfl ?_
      show ownGo _ _ _ _ _ _ _ T99 96 #[.val (.int p1), .val (.int p2), .val (.int p3), .val (.long q4), .second, .val (.long q5), .second, .val (.int p6), .val (.int (Int32.ofNat P)), .val (.int (Int32.ofNat (1 - P))), .val (.ref s1), .val (.ref s2), .val (.ref b94), .val (.int p2), .unset, .unset, .unset, .unset, .unset, .unset, .unset] [(.ref s1)]
      refine own_astore G99 at_96 (L' := #[.val (.int p1), .val (.int p2), .val (.int p3), .val (.long q4), .second, .val (.long q5), .second, .val (.int p6), .val (.int (Int32.ofNat P)), .val (.int (Int32.ofNat (1 - P))), .val (.ref s1), .val (.ref s2), .val (.ref b94), .val (.int p2), .val (.ref s1), .unset, .unset, .unset, .unset, .unset, .unset]) rfl rfl ?_
      show ownGo _ _ _ _ _ _ _ T99 98 #[.val (.int p1), .val (.int p2), .val (.int p3), .val (.long q4), .second, .val (.long q5), .second, .val (.int p6), .val (.int (Int32.ofNat P)), .val (.int (Int32.ofNat (1 - P))), .val (.ref s1), .val (.ref s2), .val (.ref b94), .val (.int p2), .val (.ref s1), .unset, .unset, .unset, .unset, .unset, .unset] []
      refine own_lloadN G99 at_98 rfl ?_
      show ownGo _ _ _ _ _ _ _ T99 99 #[.val (.int p1), .val (.int p2), .val (.int p3), .val (.long q4), .second, .val (.long q5), .second, .val (.int p6), .val (.int (Int32.ofNat P)), .val (.int (Int32.ofNat (1 - P))), .val (.ref s1), .val (.ref s2), .val (.ref b94), .val (.int p2), .val (.ref s1), .unset, .unset, .unset, .unset, .unset, .unset] [(.long q4)]
      refine own_lstore G99 at_99 (L' := #[.val (.int p1), .val (.int p2), .val (.int p3), .val (.long q4), .second, .val (.long q5), .second, .val (.int p6), .val (.int (Int32.ofNat P)), .val (.int (Int32.ofNat (1 - P))), .val (.ref s1), .val (.ref s2), .val (.ref b94), .val (.int p2), .val (.ref s1), .val (.long q4), .second, .unset, .unset, .unset, .unset]) rfl ?_
      show ownGo _ _ _ _ _ _ _ T99 101 #[.val (.int p1), .val (.int p2), .val (.int p3), .val (.long q4), .second, .val (.long q5), .second, .val (.int p6), .val (.int (Int32.ofNat P)), .val (.int (Int32.ofNat (1 - P))), .val (.ref s1), .val (.ref s2), .val (.ref b94), .val (.int p2), .val (.ref s1), .val (.long q4), .second, .unset, .unset, .unset, .unset] []
      refine own_goto G99 at_101 (pc' := 113) (by decide) (by decide) ?_
      show ownGo _ _ _ _ _ _ _ T99 113 #[.val (.int p1), .val (.int p2), .val (.int p3), .val (.long q4), .second, .val (.long q5), .second, .val (.int p6), .val (.int (Int32.ofNat P)), .val (.int (Int32.ofNat (1 - P))), .val (.ref s1), .val (.ref s2), .val (.ref b94), .val (.int p2), .val (.ref s1), .val (.long q4), .second, .unset, .unset, .unset, .unset] []
      refine own_iloadN G99 at_113 rfl ?_
      show ownGo _ _ _ _ _ _ _ T99 114 #[.val (.int p1), .val (.int p2), .val (.int p3), .val (.long q4), .second, .val (.long q5), .second, .val (.int p6), .val (.int (Int32.ofNat P)), .val (.int (Int32.ofNat (1 - P))), .val (.ref s1), .val (.ref s2), .val (.ref b94), .val (.int p2), .val (.ref s1), .val (.long q4), .second, .unset, .unset, .unset, .unset] [(.int p3)]
      refine own_iload G99 at_114 rfl ?_
      show ownGo _ _ _ _ _ _ _ T99 116 #[.val (.int p1), .val (.int p2), .val (.int p3), .val (.long q4), .second, .val (.long q5), .second, .val (.int p6), .val (.int (Int32.ofNat P)), .val (.int (Int32.ofNat (1 - P))), .val (.ref s1), .val (.ref s2), .val (.ref b94), .val (.int p2), .val (.ref s1), .val (.long q4), .second, .unset, .unset, .unset, .unset] [(.int p2), (.int p3)]
      refine own_icmp_le G99 at_116 (pc' := 133) (by decide) (by decide) (fun hc => ?_) (fun hc => False.elim (c2 hc))
      show ownGo _ _ _ _ _ _ _ T99 133 #[.val (.int p1), .val (.int p2), .val (.int p3), .val (.long q4), .second, .val (.long q5), .second, .val (.int p6), .val (.int (Int32.ofNat P)), .val (.int (Int32.ofNat (1 - P))), .val (.ref s1), .val (.ref s2), .val (.ref b94), .val (.int p2), .val (.ref s1), .val (.long q4), .second, .unset, .unset, .unset, .unset] []
      refine own_iload G99 at_133 rfl ?_
      show ownGo _ _ _ _ _ _ _ T99 135 #[.val (.int p1), .val (.int p2), .val (.int p3), .val (.long q4), .second, .val (.long q5), .second, .val (.int p6), .val (.int (Int32.ofNat P)), .val (.int (Int32.ofNat (1 - P))), .val (.ref s1), .val (.ref s2), .val (.ref b94), .val (.int p2), .val (.ref s1), .val (.long q4), .second, .unset, .unset, .unset, .unset] [(.int p2)]
      refine own_istore G99 at_135 (L' := #[.val (.int p1), .val (.int p2), .val (.int p3), .val (.long q4), .second, .val (.long q5), .second, .val (.int p6), .val (.int (Int32.ofNat P)), .val (.int (Int32.ofNat (1 - P))), .val (.ref s1), .val (.ref s2), .val (.ref b94), .val (.int p2), .val (.ref s1), .val (.long q4), .second, .val (.int p2), .unset, .unset, .unset]) rfl ?_
      show ownGo _ _ _ _ _ _ _ T99 137 #[.val (.int p1), .val (.int p2), .val (.int p3), .val (.long q4), .second, .val (.long q5), .second, .val (.int p6), .val (.int (Int32.ofNat P)), .val (.int (Int32.ofNat (1 - P))), .val (.ref s1), .val (.ref s2), .val (.ref b94), .val (.int p2), .val (.ref s1), .val (.long q4), .second, .val (.int p2), .unset, .unset, .unset] []
      refine own_aload G99 at_137 rfl rfl ?_
      show ownGo _ _ _ _ _ _ _ T99 139 #[.val (.int p1), .val (.int p2), .val (.int p3), .val (.long q4), .second, .val (.long q5), .second, .val (.int p6), .val (.int (Int32.ofNat P)), .val (.int (Int32.ofNat (1 - P))), .val (.ref s1), .val (.ref s2), .val (.ref b94), .val (.int p2), .val (.ref s1), .val (.long q4), .second, .val (.int p2), .unset, .unset, .unset] [(.ref s1)]
      refine own_astore G99 at_139 (L' := #[.val (.int p1), .val (.int p2), .val (.int p3), .val (.long q4), .second, .val (.long q5), .second, .val (.int p6), .val (.int (Int32.ofNat P)), .val (.int (Int32.ofNat (1 - P))), .val (.ref s1), .val (.ref s2), .val (.ref b94), .val (.int p2), .val (.ref s1), .val (.long q4), .second, .val (.int p2), .val (.ref s1), .unset, .unset]) rfl rfl ?_
      show ownGo _ _ _ _ _ _ _ T99 141 #[.val (.int p1), .val (.int p2), .val (.int p3), .val (.long q4), .second, .val (.long q5), .second, .val (.int p6), .val (.int (Int32.ofNat P)), .val (.int (Int32.ofNat (1 - P))), .val (.ref s1), .val (.ref s2), .val (.ref b94), .val (.int p2), .val (.ref s1), .val (.long q4), .second, .val (.int p2), .val (.ref s1), .unset, .unset] []
      refine own_lload G99 at_141 rfl ?_
      show ownGo _ _ _ _ _ _ _ T99 143 #[.val (.int p1), .val (.int p2), .val (.int p3), .val (.long q4), .second, .val (.long q5), .second, .val (.int p6), .val (.int (Int32.ofNat P)), .val (.int (Int32.ofNat (1 - P))), .val (.ref s1), .val (.ref s2), .val (.ref b94), .val (.int p2), .val (.ref s1), .val (.long q4), .second, .val (.int p2), .val (.ref s1), .unset, .unset] [(.long q4)]
      refine own_lstore G99 at_143 (L' := #[.val (.int p1), .val (.int p2), .val (.int p3), .val (.long q4), .second, .val (.long q5), .second, .val (.int p6), .val (.int (Int32.ofNat P)), .val (.int (Int32.ofNat (1 - P))), .val (.ref s1), .val (.ref s2), .val (.ref b94), .val (.int p2), .val (.ref s1), .val (.long q4), .second, .val (.int p2), .val (.ref s1), .val (.long q4), .second]) rfl ?_
      show ownGo _ _ _ _ _ _ _ T99 145 #[.val (.int p1), .val (.int p2), .val (.int p3), .val (.long q4), .second, .val (.long q5), .second, .val (.int p6), .val (.int (Int32.ofNat P)), .val (.int (Int32.ofNat (1 - P))), .val (.ref s1), .val (.ref s2), .val (.ref b94), .val (.int p2), .val (.ref s1), .val (.long q4), .second, .val (.int p2), .val (.ref s1), .val (.long q4), .second] []
      refine own_aload G99 at_145 rfl rfl ?_
      show ownGo _ _ _ _ _ _ _ T99 147 #[.val (.int p1), .val (.int p2), .val (.int p3), .val (.long q4), .second, .val (.long q5), .second, .val (.int p6), .val (.int (Int32.ofNat P)), .val (.int (Int32.ofNat (1 - P))), .val (.ref s1), .val (.ref s2), .val (.ref b94), .val (.int p2), .val (.ref s1), .val (.long q4), .second, .val (.int p2), .val (.ref s1), .val (.long q4), .second] [(.ref b94)]
      refine own_iload G99 at_147 rfl ?_
      show ownGo _ _ _ _ _ _ _ T99 149 #[.val (.int p1), .val (.int p2), .val (.int p3), .val (.long q4), .second, .val (.long q5), .second, .val (.int p6), .val (.int (Int32.ofNat P)), .val (.int (Int32.ofNat (1 - P))), .val (.ref s1), .val (.ref s2), .val (.ref b94), .val (.int p2), .val (.ref s1), .val (.long q4), .second, .val (.int p2), .val (.ref s1), .val (.long q4), .second] [(.int (Int32.ofNat P)), (.ref b94)]
      refine own_virtual G99 at_149 (y := (⟨"com/example/once_in_order/onceinorder/service/CursorTable", "delivered", "(I)I"⟩ : MethodName)) (hw _ (List.mem_of_getElem? (i := 135) rfl)) (hw _ (List.mem_of_getElem? (i := 136) rfl)) (hw _ (List.mem_of_getElem? (i := 138) rfl)) (hw _ (List.mem_of_getElem? (i := 137) rfl)) (hw _ (List.mem_of_getElem? (i := 28) rfl)) (hw _ (List.mem_of_getElem? (i := 139) rfl)) (by decide) (a := b94) (argsL := [(.int (Int32.ofNat P))]) (rest := []) V7.exa (rmD l Z a0 hw b94 _ ac de da co al 2 P p2 (ownUpd D P p2) (ownUpd (fun _ => (0 : Int64)) P q4) (ownUpd (fun _ => .null) P (.ref s1)) h99 n0 Z0 V7 (by omega) rfl (by unfold ownUpd; simp)) rfl rfl rfl (lenOf pd_12 rfl) (W := 0) (Nat.le_of_eq rfl) (by decide) (by decide) (by decide) (by decide) ?_
      intro v105 T105 h105 hq105 G105
      obtain ⟨rfl, rfl⟩ := hq105
      show ownGo _ _ _ _ _ _ _ T105 152 #[.val (.int p1), .val (.int p2), .val (.int p3), .val (.long q4), .second, .val (.long q5), .second, .val (.int p6), .val (.int (Int32.ofNat P)), .val (.int (Int32.ofNat (1 - P))), .val (.ref s1), .val (.ref s2), .val (.ref b94), .val (.int p2), .val (.ref s1), .val (.long q4), .second, .val (.int p2), .val (.ref s1), .val (.long q4), .second] [(.int p2)]
      refine own_iload G105 at_152 rfl ?_
      show ownGo _ _ _ _ _ _ _ T105 154 #[.val (.int p1), .val (.int p2), .val (.int p3), .val (.long q4), .second, .val (.long q5), .second, .val (.int p6), .val (.int (Int32.ofNat P)), .val (.int (Int32.ofNat (1 - P))), .val (.ref s1), .val (.ref s2), .val (.ref b94), .val (.int p2), .val (.ref s1), .val (.long q4), .second, .val (.int p2), .val (.ref s1), .val (.long q4), .second] [(.int p2), (.int p2)]
      refine own_icmp_ne G105 at_154 (pc' := 207) (by decide) (by decide) (fun hc => False.elim (hc rfl)) (fun hc => ?_)
      show ownGo _ _ _ _ _ _ _ T105 157 #[.val (.int p1), .val (.int p2), .val (.int p3), .val (.long q4), .second, .val (.long q5), .second, .val (.int p6), .val (.int (Int32.ofNat P)), .val (.int (Int32.ofNat (1 - P))), .val (.ref s1), .val (.ref s2), .val (.ref b94), .val (.int p2), .val (.ref s1), .val (.long q4), .second, .val (.int p2), .val (.ref s1), .val (.long q4), .second] []
      refine own_aload G105 at_157 rfl rfl ?_
      show ownGo _ _ _ _ _ _ _ T105 159 #[.val (.int p1), .val (.int p2), .val (.int p3), .val (.long q4), .second, .val (.long q5), .second, .val (.int p6), .val (.int (Int32.ofNat P)), .val (.int (Int32.ofNat (1 - P))), .val (.ref s1), .val (.ref s2), .val (.ref b94), .val (.int p2), .val (.ref s1), .val (.long q4), .second, .val (.int p2), .val (.ref s1), .val (.long q4), .second] [(.ref b94)]
      refine own_iload G105 at_159 rfl ?_
      show ownGo _ _ _ _ _ _ _ T105 161 #[.val (.int p1), .val (.int p2), .val (.int p3), .val (.long q4), .second, .val (.long q5), .second, .val (.int p6), .val (.int (Int32.ofNat P)), .val (.int (Int32.ofNat (1 - P))), .val (.ref s1), .val (.ref s2), .val (.ref b94), .val (.int p2), .val (.ref s1), .val (.long q4), .second, .val (.int p2), .val (.ref s1), .val (.long q4), .second] [(.int (Int32.ofNat P)), (.ref b94)]
      refine own_virtual G105 at_161 (y := (⟨"com/example/once_in_order/onceinorder/service/CursorTable", "consumer", "(I)Ljava/lang/String;"⟩ : MethodName)) (hw _ (List.mem_of_getElem? (i := 140) rfl)) (hw _ (List.mem_of_getElem? (i := 141) rfl)) (hw _ (List.mem_of_getElem? (i := 143) rfl)) (hw _ (List.mem_of_getElem? (i := 142) rfl)) (hw _ (List.mem_of_getElem? (i := 28) rfl)) (hw _ (List.mem_of_getElem? (i := 144) rfl)) (by decide) (a := b94) (argsL := [(.int (Int32.ofNat P))]) (rest := []) V7.exa (rmC l Z a0 hw b94 _ ac de da co al 2 P (.ref s1) (ownUpd D P p2) (ownUpd (fun _ => (0 : Int64)) P q4) (ownUpd (fun _ => .null) P (.ref s1)) h99 n0 Z0 V7 (by omega) rfl (by unfold ownUpd; simp) rfl) rfl rfl rfl (lenOf pd_13 rfl) (W := 0) (Nat.le_of_eq rfl) (by decide) (by decide) (by decide) (by decide) ?_
      intro v106 T106 h106 hq106 G106
      obtain ⟨rfl, rfl⟩ := hq106
      show ownGo _ _ _ _ _ _ _ T106 164 #[.val (.int p1), .val (.int p2), .val (.int p3), .val (.long q4), .second, .val (.long q5), .second, .val (.int p6), .val (.int (Int32.ofNat P)), .val (.int (Int32.ofNat (1 - P))), .val (.ref s1), .val (.ref s2), .val (.ref b94), .val (.int p2), .val (.ref s1), .val (.long q4), .second, .val (.int p2), .val (.ref s1), .val (.long q4), .second] [(.ref s1)]
      refine own_aload G106 at_164 rfl rfl ?_
      show ownGo _ _ _ _ _ _ _ T106 166 #[.val (.int p1), .val (.int p2), .val (.int p3), .val (.long q4), .second, .val (.long q5), .second, .val (.int p6), .val (.int (Int32.ofNat P)), .val (.int (Int32.ofNat (1 - P))), .val (.ref s1), .val (.ref s2), .val (.ref b94), .val (.int p2), .val (.ref s1), .val (.long q4), .second, .val (.int p2), .val (.ref s1), .val (.long q4), .second] [(.ref s1), (.ref s1)]
      refine own_acmp G106 at_166 (pc' := 169) (same := true) rfl rfl (decide_eq_true rfl) (by decide) (by decide) ?_
      show ownGo _ _ _ _ _ _ _ T106 169 #[.val (.int p1), .val (.int p2), .val (.int p3), .val (.long q4), .second, .val (.long q5), .second, .val (.int p6), .val (.int (Int32.ofNat P)), .val (.int (Int32.ofNat (1 - P))), .val (.ref s1), .val (.ref s2), .val (.ref b94), .val (.int p2), .val (.ref s1), .val (.long q4), .second, .val (.int p2), .val (.ref s1), .val (.long q4), .second] []
      refine own_aload G106 at_169 rfl rfl ?_
      show ownGo _ _ _ _ _ _ _ T106 171 #[.val (.int p1), .val (.int p2), .val (.int p3), .val (.long q4), .second, .val (.long q5), .second, .val (.int p6), .val (.int (Int32.ofNat P)), .val (.int (Int32.ofNat (1 - P))), .val (.ref s1), .val (.ref s2), .val (.ref b94), .val (.int p2), .val (.ref s1), .val (.long q4), .second, .val (.int p2), .val (.ref s1), .val (.long q4), .second] [(.ref b94)]
      refine own_iload G106 at_171 rfl ?_
      show ownGo _ _ _ _ _ _ _ T106 173 #[.val (.int p1), .val (.int p2), .val (.int p3), .val (.long q4), .second, .val (.long q5), .second, .val (.int p6), .val (.int (Int32.ofNat P)), .val (.int (Int32.ofNat (1 - P))), .val (.ref s1), .val (.ref s2), .val (.ref b94), .val (.int p2), .val (.ref s1), .val (.long q4), .second, .val (.int p2), .val (.ref s1), .val (.long q4), .second] [(.int (Int32.ofNat P)), (.ref b94)]
      refine own_virtual G106 at_173 (y := (⟨"com/example/once_in_order/onceinorder/service/CursorTable", "deliveredAt", "(I)J"⟩ : MethodName)) (hw _ (List.mem_of_getElem? (i := 145) rfl)) (hw _ (List.mem_of_getElem? (i := 146) rfl)) (hw _ (List.mem_of_getElem? (i := 148) rfl)) (hw _ (List.mem_of_getElem? (i := 147) rfl)) (hw _ (List.mem_of_getElem? (i := 28) rfl)) (hw _ (List.mem_of_getElem? (i := 149) rfl)) (by decide) (a := b94) (argsL := [(.int (Int32.ofNat P))]) (rest := []) V7.exa (rmA l Z a0 hw b94 _ ac de da co al 2 P q4 (ownUpd D P p2) (ownUpd (fun _ => (0 : Int64)) P q4) (ownUpd (fun _ => .null) P (.ref s1)) h99 n0 Z0 V7 (by omega) rfl (by unfold ownUpd; simp)) rfl rfl rfl (lenOf pd_14 rfl) (W := 0) (Nat.le_of_eq rfl) (by decide) (by decide) (by decide) (by decide) ?_
      intro v107 T107 h107 hq107 G107
      obtain ⟨rfl, rfl⟩ := hq107
      show ownGo _ _ _ _ _ _ _ T107 176 #[.val (.int p1), .val (.int p2), .val (.int p3), .val (.long q4), .second, .val (.long q5), .second, .val (.int p6), .val (.int (Int32.ofNat P)), .val (.int (Int32.ofNat (1 - P))), .val (.ref s1), .val (.ref s2), .val (.ref b94), .val (.int p2), .val (.ref s1), .val (.long q4), .second, .val (.int p2), .val (.ref s1), .val (.long q4), .second] [(.long q4)]
      refine own_lload G107 at_176 rfl ?_
      show ownGo _ _ _ _ _ _ _ T107 178 #[.val (.int p1), .val (.int p2), .val (.int p3), .val (.long q4), .second, .val (.long q5), .second, .val (.int p6), .val (.int (Int32.ofNat P)), .val (.int (Int32.ofNat (1 - P))), .val (.ref s1), .val (.ref s2), .val (.ref b94), .val (.int p2), .val (.ref s1), .val (.long q4), .second, .val (.int p2), .val (.ref s1), .val (.long q4), .second] [(.long q4), (.long q4)]
      refine own_lcif_ne G107 at_178 at_179 (pc' := 207) (by decide) (by decide) (fun hc => False.elim (hc rfl)) (fun hc => ?_)
      show ownGo _ _ _ _ _ _ _ T107 182 #[.val (.int p1), .val (.int p2), .val (.int p3), .val (.long q4), .second, .val (.long q5), .second, .val (.int p6), .val (.int (Int32.ofNat P)), .val (.int (Int32.ofNat (1 - P))), .val (.ref s1), .val (.ref s2), .val (.ref b94), .val (.int p2), .val (.ref s1), .val (.long q4), .second, .val (.int p2), .val (.ref s1), .val (.long q4), .second] []
      refine own_aload G107 at_182 rfl rfl ?_
      show ownGo _ _ _ _ _ _ _ T107 184 #[.val (.int p1), .val (.int p2), .val (.int p3), .val (.long q4), .second, .val (.long q5), .second, .val (.int p6), .val (.int (Int32.ofNat P)), .val (.int (Int32.ofNat (1 - P))), .val (.ref s1), .val (.ref s2), .val (.ref b94), .val (.int p2), .val (.ref s1), .val (.long q4), .second, .val (.int p2), .val (.ref s1), .val (.long q4), .second] [(.ref b94)]
      refine own_iload G107 at_184 rfl ?_
      show ownGo _ _ _ _ _ _ _ T107 186 #[.val (.int p1), .val (.int p2), .val (.int p3), .val (.long q4), .second, .val (.long q5), .second, .val (.int p6), .val (.int (Int32.ofNat P)), .val (.int (Int32.ofNat (1 - P))), .val (.ref s1), .val (.ref s2), .val (.ref b94), .val (.int p2), .val (.ref s1), .val (.long q4), .second, .val (.int p2), .val (.ref s1), .val (.long q4), .second] [(.int (Int32.ofNat (1 - P))), (.ref b94)]
      refine own_virtual G107 at_186 (y := (⟨"com/example/once_in_order/onceinorder/service/CursorTable", "delivered", "(I)I"⟩ : MethodName)) (hw _ (List.mem_of_getElem? (i := 135) rfl)) (hw _ (List.mem_of_getElem? (i := 136) rfl)) (hw _ (List.mem_of_getElem? (i := 138) rfl)) (hw _ (List.mem_of_getElem? (i := 137) rfl)) (hw _ (List.mem_of_getElem? (i := 28) rfl)) (hw _ (List.mem_of_getElem? (i := 139) rfl)) (by decide) (a := b94) (argsL := [(.int (Int32.ofNat (1 - P)))]) (rest := []) V7.exa (rmD l Z a0 hw b94 _ ac de da co al 2 (1 - P) p1 (ownUpd D P p2) (ownUpd (fun _ => (0 : Int64)) P q4) (ownUpd (fun _ => .null) P (.ref s1)) h99 n0 Z0 V7 (by omega) rfl (by unfold ownUpd; simp [nP, eO])) rfl rfl rfl (lenOf pd_12 rfl) (W := 0) (Nat.le_of_eq rfl) (by decide) (by decide) (by decide) (by decide) ?_
      intro v108 T108 h108 hq108 G108
      obtain ⟨rfl, rfl⟩ := hq108
      show ownGo _ _ _ _ _ _ _ T108 189 #[.val (.int p1), .val (.int p2), .val (.int p3), .val (.long q4), .second, .val (.long q5), .second, .val (.int p6), .val (.int (Int32.ofNat P)), .val (.int (Int32.ofNat (1 - P))), .val (.ref s1), .val (.ref s2), .val (.ref b94), .val (.int p2), .val (.ref s1), .val (.long q4), .second, .val (.int p2), .val (.ref s1), .val (.long q4), .second] [(.int p1)]
      refine own_iloadN G108 at_189 rfl ?_
      show ownGo _ _ _ _ _ _ _ T108 190 #[.val (.int p1), .val (.int p2), .val (.int p3), .val (.long q4), .second, .val (.long q5), .second, .val (.int p6), .val (.int (Int32.ofNat P)), .val (.int (Int32.ofNat (1 - P))), .val (.ref s1), .val (.ref s2), .val (.ref b94), .val (.int p2), .val (.ref s1), .val (.long q4), .second, .val (.int p2), .val (.ref s1), .val (.long q4), .second] [(.int p1), (.int p1)]
      refine own_icmp_ne G108 at_190 (pc' := 207) (by decide) (by decide) (fun hc => False.elim (hc rfl)) (fun hc => ?_)
      show ownGo _ _ _ _ _ _ _ T108 193 #[.val (.int p1), .val (.int p2), .val (.int p3), .val (.long q4), .second, .val (.long q5), .second, .val (.int p6), .val (.int (Int32.ofNat P)), .val (.int (Int32.ofNat (1 - P))), .val (.ref s1), .val (.ref s2), .val (.ref b94), .val (.int p2), .val (.ref s1), .val (.long q4), .second, .val (.int p2), .val (.ref s1), .val (.long q4), .second] []
      refine own_aload G108 at_193 rfl rfl ?_
      show ownGo _ _ _ _ _ _ _ T108 195 #[.val (.int p1), .val (.int p2), .val (.int p3), .val (.long q4), .second, .val (.long q5), .second, .val (.int p6), .val (.int (Int32.ofNat P)), .val (.int (Int32.ofNat (1 - P))), .val (.ref s1), .val (.ref s2), .val (.ref b94), .val (.int p2), .val (.ref s1), .val (.long q4), .second, .val (.int p2), .val (.ref s1), .val (.long q4), .second] [(.ref b94)]
      refine own_iload G108 at_195 rfl ?_
      show ownGo _ _ _ _ _ _ _ T108 197 #[.val (.int p1), .val (.int p2), .val (.int p3), .val (.long q4), .second, .val (.long q5), .second, .val (.int p6), .val (.int (Int32.ofNat P)), .val (.int (Int32.ofNat (1 - P))), .val (.ref s1), .val (.ref s2), .val (.ref b94), .val (.int p2), .val (.ref s1), .val (.long q4), .second, .val (.int p2), .val (.ref s1), .val (.long q4), .second] [(.int (Int32.ofNat (1 - P))), (.ref b94)]
      refine own_virtual G108 at_197 (y := (⟨"com/example/once_in_order/onceinorder/service/CursorTable", "consumer", "(I)Ljava/lang/String;"⟩ : MethodName)) (hw _ (List.mem_of_getElem? (i := 140) rfl)) (hw _ (List.mem_of_getElem? (i := 141) rfl)) (hw _ (List.mem_of_getElem? (i := 143) rfl)) (hw _ (List.mem_of_getElem? (i := 142) rfl)) (hw _ (List.mem_of_getElem? (i := 28) rfl)) (hw _ (List.mem_of_getElem? (i := 144) rfl)) (by decide) (a := b94) (argsL := [(.int (Int32.ofNat (1 - P)))]) (rest := []) V7.exa (rmC l Z a0 hw b94 _ ac de da co al 2 (1 - P) .null (ownUpd D P p2) (ownUpd (fun _ => (0 : Int64)) P q4) (ownUpd (fun _ => .null) P (.ref s1)) h99 n0 Z0 V7 (by omega) rfl (by unfold ownUpd; simp [nP]) rfl) rfl rfl rfl (lenOf pd_13 rfl) (W := 0) (Nat.le_of_eq rfl) (by decide) (by decide) (by decide) (by decide) ?_
      intro v109 T109 h109 hq109 G109
      obtain ⟨rfl, rfl⟩ := hq109
      show ownGo _ _ _ _ _ _ _ T109 200 #[.val (.int p1), .val (.int p2), .val (.int p3), .val (.long q4), .second, .val (.long q5), .second, .val (.int p6), .val (.int (Int32.ofNat P)), .val (.int (Int32.ofNat (1 - P))), .val (.ref s1), .val (.ref s2), .val (.ref b94), .val (.int p2), .val (.ref s1), .val (.long q4), .second, .val (.int p2), .val (.ref s1), .val (.long q4), .second] [.null]
      refine own_ifnonnull_null G109 at_200 ?_
      show ownGo _ _ _ _ _ _ _ T109 203 #[.val (.int p1), .val (.int p2), .val (.int p3), .val (.long q4), .second, .val (.long q5), .second, .val (.int p6), .val (.int (Int32.ofNat P)), .val (.int (Int32.ofNat (1 - P))), .val (.ref s1), .val (.ref s2), .val (.ref b94), .val (.int p2), .val (.ref s1), .val (.long q4), .second, .val (.int p2), .val (.ref s1), .val (.long q4), .second] []
      refine own_iconst G109 at_203 ?_
      show ownGo _ _ _ _ _ _ _ T109 204 #[.val (.int p1), .val (.int p2), .val (.int p3), .val (.long q4), .second, .val (.long q5), .second, .val (.int p6), .val (.int (Int32.ofNat P)), .val (.int (Int32.ofNat (1 - P))), .val (.ref s1), .val (.ref s2), .val (.ref b94), .val (.int p2), .val (.ref s1), .val (.long q4), .second, .val (.int p2), .val (.ref s1), .val (.long q4), .second] [(.int (1 : Int32))]
      refine own_goto G109 at_204 (pc' := 208) (by decide) (by decide) ?_
      show ownGo _ _ _ _ _ _ _ T109 208 #[.val (.int p1), .val (.int p2), .val (.int p3), .val (.long q4), .second, .val (.long q5), .second, .val (.int p6), .val (.int (Int32.ofNat P)), .val (.int (Int32.ofNat (1 - P))), .val (.ref s1), .val (.ref s2), .val (.ref b94), .val (.int p2), .val (.ref s1), .val (.long q4), .second, .val (.int p2), .val (.ref s1), .val (.long q4), .second] [(.int (1 : Int32))]
      exact own_zreturn G109 at_208 rfl (by decide) (by decide) rfl
  · show ownGo _ _ _ _ _ _ _ T98 74 #[.val (.int p1), .val (.int p2), .val (.int p3), .val (.long q4), .second, .val (.long q5), .second, .val (.int p6), .val (.int (Int32.ofNat P)), .val (.int (Int32.ofNat (1 - P))), .val (.ref s1), .val (.ref s2), .val (.ref b94), .unset, .unset, .unset, .unset, .unset, .unset, .unset, .unset] []
    have z_K6 : h97.size ≤ h98.size := K6.1
    replace E1 := E1.keep K6
    replace E2 := E2.keep K6
    replace Z0 : n0 ≤ h98.size := Nat.le_trans Z0 K6.1
    replace O := O.keep K6 (allS (by omega) (allS (by omega) (allS (by omega) all0)))
    refine own_aload G98 at_74 rfl rfl ?_
    show ownGo _ _ _ _ _ _ _ T98 76 #[.val (.int p1), .val (.int p2), .val (.int p3), .val (.long q4), .second, .val (.long q5), .second, .val (.int p6), .val (.int (Int32.ofNat P)), .val (.int (Int32.ofNat (1 - P))), .val (.ref s1), .val (.ref s2), .val (.ref b94), .unset, .unset, .unset, .unset, .unset, .unset, .unset, .unset] [(.ref b94)]
    refine own_iload G98 at_76 rfl ?_
    show ownGo _ _ _ _ _ _ _ T98 78 #[.val (.int p1), .val (.int p2), .val (.int p3), .val (.long q4), .second, .val (.long q5), .second, .val (.int p6), .val (.int (Int32.ofNat P)), .val (.int (Int32.ofNat (1 - P))), .val (.ref s1), .val (.ref s2), .val (.ref b94), .unset, .unset, .unset, .unset, .unset, .unset, .unset, .unset] [(.int (Int32.ofNat P)), (.ref b94)]
    refine own_iloadN G98 at_78 rfl ?_
    show ownGo _ _ _ _ _ _ _ T98 79 #[.val (.int p1), .val (.int p2), .val (.int p3), .val (.long q4), .second, .val (.long q5), .second, .val (.int p6), .val (.int (Int32.ofNat P)), .val (.int (Int32.ofNat (1 - P))), .val (.ref s1), .val (.ref s2), .val (.ref b94), .unset, .unset, .unset, .unset, .unset, .unset, .unset, .unset] [(.int p3), (.int (Int32.ofNat P)), (.ref b94)]
    refine own_aload G98 at_79 rfl rfl ?_
    show ownGo _ _ _ _ _ _ _ T98 81 #[.val (.int p1), .val (.int p2), .val (.int p3), .val (.long q4), .second, .val (.long q5), .second, .val (.int p6), .val (.int (Int32.ofNat P)), .val (.int (Int32.ofNat (1 - P))), .val (.ref s1), .val (.ref s2), .val (.ref b94), .unset, .unset, .unset, .unset, .unset, .unset, .unset, .unset] [(.ref s2), (.int p3), (.int (Int32.ofNat P)), (.ref b94)]
    refine own_lload G98 at_81 rfl ?_
    show ownGo _ _ _ _ _ _ _ T98 83 #[.val (.int p1), .val (.int p2), .val (.int p3), .val (.long q4), .second, .val (.long q5), .second, .val (.int p6), .val (.int (Int32.ofNat P)), .val (.int (Int32.ofNat (1 - P))), .val (.ref s1), .val (.ref s2), .val (.ref b94), .unset, .unset, .unset, .unset, .unset, .unset, .unset, .unset] [(.long q5), (.ref s2), (.int p3), (.int (Int32.ofNat P)), (.ref b94)]
    refine own_virtual G98 at_83 (y := (⟨"com/example/once_in_order/onceinorder/service/CursorTable", "delivered", "(IILjava/lang/String;J)V"⟩ : MethodName)) (hw _ (List.mem_of_getElem? (i := 130) rfl)) (hw _ (List.mem_of_getElem? (i := 131) rfl)) (hw _ (List.mem_of_getElem? (i := 133) rfl)) (hw _ (List.mem_of_getElem? (i := 132) rfl)) (hw _ (List.mem_of_getElem? (i := 28) rfl)) (hw _ (List.mem_of_getElem? (i := 134) rfl)) (by decide) (a := b94) (argsL := [(.int (Int32.ofNat P)), (.int p3), (.ref s2), (.long q5)]) (rest := []) V6.exa (rmDel l Z a0 hw b94 _ p3 s2 q5 ac de da co al 2 P p1 D (fun _ => (0 : Int64)) (fun _ => .null) h98 n0 Z0 V6 R E2 (by omega) rfl eD) rfl rfl rfl (lenOf pd_11 rfl) (W := 0) (Nat.le_of_eq rfl) (by decide) (by decide) (by decide) (by decide) ?_
    intro v110 T110 h110 hq110 G110
    obtain ⟨rfl, K7, ⟨c2, V7⟩ | ⟨c2, V7⟩⟩ := hq110
    · show ownGo _ _ _ _ _ _ _ T110 86 #[.val (.int p1), .val (.int p2), .val (.int p3), .val (.long q4), .second, .val (.long q5), .second, .val (.int p6), .val (.int (Int32.ofNat P)), .val (.int (Int32.ofNat (1 - P))), .val (.ref s1), .val (.ref s2), .val (.ref b94), .unset, .unset, .unset, .unset, .unset, .unset, .unset, .unset] []
      have z_K7 : h98.size ≤ h110.size := K7.1
      replace E1 := E1.keep K7
      replace E2 := E2.keep K7
      replace Z0 : n0 ≤ h110.size := Nat.le_trans Z0 K7.1
      replace O := O.keep K7 (allS (by omega) (allS (by omega) (allS (by omega) all0)))
      refine own_iloadN G110 at_86 rfl ?_
      show ownGo _ _ _ _ _ _ _ T110 87 #[.val (.int p1), .val (.int p2), .val (.int p3), .val (.long q4), .second, .val (.long q5), .second, .val (.int p6), .val (.int (Int32.ofNat P)), .val (.int (Int32.ofNat (1 - P))), .val (.ref s1), .val (.ref s2), .val (.ref b94), .unset, .unset, .unset, .unset, .unset, .unset, .unset, .unset] [(.int p2)]
      refine own_iloadN G110 at_87 rfl ?_
      show ownGo _ _ _ _ _ _ _ T110 88 #[.val (.int p1), .val (.int p2), .val (.int p3), .val (.long q4), .second, .val (.long q5), .second, .val (.int p6), .val (.int (Int32.ofNat P)), .val (.int (Int32.ofNat (1 - P))), .val (.ref s1), .val (.ref s2), .val (.ref b94), .unset, .unset, .unset, .unset, .unset, .unset, .unset, .unset] [(.int p1), (.int p2)]
      refine own_icmp_le G110 at_88 (pc' := 104) (by decide) (by decide) (fun hc => ?_) (fun hc => False.elim (c1 hc))
      show ownGo _ _ _ _ _ _ _ T110 104 #[.val (.int p1), .val (.int p2), .val (.int p3), .val (.long q4), .second, .val (.long q5), .second, .val (.int p6), .val (.int (Int32.ofNat P)), .val (.int (Int32.ofNat (1 - P))), .val (.ref s1), .val (.ref s2), .val (.ref b94), .unset, .unset, .unset, .unset, .unset, .unset, .unset, .unset] []
      refine own_iloadN G110 at_104 rfl ?_
      show ownGo _ _ _ _ _ _ _ T110 105 #[.val (.int p1), .val (.int p2), .val (.int p3), .val (.long q4), .second, .val (.long q5), .second, .val (.int p6), .val (.int (Int32.ofNat P)), .val (.int (Int32.ofNat (1 - P))), .val (.ref s1), .val (.ref s2), .val (.ref b94), .unset, .unset, .unset, .unset, .unset, .unset, .unset, .unset] [(.int p1)]
      refine own_istore G110 at_105 (L' := #[.val (.int p1), .val (.int p2), .val (.int p3), .val (.long q4), .second, .val (.long q5), .second, .val (.int p6), .val (.int (Int32.ofNat P)), .val (.int (Int32.ofNat (1 - P))), .val (.ref s1), .val (.ref s2), .val (.ref b94), .val (.int p1), .unset, .unset, .unset, .unset, .unset, .unset, .unset]) rfl ?_
      show ownGo _ _ _ _ _ _ _ T110 107 #[.val (.int p1), .val (.int p2), .val (.int p3), .val (.long q4), .second, .val (.long q5), .second, .val (.int p6), .val (.int (Int32.ofNat P)), .val (.int (Int32.ofNat (1 - P))), .val (.ref s1), .val (.ref s2), .val (.ref b94), .val (.int p1), .unset, .unset, .unset, .unset, .unset, .unset, .unset] []
      refine own_aconst_null G110 at_107 ?_
      show ownGo _ _ _ _ _ _ _ T110 108 #[.val (.int p1), .val (.int p2), .val (.int p3), .val (.long q4), .second, .val (.long q5), .second, .val (.int p6), .val (.int (Int32.ofNat P)), .val (.int (Int32.ofNat (1 - P))), .val (.ref s1), .val (.ref s2), .val (.ref b94), .val (.int p1), .unset, .unset, .unset, .unset, .unset, .unset, .unset] [.null]
      refine own_astore G110 at_108 (L' := #[.val (.int p1), .val (.int p2), .val (.int p3), .val (.long q4), .second, .val (.long q5), .second, .val (.int p6), .val (.int (Int32.ofNat P)), .val (.int (Int32.ofNat (1 - P))), .val (.ref s1), .val (.ref s2), .val (.ref b94), .val (.int p1), .val .null, .unset, .unset, .unset, .unset, .unset, .unset]) rfl rfl ?_
      show ownGo _ _ _ _ _ _ _ T110 110 #[.val (.int p1), .val (.int p2), .val (.int p3), .val (.long q4), .second, .val (.long q5), .second, .val (.int p6), .val (.int (Int32.ofNat P)), .val (.int (Int32.ofNat (1 - P))), .val (.ref s1), .val (.ref s2), .val (.ref b94), .val (.int p1), .val .null, .unset, .unset, .unset, .unset, .unset, .unset] []
      refine own_lconst G110 at_110 ?_
      show ownGo _ _ _ _ _ _ _ T110 111 #[.val (.int p1), .val (.int p2), .val (.int p3), .val (.long q4), .second, .val (.long q5), .second, .val (.int p6), .val (.int (Int32.ofNat P)), .val (.int (Int32.ofNat (1 - P))), .val (.ref s1), .val (.ref s2), .val (.ref b94), .val (.int p1), .val .null, .unset, .unset, .unset, .unset, .unset, .unset] [(.long (0 : Int64))]
      refine own_lstore G110 at_111 (L' := #[.val (.int p1), .val (.int p2), .val (.int p3), .val (.long q4), .second, .val (.long q5), .second, .val (.int p6), .val (.int (Int32.ofNat P)), .val (.int (Int32.ofNat (1 - P))), .val (.ref s1), .val (.ref s2), .val (.ref b94), .val (.int p1), .val .null, .val (.long (0 : Int64)), .second, .unset, .unset, .unset, .unset]) rfl ?_
      show ownGo _ _ _ _ _ _ _ T110 113 #[.val (.int p1), .val (.int p2), .val (.int p3), .val (.long q4), .second, .val (.long q5), .second, .val (.int p6), .val (.int (Int32.ofNat P)), .val (.int (Int32.ofNat (1 - P))), .val (.ref s1), .val (.ref s2), .val (.ref b94), .val (.int p1), .val .null, .val (.long (0 : Int64)), .second, .unset, .unset, .unset, .unset] []
      refine own_iloadN G110 at_113 rfl ?_
      show ownGo _ _ _ _ _ _ _ T110 114 #[.val (.int p1), .val (.int p2), .val (.int p3), .val (.long q4), .second, .val (.long q5), .second, .val (.int p6), .val (.int (Int32.ofNat P)), .val (.int (Int32.ofNat (1 - P))), .val (.ref s1), .val (.ref s2), .val (.ref b94), .val (.int p1), .val .null, .val (.long (0 : Int64)), .second, .unset, .unset, .unset, .unset] [(.int p3)]
      refine own_iload G110 at_114 rfl ?_
      show ownGo _ _ _ _ _ _ _ T110 116 #[.val (.int p1), .val (.int p2), .val (.int p3), .val (.long q4), .second, .val (.long q5), .second, .val (.int p6), .val (.int (Int32.ofNat P)), .val (.int (Int32.ofNat (1 - P))), .val (.ref s1), .val (.ref s2), .val (.ref b94), .val (.int p1), .val .null, .val (.long (0 : Int64)), .second, .unset, .unset, .unset, .unset] [(.int p1), (.int p3)]
      refine own_icmp_le G110 at_116 (pc' := 133) (by decide) (by decide) (fun hc => False.elim (hc c2)) (fun hc => ?_)
      show ownGo _ _ _ _ _ _ _ T110 119 #[.val (.int p1), .val (.int p2), .val (.int p3), .val (.long q4), .second, .val (.long q5), .second, .val (.int p6), .val (.int (Int32.ofNat P)), .val (.int (Int32.ofNat (1 - P))), .val (.ref s1), .val (.ref s2), .val (.ref b94), .val (.int p1), .val .null, .val (.long (0 : Int64)), .second, .unset, .unset, .unset, .unset] []
      refine own_iloadN G110 at_119 rfl ?_
      show ownGo _ _ _ _ _ _ _ T110 120 #[.val (.int p1), .val (.int p2), .val (.int p3), .val (.long q4), .second, .val (.long q5), .second, .val (.int p6), .val (.int (Int32.ofNat P)), .val (.int (Int32.ofNat (1 - P))), .val (.ref s1), .val (.ref s2), .val (.ref b94), .val (.int p1), .val .null, .val (.long (0 : Int64)), .second, .unset, .unset, .unset, .unset] [(.int p3)]
      refine own_istore G110 at_120 (L' := #[.val (.int p1), .val (.int p2), .val (.int p3), .val (.long q4), .second, .val (.long q5), .second, .val (.int p6), .val (.int (Int32.ofNat P)), .val (.int (Int32.ofNat (1 - P))), .val (.ref s1), .val (.ref s2), .val (.ref b94), .val (.int p1), .val .null, .val (.long (0 : Int64)), .second, .val (.int p3), .unset, .unset, .unset]) rfl ?_
      show ownGo _ _ _ _ _ _ _ T110 122 #[.val (.int p1), .val (.int p2), .val (.int p3), .val (.long q4), .second, .val (.long q5), .second, .val (.int p6), .val (.int (Int32.ofNat P)), .val (.int (Int32.ofNat (1 - P))), .val (.ref s1), .val (.ref s2), .val (.ref b94), .val (.int p1), .val .null, .val (.long (0 : Int64)), .second, .val (.int p3), .unset, .unset, .unset] []
      refine own_aload G110 at_122 rfl rfl ?_
      show ownGo _ _ _ _ _ _ _ T110 124 #[.val (.int p1), .val (.int p2), .val (.int p3), .val (.long q4), .second, .val (.long q5), .second, .val (.int p6), .val (.int (Int32.ofNat P)), .val (.int (Int32.ofNat (1 - P))), .val (.ref s1), .val (.ref s2), .val (.ref b94), .val (.int p1), .val .null, .val (.long (0 : Int64)), .second, .val (.int p3), .unset, .unset, .unset] [(.ref s2)]
      refine own_astore G110 at_124 (L' := #[.val (.int p1), .val (.int p2), .val (.int p3), .val (.long q4), .second, .val (.long q5), .second, .val (.int p6), .val (.int (Int32.ofNat P)), .val (.int (Int32.ofNat (1 - P))), .val (.ref s1), .val (.ref s2), .val (.ref b94), .val (.int p1), .val .null, .val (.long (0 : Int64)), .second, .val (.int p3), .val (.ref s2), .unset, .unset]) rfl rfl ?_
      show ownGo _ _ _ _ _ _ _ T110 126 #[.val (.int p1), .val (.int p2), .val (.int p3), .val (.long q4), .second, .val (.long q5), .second, .val (.int p6), .val (.int (Int32.ofNat P)), .val (.int (Int32.ofNat (1 - P))), .val (.ref s1), .val (.ref s2), .val (.ref b94), .val (.int p1), .val .null, .val (.long (0 : Int64)), .second, .val (.int p3), .val (.ref s2), .unset, .unset] []
      refine own_lload G110 at_126 rfl ?_
      show ownGo _ _ _ _ _ _ _ T110 128 #[.val (.int p1), .val (.int p2), .val (.int p3), .val (.long q4), .second, .val (.long q5), .second, .val (.int p6), .val (.int (Int32.ofNat P)), .val (.int (Int32.ofNat (1 - P))), .val (.ref s1), .val (.ref s2), .val (.ref b94), .val (.int p1), .val .null, .val (.long (0 : Int64)), .second, .val (.int p3), .val (.ref s2), .unset, .unset] [(.long q5)]
      refine own_lstore G110 at_128 (L' := #[.val (.int p1), .val (.int p2), .val (.int p3), .val (.long q4), .second, .val (.long q5), .second, .val (.int p6), .val (.int (Int32.ofNat P)), .val (.int (Int32.ofNat (1 - P))), .val (.ref s1), .val (.ref s2), .val (.ref b94), .val (.int p1), .val .null, .val (.long (0 : Int64)), .second, .val (.int p3), .val (.ref s2), .val (.long q5), .second]) rfl ?_
      show ownGo _ _ _ _ _ _ _ T110 130 #[.val (.int p1), .val (.int p2), .val (.int p3), .val (.long q4), .second, .val (.long q5), .second, .val (.int p6), .val (.int (Int32.ofNat P)), .val (.int (Int32.ofNat (1 - P))), .val (.ref s1), .val (.ref s2), .val (.ref b94), .val (.int p1), .val .null, .val (.long (0 : Int64)), .second, .val (.int p3), .val (.ref s2), .val (.long q5), .second] []
      refine own_goto G110 at_130 (pc' := 145) (by decide) (by decide) ?_
      show ownGo _ _ _ _ _ _ _ T110 145 #[.val (.int p1), .val (.int p2), .val (.int p3), .val (.long q4), .second, .val (.long q5), .second, .val (.int p6), .val (.int (Int32.ofNat P)), .val (.int (Int32.ofNat (1 - P))), .val (.ref s1), .val (.ref s2), .val (.ref b94), .val (.int p1), .val .null, .val (.long (0 : Int64)), .second, .val (.int p3), .val (.ref s2), .val (.long q5), .second] []
      refine own_aload G110 at_145 rfl rfl ?_
      show ownGo _ _ _ _ _ _ _ T110 147 #[.val (.int p1), .val (.int p2), .val (.int p3), .val (.long q4), .second, .val (.long q5), .second, .val (.int p6), .val (.int (Int32.ofNat P)), .val (.int (Int32.ofNat (1 - P))), .val (.ref s1), .val (.ref s2), .val (.ref b94), .val (.int p1), .val .null, .val (.long (0 : Int64)), .second, .val (.int p3), .val (.ref s2), .val (.long q5), .second] [(.ref b94)]
      refine own_iload G110 at_147 rfl ?_
      show ownGo _ _ _ _ _ _ _ T110 149 #[.val (.int p1), .val (.int p2), .val (.int p3), .val (.long q4), .second, .val (.long q5), .second, .val (.int p6), .val (.int (Int32.ofNat P)), .val (.int (Int32.ofNat (1 - P))), .val (.ref s1), .val (.ref s2), .val (.ref b94), .val (.int p1), .val .null, .val (.long (0 : Int64)), .second, .val (.int p3), .val (.ref s2), .val (.long q5), .second] [(.int (Int32.ofNat P)), (.ref b94)]
      refine own_virtual G110 at_149 (y := (⟨"com/example/once_in_order/onceinorder/service/CursorTable", "delivered", "(I)I"⟩ : MethodName)) (hw _ (List.mem_of_getElem? (i := 135) rfl)) (hw _ (List.mem_of_getElem? (i := 136) rfl)) (hw _ (List.mem_of_getElem? (i := 138) rfl)) (hw _ (List.mem_of_getElem? (i := 137) rfl)) (hw _ (List.mem_of_getElem? (i := 28) rfl)) (hw _ (List.mem_of_getElem? (i := 139) rfl)) (by decide) (a := b94) (argsL := [(.int (Int32.ofNat P))]) (rest := []) V7.exa (rmD l Z a0 hw b94 _ ac de da co al 2 P p3 (ownUpd D P p3) (ownUpd (fun _ => (0 : Int64)) P q5) (ownUpd (fun _ => .null) P (.ref s2)) h110 n0 Z0 V7 (by omega) rfl (by unfold ownUpd; simp)) rfl rfl rfl (lenOf pd_12 rfl) (W := 0) (Nat.le_of_eq rfl) (by decide) (by decide) (by decide) (by decide) ?_
      intro v111 T111 h111 hq111 G111
      obtain ⟨rfl, rfl⟩ := hq111
      show ownGo _ _ _ _ _ _ _ T111 152 #[.val (.int p1), .val (.int p2), .val (.int p3), .val (.long q4), .second, .val (.long q5), .second, .val (.int p6), .val (.int (Int32.ofNat P)), .val (.int (Int32.ofNat (1 - P))), .val (.ref s1), .val (.ref s2), .val (.ref b94), .val (.int p1), .val .null, .val (.long (0 : Int64)), .second, .val (.int p3), .val (.ref s2), .val (.long q5), .second] [(.int p3)]
      refine own_iload G111 at_152 rfl ?_
      show ownGo _ _ _ _ _ _ _ T111 154 #[.val (.int p1), .val (.int p2), .val (.int p3), .val (.long q4), .second, .val (.long q5), .second, .val (.int p6), .val (.int (Int32.ofNat P)), .val (.int (Int32.ofNat (1 - P))), .val (.ref s1), .val (.ref s2), .val (.ref b94), .val (.int p1), .val .null, .val (.long (0 : Int64)), .second, .val (.int p3), .val (.ref s2), .val (.long q5), .second] [(.int p3), (.int p3)]
      refine own_icmp_ne G111 at_154 (pc' := 207) (by decide) (by decide) (fun hc => False.elim (hc rfl)) (fun hc => ?_)
      show ownGo _ _ _ _ _ _ _ T111 157 #[.val (.int p1), .val (.int p2), .val (.int p3), .val (.long q4), .second, .val (.long q5), .second, .val (.int p6), .val (.int (Int32.ofNat P)), .val (.int (Int32.ofNat (1 - P))), .val (.ref s1), .val (.ref s2), .val (.ref b94), .val (.int p1), .val .null, .val (.long (0 : Int64)), .second, .val (.int p3), .val (.ref s2), .val (.long q5), .second] []
      refine own_aload G111 at_157 rfl rfl ?_
      show ownGo _ _ _ _ _ _ _ T111 159 #[.val (.int p1), .val (.int p2), .val (.int p3), .val (.long q4), .second, .val (.long q5), .second, .val (.int p6), .val (.int (Int32.ofNat P)), .val (.int (Int32.ofNat (1 - P))), .val (.ref s1), .val (.ref s2), .val (.ref b94), .val (.int p1), .val .null, .val (.long (0 : Int64)), .second, .val (.int p3), .val (.ref s2), .val (.long q5), .second] [(.ref b94)]
      refine own_iload G111 at_159 rfl ?_
      show ownGo _ _ _ _ _ _ _ T111 161 #[.val (.int p1), .val (.int p2), .val (.int p3), .val (.long q4), .second, .val (.long q5), .second, .val (.int p6), .val (.int (Int32.ofNat P)), .val (.int (Int32.ofNat (1 - P))), .val (.ref s1), .val (.ref s2), .val (.ref b94), .val (.int p1), .val .null, .val (.long (0 : Int64)), .second, .val (.int p3), .val (.ref s2), .val (.long q5), .second] [(.int (Int32.ofNat P)), (.ref b94)]
      refine own_virtual G111 at_161 (y := (⟨"com/example/once_in_order/onceinorder/service/CursorTable", "consumer", "(I)Ljava/lang/String;"⟩ : MethodName)) (hw _ (List.mem_of_getElem? (i := 140) rfl)) (hw _ (List.mem_of_getElem? (i := 141) rfl)) (hw _ (List.mem_of_getElem? (i := 143) rfl)) (hw _ (List.mem_of_getElem? (i := 142) rfl)) (hw _ (List.mem_of_getElem? (i := 28) rfl)) (hw _ (List.mem_of_getElem? (i := 144) rfl)) (by decide) (a := b94) (argsL := [(.int (Int32.ofNat P))]) (rest := []) V7.exa (rmC l Z a0 hw b94 _ ac de da co al 2 P (.ref s2) (ownUpd D P p3) (ownUpd (fun _ => (0 : Int64)) P q5) (ownUpd (fun _ => .null) P (.ref s2)) h110 n0 Z0 V7 (by omega) rfl (by unfold ownUpd; simp) rfl) rfl rfl rfl (lenOf pd_13 rfl) (W := 0) (Nat.le_of_eq rfl) (by decide) (by decide) (by decide) (by decide) ?_
      intro v112 T112 h112 hq112 G112
      obtain ⟨rfl, rfl⟩ := hq112
      show ownGo _ _ _ _ _ _ _ T112 164 #[.val (.int p1), .val (.int p2), .val (.int p3), .val (.long q4), .second, .val (.long q5), .second, .val (.int p6), .val (.int (Int32.ofNat P)), .val (.int (Int32.ofNat (1 - P))), .val (.ref s1), .val (.ref s2), .val (.ref b94), .val (.int p1), .val .null, .val (.long (0 : Int64)), .second, .val (.int p3), .val (.ref s2), .val (.long q5), .second] [(.ref s2)]
      refine own_aload G112 at_164 rfl rfl ?_
      show ownGo _ _ _ _ _ _ _ T112 166 #[.val (.int p1), .val (.int p2), .val (.int p3), .val (.long q4), .second, .val (.long q5), .second, .val (.int p6), .val (.int (Int32.ofNat P)), .val (.int (Int32.ofNat (1 - P))), .val (.ref s1), .val (.ref s2), .val (.ref b94), .val (.int p1), .val .null, .val (.long (0 : Int64)), .second, .val (.int p3), .val (.ref s2), .val (.long q5), .second] [(.ref s2), (.ref s2)]
      refine own_acmp G112 at_166 (pc' := 169) (same := true) rfl rfl (decide_eq_true rfl) (by decide) (by decide) ?_
      show ownGo _ _ _ _ _ _ _ T112 169 #[.val (.int p1), .val (.int p2), .val (.int p3), .val (.long q4), .second, .val (.long q5), .second, .val (.int p6), .val (.int (Int32.ofNat P)), .val (.int (Int32.ofNat (1 - P))), .val (.ref s1), .val (.ref s2), .val (.ref b94), .val (.int p1), .val .null, .val (.long (0 : Int64)), .second, .val (.int p3), .val (.ref s2), .val (.long q5), .second] []
      refine own_aload G112 at_169 rfl rfl ?_
      show ownGo _ _ _ _ _ _ _ T112 171 #[.val (.int p1), .val (.int p2), .val (.int p3), .val (.long q4), .second, .val (.long q5), .second, .val (.int p6), .val (.int (Int32.ofNat P)), .val (.int (Int32.ofNat (1 - P))), .val (.ref s1), .val (.ref s2), .val (.ref b94), .val (.int p1), .val .null, .val (.long (0 : Int64)), .second, .val (.int p3), .val (.ref s2), .val (.long q5), .second] [(.ref b94)]
      refine own_iload G112 at_171 rfl ?_
      show ownGo _ _ _ _ _ _ _ T112 173 #[.val (.int p1), .val (.int p2), .val (.int p3), .val (.long q4), .second, .val (.long q5), .second, .val (.int p6), .val (.int (Int32.ofNat P)), .val (.int (Int32.ofNat (1 - P))), .val (.ref s1), .val (.ref s2), .val (.ref b94), .val (.int p1), .val .null, .val (.long (0 : Int64)), .second, .val (.int p3), .val (.ref s2), .val (.long q5), .second] [(.int (Int32.ofNat P)), (.ref b94)]
      refine own_virtual G112 at_173 (y := (⟨"com/example/once_in_order/onceinorder/service/CursorTable", "deliveredAt", "(I)J"⟩ : MethodName)) (hw _ (List.mem_of_getElem? (i := 145) rfl)) (hw _ (List.mem_of_getElem? (i := 146) rfl)) (hw _ (List.mem_of_getElem? (i := 148) rfl)) (hw _ (List.mem_of_getElem? (i := 147) rfl)) (hw _ (List.mem_of_getElem? (i := 28) rfl)) (hw _ (List.mem_of_getElem? (i := 149) rfl)) (by decide) (a := b94) (argsL := [(.int (Int32.ofNat P))]) (rest := []) V7.exa (rmA l Z a0 hw b94 _ ac de da co al 2 P q5 (ownUpd D P p3) (ownUpd (fun _ => (0 : Int64)) P q5) (ownUpd (fun _ => .null) P (.ref s2)) h110 n0 Z0 V7 (by omega) rfl (by unfold ownUpd; simp)) rfl rfl rfl (lenOf pd_14 rfl) (W := 0) (Nat.le_of_eq rfl) (by decide) (by decide) (by decide) (by decide) ?_
      intro v113 T113 h113 hq113 G113
      obtain ⟨rfl, rfl⟩ := hq113
      show ownGo _ _ _ _ _ _ _ T113 176 #[.val (.int p1), .val (.int p2), .val (.int p3), .val (.long q4), .second, .val (.long q5), .second, .val (.int p6), .val (.int (Int32.ofNat P)), .val (.int (Int32.ofNat (1 - P))), .val (.ref s1), .val (.ref s2), .val (.ref b94), .val (.int p1), .val .null, .val (.long (0 : Int64)), .second, .val (.int p3), .val (.ref s2), .val (.long q5), .second] [(.long q5)]
      refine own_lload G113 at_176 rfl ?_
      show ownGo _ _ _ _ _ _ _ T113 178 #[.val (.int p1), .val (.int p2), .val (.int p3), .val (.long q4), .second, .val (.long q5), .second, .val (.int p6), .val (.int (Int32.ofNat P)), .val (.int (Int32.ofNat (1 - P))), .val (.ref s1), .val (.ref s2), .val (.ref b94), .val (.int p1), .val .null, .val (.long (0 : Int64)), .second, .val (.int p3), .val (.ref s2), .val (.long q5), .second] [(.long q5), (.long q5)]
      refine own_lcif_ne G113 at_178 at_179 (pc' := 207) (by decide) (by decide) (fun hc => False.elim (hc rfl)) (fun hc => ?_)
      show ownGo _ _ _ _ _ _ _ T113 182 #[.val (.int p1), .val (.int p2), .val (.int p3), .val (.long q4), .second, .val (.long q5), .second, .val (.int p6), .val (.int (Int32.ofNat P)), .val (.int (Int32.ofNat (1 - P))), .val (.ref s1), .val (.ref s2), .val (.ref b94), .val (.int p1), .val .null, .val (.long (0 : Int64)), .second, .val (.int p3), .val (.ref s2), .val (.long q5), .second] []
      refine own_aload G113 at_182 rfl rfl ?_
      show ownGo _ _ _ _ _ _ _ T113 184 #[.val (.int p1), .val (.int p2), .val (.int p3), .val (.long q4), .second, .val (.long q5), .second, .val (.int p6), .val (.int (Int32.ofNat P)), .val (.int (Int32.ofNat (1 - P))), .val (.ref s1), .val (.ref s2), .val (.ref b94), .val (.int p1), .val .null, .val (.long (0 : Int64)), .second, .val (.int p3), .val (.ref s2), .val (.long q5), .second] [(.ref b94)]
      refine own_iload G113 at_184 rfl ?_
      show ownGo _ _ _ _ _ _ _ T113 186 #[.val (.int p1), .val (.int p2), .val (.int p3), .val (.long q4), .second, .val (.long q5), .second, .val (.int p6), .val (.int (Int32.ofNat P)), .val (.int (Int32.ofNat (1 - P))), .val (.ref s1), .val (.ref s2), .val (.ref b94), .val (.int p1), .val .null, .val (.long (0 : Int64)), .second, .val (.int p3), .val (.ref s2), .val (.long q5), .second] [(.int (Int32.ofNat (1 - P))), (.ref b94)]
      refine own_virtual G113 at_186 (y := (⟨"com/example/once_in_order/onceinorder/service/CursorTable", "delivered", "(I)I"⟩ : MethodName)) (hw _ (List.mem_of_getElem? (i := 135) rfl)) (hw _ (List.mem_of_getElem? (i := 136) rfl)) (hw _ (List.mem_of_getElem? (i := 138) rfl)) (hw _ (List.mem_of_getElem? (i := 137) rfl)) (hw _ (List.mem_of_getElem? (i := 28) rfl)) (hw _ (List.mem_of_getElem? (i := 139) rfl)) (by decide) (a := b94) (argsL := [(.int (Int32.ofNat (1 - P)))]) (rest := []) V7.exa (rmD l Z a0 hw b94 _ ac de da co al 2 (1 - P) p1 (ownUpd D P p3) (ownUpd (fun _ => (0 : Int64)) P q5) (ownUpd (fun _ => .null) P (.ref s2)) h110 n0 Z0 V7 (by omega) rfl (by unfold ownUpd; simp [nP, eO])) rfl rfl rfl (lenOf pd_12 rfl) (W := 0) (Nat.le_of_eq rfl) (by decide) (by decide) (by decide) (by decide) ?_
      intro v114 T114 h114 hq114 G114
      obtain ⟨rfl, rfl⟩ := hq114
      show ownGo _ _ _ _ _ _ _ T114 189 #[.val (.int p1), .val (.int p2), .val (.int p3), .val (.long q4), .second, .val (.long q5), .second, .val (.int p6), .val (.int (Int32.ofNat P)), .val (.int (Int32.ofNat (1 - P))), .val (.ref s1), .val (.ref s2), .val (.ref b94), .val (.int p1), .val .null, .val (.long (0 : Int64)), .second, .val (.int p3), .val (.ref s2), .val (.long q5), .second] [(.int p1)]
      refine own_iloadN G114 at_189 rfl ?_
      show ownGo _ _ _ _ _ _ _ T114 190 #[.val (.int p1), .val (.int p2), .val (.int p3), .val (.long q4), .second, .val (.long q5), .second, .val (.int p6), .val (.int (Int32.ofNat P)), .val (.int (Int32.ofNat (1 - P))), .val (.ref s1), .val (.ref s2), .val (.ref b94), .val (.int p1), .val .null, .val (.long (0 : Int64)), .second, .val (.int p3), .val (.ref s2), .val (.long q5), .second] [(.int p1), (.int p1)]
      refine own_icmp_ne G114 at_190 (pc' := 207) (by decide) (by decide) (fun hc => False.elim (hc rfl)) (fun hc => ?_)
      show ownGo _ _ _ _ _ _ _ T114 193 #[.val (.int p1), .val (.int p2), .val (.int p3), .val (.long q4), .second, .val (.long q5), .second, .val (.int p6), .val (.int (Int32.ofNat P)), .val (.int (Int32.ofNat (1 - P))), .val (.ref s1), .val (.ref s2), .val (.ref b94), .val (.int p1), .val .null, .val (.long (0 : Int64)), .second, .val (.int p3), .val (.ref s2), .val (.long q5), .second] []
      refine own_aload G114 at_193 rfl rfl ?_
      show ownGo _ _ _ _ _ _ _ T114 195 #[.val (.int p1), .val (.int p2), .val (.int p3), .val (.long q4), .second, .val (.long q5), .second, .val (.int p6), .val (.int (Int32.ofNat P)), .val (.int (Int32.ofNat (1 - P))), .val (.ref s1), .val (.ref s2), .val (.ref b94), .val (.int p1), .val .null, .val (.long (0 : Int64)), .second, .val (.int p3), .val (.ref s2), .val (.long q5), .second] [(.ref b94)]
      refine own_iload G114 at_195 rfl ?_
      show ownGo _ _ _ _ _ _ _ T114 197 #[.val (.int p1), .val (.int p2), .val (.int p3), .val (.long q4), .second, .val (.long q5), .second, .val (.int p6), .val (.int (Int32.ofNat P)), .val (.int (Int32.ofNat (1 - P))), .val (.ref s1), .val (.ref s2), .val (.ref b94), .val (.int p1), .val .null, .val (.long (0 : Int64)), .second, .val (.int p3), .val (.ref s2), .val (.long q5), .second] [(.int (Int32.ofNat (1 - P))), (.ref b94)]
      refine own_virtual G114 at_197 (y := (⟨"com/example/once_in_order/onceinorder/service/CursorTable", "consumer", "(I)Ljava/lang/String;"⟩ : MethodName)) (hw _ (List.mem_of_getElem? (i := 140) rfl)) (hw _ (List.mem_of_getElem? (i := 141) rfl)) (hw _ (List.mem_of_getElem? (i := 143) rfl)) (hw _ (List.mem_of_getElem? (i := 142) rfl)) (hw _ (List.mem_of_getElem? (i := 28) rfl)) (hw _ (List.mem_of_getElem? (i := 144) rfl)) (by decide) (a := b94) (argsL := [(.int (Int32.ofNat (1 - P)))]) (rest := []) V7.exa (rmC l Z a0 hw b94 _ ac de da co al 2 (1 - P) .null (ownUpd D P p3) (ownUpd (fun _ => (0 : Int64)) P q5) (ownUpd (fun _ => .null) P (.ref s2)) h110 n0 Z0 V7 (by omega) rfl (by unfold ownUpd; simp [nP]) rfl) rfl rfl rfl (lenOf pd_13 rfl) (W := 0) (Nat.le_of_eq rfl) (by decide) (by decide) (by decide) (by decide) ?_
      intro v115 T115 h115 hq115 G115
      obtain ⟨rfl, rfl⟩ := hq115
      show ownGo _ _ _ _ _ _ _ T115 200 #[.val (.int p1), .val (.int p2), .val (.int p3), .val (.long q4), .second, .val (.long q5), .second, .val (.int p6), .val (.int (Int32.ofNat P)), .val (.int (Int32.ofNat (1 - P))), .val (.ref s1), .val (.ref s2), .val (.ref b94), .val (.int p1), .val .null, .val (.long (0 : Int64)), .second, .val (.int p3), .val (.ref s2), .val (.long q5), .second] [.null]
      refine own_ifnonnull_null G115 at_200 ?_
      show ownGo _ _ _ _ _ _ _ T115 203 #[.val (.int p1), .val (.int p2), .val (.int p3), .val (.long q4), .second, .val (.long q5), .second, .val (.int p6), .val (.int (Int32.ofNat P)), .val (.int (Int32.ofNat (1 - P))), .val (.ref s1), .val (.ref s2), .val (.ref b94), .val (.int p1), .val .null, .val (.long (0 : Int64)), .second, .val (.int p3), .val (.ref s2), .val (.long q5), .second] []
      refine own_iconst G115 at_203 ?_
      show ownGo _ _ _ _ _ _ _ T115 204 #[.val (.int p1), .val (.int p2), .val (.int p3), .val (.long q4), .second, .val (.long q5), .second, .val (.int p6), .val (.int (Int32.ofNat P)), .val (.int (Int32.ofNat (1 - P))), .val (.ref s1), .val (.ref s2), .val (.ref b94), .val (.int p1), .val .null, .val (.long (0 : Int64)), .second, .val (.int p3), .val (.ref s2), .val (.long q5), .second] [(.int (1 : Int32))]
      refine own_goto G115 at_204 (pc' := 208) (by decide) (by decide) ?_
      show ownGo _ _ _ _ _ _ _ T115 208 #[.val (.int p1), .val (.int p2), .val (.int p3), .val (.long q4), .second, .val (.long q5), .second, .val (.int p6), .val (.int (Int32.ofNat P)), .val (.int (Int32.ofNat (1 - P))), .val (.ref s1), .val (.ref s2), .val (.ref b94), .val (.int p1), .val .null, .val (.long (0 : Int64)), .second, .val (.int p3), .val (.ref s2), .val (.long q5), .second] [(.int (1 : Int32))]
      exact own_zreturn G115 at_208 rfl (by decide) (by decide) rfl
    · show ownGo _ _ _ _ _ _ _ T110 86 #[.val (.int p1), .val (.int p2), .val (.int p3), .val (.long q4), .second, .val (.long q5), .second, .val (.int p6), .val (.int (Int32.ofNat P)), .val (.int (Int32.ofNat (1 - P))), .val (.ref s1), .val (.ref s2), .val (.ref b94), .unset, .unset, .unset, .unset, .unset, .unset, .unset, .unset] []
      have z_K7 : h98.size ≤ h110.size := K7.1
      replace E1 := E1.keep K7
      replace E2 := E2.keep K7
      replace Z0 : n0 ≤ h110.size := Nat.le_trans Z0 K7.1
      replace O := O.keep K7 (allS (by omega) (allS (by omega) (allS (by omega) all0)))
      refine own_iloadN G110 at_86 rfl ?_
      show ownGo _ _ _ _ _ _ _ T110 87 #[.val (.int p1), .val (.int p2), .val (.int p3), .val (.long q4), .second, .val (.long q5), .second, .val (.int p6), .val (.int (Int32.ofNat P)), .val (.int (Int32.ofNat (1 - P))), .val (.ref s1), .val (.ref s2), .val (.ref b94), .unset, .unset, .unset, .unset, .unset, .unset, .unset, .unset] [(.int p2)]
      refine own_iloadN G110 at_87 rfl ?_
      show ownGo _ _ _ _ _ _ _ T110 88 #[.val (.int p1), .val (.int p2), .val (.int p3), .val (.long q4), .second, .val (.long q5), .second, .val (.int p6), .val (.int (Int32.ofNat P)), .val (.int (Int32.ofNat (1 - P))), .val (.ref s1), .val (.ref s2), .val (.ref b94), .unset, .unset, .unset, .unset, .unset, .unset, .unset, .unset] [(.int p1), (.int p2)]
      refine own_icmp_le G110 at_88 (pc' := 104) (by decide) (by decide) (fun hc => ?_) (fun hc => False.elim (c1 hc))
      show ownGo _ _ _ _ _ _ _ T110 104 #[.val (.int p1), .val (.int p2), .val (.int p3), .val (.long q4), .second, .val (.long q5), .second, .val (.int p6), .val (.int (Int32.ofNat P)), .val (.int (Int32.ofNat (1 - P))), .val (.ref s1), .val (.ref s2), .val (.ref b94), .unset, .unset, .unset, .unset, .unset, .unset, .unset, .unset] []
      refine own_iloadN G110 at_104 rfl ?_
      show ownGo _ _ _ _ _ _ _ T110 105 #[.val (.int p1), .val (.int p2), .val (.int p3), .val (.long q4), .second, .val (.long q5), .second, .val (.int p6), .val (.int (Int32.ofNat P)), .val (.int (Int32.ofNat (1 - P))), .val (.ref s1), .val (.ref s2), .val (.ref b94), .unset, .unset, .unset, .unset, .unset, .unset, .unset, .unset] [(.int p1)]
      refine own_istore G110 at_105 (L' := #[.val (.int p1), .val (.int p2), .val (.int p3), .val (.long q4), .second, .val (.long q5), .second, .val (.int p6), .val (.int (Int32.ofNat P)), .val (.int (Int32.ofNat (1 - P))), .val (.ref s1), .val (.ref s2), .val (.ref b94), .val (.int p1), .unset, .unset, .unset, .unset, .unset, .unset, .unset]) rfl ?_
      show ownGo _ _ _ _ _ _ _ T110 107 #[.val (.int p1), .val (.int p2), .val (.int p3), .val (.long q4), .second, .val (.long q5), .second, .val (.int p6), .val (.int (Int32.ofNat P)), .val (.int (Int32.ofNat (1 - P))), .val (.ref s1), .val (.ref s2), .val (.ref b94), .val (.int p1), .unset, .unset, .unset, .unset, .unset, .unset, .unset] []
      refine own_aconst_null G110 at_107 ?_
      show ownGo _ _ _ _ _ _ _ T110 108 #[.val (.int p1), .val (.int p2), .val (.int p3), .val (.long q4), .second, .val (.long q5), .second, .val (.int p6), .val (.int (Int32.ofNat P)), .val (.int (Int32.ofNat (1 - P))), .val (.ref s1), .val (.ref s2), .val (.ref b94), .val (.int p1), .unset, .unset, .unset, .unset, .unset, .unset, .unset] [.null]
      refine own_astore G110 at_108 (L' := #[.val (.int p1), .val (.int p2), .val (.int p3), .val (.long q4), .second, .val (.long q5), .second, .val (.int p6), .val (.int (Int32.ofNat P)), .val (.int (Int32.ofNat (1 - P))), .val (.ref s1), .val (.ref s2), .val (.ref b94), .val (.int p1), .val .null, .unset, .unset, .unset, .unset, .unset, .unset]) rfl rfl ?_
      show ownGo _ _ _ _ _ _ _ T110 110 #[.val (.int p1), .val (.int p2), .val (.int p3), .val (.long q4), .second, .val (.long q5), .second, .val (.int p6), .val (.int (Int32.ofNat P)), .val (.int (Int32.ofNat (1 - P))), .val (.ref s1), .val (.ref s2), .val (.ref b94), .val (.int p1), .val .null, .unset, .unset, .unset, .unset, .unset, .unset] []
      refine own_lconst G110 at_110 ?_
      show ownGo _ _ _ _ _ _ _ T110 111 #[.val (.int p1), .val (.int p2), .val (.int p3), .val (.long q4), .second, .val (.long q5), .second, .val (.int p6), .val (.int (Int32.ofNat P)), .val (.int (Int32.ofNat (1 - P))), .val (.ref s1), .val (.ref s2), .val (.ref b94), .val (.int p1), .val .null, .unset, .unset, .unset, .unset, .unset, .unset] [(.long (0 : Int64))]
      refine own_lstore G110 at_111 (L' := #[.val (.int p1), .val (.int p2), .val (.int p3), .val (.long q4), .second, .val (.long q5), .second, .val (.int p6), .val (.int (Int32.ofNat P)), .val (.int (Int32.ofNat (1 - P))), .val (.ref s1), .val (.ref s2), .val (.ref b94), .val (.int p1), .val .null, .val (.long (0 : Int64)), .second, .unset, .unset, .unset, .unset]) rfl ?_
      show ownGo _ _ _ _ _ _ _ T110 113 #[.val (.int p1), .val (.int p2), .val (.int p3), .val (.long q4), .second, .val (.long q5), .second, .val (.int p6), .val (.int (Int32.ofNat P)), .val (.int (Int32.ofNat (1 - P))), .val (.ref s1), .val (.ref s2), .val (.ref b94), .val (.int p1), .val .null, .val (.long (0 : Int64)), .second, .unset, .unset, .unset, .unset] []
      refine own_iloadN G110 at_113 rfl ?_
      show ownGo _ _ _ _ _ _ _ T110 114 #[.val (.int p1), .val (.int p2), .val (.int p3), .val (.long q4), .second, .val (.long q5), .second, .val (.int p6), .val (.int (Int32.ofNat P)), .val (.int (Int32.ofNat (1 - P))), .val (.ref s1), .val (.ref s2), .val (.ref b94), .val (.int p1), .val .null, .val (.long (0 : Int64)), .second, .unset, .unset, .unset, .unset] [(.int p3)]
      refine own_iload G110 at_114 rfl ?_
      show ownGo _ _ _ _ _ _ _ T110 116 #[.val (.int p1), .val (.int p2), .val (.int p3), .val (.long q4), .second, .val (.long q5), .second, .val (.int p6), .val (.int (Int32.ofNat P)), .val (.int (Int32.ofNat (1 - P))), .val (.ref s1), .val (.ref s2), .val (.ref b94), .val (.int p1), .val .null, .val (.long (0 : Int64)), .second, .unset, .unset, .unset, .unset] [(.int p1), (.int p3)]
      refine own_icmp_le G110 at_116 (pc' := 133) (by decide) (by decide) (fun hc => ?_) (fun hc => False.elim (c2 hc))
      show ownGo _ _ _ _ _ _ _ T110 133 #[.val (.int p1), .val (.int p2), .val (.int p3), .val (.long q4), .second, .val (.long q5), .second, .val (.int p6), .val (.int (Int32.ofNat P)), .val (.int (Int32.ofNat (1 - P))), .val (.ref s1), .val (.ref s2), .val (.ref b94), .val (.int p1), .val .null, .val (.long (0 : Int64)), .second, .unset, .unset, .unset, .unset] []
      refine own_iload G110 at_133 rfl ?_
      show ownGo _ _ _ _ _ _ _ T110 135 #[.val (.int p1), .val (.int p2), .val (.int p3), .val (.long q4), .second, .val (.long q5), .second, .val (.int p6), .val (.int (Int32.ofNat P)), .val (.int (Int32.ofNat (1 - P))), .val (.ref s1), .val (.ref s2), .val (.ref b94), .val (.int p1), .val .null, .val (.long (0 : Int64)), .second, .unset, .unset, .unset, .unset] [(.int p1)]
      refine own_istore G110 at_135 (L' := #[.val (.int p1), .val (.int p2), .val (.int p3), .val (.long q4), .second, .val (.long q5), .second, .val (.int p6), .val (.int (Int32.ofNat P)), .val (.int (Int32.ofNat (1 - P))), .val (.ref s1), .val (.ref s2), .val (.ref b94), .val (.int p1), .val .null, .val (.long (0 : Int64)), .second, .val (.int p1), .unset, .unset, .unset]) rfl ?_
      show ownGo _ _ _ _ _ _ _ T110 137 #[.val (.int p1), .val (.int p2), .val (.int p3), .val (.long q4), .second, .val (.long q5), .second, .val (.int p6), .val (.int (Int32.ofNat P)), .val (.int (Int32.ofNat (1 - P))), .val (.ref s1), .val (.ref s2), .val (.ref b94), .val (.int p1), .val .null, .val (.long (0 : Int64)), .second, .val (.int p1), .unset, .unset, .unset] []
      refine own_aload G110 at_137 rfl rfl ?_
      show ownGo _ _ _ _ _ _ _ T110 139 #[.val (.int p1), .val (.int p2), .val (.int p3), .val (.long q4), .second, .val (.long q5), .second, .val (.int p6), .val (.int (Int32.ofNat P)), .val (.int (Int32.ofNat (1 - P))), .val (.ref s1), .val (.ref s2), .val (.ref b94), .val (.int p1), .val .null, .val (.long (0 : Int64)), .second, .val (.int p1), .unset, .unset, .unset] [.null]
      refine own_astore G110 at_139 (L' := #[.val (.int p1), .val (.int p2), .val (.int p3), .val (.long q4), .second, .val (.long q5), .second, .val (.int p6), .val (.int (Int32.ofNat P)), .val (.int (Int32.ofNat (1 - P))), .val (.ref s1), .val (.ref s2), .val (.ref b94), .val (.int p1), .val .null, .val (.long (0 : Int64)), .second, .val (.int p1), .val .null, .unset, .unset]) rfl rfl ?_
      show ownGo _ _ _ _ _ _ _ T110 141 #[.val (.int p1), .val (.int p2), .val (.int p3), .val (.long q4), .second, .val (.long q5), .second, .val (.int p6), .val (.int (Int32.ofNat P)), .val (.int (Int32.ofNat (1 - P))), .val (.ref s1), .val (.ref s2), .val (.ref b94), .val (.int p1), .val .null, .val (.long (0 : Int64)), .second, .val (.int p1), .val .null, .unset, .unset] []
      refine own_lload G110 at_141 rfl ?_
      show ownGo _ _ _ _ _ _ _ T110 143 #[.val (.int p1), .val (.int p2), .val (.int p3), .val (.long q4), .second, .val (.long q5), .second, .val (.int p6), .val (.int (Int32.ofNat P)), .val (.int (Int32.ofNat (1 - P))), .val (.ref s1), .val (.ref s2), .val (.ref b94), .val (.int p1), .val .null, .val (.long (0 : Int64)), .second, .val (.int p1), .val .null, .unset, .unset] [(.long (0 : Int64))]
      refine own_lstore G110 at_143 (L' := #[.val (.int p1), .val (.int p2), .val (.int p3), .val (.long q4), .second, .val (.long q5), .second, .val (.int p6), .val (.int (Int32.ofNat P)), .val (.int (Int32.ofNat (1 - P))), .val (.ref s1), .val (.ref s2), .val (.ref b94), .val (.int p1), .val .null, .val (.long (0 : Int64)), .second, .val (.int p1), .val .null, .val (.long (0 : Int64)), .second]) rfl ?_
      show ownGo _ _ _ _ _ _ _ T110 145 #[.val (.int p1), .val (.int p2), .val (.int p3), .val (.long q4), .second, .val (.long q5), .second, .val (.int p6), .val (.int (Int32.ofNat P)), .val (.int (Int32.ofNat (1 - P))), .val (.ref s1), .val (.ref s2), .val (.ref b94), .val (.int p1), .val .null, .val (.long (0 : Int64)), .second, .val (.int p1), .val .null, .val (.long (0 : Int64)), .second] []
      refine own_aload G110 at_145 rfl rfl ?_
      show ownGo _ _ _ _ _ _ _ T110 147 #[.val (.int p1), .val (.int p2), .val (.int p3), .val (.long q4), .second, .val (.long q5), .second, .val (.int p6), .val (.int (Int32.ofNat P)), .val (.int (Int32.ofNat (1 - P))), .val (.ref s1), .val (.ref s2), .val (.ref b94), .val (.int p1), .val .null, .val (.long (0 : Int64)), .second, .val (.int p1), .val .null, .val (.long (0 : Int64)), .second] [(.ref b94)]
      refine own_iload G110 at_147 rfl ?_
      show ownGo _ _ _ _ _ _ _ T110 149 #[.val (.int p1), .val (.int p2), .val (.int p3), .val (.long q4), .second, .val (.long q5), .second, .val (.int p6), .val (.int (Int32.ofNat P)), .val (.int (Int32.ofNat (1 - P))), .val (.ref s1), .val (.ref s2), .val (.ref b94), .val (.int p1), .val .null, .val (.long (0 : Int64)), .second, .val (.int p1), .val .null, .val (.long (0 : Int64)), .second] [(.int (Int32.ofNat P)), (.ref b94)]
      refine own_virtual G110 at_149 (y := (⟨"com/example/once_in_order/onceinorder/service/CursorTable", "delivered", "(I)I"⟩ : MethodName)) (hw _ (List.mem_of_getElem? (i := 135) rfl)) (hw _ (List.mem_of_getElem? (i := 136) rfl)) (hw _ (List.mem_of_getElem? (i := 138) rfl)) (hw _ (List.mem_of_getElem? (i := 137) rfl)) (hw _ (List.mem_of_getElem? (i := 28) rfl)) (hw _ (List.mem_of_getElem? (i := 139) rfl)) (by decide) (a := b94) (argsL := [(.int (Int32.ofNat P))]) (rest := []) V7.exa (rmD l Z a0 hw b94 _ ac de da co al 2 P p1 D (fun _ => (0 : Int64)) (fun _ => .null) h110 n0 Z0 V7 (by omega) rfl eD) rfl rfl rfl (lenOf pd_12 rfl) (W := 0) (Nat.le_of_eq rfl) (by decide) (by decide) (by decide) (by decide) ?_
      intro v116 T116 h116 hq116 G116
      obtain ⟨rfl, rfl⟩ := hq116
      show ownGo _ _ _ _ _ _ _ T116 152 #[.val (.int p1), .val (.int p2), .val (.int p3), .val (.long q4), .second, .val (.long q5), .second, .val (.int p6), .val (.int (Int32.ofNat P)), .val (.int (Int32.ofNat (1 - P))), .val (.ref s1), .val (.ref s2), .val (.ref b94), .val (.int p1), .val .null, .val (.long (0 : Int64)), .second, .val (.int p1), .val .null, .val (.long (0 : Int64)), .second] [(.int p1)]
      refine own_iload G116 at_152 rfl ?_
      show ownGo _ _ _ _ _ _ _ T116 154 #[.val (.int p1), .val (.int p2), .val (.int p3), .val (.long q4), .second, .val (.long q5), .second, .val (.int p6), .val (.int (Int32.ofNat P)), .val (.int (Int32.ofNat (1 - P))), .val (.ref s1), .val (.ref s2), .val (.ref b94), .val (.int p1), .val .null, .val (.long (0 : Int64)), .second, .val (.int p1), .val .null, .val (.long (0 : Int64)), .second] [(.int p1), (.int p1)]
      refine own_icmp_ne G116 at_154 (pc' := 207) (by decide) (by decide) (fun hc => False.elim (hc rfl)) (fun hc => ?_)
      show ownGo _ _ _ _ _ _ _ T116 157 #[.val (.int p1), .val (.int p2), .val (.int p3), .val (.long q4), .second, .val (.long q5), .second, .val (.int p6), .val (.int (Int32.ofNat P)), .val (.int (Int32.ofNat (1 - P))), .val (.ref s1), .val (.ref s2), .val (.ref b94), .val (.int p1), .val .null, .val (.long (0 : Int64)), .second, .val (.int p1), .val .null, .val (.long (0 : Int64)), .second] []
      refine own_aload G116 at_157 rfl rfl ?_
      show ownGo _ _ _ _ _ _ _ T116 159 #[.val (.int p1), .val (.int p2), .val (.int p3), .val (.long q4), .second, .val (.long q5), .second, .val (.int p6), .val (.int (Int32.ofNat P)), .val (.int (Int32.ofNat (1 - P))), .val (.ref s1), .val (.ref s2), .val (.ref b94), .val (.int p1), .val .null, .val (.long (0 : Int64)), .second, .val (.int p1), .val .null, .val (.long (0 : Int64)), .second] [(.ref b94)]
      refine own_iload G116 at_159 rfl ?_
      show ownGo _ _ _ _ _ _ _ T116 161 #[.val (.int p1), .val (.int p2), .val (.int p3), .val (.long q4), .second, .val (.long q5), .second, .val (.int p6), .val (.int (Int32.ofNat P)), .val (.int (Int32.ofNat (1 - P))), .val (.ref s1), .val (.ref s2), .val (.ref b94), .val (.int p1), .val .null, .val (.long (0 : Int64)), .second, .val (.int p1), .val .null, .val (.long (0 : Int64)), .second] [(.int (Int32.ofNat P)), (.ref b94)]
      refine own_virtual G116 at_161 (y := (⟨"com/example/once_in_order/onceinorder/service/CursorTable", "consumer", "(I)Ljava/lang/String;"⟩ : MethodName)) (hw _ (List.mem_of_getElem? (i := 140) rfl)) (hw _ (List.mem_of_getElem? (i := 141) rfl)) (hw _ (List.mem_of_getElem? (i := 143) rfl)) (hw _ (List.mem_of_getElem? (i := 142) rfl)) (hw _ (List.mem_of_getElem? (i := 28) rfl)) (hw _ (List.mem_of_getElem? (i := 144) rfl)) (by decide) (a := b94) (argsL := [(.int (Int32.ofNat P))]) (rest := []) V7.exa (rmC l Z a0 hw b94 _ ac de da co al 2 P .null D (fun _ => (0 : Int64)) (fun _ => .null) h110 n0 Z0 V7 (by omega) rfl rfl rfl) rfl rfl rfl (lenOf pd_13 rfl) (W := 0) (Nat.le_of_eq rfl) (by decide) (by decide) (by decide) (by decide) ?_
      intro v117 T117 h117 hq117 G117
      obtain ⟨rfl, rfl⟩ := hq117
      show ownGo _ _ _ _ _ _ _ T117 164 #[.val (.int p1), .val (.int p2), .val (.int p3), .val (.long q4), .second, .val (.long q5), .second, .val (.int p6), .val (.int (Int32.ofNat P)), .val (.int (Int32.ofNat (1 - P))), .val (.ref s1), .val (.ref s2), .val (.ref b94), .val (.int p1), .val .null, .val (.long (0 : Int64)), .second, .val (.int p1), .val .null, .val (.long (0 : Int64)), .second] [.null]
      refine own_aload G117 at_164 rfl rfl ?_
      show ownGo _ _ _ _ _ _ _ T117 166 #[.val (.int p1), .val (.int p2), .val (.int p3), .val (.long q4), .second, .val (.long q5), .second, .val (.int p6), .val (.int (Int32.ofNat P)), .val (.int (Int32.ofNat (1 - P))), .val (.ref s1), .val (.ref s2), .val (.ref b94), .val (.int p1), .val .null, .val (.long (0 : Int64)), .second, .val (.int p1), .val .null, .val (.long (0 : Int64)), .second] [.null, .null]
      refine own_acmp G117 at_166 (pc' := 169) (same := true) rfl rfl (decide_eq_true rfl) (by decide) (by decide) ?_
      show ownGo _ _ _ _ _ _ _ T117 169 #[.val (.int p1), .val (.int p2), .val (.int p3), .val (.long q4), .second, .val (.long q5), .second, .val (.int p6), .val (.int (Int32.ofNat P)), .val (.int (Int32.ofNat (1 - P))), .val (.ref s1), .val (.ref s2), .val (.ref b94), .val (.int p1), .val .null, .val (.long (0 : Int64)), .second, .val (.int p1), .val .null, .val (.long (0 : Int64)), .second] []
      refine own_aload G117 at_169 rfl rfl ?_
      show ownGo _ _ _ _ _ _ _ T117 171 #[.val (.int p1), .val (.int p2), .val (.int p3), .val (.long q4), .second, .val (.long q5), .second, .val (.int p6), .val (.int (Int32.ofNat P)), .val (.int (Int32.ofNat (1 - P))), .val (.ref s1), .val (.ref s2), .val (.ref b94), .val (.int p1), .val .null, .val (.long (0 : Int64)), .second, .val (.int p1), .val .null, .val (.long (0 : Int64)), .second] [(.ref b94)]
      refine own_iload G117 at_171 rfl ?_
      show ownGo _ _ _ _ _ _ _ T117 173 #[.val (.int p1), .val (.int p2), .val (.int p3), .val (.long q4), .second, .val (.long q5), .second, .val (.int p6), .val (.int (Int32.ofNat P)), .val (.int (Int32.ofNat (1 - P))), .val (.ref s1), .val (.ref s2), .val (.ref b94), .val (.int p1), .val .null, .val (.long (0 : Int64)), .second, .val (.int p1), .val .null, .val (.long (0 : Int64)), .second] [(.int (Int32.ofNat P)), (.ref b94)]
      refine own_virtual G117 at_173 (y := (⟨"com/example/once_in_order/onceinorder/service/CursorTable", "deliveredAt", "(I)J"⟩ : MethodName)) (hw _ (List.mem_of_getElem? (i := 145) rfl)) (hw _ (List.mem_of_getElem? (i := 146) rfl)) (hw _ (List.mem_of_getElem? (i := 148) rfl)) (hw _ (List.mem_of_getElem? (i := 147) rfl)) (hw _ (List.mem_of_getElem? (i := 28) rfl)) (hw _ (List.mem_of_getElem? (i := 149) rfl)) (by decide) (a := b94) (argsL := [(.int (Int32.ofNat P))]) (rest := []) V7.exa (rmA l Z a0 hw b94 _ ac de da co al 2 P (0 : Int64) D (fun _ => (0 : Int64)) (fun _ => .null) h110 n0 Z0 V7 (by omega) rfl rfl) rfl rfl rfl (lenOf pd_14 rfl) (W := 0) (Nat.le_of_eq rfl) (by decide) (by decide) (by decide) (by decide) ?_
      intro v118 T118 h118 hq118 G118
      obtain ⟨rfl, rfl⟩ := hq118
      show ownGo _ _ _ _ _ _ _ T118 176 #[.val (.int p1), .val (.int p2), .val (.int p3), .val (.long q4), .second, .val (.long q5), .second, .val (.int p6), .val (.int (Int32.ofNat P)), .val (.int (Int32.ofNat (1 - P))), .val (.ref s1), .val (.ref s2), .val (.ref b94), .val (.int p1), .val .null, .val (.long (0 : Int64)), .second, .val (.int p1), .val .null, .val (.long (0 : Int64)), .second] [(.long (0 : Int64))]
      refine own_lload G118 at_176 rfl ?_
      show ownGo _ _ _ _ _ _ _ T118 178 #[.val (.int p1), .val (.int p2), .val (.int p3), .val (.long q4), .second, .val (.long q5), .second, .val (.int p6), .val (.int (Int32.ofNat P)), .val (.int (Int32.ofNat (1 - P))), .val (.ref s1), .val (.ref s2), .val (.ref b94), .val (.int p1), .val .null, .val (.long (0 : Int64)), .second, .val (.int p1), .val .null, .val (.long (0 : Int64)), .second] [(.long (0 : Int64)), (.long (0 : Int64))]
      refine own_lcif_ne G118 at_178 at_179 (pc' := 207) (by decide) (by decide) (fun hc => False.elim (hc rfl)) (fun hc => ?_)
      show ownGo _ _ _ _ _ _ _ T118 182 #[.val (.int p1), .val (.int p2), .val (.int p3), .val (.long q4), .second, .val (.long q5), .second, .val (.int p6), .val (.int (Int32.ofNat P)), .val (.int (Int32.ofNat (1 - P))), .val (.ref s1), .val (.ref s2), .val (.ref b94), .val (.int p1), .val .null, .val (.long (0 : Int64)), .second, .val (.int p1), .val .null, .val (.long (0 : Int64)), .second] []
      refine own_aload G118 at_182 rfl rfl ?_
      show ownGo _ _ _ _ _ _ _ T118 184 #[.val (.int p1), .val (.int p2), .val (.int p3), .val (.long q4), .second, .val (.long q5), .second, .val (.int p6), .val (.int (Int32.ofNat P)), .val (.int (Int32.ofNat (1 - P))), .val (.ref s1), .val (.ref s2), .val (.ref b94), .val (.int p1), .val .null, .val (.long (0 : Int64)), .second, .val (.int p1), .val .null, .val (.long (0 : Int64)), .second] [(.ref b94)]
      refine own_iload G118 at_184 rfl ?_
      show ownGo _ _ _ _ _ _ _ T118 186 #[.val (.int p1), .val (.int p2), .val (.int p3), .val (.long q4), .second, .val (.long q5), .second, .val (.int p6), .val (.int (Int32.ofNat P)), .val (.int (Int32.ofNat (1 - P))), .val (.ref s1), .val (.ref s2), .val (.ref b94), .val (.int p1), .val .null, .val (.long (0 : Int64)), .second, .val (.int p1), .val .null, .val (.long (0 : Int64)), .second] [(.int (Int32.ofNat (1 - P))), (.ref b94)]
      refine own_virtual G118 at_186 (y := (⟨"com/example/once_in_order/onceinorder/service/CursorTable", "delivered", "(I)I"⟩ : MethodName)) (hw _ (List.mem_of_getElem? (i := 135) rfl)) (hw _ (List.mem_of_getElem? (i := 136) rfl)) (hw _ (List.mem_of_getElem? (i := 138) rfl)) (hw _ (List.mem_of_getElem? (i := 137) rfl)) (hw _ (List.mem_of_getElem? (i := 28) rfl)) (hw _ (List.mem_of_getElem? (i := 139) rfl)) (by decide) (a := b94) (argsL := [(.int (Int32.ofNat (1 - P)))]) (rest := []) V7.exa (rmD l Z a0 hw b94 _ ac de da co al 2 (1 - P) p1 D (fun _ => (0 : Int64)) (fun _ => .null) h110 n0 Z0 V7 (by omega) rfl eO) rfl rfl rfl (lenOf pd_12 rfl) (W := 0) (Nat.le_of_eq rfl) (by decide) (by decide) (by decide) (by decide) ?_
      intro v119 T119 h119 hq119 G119
      obtain ⟨rfl, rfl⟩ := hq119
      show ownGo _ _ _ _ _ _ _ T119 189 #[.val (.int p1), .val (.int p2), .val (.int p3), .val (.long q4), .second, .val (.long q5), .second, .val (.int p6), .val (.int (Int32.ofNat P)), .val (.int (Int32.ofNat (1 - P))), .val (.ref s1), .val (.ref s2), .val (.ref b94), .val (.int p1), .val .null, .val (.long (0 : Int64)), .second, .val (.int p1), .val .null, .val (.long (0 : Int64)), .second] [(.int p1)]
      refine own_iloadN G119 at_189 rfl ?_
      show ownGo _ _ _ _ _ _ _ T119 190 #[.val (.int p1), .val (.int p2), .val (.int p3), .val (.long q4), .second, .val (.long q5), .second, .val (.int p6), .val (.int (Int32.ofNat P)), .val (.int (Int32.ofNat (1 - P))), .val (.ref s1), .val (.ref s2), .val (.ref b94), .val (.int p1), .val .null, .val (.long (0 : Int64)), .second, .val (.int p1), .val .null, .val (.long (0 : Int64)), .second] [(.int p1), (.int p1)]
      refine own_icmp_ne G119 at_190 (pc' := 207) (by decide) (by decide) (fun hc => False.elim (hc rfl)) (fun hc => ?_)
      show ownGo _ _ _ _ _ _ _ T119 193 #[.val (.int p1), .val (.int p2), .val (.int p3), .val (.long q4), .second, .val (.long q5), .second, .val (.int p6), .val (.int (Int32.ofNat P)), .val (.int (Int32.ofNat (1 - P))), .val (.ref s1), .val (.ref s2), .val (.ref b94), .val (.int p1), .val .null, .val (.long (0 : Int64)), .second, .val (.int p1), .val .null, .val (.long (0 : Int64)), .second] []
      refine own_aload G119 at_193 rfl rfl ?_
      show ownGo _ _ _ _ _ _ _ T119 195 #[.val (.int p1), .val (.int p2), .val (.int p3), .val (.long q4), .second, .val (.long q5), .second, .val (.int p6), .val (.int (Int32.ofNat P)), .val (.int (Int32.ofNat (1 - P))), .val (.ref s1), .val (.ref s2), .val (.ref b94), .val (.int p1), .val .null, .val (.long (0 : Int64)), .second, .val (.int p1), .val .null, .val (.long (0 : Int64)), .second] [(.ref b94)]
      refine own_iload G119 at_195 rfl ?_
      show ownGo _ _ _ _ _ _ _ T119 197 #[.val (.int p1), .val (.int p2), .val (.int p3), .val (.long q4), .second, .val (.long q5), .second, .val (.int p6), .val (.int (Int32.ofNat P)), .val (.int (Int32.ofNat (1 - P))), .val (.ref s1), .val (.ref s2), .val (.ref b94), .val (.int p1), .val .null, .val (.long (0 : Int64)), .second, .val (.int p1), .val .null, .val (.long (0 : Int64)), .second] [(.int (Int32.ofNat (1 - P))), (.ref b94)]
      refine own_virtual G119 at_197 (y := (⟨"com/example/once_in_order/onceinorder/service/CursorTable", "consumer", "(I)Ljava/lang/String;"⟩ : MethodName)) (hw _ (List.mem_of_getElem? (i := 140) rfl)) (hw _ (List.mem_of_getElem? (i := 141) rfl)) (hw _ (List.mem_of_getElem? (i := 143) rfl)) (hw _ (List.mem_of_getElem? (i := 142) rfl)) (hw _ (List.mem_of_getElem? (i := 28) rfl)) (hw _ (List.mem_of_getElem? (i := 144) rfl)) (by decide) (a := b94) (argsL := [(.int (Int32.ofNat (1 - P)))]) (rest := []) V7.exa (rmC l Z a0 hw b94 _ ac de da co al 2 (1 - P) .null D (fun _ => (0 : Int64)) (fun _ => .null) h110 n0 Z0 V7 (by omega) rfl rfl rfl) rfl rfl rfl (lenOf pd_13 rfl) (W := 0) (Nat.le_of_eq rfl) (by decide) (by decide) (by decide) (by decide) ?_
      intro v120 T120 h120 hq120 G120
      obtain ⟨rfl, rfl⟩ := hq120
      show ownGo _ _ _ _ _ _ _ T120 200 #[.val (.int p1), .val (.int p2), .val (.int p3), .val (.long q4), .second, .val (.long q5), .second, .val (.int p6), .val (.int (Int32.ofNat P)), .val (.int (Int32.ofNat (1 - P))), .val (.ref s1), .val (.ref s2), .val (.ref b94), .val (.int p1), .val .null, .val (.long (0 : Int64)), .second, .val (.int p1), .val .null, .val (.long (0 : Int64)), .second] [.null]
      refine own_ifnonnull_null G120 at_200 ?_
      show ownGo _ _ _ _ _ _ _ T120 203 #[.val (.int p1), .val (.int p2), .val (.int p3), .val (.long q4), .second, .val (.long q5), .second, .val (.int p6), .val (.int (Int32.ofNat P)), .val (.int (Int32.ofNat (1 - P))), .val (.ref s1), .val (.ref s2), .val (.ref b94), .val (.int p1), .val .null, .val (.long (0 : Int64)), .second, .val (.int p1), .val .null, .val (.long (0 : Int64)), .second] []
      refine own_iconst G120 at_203 ?_
      show ownGo _ _ _ _ _ _ _ T120 204 #[.val (.int p1), .val (.int p2), .val (.int p3), .val (.long q4), .second, .val (.long q5), .second, .val (.int p6), .val (.int (Int32.ofNat P)), .val (.int (Int32.ofNat (1 - P))), .val (.ref s1), .val (.ref s2), .val (.ref b94), .val (.int p1), .val .null, .val (.long (0 : Int64)), .second, .val (.int p1), .val .null, .val (.long (0 : Int64)), .second] [(.int (1 : Int32))]
      refine own_goto G120 at_204 (pc' := 208) (by decide) (by decide) ?_
      show ownGo _ _ _ _ _ _ _ T120 208 #[.val (.int p1), .val (.int p2), .val (.int p3), .val (.long q4), .second, .val (.long q5), .second, .val (.int p6), .val (.int (Int32.ofNat P)), .val (.int (Int32.ofNat (1 - P))), .val (.ref s1), .val (.ref s2), .val (.ref b94), .val (.int p1), .val .null, .val (.long (0 : Int64)), .second, .val (.int p1), .val .null, .val (.long (0 : Int64)), .second] [(.int (1 : Int32))]
      exact own_zreturn G120 at_208 rfl (by decide) (by decide) rfl
theorem own_len0 {args : Array Value} {s : State} {t : Term} (h : (Cond.eq (.length t) (.int (0 : Int32))).value args s none s [] = some true) : ∃ a, t.eval args s none [] s = some (.ref a) ∧ ∀ cl : Cell, s.heap[a]? = some cl → cl.slots.size = 0 := by
  cases hl : (Term.length t).eval args s none [] s with
  | none => simp [Cond.value, hl] at h
  | some v =>
    obtain ⟨a, cell, e1, e2, e3⟩ := Term.length_spec hl
    subst e3
    have h0 : cell.slots.size.toInt32 = 0 := gotT (Cond.eq_ints hl (Term.int_eval 0)) h
    have hs : cell.slots.size < 2 ^ 31 := by
      simp only [Term.eval, e1, e2, Option.bind_eq_bind, Option.bind_some] at hl
      by_cases q : cell.slots.size < 2 ^ 31
      · exact q
      · rw [if_neg q] at hl; cases hl
    have h1 := len_toInt hs
    rw [h0] at h1
    have h2 : ((0 : Int32).toInt : Int) = 0 := rfl
    refine ⟨a, e1, fun cl hc => ?_⟩
    simp only [State.arrayAt?, hc, Option.bind_eq_bind, Option.bind_some, Option.bind_eq_some_iff] at e2
    obtain ⟨k, -, e2⟩ := e2
    split at e2
    · cases e2
    · split at e2
      · cases e2; omega
      · cases e2
theorem own_dc {args : Array Value} {s : State} (hw : ∀ d ∈ tables_1, d.before args s = true) (hsets : ∀ d ∈ jdkStatics_1, d.before args s = true) : ∃ dc, True ∧ (∃ f, ownArr s s.heap dc (.object "java/lang/Object") 0 f) ∧ Sta s s.heap "java/util/ArrayList" "DEFAULTCAPACITY_EMPTY_ELEMENTDATA" "[Ljava/lang/Object;" (.ref dc) := by
  have h1 := Cond.before_iff.mp (hsets _ (List.mem_of_getElem? (i := 15) rfl))
  have h2 := Cond.before_iff.mp (hsets _ (List.mem_of_getElem? (i := 17) rfl))
  obtain ⟨v, e1, e2⟩ := own_len0 h2
  obtain ⟨cl, A⟩ := Arr.start e1 h1
  refine ⟨v, trivial, ⟨fun _ => .null, cl, A, ?_, fun j hj => absurd hj (Nat.not_lt_zero _)⟩, Sta.start e1 (Or.inr ⟨(hw _ (List.mem_of_getElem? (i := 47) rfl)), (hsets _ (List.mem_of_getElem? (i := 11) rfl))⟩)⟩
  exact e2 cl A.1
set_option maxRecDepth 65536 in
set_option maxHeartbeats 40000000 in
theorem comes_1 {Post : Tables → Env → Array Value → State → Outcome → State → Prop} (hpost : ∀ tb e args s v u, (limb_1_1.after args s (.returned v) u = true ∧ limb_1_2.after args s (.returned v) u = true ∧ True) → FrameEnd s (.returned v) u (Jvm.fieldLocs frame_1_writes args s ++ Jvm.arrayLocs frame_1_arrays args s ++ Jvm.staticLocs frame_1_statics s) 32 320 → Post tb e args s (.returned v) u) :
    ArmFor flags0 classFile x code maxLocals ret World_1 tables_1 room_1 Calls_1 rest_1 Pre_1 Post := by
  intro l hfl _ _ p e ha hc hk s m args below hf hA hF happ hP
  obtain ⟨hcalls, hrest, hpre⟩ := hP
  obtain ⟨-, -, -, hnamed, -, -, -, hat⟩ := (Spec.applies_iff hf).mp happ
  obtain ⟨hg, hn⟩ := and_e (Cond.before_iff.mp (show (Jvm.Cond.and given_1 narrow_1).before args s = true from hpre))
  obtain ⟨g1, g2⟩ := and_e hg
  obtain ⟨g3, g4⟩ := and_e g2
  obtain ⟨g5, g6⟩ := and_e g4
  obtain ⟨g7, g8⟩ := and_e g6
  obtain ⟨g9, g10⟩ := and_e g8
  obtain ⟨g11, g12⟩ := and_e g10
  obtain ⟨w0, w1, w2, w3, w4, w5, rfl⟩ : ∃ w0 w1 w2 w3 w4 w5 : Value, args = #[w0, w1, w2, w3, w4, w5] := by
    have hs : args.size = 6 := by simpa [Cond.value, given_1] using g1
    obtain ⟨L⟩ := args
    match L, hs with
    | [w0, w1, w2, w3, w4, w5], _ => exact ⟨w0, w1, w2, w3, w4, w5, rfl⟩
  have hw := fun d (hd : d ∈ tables_1) => atoms_spec (ws := Jvm.Cond.code x code maxLocals ret :: tables_1) hat d (List.mem_cons_of_mem _ hd)
  have hfit : Fit s := fun {y c} hc i hi => by
    obtain ⟨ha, rfl⟩ := Array.getElem?_eq_some_iff.mp hc
    have q := List.all_eq_true.mp ((Array.all_eq_true_iff_forall_mem.mp hF) _ (Array.getElem_mem ha)) i (List.mem_range.mpr hi)
    simpa [Array.getElem?_eq_getElem hi] using q
  obtain ⟨hsets, hown0⟩ := atoms_of _ (rest_1_c_eq ▸ (show rest_1_c.before _ s = true from hrest))
  have hr0 := Cond.before_iff.mp hown0
  have n3 := not_v (Cond.before_iff.mp (hsets _ (List.mem_of_getElem? (i := 2) rfl)))
  obtain ⟨cs, e6⟩ := is_v (Cond.before_iff.mp (hsets _ (List.mem_of_getElem? (i := 1) rfl)))
  have SC : Sta s s.heap "java/lang/String" "COMPACT_STRINGS" "Z" (.int cs) := Sta.start e6 (Or.inl (hsets _ (List.mem_of_getElem? (i := 0) rfl)))
  have hcs : ¬ (cs = (0 : Int32)) := gotF (Cond.eq_ints e6 (Term.int_eval (0))) n3
  obtain ⟨dc, ed, AD, SD⟩ := own_dc hw hsets
  obtain ⟨i0, ei0⟩ := is_v g3
  obtain rfl : w0 = (.int i0) := Option.some.inj ei0
  obtain ⟨i1, ei1⟩ := is_v g5
  obtain rfl : w1 = (.int i1) := Option.some.inj ei1
  obtain ⟨i2, ei2⟩ := is_v g7
  obtain rfl : w2 = (.int i2) := Option.some.inj ei2
  obtain ⟨i3, ei3⟩ := isL_v g9
  obtain rfl : w3 = (.long i3) := Option.some.inj ei3
  obtain ⟨i4, ei4⟩ := isL_v g11
  obtain rfl : w4 = (.long i4) := Option.some.inj ei4
  obtain ⟨i5, ei5⟩ := is_v g12
  obtain rfl : w5 = (.int i5) := Option.some.inj ei5
  obtain ⟨n, o, h1, h2, h3, _, L, rfl, ⟨rfl, N⟩, hq⟩ := rm0 l s _ hw i0 i1 i2 i3 i4 i5 cs dc s.heap s.heap.size (Nat.le_refl _) SC hcs (Old.start s) SD AD p e ha hc hk s m _ below hf ((Spec.applies_iff_loose hf).mp happ).1 ⟨rfl, State.Warmed39.refl s, rfl⟩ trivial
  refine ⟨n, _, h1, h2, h3, hpost _ _ _ _ _ _ ⟨Cond.after_iff.mpr rfl, Cond.after_iff.mpr (eq_i res_at (Term.int_eval (1)) rfl), trivial⟩ ⟨hq.1, hq.2.1, (hq.2.2.sift fun y hy => Or.inr (N y hy)).mono (by decide) (by decide)⟩⟩
theorem main_1_1 : Claimed_1_1 := comes_1 fun _ _ _ _ _ _ h hF => ⟨h.1, hF⟩
theorem main_1_2 : Claimed_1_2 := comes_1 fun _ _ _ _ _ _ h hF => ⟨h.2.1, hF⟩
end Jvm.Pilot.@@N@@
namespace Jvm.Pilot.@@N@@
open Jvm Jvm.ClassFile Sem Op Lib Jvm.Free Jvm.Stand Jvm.Pilot.@@N@@.Jvm.D
/-! MADE BY PROGRAM (witnessworld.py) out of the Statement's table words and the real class files: 33 classes; the members and pool entries that the words name. The judged class is class 1, her method 1. -/
namespace start1
open Jvm.ClassFile
def u (s : String) : CpInfo := .utf8 (stringToUtf16 s)
/-- a pool by its gaps: so many unusable entries, then the entry; so many at the end -/
def gap : Nat → List CpInfo → List CpInfo
  | 0, r => r
  | n + 1, r => .unusable :: gap n r
def poolList (es : List (Nat × CpInfo)) (last : Nat) : List CpInfo := es.foldr (fun e r => gap e.1 (e.2 :: r)) (gap last [])
def pool (es : List (Nat × CpInfo)) (last : Nat) : Array CpInfo := ⟨poolList es last⟩
def fileOf (pool : Array CpInfo) (this : Nat) (attrs : Array Attribute := #[]) (ms : Array MethodInfo := #[]) (fl : Nat := 33) (sup : Nat := 0) (ifs : Array Nat := #[]) (fds : Array FieldInfo := #[]) : ClassFile where
  minorVersion := 0
  majorVersion := 65
  constantPool := pool
  accessFlags := fl
  thisClass := this
  superClass := sup
  interfaces := ifs
  fields := fds
  methods := ms
  attributes := attrs
def plain (name : String) (sup : Option ClassId) : Class where
  name := name
  kind := .ordinary
  loader := none
  accessFlags := 33
  super := sup
  interfaces := #[]
  cf := none
  fields := #[]
  methods := #[]
  instanceTypes := #[]
  staticTypes := #[]
  resolved := #[]
  callSites := []
  init := .initialized
  statics := none
  mirror := none

def pool0 : Array CpInfo := pool [(5, u "<init>"), (0, u "()V"), (1, .class_ 10), (1, u "java/lang/Object")] 113

def k0c0 : Code := { maxStack := 0, maxLocals := 1, code := object_method_1_code, exceptionTable := #[], attributes := #[] }
def k0m0 : Method := { name := "<init>", desc := "()V", sig := { parameters := [], returnType := none }, accessFlags := 1, code := some k0c0 }
/-- java/lang/Object -/
def k0 : Class := { plain "java/lang/Object" none with
  accessFlags := 33
  interfaces := #[]
  cf := some (fileOf pool0 8 #[] #[{ accessFlags := 1, nameIndex := 5, descriptorIndex := 6, attributes := #[] }] 33 0 #[] #[])
  fields := #[]
  methods := #[k0m0]
  instanceTypes := #[]
  staticTypes := #[]
  resolved := Array.replicate 124 none
  statics := none }

def pool1 : Array CpInfo := pool [(2, .class_ 4), (0, .nameAndType 5 6), (0, u "java/lang/Object"), (0, u "<init>"), (0, u "()V"), (0, .methodref 8 9), (0, .class_ 10), (0, .nameAndType 11 12), (0, u "java/lang/String"), (0, u "valueOf"), (0, u "(C)Ljava/lang/String;"), (0, .class_ 14), (0, u "com/example/once_in_order/onceinorder/service/CursorTable"), (0, .methodref 13 3), (0, .methodref 13 17), (0, .nameAndType 18 19), (0, u "add"), (0, u "(I)V"), (0, .methodref 13 21), (0, .nameAndType 22 23), (0, u "delivered"), (0, u "(IILjava/lang/String;J)V"), (0, .methodref 13 25), (0, .nameAndType 22 26), (0, u "(I)I"), (0, .methodref 13 28), (0, .nameAndType 29 30), (0, u "consumer"), (0, u "(I)Ljava/lang/String;"), (0, .methodref 13 32), (0, .nameAndType 33 34), (0, u "deliveredAt"), (0, u "(I)J"), (0, .class_ 36), (0, u "com/example/once_in_order/onceinorder/service/CursorTableDeliveredPinLaw"), (2, u "law"), (0, u "(IIIJJI)Z")] 3

def k1m0 : Method := { name := "<init>", desc := "()V", sig := { parameters := [], returnType := none }, accessFlags := 1, code := none }
def k1c1 : Code := { maxStack := 6, maxLocals := 21, code := code, exceptionTable := #[], attributes := #[] }
def k1m1 : Method := { name := "law", desc := "(IIIJJI)Z", sig := { parameters := [.int, .int, .int, .long, .long, .int], returnType := some .boolean }, accessFlags := 9, code := some k1c1 }
/-- com/example/once_in_order/onceinorder/service/CursorTableDeliveredPinLaw -/
def k1 : Class := { plain "com/example/once_in_order/onceinorder/service/CursorTableDeliveredPinLaw" (some 0) with
  accessFlags := 49
  interfaces := #[]
  cf := some (fileOf pool1 35 #[] #[{ accessFlags := 1, nameIndex := 5, descriptorIndex := 6, attributes := #[] }, { accessFlags := 9, nameIndex := 39, descriptorIndex := 40, attributes := #[] }] 49 2 #[] #[])
  fields := #[]
  methods := #[k1m0, k1m1]
  instanceTypes := #[]
  staticTypes := #[]
  resolved := Array.replicate 44 none
  statics := none }

def pool2 : Array CpInfo := pool [(1, .class_ 2), (0, u "java/io/Serializable"), (0, .class_ 4), (0, u "java/lang/Object")] 2

/-- java/io/Serializable -/
def k2 : Class := { plain "java/io/Serializable" (some 0) with
  accessFlags := 1537
  interfaces := #[]
  cf := some (fileOf pool2 1 #[] #[] 1537 3 #[] #[])
  fields := #[]
  methods := #[]
  instanceTypes := #[]
  staticTypes := #[]
  resolved := Array.replicate 7 none
  statics := none }

def pool3 : Array CpInfo := pool [(1, .class_ 2), (0, u "java/lang/Comparable"), (0, .class_ 4), (0, u "java/lang/Object")] 7

/-- java/lang/Comparable -/
def k3 : Class := { plain "java/lang/Comparable" (some 0) with
  accessFlags := 1537
  interfaces := #[]
  cf := some (fileOf pool3 1 #[] #[] 1537 3 #[] #[])
  fields := #[]
  methods := #[]
  instanceTypes := #[]
  staticTypes := #[]
  resolved := Array.replicate 12 none
  statics := none }

def pool4 : Array CpInfo := pool [(2, .class_ 4), (1, u "java/lang/CharSequence"), (42, .class_ 48), (0, u "java/lang/CharSequence$1CodePointIterator"), (10, .class_ 60), (0, u "java/lang/CharSequence$1CharIterator"), (5, .class_ 67), (0, u "java/lang/Object")] 63

/-- java/lang/CharSequence -/
def k4 : Class := { plain "java/lang/CharSequence" (some 0) with
  accessFlags := 1537
  interfaces := #[]
  cf := some (fileOf pool4 2 #[.nestMembers #[47, 59]] #[] 1537 66 #[] #[])
  fields := #[]
  methods := #[]
  instanceTypes := #[]
  staticTypes := #[]
  resolved := Array.replicate 131 none
  statics := none }

def pool5 : Array CpInfo := pool [(1, .class_ 2), (0, u "java/lang/constant/Constable"), (0, .class_ 4), (0, u "java/lang/Object")] 6

/-- java/lang/constant/Constable -/
def k5 : Class := { plain "java/lang/constant/Constable" (some 0) with
  accessFlags := 1537
  interfaces := #[]
  cf := some (fileOf pool5 1 #[] #[] 1537 3 #[] #[])
  fields := #[]
  methods := #[]
  instanceTypes := #[]
  staticTypes := #[]
  resolved := Array.replicate 11 none
  statics := none }

def pool6 : Array CpInfo := pool [(1, .class_ 2), (0, u "java/lang/constant/ConstantDesc"), (0, .class_ 4), (0, u "java/lang/Object")] 32

/-- java/lang/constant/ConstantDesc -/
def k6 : Class := { plain "java/lang/constant/ConstantDesc" (some 0) with
  accessFlags := 1537
  interfaces := #[]
  cf := some (fileOf pool6 1 #[] #[] 1537 3 #[] #[])
  fields := #[]
  methods := #[]
  instanceTypes := #[]
  staticTypes := #[]
  resolved := Array.replicate 37 none
  statics := none }

def pool7 : Array CpInfo := pool [(1, .methodref 2 3), (0, .class_ 4), (0, .nameAndType 5 6), (0, u "java/lang/Object"), (0, u "<init>"), (0, u "()V"), (2, .fieldref 10 11), (0, .class_ 12), (0, .nameAndType 13 14), (0, u "java/lang/String"), (0, u "value"), (0, u "[B"), (0, .fieldref 10 16), (0, .nameAndType 17 18), (0, u "coder"), (0, u "B"), (2, u "hash"), (0, u "I"), (2, u "hashIsZero"), (0, u "Z"), (11, .fieldref 10 39), (0, .nameAndType 40 26), (0, u "COMPACT_STRINGS"), (12, u "toBytes"), (53, .class_ 109), (1, u "java/lang/StringLatin1"), (99, .methodref 10 210), (0, .nameAndType 5 211), (0, u "([BB)V"), (157, u "(C)Z"), (205, .class_ 576), (0, u "java/lang/CharSequence"), (22, u "CASE_INSENSITIVE_ORDER"), (0, u "Ljava/util/Comparator;"), (181, u "valueOf"), (0, u "(C)Ljava/lang/String;"), (231, .methodref 107 1016), (0, .nameAndType 1017 369), (0, u "canEncode"), (0, .methodref 107 1019), (0, .nameAndType 53 1020), (0, u "(C)[B"), (80, u "serialPersistentFields"), (0, u "[Ljava/io/ObjectStreamField;"), (0, .class_ 1104), (0, u "java/lang/String$CaseInsensitiveComparator"), (1, .class_ 1107), (0, u "java/io/Serializable"), (0, .class_ 1109), (0, u "java/lang/Comparable"), (0, .class_ 1111), (0, u "java/lang/constant/Constable"), (0, .class_ 1113), (0, u "java/lang/constant/ConstantDesc"), (2, u "serialVersionUID"), (0, u "J"), (3, u "REPL"), (0, u "C"), (2, u "LATIN1"), (1, u "UTF16")] 323

def k7m0 : Method := { name := "<init>", desc := "()V", sig := { parameters := [], returnType := none }, accessFlags := 1, code := none }
def k7c1 : Code := { maxStack := 4, maxLocals := 1, code := jdk_42_method_139_code, exceptionTable := #[], attributes := #[] }
def k7m1 : Method := { name := "valueOf", desc := "(C)Ljava/lang/String;", sig := { parameters := [.char], returnType := some (.object "java/lang/String") }, accessFlags := 9, code := some k7c1 }
def k7c2 : Code := { maxStack := 2, maxLocals := 3, code := jdk_42_method_151_code, exceptionTable := #[], attributes := #[] }
def k7m2 : Method := { name := "<init>", desc := "([BB)V", sig := { parameters := [(.array .byte), .byte], returnType := none }, accessFlags := 0, code := some k7c2 }
/-- java/lang/String -/
def k7 : Class := { plain "java/lang/String" (some 0) with
  accessFlags := 49
  interfaces := #[2, 3, 4, 5, 6]
  cf := some (fileOf pool7 10 #[.nestMembers #[1103]] #[{ accessFlags := 1, nameIndex := 5, descriptorIndex := 6, attributes := #[] }, { accessFlags := 9, nameIndex := 782, descriptorIndex := 783, attributes := #[] }, { accessFlags := 0, nameIndex := 5, descriptorIndex := 211, attributes := #[] }] 49 2 #[1106, 1108, 575, 1110, 1112] #[{ accessFlags := 18, nameIndex := 13, descriptorIndex := 14, attributes := #[] }, { accessFlags := 18, nameIndex := 17, descriptorIndex := 18, attributes := #[] }, { accessFlags := 2, nameIndex := 21, descriptorIndex := 22, attributes := #[] }, { accessFlags := 2, nameIndex := 25, descriptorIndex := 26, attributes := #[] }, { accessFlags := 26, nameIndex := 1116, descriptorIndex := 1117, attributes := #[] }, { accessFlags := 24, nameIndex := 40, descriptorIndex := 26, attributes := #[] }, { accessFlags := 26, nameIndex := 1101, descriptorIndex := 1102, attributes := #[] }, { accessFlags := 26, nameIndex := 1121, descriptorIndex := 1122, attributes := #[] }, { accessFlags := 25, nameIndex := 599, descriptorIndex := 600, attributes := #[] }, { accessFlags := 24, nameIndex := 1125, descriptorIndex := 18, attributes := #[] }, { accessFlags := 24, nameIndex := 1127, descriptorIndex := 18, attributes := #[] }])
  fields := #[{ name := "value", type := (.array .byte), accessFlags := 18, slot := 0, constantValue := 0 }, { name := "coder", type := .byte, accessFlags := 18, slot := 1, constantValue := 0 }, { name := "hash", type := .int, accessFlags := 2, slot := 2, constantValue := 0 }, { name := "hashIsZero", type := .boolean, accessFlags := 2, slot := 3, constantValue := 0 }, { name := "serialVersionUID", type := .long, accessFlags := 26, slot := 0, constantValue := 0 }, { name := "COMPACT_STRINGS", type := .boolean, accessFlags := 24, slot := 1, constantValue := 0 }, { name := "serialPersistentFields", type := (.array (.object "java/io/ObjectStreamField")), accessFlags := 26, slot := 2, constantValue := 0 }, { name := "REPL", type := .char, accessFlags := 26, slot := 3, constantValue := 0 }, { name := "CASE_INSENSITIVE_ORDER", type := (.object "java/util/Comparator"), accessFlags := 25, slot := 4, constantValue := 0 }, { name := "LATIN1", type := .byte, accessFlags := 24, slot := 5, constantValue := 0 }, { name := "UTF16", type := .byte, accessFlags := 24, slot := 6, constantValue := 0 }]
  methods := #[k7m0, k7m1, k7m2]
  instanceTypes := #[(.array .byte), .byte, .int, .boolean]
  staticTypes := #[.long, .boolean, (.array (.object "java/io/ObjectStreamField")), .char, (.object "java/util/Comparator"), .byte, .byte]
  resolved := Array.replicate 1451 none
  statics := some 0 }

def pool8 : Array CpInfo := pool [(4, .class_ 6), (1, u "java/lang/Object"), (0, u "<init>"), (0, u "()V"), (5, .class_ 16), (1, u "java/lang/StringLatin1"), (73, u "canEncode"), (14, u "(C)Z"), (15, u "$assertionsDisabled"), (0, u "Z"), (98, .class_ 223), (1, u "java/lang/StringLatin1$LinesSpliterator"), (156, u "toBytes"), (1, u "(C)[B"), (7, .class_ 391), (0, u "java/lang/StringLatin1$CharsSpliterator")] 3

def k8m0 : Method := { name := "<init>", desc := "()V", sig := { parameters := [], returnType := none }, accessFlags := 0, code := none }
def k8c1 : Code := { maxStack := 2, maxLocals := 1, code := jdk_43_method_3_code, exceptionTable := #[], attributes := #[] }
def k8m1 : Method := { name := "canEncode", desc := "(C)Z", sig := { parameters := [.char], returnType := some .boolean }, accessFlags := 9, code := some k8c1 }
def k8c2 : Code := { maxStack := 4, maxLocals := 1, code := jdk_43_method_46_code, exceptionTable := #[], attributes := #[] }
def k8m2 : Method := { name := "toBytes", desc := "(C)[B", sig := { parameters := [.char], returnType := some (.array .byte) }, accessFlags := 9, code := some k8c2 }
/-- java/lang/StringLatin1 -/
def k8 : Class := { plain "java/lang/StringLatin1" (some 0) with
  accessFlags := 48
  interfaces := #[]
  cf := some (fileOf pool8 14 #[.nestMembers #[390, 221]] #[{ accessFlags := 0, nameIndex := 7, descriptorIndex := 8, attributes := #[] }, { accessFlags := 9, nameIndex := 90, descriptorIndex := 105, attributes := #[] }, { accessFlags := 9, nameIndex := 380, descriptorIndex := 382, attributes := #[] }] 48 4 #[] #[{ accessFlags := 4120, nameIndex := 121, descriptorIndex := 122, attributes := #[] }])
  fields := #[{ name := "$assertionsDisabled", type := .boolean, accessFlags := 4120, slot := 0, constantValue := 0 }]
  methods := #[k8m0, k8m1, k8m2]
  instanceTypes := #[]
  staticTypes := #[.boolean]
  resolved := Array.replicate 395 none
  statics := none }

def pool9 : Array CpInfo := pool [(1, .methodref 2 3), (0, .class_ 4), (0, .nameAndType 5 6), (0, u "java/lang/Object"), (0, u "<init>"), (0, u "()V"), (0, .class_ 8), (0, u "com/example/once_in_order/onceinorder/service/CursorTable"), (0, .fieldref 7 10), (0, .nameAndType 11 12), (0, u "acknowledged"), (0, u "[I"), (0, .fieldref 7 14), (0, .nameAndType 15 12), (0, u "delivered"), (0, .fieldref 7 17), (0, .nameAndType 18 19), (0, u "deliveredAt"), (0, u "[J"), (0, .class_ 21), (0, u "java/lang/String"), (0, .fieldref 7 23), (0, .nameAndType 24 25), (0, u "consumers"), (0, u "[Ljava/lang/String;"), (0, .class_ 27), (0, u "java/util/ArrayList"), (0, .methodref 26 3), (0, .fieldref 7 30), (0, .nameAndType 31 32), (0, u "recorded"), (0, u "Ljava/util/List;"), (0, .class_ 34), (0, u "java/util/HashMap"), (0, .methodref 33 3), (0, .fieldref 7 37), (0, .nameAndType 38 39), (0, u "acknowledgedAhead"), (0, u "Ljava/util/Map;"), (0, .fieldref 7 41), (0, .nameAndType 42 43), (0, u "size"), (0, u "I"), (13, .interfaceMethodref 58 59), (0, .class_ 60), (0, .nameAndType 61 62), (0, u "java/util/List"), (0, u "add"), (0, u "(Ljava/lang/Object;)Z"), (84, u "(I)V"), (3, u "(I)I"), (21, u "(I)Ljava/lang/String;"), (26, u "MIN_CAPACITY"), (11, u "(IILjava/lang/String;J)V"), (4, u "consumer"), (0, u "(I)J")] 27

def k9c0 : Code := { maxStack := 3, maxLocals := 1, code := prog_43_method_1_code, exceptionTable := #[], attributes := #[] }
def k9m0 : Method := { name := "<init>", desc := "()V", sig := { parameters := [], returnType := none }, accessFlags := 0, code := some k9c0 }
def k9c1 : Code := { maxStack := 3, maxLocals := 3, code := prog_43_method_2_code, exceptionTable := #[], attributes := #[] }
def k9m1 : Method := { name := "add", desc := "(I)V", sig := { parameters := [.int], returnType := none }, accessFlags := 0, code := some k9c1 }
def k9c2 : Code := { maxStack := 2, maxLocals := 2, code := prog_43_method_6_code, exceptionTable := #[], attributes := #[] }
def k9m2 : Method := { name := "delivered", desc := "(I)I", sig := { parameters := [.int], returnType := some .int }, accessFlags := 0, code := some k9c2 }
def k9c3 : Code := { maxStack := 4, maxLocals := 6, code := prog_43_method_7_code, exceptionTable := #[], attributes := #[] }
def k9m3 : Method := { name := "delivered", desc := "(IILjava/lang/String;J)V", sig := { parameters := [.int, .int, (.object "java/lang/String"), .long], returnType := none }, accessFlags := 0, code := some k9c3 }
def k9c4 : Code := { maxStack := 2, maxLocals := 2, code := prog_43_method_10_code, exceptionTable := #[], attributes := #[] }
def k9m4 : Method := { name := "consumer", desc := "(I)Ljava/lang/String;", sig := { parameters := [.int], returnType := some (.object "java/lang/String") }, accessFlags := 0, code := some k9c4 }
def k9c5 : Code := { maxStack := 2, maxLocals := 2, code := prog_43_method_11_code, exceptionTable := #[], attributes := #[] }
def k9m5 : Method := { name := "deliveredAt", desc := "(I)J", sig := { parameters := [.int], returnType := some .long }, accessFlags := 0, code := some k9c5 }
/-- com/example/once_in_order/onceinorder/service/CursorTable -/
def k9 : Class := { plain "com/example/once_in_order/onceinorder/service/CursorTable" (some 0) with
  accessFlags := 48
  interfaces := #[]
  cf := some (fileOf pool9 7 #[] #[{ accessFlags := 0, nameIndex := 5, descriptorIndex := 6, attributes := #[] }, { accessFlags := 0, nameIndex := 61, descriptorIndex := 147, attributes := #[] }, { accessFlags := 0, nameIndex := 15, descriptorIndex := 151, attributes := #[] }, { accessFlags := 0, nameIndex := 15, descriptorIndex := 212, attributes := #[] }, { accessFlags := 0, nameIndex := 217, descriptorIndex := 173, attributes := #[] }, { accessFlags := 0, nameIndex := 18, descriptorIndex := 218, attributes := #[] }] 48 2 #[] #[{ accessFlags := 26, nameIndex := 200, descriptorIndex := 43, attributes := #[] }, { accessFlags := 2, nameIndex := 42, descriptorIndex := 43, attributes := #[] }, { accessFlags := 2, nameIndex := 11, descriptorIndex := 12, attributes := #[] }, { accessFlags := 2, nameIndex := 15, descriptorIndex := 12, attributes := #[] }, { accessFlags := 2, nameIndex := 18, descriptorIndex := 19, attributes := #[] }, { accessFlags := 2, nameIndex := 24, descriptorIndex := 25, attributes := #[] }, { accessFlags := 18, nameIndex := 31, descriptorIndex := 32, attributes := #[] }, { accessFlags := 18, nameIndex := 38, descriptorIndex := 39, attributes := #[] }])
  fields := #[{ name := "MIN_CAPACITY", type := .int, accessFlags := 26, slot := 0, constantValue := 0 }, { name := "size", type := .int, accessFlags := 2, slot := 0, constantValue := 0 }, { name := "acknowledged", type := (.array .int), accessFlags := 2, slot := 1, constantValue := 0 }, { name := "delivered", type := (.array .int), accessFlags := 2, slot := 2, constantValue := 0 }, { name := "deliveredAt", type := (.array .long), accessFlags := 2, slot := 3, constantValue := 0 }, { name := "consumers", type := (.array (.object "java/lang/String")), accessFlags := 2, slot := 4, constantValue := 0 }, { name := "recorded", type := (.object "java/util/List"), accessFlags := 18, slot := 5, constantValue := 0 }, { name := "acknowledgedAhead", type := (.object "java/util/Map"), accessFlags := 18, slot := 6, constantValue := 0 }]
  methods := #[k9m0, k9m1, k9m2, k9m3, k9m4, k9m5]
  instanceTypes := #[.int, (.array .int), (.array .int), (.array .long), (.array (.object "java/lang/String")), (.object "java/util/List"), (.object "java/util/Map")]
  staticTypes := #[.int]
  resolved := Array.replicate 246 none
  statics := none }

def pool10 : Array CpInfo := pool [(8, .class_ 10), (1, u "java/lang/Iterable"), (24, .class_ 36), (0, u "java/lang/Object")] 25

/-- java/lang/Iterable -/
def k10 : Class := { plain "java/lang/Iterable" (some 0) with
  accessFlags := 1537
  interfaces := #[]
  cf := some (fileOf pool10 8 #[] #[] 1537 35 #[] #[])
  fields := #[]
  methods := #[]
  instanceTypes := #[]
  staticTypes := #[]
  resolved := Array.replicate 62 none
  statics := none }

def pool11 : Array CpInfo := pool [(10, .class_ 12), (1, u "java/util/Collection"), (47, .class_ 61), (0, u "java/lang/Object"), (0, .class_ 63), (0, u "java/lang/Iterable")] 51

/-- java/util/Collection -/
def k11 : Class := { plain "java/util/Collection" (some 0) with
  accessFlags := 1537
  interfaces := #[10]
  cf := some (fileOf pool11 10 #[] #[] 1537 60 #[62] #[])
  fields := #[]
  methods := #[]
  instanceTypes := #[]
  staticTypes := #[]
  resolved := Array.replicate 115 none
  statics := none }

def pool12 : Array CpInfo := pool [(1, .methodref 2 3), (0, .class_ 4), (0, .nameAndType 5 6), (0, u "java/lang/Object"), (0, u "<init>"), (0, u "()V"), (1, .class_ 10), (1, u "java/util/AbstractCollection"), (66, .class_ 78), (0, u "java/util/Collection")] 81

def k12c0 : Code := { maxStack := 1, maxLocals := 1, code := jdk_22_method_1_code, exceptionTable := #[], attributes := #[] }
def k12m0 : Method := { name := "<init>", desc := "()V", sig := { parameters := [], returnType := none }, accessFlags := 4, code := some k12c0 }
/-- java/util/AbstractCollection -/
def k12 : Class := { plain "java/util/AbstractCollection" (some 0) with
  accessFlags := 1057
  interfaces := #[11]
  cf := some (fileOf pool12 8 #[] #[{ accessFlags := 4, nameIndex := 5, descriptorIndex := 6, attributes := #[] }] 1057 2 #[77] #[])
  fields := #[]
  methods := #[k12m0]
  instanceTypes := #[]
  staticTypes := #[]
  resolved := Array.replicate 160 none
  statics := none }

def pool13 : Array CpInfo := pool [(8, .class_ 10), (1, u "java/util/SequencedCollection"), (15, .class_ 27), (0, u "java/lang/Object"), (0, .class_ 29), (0, u "java/util/Collection")] 27

/-- java/util/SequencedCollection -/
def k13 : Class := { plain "java/util/SequencedCollection" (some 0) with
  accessFlags := 1537
  interfaces := #[11]
  cf := some (fileOf pool13 8 #[] #[] 1537 26 #[28] #[])
  fields := #[]
  methods := #[]
  instanceTypes := #[]
  staticTypes := #[]
  resolved := Array.replicate 57 none
  statics := none }

def pool14 : Array CpInfo := pool [(8, .class_ 10), (1, u "java/util/List"), (49, u "add"), (3, u "(Ljava/lang/Object;)Z"), (38, .class_ 104), (0, u "java/lang/Object"), (15, .class_ 121), (0, u "java/util/SequencedCollection")] 129

def k14m0 : Method := { name := "add", desc := "(Ljava/lang/Object;)Z", sig := { parameters := [(.object "java/lang/Object")], returnType := some .boolean }, accessFlags := 1025, code := none }
/-- java/util/List -/
def k14 : Class := { plain "java/util/List" (some 0) with
  accessFlags := 1537
  interfaces := #[13]
  cf := some (fileOf pool14 8 #[] #[{ accessFlags := 1025, nameIndex := 60, descriptorIndex := 64, attributes := #[] }] 1537 103 #[120] #[])
  fields := #[]
  methods := #[k14m0]
  instanceTypes := #[]
  staticTypes := #[]
  resolved := Array.replicate 251 none
  statics := none }

def pool15 : Array CpInfo := pool [(1, .methodref 2 3), (0, .class_ 4), (0, .nameAndType 5 6), (0, u "java/util/AbstractCollection"), (0, u "<init>"), (0, u "()V"), (0, .fieldref 8 9), (0, .class_ 10), (0, .nameAndType 11 12), (0, u "java/util/AbstractList"), (0, u "modCount"), (0, u "I"), (64, .class_ 78), (0, u "java/util/AbstractList$Itr"), (3, .class_ 83), (0, u "java/util/AbstractList$ListItr"), (9, .class_ 94), (0, u "java/util/AbstractList$RandomAccessSubList"), (3, .class_ 99), (0, u "java/util/AbstractList$SubList"), (33, .class_ 134), (0, u "java/util/List"), (73, .class_ 209), (0, u "java/util/AbstractList$SubList$1"), (0, .class_ 211), (0, u "java/util/AbstractList$RandomAccessSpliterator")] 6

def k15c0 : Code := { maxStack := 2, maxLocals := 1, code := jdk_39_method_1_code, exceptionTable := #[], attributes := #[] }
def k15m0 : Method := { name := "<init>", desc := "()V", sig := { parameters := [], returnType := none }, accessFlags := 4, code := some k15c0 }
/-- java/util/AbstractList -/
def k15 : Class := { plain "java/util/AbstractList" (some 12) with
  accessFlags := 1057
  interfaces := #[14]
  cf := some (fileOf pool15 8 #[.nestMembers #[93, 98, 208, 210, 82, 77]] #[{ accessFlags := 4, nameIndex := 5, descriptorIndex := 6, attributes := #[] }] 1057 2 #[133] #[{ accessFlags := 132, nameIndex := 11, descriptorIndex := 12, attributes := #[] }])
  fields := #[{ name := "modCount", type := .int, accessFlags := 132, slot := 0, constantValue := 0 }]
  methods := #[k15m0]
  instanceTypes := #[.int]
  staticTypes := #[]
  resolved := Array.replicate 218 none
  statics := none }

def pool16 : Array CpInfo := pool [(1, .class_ 2), (0, u "java/util/RandomAccess"), (0, .class_ 4), (0, u "java/lang/Object")] 2

/-- java/util/RandomAccess -/
def k16 : Class := { plain "java/util/RandomAccess" (some 0) with
  accessFlags := 1537
  interfaces := #[]
  cf := some (fileOf pool16 1 #[] #[] 1537 3 #[] #[])
  fields := #[]
  methods := #[]
  instanceTypes := #[]
  staticTypes := #[]
  resolved := Array.replicate 7 none
  statics := none }

def pool17 : Array CpInfo := pool [(1, .class_ 2), (0, u "java/lang/Cloneable"), (0, .class_ 4), (0, u "java/lang/Object")] 2

/-- java/lang/Cloneable -/
def k17 : Class := { plain "java/lang/Cloneable" (some 0) with
  accessFlags := 1537
  interfaces := #[]
  cf := some (fileOf pool17 1 #[] #[] 1537 3 #[] #[])
  fields := #[]
  methods := #[]
  instanceTypes := #[]
  staticTypes := #[]
  resolved := Array.replicate 7 none
  statics := none }

def pool18 : Array CpInfo := pool [(1, .methodref 2 3), (0, .class_ 4), (0, .nameAndType 5 6), (0, u "java/util/AbstractList"), (0, u "<init>"), (0, u "()V"), (0, .class_ 8), (0, u "java/lang/Object"), (0, .fieldref 10 11), (0, .class_ 12), (0, .nameAndType 13 14), (0, u "java/util/ArrayList"), (0, u "elementData"), (0, u "[Ljava/lang/Object;"), (2, u "EMPTY_ELEMENTDATA"), (21, .fieldref 10 40), (0, .nameAndType 41 14), (0, u "DEFAULTCAPACITY_EMPTY_ELEMENTDATA"), (5, u "()[Ljava/lang/Object;"), (0, .fieldref 10 49), (0, .nameAndType 50 51), (0, u "size"), (0, u "I"), (11, .fieldref 10 64), (0, .nameAndType 65 51), (0, u "modCount"), (3, .methodref 10 70), (0, .nameAndType 71 72), (0, u "grow"), (0, u "(I)[Ljava/lang/Object;"), (6, .methodref 80 81), (0, .class_ 82), (0, .nameAndType 83 84), (0, u "java/lang/Math"), (0, u "max"), (0, u "(II)I"), (11, u "(Ljava/lang/Object;)Z"), (32, .methodref 10 130), (0, .nameAndType 71 47), (0, .methodref 10 132), (0, .nameAndType 133 134), (0, u "add"), (0, u "(Ljava/lang/Object;[Ljava/lang/Object;I)V"), (13, .class_ 149), (0, u "java/util/List"), (112, .class_ 263), (0, u "java/util/ArrayList$ListItr"), (3, .class_ 268), (0, u "java/util/ArrayList$Itr"), (7, .class_ 277), (0, u "java/util/ArrayList$SubList"), (12, .class_ 291), (0, u "java/util/ArrayList$ArrayListSpliterator"), (37, .class_ 330), (0, u "java/util/RandomAccess"), (0, .class_ 332), (0, u "java/lang/Cloneable"), (0, .class_ 334), (0, u "java/io/Serializable"), (0, u "serialVersionUID"), (0, u "J"), (3, u "DEFAULT_CAPACITY"), (159, .class_ 501), (0, u "java/util/ArrayList$SubList$2"), (0, .class_ 503), (0, u "java/util/ArrayList$SubList$1")] 5

def k18c0 : Code := { maxStack := 2, maxLocals := 1, code := jdk_38_method_2_code, exceptionTable := #[], attributes := #[] }
def k18m0 : Method := { name := "<init>", desc := "()V", sig := { parameters := [], returnType := none }, accessFlags := 1, code := some k18c0 }
def k18c1 : Code := { maxStack := 4, maxLocals := 4, code := jdk_38_method_6_code, exceptionTable := #[], attributes := #[] }
def k18m1 : Method := { name := "grow", desc := "(I)[Ljava/lang/Object;", sig := { parameters := [.int], returnType := some (.array (.object "java/lang/Object")) }, accessFlags := 2, code := some k18c1 }
def k18c2 : Code := { maxStack := 3, maxLocals := 1, code := jdk_38_method_7_code, exceptionTable := #[], attributes := #[] }
def k18m2 : Method := { name := "grow", desc := "()[Ljava/lang/Object;", sig := { parameters := [], returnType := some (.array (.object "java/lang/Object")) }, accessFlags := 2, code := some k18c2 }
def k18c3 : Code := { maxStack := 3, maxLocals := 4, code := jdk_38_method_24_code, exceptionTable := #[], attributes := #[] }
def k18m3 : Method := { name := "add", desc := "(Ljava/lang/Object;[Ljava/lang/Object;I)V", sig := { parameters := [(.object "java/lang/Object"), (.array (.object "java/lang/Object")), .int], returnType := none }, accessFlags := 2, code := some k18c3 }
def k18c4 : Code := { maxStack := 4, maxLocals := 2, code := jdk_38_method_25_code, exceptionTable := #[], attributes := #[] }
def k18m4 : Method := { name := "add", desc := "(Ljava/lang/Object;)Z", sig := { parameters := [(.object "java/lang/Object")], returnType := some .boolean }, accessFlags := 1, code := some k18c4 }
/-- java/util/ArrayList -/
def k18 : Class := { plain "java/util/ArrayList" (some 15) with
  accessFlags := 33
  interfaces := #[14, 16, 17, 2]
  cf := some (fileOf pool18 10 #[.nestMembers #[290, 276, 500, 502, 262, 267]] #[{ accessFlags := 1, nameIndex := 5, descriptorIndex := 6, attributes := #[] }, { accessFlags := 2, nameIndex := 71, descriptorIndex := 72, attributes := #[] }, { accessFlags := 2, nameIndex := 71, descriptorIndex := 47, attributes := #[] }, { accessFlags := 2, nameIndex := 133, descriptorIndex := 134, attributes := #[] }, { accessFlags := 1, nameIndex := 133, descriptorIndex := 96, attributes := #[] }] 33 2 #[148, 329, 331, 333] #[{ accessFlags := 26, nameIndex := 335, descriptorIndex := 336, attributes := #[] }, { accessFlags := 26, nameIndex := 340, descriptorIndex := 51, attributes := #[] }, { accessFlags := 26, nameIndex := 17, descriptorIndex := 14, attributes := #[] }, { accessFlags := 26, nameIndex := 41, descriptorIndex := 14, attributes := #[] }, { accessFlags := 128, nameIndex := 13, descriptorIndex := 14, attributes := #[] }, { accessFlags := 2, nameIndex := 50, descriptorIndex := 51, attributes := #[] }])
  fields := #[{ name := "serialVersionUID", type := .long, accessFlags := 26, slot := 0, constantValue := 0 }, { name := "DEFAULT_CAPACITY", type := .int, accessFlags := 26, slot := 1, constantValue := 0 }, { name := "EMPTY_ELEMENTDATA", type := (.array (.object "java/lang/Object")), accessFlags := 26, slot := 2, constantValue := 0 }, { name := "DEFAULTCAPACITY_EMPTY_ELEMENTDATA", type := (.array (.object "java/lang/Object")), accessFlags := 26, slot := 3, constantValue := 0 }, { name := "elementData", type := (.array (.object "java/lang/Object")), accessFlags := 128, slot := 1, constantValue := 0 }, { name := "size", type := .int, accessFlags := 2, slot := 2, constantValue := 0 }]
  methods := #[k18m0, k18m1, k18m2, k18m3, k18m4]
  instanceTypes := #[.int, (.array (.object "java/lang/Object")), .int]
  staticTypes := #[.long, .int, (.array (.object "java/lang/Object")), (.array (.object "java/lang/Object"))]
  resolved := Array.replicate 509 none
  statics := some 1 }

def pool19 : Array CpInfo := pool [(2, .class_ 4), (1, u "java/util/Map"), (31, .class_ 37), (0, u "java/util/Map$Entry"), (55, .class_ 94), (0, u "java/lang/Object")] 168

/-- java/util/Map -/
def k19 : Class := { plain "java/util/Map" (some 0) with
  accessFlags := 1537
  interfaces := #[]
  cf := some (fileOf pool19 2 #[.nestMembers #[36]] #[] 1537 93 #[] #[])
  fields := #[]
  methods := #[]
  instanceTypes := #[]
  staticTypes := #[]
  resolved := Array.replicate 263 none
  statics := none }

def pool20 : Array CpInfo := pool [(1, .methodref 2 3), (0, .class_ 4), (0, .nameAndType 5 6), (0, u "java/lang/Object"), (0, u "<init>"), (0, u "()V"), (1, .class_ 10), (1, u "java/util/AbstractMap"), (42, .class_ 54), (0, u "java/util/Map"), (9, u "keySet"), (0, u "Ljava/util/Set;"), (0, .class_ 67), (0, u "java/util/AbstractMap$1"), (5, u "values"), (0, u "Ljava/util/Collection;"), (0, .class_ 76), (0, u "java/util/AbstractMap$2"), (104, .class_ 182), (0, u "java/util/AbstractMap$ViewCollection"), (0, .class_ 184), (0, u "java/util/AbstractMap$SimpleImmutableEntry"), (0, .class_ 186), (0, u "java/util/AbstractMap$SimpleEntry"), (0, .class_ 188), (0, u "java/util/AbstractMap$2$1"), (0, .class_ 190), (0, u "java/util/AbstractMap$1$1")] 5

def k20c0 : Code := { maxStack := 1, maxLocals := 1, code := jdk_71_method_1_code, exceptionTable := #[], attributes := #[] }
def k20m0 : Method := { name := "<init>", desc := "()V", sig := { parameters := [], returnType := none }, accessFlags := 4, code := some k20c0 }
/-- java/util/AbstractMap -/
def k20 : Class := { plain "java/util/AbstractMap" (some 0) with
  accessFlags := 1057
  interfaces := #[19]
  cf := some (fileOf pool20 8 #[.nestMembers #[181, 183, 185, 75, 187, 66, 189]] #[{ accessFlags := 4, nameIndex := 5, descriptorIndex := 6, attributes := #[] }] 1057 2 #[53] #[{ accessFlags := 128, nameIndex := 64, descriptorIndex := 65, attributes := #[] }, { accessFlags := 128, nameIndex := 73, descriptorIndex := 74, attributes := #[] }])
  fields := #[{ name := "keySet", type := (.object "java/util/Set"), accessFlags := 128, slot := 0, constantValue := 0 }, { name := "values", type := (.object "java/util/Collection"), accessFlags := 128, slot := 1, constantValue := 0 }]
  methods := #[k20m0]
  instanceTypes := #[(.object "java/util/Set"), (.object "java/util/Collection")]
  staticTypes := #[]
  resolved := Array.replicate 196 none
  statics := none }

def pool21 : Array CpInfo := pool [(40, .class_ 41), (0, u "java/util/HashMap"), (1, .methodref 44 45), (0, .class_ 46), (0, .nameAndType 47 48), (0, u "java/util/AbstractMap"), (0, u "<init>"), (0, u "()V"), (32, .fieldref 40 82), (0, .nameAndType 83 84), (0, u "loadFactor"), (0, u "F"), (5, u "threshold"), (0, u "I"), (0, .float 1061158912), (8, .class_ 103), (1, u "java/util/Map"), (0, u "size"), (2, u "table"), (0, u "[Ljava/util/HashMap$Node;"), (14, u "entrySet"), (39, .class_ 165), (1, u "java/util/HashMap$Node"), (14, .class_ 181), (0, u "java/util/HashMap$TreeNode"), (22, u "modCount"), (37, u "Ljava/util/Set;"), (0, .class_ 244), (0, u "java/util/HashMap$KeySet"), (18, .class_ 264), (0, u "java/util/HashMap$Values"), (3, .class_ 269), (0, u "java/util/HashMap$EntrySet"), (76, .class_ 348), (1, u "java/util/HashMap$UnsafeHolder"), (43, .class_ 393), (0, u "java/lang/Cloneable"), (0, .class_ 395), (0, u "java/io/Serializable"), (0, u "serialVersionUID"), (0, u "J"), (3, u "DEFAULT_INITIAL_CAPACITY"), (1, u "MAXIMUM_CAPACITY"), (0, u "DEFAULT_LOAD_FACTOR"), (0, u "TREEIFY_THRESHOLD"), (1, u "UNTREEIFY_THRESHOLD"), (1, u "MIN_TREEIFY_CAPACITY"), (186, .class_ 597), (0, u "java/util/HashMap$EntrySpliterator"), (0, .class_ 599), (0, u "java/util/HashMap$ValueSpliterator"), (0, .class_ 601), (0, u "java/util/HashMap$KeySpliterator"), (0, .class_ 603), (0, u "java/util/HashMap$HashMapSpliterator"), (0, .class_ 605), (0, u "java/util/HashMap$EntryIterator"), (0, .class_ 607), (0, u "java/util/HashMap$ValueIterator"), (0, .class_ 609), (0, u "java/util/HashMap$KeyIterator"), (0, .class_ 611), (0, u "java/util/HashMap$HashIterator")] 17

def k21c0 : Code := { maxStack := 2, maxLocals := 1, code := jdk_69_method_7_code, exceptionTable := #[], attributes := #[] }
def k21m0 : Method := { name := "<init>", desc := "()V", sig := { parameters := [], returnType := none }, accessFlags := 1, code := some k21c0 }
/-- java/util/HashMap -/
def k21 : Class := { plain "java/util/HashMap" (some 20) with
  accessFlags := 33
  interfaces := #[19, 17, 2]
  cf := some (fileOf pool21 40 #[.nestMembers #[180, 596, 598, 600, 602, 604, 606, 608, 610, 346, 268, 263, 243, 163]] #[{ accessFlags := 1, nameIndex := 47, descriptorIndex := 48, attributes := #[] }] 33 44 #[101, 392, 394] #[{ accessFlags := 26, nameIndex := 396, descriptorIndex := 397, attributes := #[] }, { accessFlags := 24, nameIndex := 401, descriptorIndex := 91, attributes := #[] }, { accessFlags := 24, nameIndex := 403, descriptorIndex := 91, attributes := #[] }, { accessFlags := 24, nameIndex := 404, descriptorIndex := 84, attributes := #[] }, { accessFlags := 24, nameIndex := 405, descriptorIndex := 91, attributes := #[] }, { accessFlags := 24, nameIndex := 407, descriptorIndex := 91, attributes := #[] }, { accessFlags := 24, nameIndex := 409, descriptorIndex := 91, attributes := #[] }, { accessFlags := 128, nameIndex := 107, descriptorIndex := 108, attributes := #[] }, { accessFlags := 128, nameIndex := 123, descriptorIndex := 242, attributes := #[] }, { accessFlags := 128, nameIndex := 104, descriptorIndex := 91, attributes := #[] }, { accessFlags := 128, nameIndex := 204, descriptorIndex := 91, attributes := #[] }, { accessFlags := 0, nameIndex := 90, descriptorIndex := 91, attributes := #[] }, { accessFlags := 16, nameIndex := 83, descriptorIndex := 84, attributes := #[] }])
  fields := #[{ name := "serialVersionUID", type := .long, accessFlags := 26, slot := 0, constantValue := 0 }, { name := "DEFAULT_INITIAL_CAPACITY", type := .int, accessFlags := 24, slot := 1, constantValue := 0 }, { name := "MAXIMUM_CAPACITY", type := .int, accessFlags := 24, slot := 2, constantValue := 0 }, { name := "DEFAULT_LOAD_FACTOR", type := .float, accessFlags := 24, slot := 3, constantValue := 0 }, { name := "TREEIFY_THRESHOLD", type := .int, accessFlags := 24, slot := 4, constantValue := 0 }, { name := "UNTREEIFY_THRESHOLD", type := .int, accessFlags := 24, slot := 5, constantValue := 0 }, { name := "MIN_TREEIFY_CAPACITY", type := .int, accessFlags := 24, slot := 6, constantValue := 0 }, { name := "table", type := (.array (.object "java/util/HashMap$Node")), accessFlags := 128, slot := 2, constantValue := 0 }, { name := "entrySet", type := (.object "java/util/Set"), accessFlags := 128, slot := 3, constantValue := 0 }, { name := "size", type := .int, accessFlags := 128, slot := 4, constantValue := 0 }, { name := "modCount", type := .int, accessFlags := 128, slot := 5, constantValue := 0 }, { name := "threshold", type := .int, accessFlags := 0, slot := 6, constantValue := 0 }, { name := "loadFactor", type := .float, accessFlags := 16, slot := 7, constantValue := 0 }]
  methods := #[k21m0]
  instanceTypes := #[(.object "java/util/Set"), (.object "java/util/Collection"), (.array (.object "java/util/HashMap$Node")), (.object "java/util/Set"), .int, .int, .int, .float]
  staticTypes := #[.long, .int, .int, .float, .int, .int, .int]
  resolved := Array.replicate 629 none
  statics := none }

def pool22 : Array CpInfo := pool [(1, .class_ 2), (0, u "java/lang/Math"), (1, .class_ 6), (1, u "java/lang/Object"), (0, u "<init>"), (0, u "()V"), (89, .class_ 100), (1, u "java/lang/Math$RandomNumberGeneratorHolder"), (71, u "negativeZeroFloatBits"), (0, u "J"), (2, u "negativeZeroDoubleBits"), (21, u "max"), (46, u "$assertionsDisabled"), (0, u "Z"), (88, u "(II)I"), (2, u "twoToTheDoubleScaleDown"), (0, u "D"), (4, u "twoToTheDoubleScaleUp"), (9, u "E"), (3, u "PI"), (2, u "TAU"), (2, u "DEGREES_TO_RADIANS"), (0, u "RADIANS_TO_DEGREES")] 94

def k22m0 : Method := { name := "<init>", desc := "()V", sig := { parameters := [], returnType := none }, accessFlags := 2, code := none }
def k22c1 : Code := { maxStack := 2, maxLocals := 2, code := jdk_29_method_65_code, exceptionTable := #[], attributes := #[] }
def k22m1 : Method := { name := "max", desc := "(II)I", sig := { parameters := [.int, .int], returnType := some .int }, accessFlags := 9, code := some k22c1 }
/-- java/lang/Math -/
def k22 : Class := { plain "java/lang/Math" (some 0) with
  accessFlags := 49
  interfaces := #[]
  cf := some (fileOf pool22 1 #[.nestMembers #[98]] #[{ accessFlags := 2, nameIndex := 7, descriptorIndex := 8, attributes := #[] }, { accessFlags := 9, nameIndex := 198, descriptorIndex := 335, attributes := #[] }] 49 4 #[] #[{ accessFlags := 25, nameIndex := 354, descriptorIndex := 339, attributes := #[] }, { accessFlags := 25, nameIndex := 358, descriptorIndex := 339, attributes := #[] }, { accessFlags := 25, nameIndex := 361, descriptorIndex := 339, attributes := #[] }, { accessFlags := 26, nameIndex := 364, descriptorIndex := 339, attributes := #[] }, { accessFlags := 26, nameIndex := 365, descriptorIndex := 339, attributes := #[] }, { accessFlags := 26, nameIndex := 172, descriptorIndex := 173, attributes := #[] }, { accessFlags := 26, nameIndex := 176, descriptorIndex := 173, attributes := #[] }, { accessFlags := 8, nameIndex := 344, descriptorIndex := 339, attributes := #[] }, { accessFlags := 8, nameIndex := 338, descriptorIndex := 339, attributes := #[] }, { accessFlags := 4120, nameIndex := 245, descriptorIndex := 246, attributes := #[] }])
  fields := #[{ name := "E", type := .double, accessFlags := 25, slot := 0, constantValue := 0 }, { name := "PI", type := .double, accessFlags := 25, slot := 1, constantValue := 0 }, { name := "TAU", type := .double, accessFlags := 25, slot := 2, constantValue := 0 }, { name := "DEGREES_TO_RADIANS", type := .double, accessFlags := 26, slot := 3, constantValue := 0 }, { name := "RADIANS_TO_DEGREES", type := .double, accessFlags := 26, slot := 4, constantValue := 0 }, { name := "negativeZeroFloatBits", type := .long, accessFlags := 26, slot := 5, constantValue := 0 }, { name := "negativeZeroDoubleBits", type := .long, accessFlags := 26, slot := 6, constantValue := 0 }, { name := "twoToTheDoubleScaleUp", type := .double, accessFlags := 8, slot := 7, constantValue := 0 }, { name := "twoToTheDoubleScaleDown", type := .double, accessFlags := 8, slot := 8, constantValue := 0 }, { name := "$assertionsDisabled", type := .boolean, accessFlags := 4120, slot := 9, constantValue := 0 }]
  methods := #[k22m0, k22m1]
  instanceTypes := #[]
  staticTypes := #[.double, .double, .double, .double, .double, .long, .long, .double, .double, .boolean]
  resolved := Array.replicate 460 none
  statics := none }

def pool23 : Array CpInfo := pool [(2, .class_ 4), (1, u "java/lang/Object"), (0, u "<init>"), (0, u "()V"), (17, .class_ 26), (1, u "jdk/internal/util/Preconditions"), (28, .class_ 56), (0, u "jdk/internal/util/Preconditions$4"), (57, .class_ 115), (0, u "jdk/internal/util/Preconditions$1"), (7, u "SIOOBE_FORMATTER"), (0, u "Ljava/util/function/BiFunction;"), (0, .class_ 126), (0, u "jdk/internal/util/Preconditions$2"), (3, u "AIOOBE_FORMATTER"), (0, .class_ 132), (0, u "jdk/internal/util/Preconditions$3"), (3, u "IOOBE_FORMATTER")] 57

def k23m0 : Method := { name := "<init>", desc := "()V", sig := { parameters := [], returnType := none }, accessFlags := 1, code := none }
/-- jdk/internal/util/Preconditions -/
def k23 : Class := { plain "jdk/internal/util/Preconditions" (some 0) with
  accessFlags := 33
  interfaces := #[]
  cf := some (fileOf pool23 24 #[.nestMembers #[55, 131, 125, 114]] #[{ accessFlags := 1, nameIndex := 5, descriptorIndex := 6, attributes := #[] }] 33 2 #[] #[{ accessFlags := 25, nameIndex := 123, descriptorIndex := 124, attributes := #[] }, { accessFlags := 25, nameIndex := 130, descriptorIndex := 124, attributes := #[] }, { accessFlags := 25, nameIndex := 136, descriptorIndex := 124, attributes := #[] }])
  fields := #[{ name := "SIOOBE_FORMATTER", type := (.object "java/util/function/BiFunction"), accessFlags := 25, slot := 0, constantValue := 0 }, { name := "AIOOBE_FORMATTER", type := (.object "java/util/function/BiFunction"), accessFlags := 25, slot := 1, constantValue := 0 }, { name := "IOOBE_FORMATTER", type := (.object "java/util/function/BiFunction"), accessFlags := 25, slot := 2, constantValue := 0 }]
  methods := #[k23m0]
  instanceTypes := #[]
  staticTypes := #[(.object "java/util/function/BiFunction"), (.object "java/util/function/BiFunction"), (.object "java/util/function/BiFunction")]
  resolved := Array.replicate 194 none
  statics := some 2 }

def pool24 : Array CpInfo := pool [(9, u "<init>"), (6, .class_ 18), (1, u "java/lang/Object"), (0, u "()V"), (1, .class_ 23), (1, u "jdk/internal/util/ArraysSupport"), (0, u "LOG2_ARRAY_LONG_INDEX_SCALE"), (0, u "I"), (2, u "U"), (0, u "Ljdk/internal/misc/Unsafe;"), (8, u "BIG_ENDIAN"), (0, u "Z"), (8, u "LOG2_BYTE_BIT_SIZE"), (4, u "LOG2_ARRAY_INT_INDEX_SCALE"), (54, u "JLA"), (0, u "Ljdk/internal/access/JavaLangAccess;"), (11, u "LOG2_ARRAY_BOOLEAN_INDEX_SCALE"), (9, u "LOG2_ARRAY_BYTE_INDEX_SCALE"), (5, u "LOG2_ARRAY_CHAR_INDEX_SCALE"), (5, u "LOG2_ARRAY_SHORT_INDEX_SCALE"), (18, u "LOG2_ARRAY_FLOAT_INDEX_SCALE"), (24, u "LOG2_ARRAY_DOUBLE_INDEX_SCALE"), (89, u "T_BOOLEAN"), (2, u "T_CHAR"), (1, u "T_FLOAT"), (1, u "T_DOUBLE"), (1, u "T_BYTE"), (1, u "T_SHORT"), (1, u "T_INT"), (1, u "T_LONG"), (1, u "SOFT_MAX_ARRAY_LENGTH")] 83

def k24m0 : Method := { name := "<init>", desc := "()V", sig := { parameters := [], returnType := none }, accessFlags := 2, code := none }
/-- jdk/internal/util/ArraysSupport -/
def k24 : Class := { plain "jdk/internal/util/ArraysSupport" (some 0) with
  accessFlags := 33
  interfaces := #[]
  cf := some (fileOf pool24 21 #[] #[{ accessFlags := 2, nameIndex := 9, descriptorIndex := 19, attributes := #[] }] 33 16 #[] #[{ accessFlags := 24, nameIndex := 28, descriptorIndex := 29, attributes := #[] }, { accessFlags := 26, nameIndex := 38, descriptorIndex := 39, attributes := #[] }, { accessFlags := 25, nameIndex := 121, descriptorIndex := 25, attributes := #[] }, { accessFlags := 25, nameIndex := 131, descriptorIndex := 25, attributes := #[] }, { accessFlags := 25, nameIndex := 137, descriptorIndex := 25, attributes := #[] }, { accessFlags := 25, nameIndex := 143, descriptorIndex := 25, attributes := #[] }, { accessFlags := 25, nameIndex := 53, descriptorIndex := 25, attributes := #[] }, { accessFlags := 25, nameIndex := 24, descriptorIndex := 25, attributes := #[] }, { accessFlags := 25, nameIndex := 162, descriptorIndex := 25, attributes := #[] }, { accessFlags := 25, nameIndex := 187, descriptorIndex := 25, attributes := #[] }, { accessFlags := 26, nameIndex := 48, descriptorIndex := 25, attributes := #[] }, { accessFlags := 25, nameIndex := 277, descriptorIndex := 25, attributes := #[] }, { accessFlags := 25, nameIndex := 280, descriptorIndex := 25, attributes := #[] }, { accessFlags := 25, nameIndex := 282, descriptorIndex := 25, attributes := #[] }, { accessFlags := 25, nameIndex := 284, descriptorIndex := 25, attributes := #[] }, { accessFlags := 25, nameIndex := 286, descriptorIndex := 25, attributes := #[] }, { accessFlags := 25, nameIndex := 288, descriptorIndex := 25, attributes := #[] }, { accessFlags := 25, nameIndex := 290, descriptorIndex := 25, attributes := #[] }, { accessFlags := 25, nameIndex := 292, descriptorIndex := 25, attributes := #[] }, { accessFlags := 26, nameIndex := 108, descriptorIndex := 109, attributes := #[] }, { accessFlags := 25, nameIndex := 294, descriptorIndex := 25, attributes := #[] }])
  fields := #[{ name := "U", type := (.object "jdk/internal/misc/Unsafe"), accessFlags := 24, slot := 0, constantValue := 0 }, { name := "BIG_ENDIAN", type := .boolean, accessFlags := 26, slot := 1, constantValue := 0 }, { name := "LOG2_ARRAY_BOOLEAN_INDEX_SCALE", type := .int, accessFlags := 25, slot := 2, constantValue := 0 }, { name := "LOG2_ARRAY_BYTE_INDEX_SCALE", type := .int, accessFlags := 25, slot := 3, constantValue := 0 }, { name := "LOG2_ARRAY_CHAR_INDEX_SCALE", type := .int, accessFlags := 25, slot := 4, constantValue := 0 }, { name := "LOG2_ARRAY_SHORT_INDEX_SCALE", type := .int, accessFlags := 25, slot := 5, constantValue := 0 }, { name := "LOG2_ARRAY_INT_INDEX_SCALE", type := .int, accessFlags := 25, slot := 6, constantValue := 0 }, { name := "LOG2_ARRAY_LONG_INDEX_SCALE", type := .int, accessFlags := 25, slot := 7, constantValue := 0 }, { name := "LOG2_ARRAY_FLOAT_INDEX_SCALE", type := .int, accessFlags := 25, slot := 8, constantValue := 0 }, { name := "LOG2_ARRAY_DOUBLE_INDEX_SCALE", type := .int, accessFlags := 25, slot := 9, constantValue := 0 }, { name := "LOG2_BYTE_BIT_SIZE", type := .int, accessFlags := 26, slot := 10, constantValue := 0 }, { name := "T_BOOLEAN", type := .int, accessFlags := 25, slot := 11, constantValue := 0 }, { name := "T_CHAR", type := .int, accessFlags := 25, slot := 12, constantValue := 0 }, { name := "T_FLOAT", type := .int, accessFlags := 25, slot := 13, constantValue := 0 }, { name := "T_DOUBLE", type := .int, accessFlags := 25, slot := 14, constantValue := 0 }, { name := "T_BYTE", type := .int, accessFlags := 25, slot := 15, constantValue := 0 }, { name := "T_SHORT", type := .int, accessFlags := 25, slot := 16, constantValue := 0 }, { name := "T_INT", type := .int, accessFlags := 25, slot := 17, constantValue := 0 }, { name := "T_LONG", type := .int, accessFlags := 25, slot := 18, constantValue := 0 }, { name := "JLA", type := (.object "jdk/internal/access/JavaLangAccess"), accessFlags := 26, slot := 19, constantValue := 0 }, { name := "SOFT_MAX_ARRAY_LENGTH", type := .int, accessFlags := 25, slot := 20, constantValue := 0 }]
  methods := #[k24m0]
  instanceTypes := #[]
  staticTypes := #[(.object "jdk/internal/misc/Unsafe"), .boolean, .int, .int, .int, .int, .int, .int, .int, .int, .int, .int, .int, .int, .int, .int, .int, .int, .int, (.object "jdk/internal/access/JavaLangAccess"), .int]
  resolved := Array.replicate 378 none
  statics := none }

/-- the primitive byte -/
def k25 : Class := { plain "byte" none with kind := .primitive 'B', accessFlags := 0x411 }
/-- [B -/
def k26 : Class := { plain "[B" (some 0) with kind := .array 25 .byte, interfaces := #[17, 2], accessFlags := 1041 }

/-- the primitive int -/
def k27 : Class := { plain "int" none with kind := .primitive 'I', accessFlags := 0x411 }
/-- [I -/
def k28 : Class := { plain "[I" (some 0) with kind := .array 27 .int, interfaces := #[17, 2], accessFlags := 1041 }

/-- the primitive long -/
def k29 : Class := { plain "long" none with kind := .primitive 'J', accessFlags := 0x411 }
/-- [J -/
def k30 : Class := { plain "[J" (some 0) with kind := .array 29 .long, interfaces := #[17, 2], accessFlags := 1041 }

/-- [Ljava/lang/Object; -/
def k31 : Class := { plain "[Ljava/lang/Object;" (some 0) with kind := .array 0 (.object "java/lang/Object"), interfaces := #[17, 2], accessFlags := 1041 }

/-- [Ljava/lang/String; -/
def k32 : Class := { plain "[Ljava/lang/String;" (some 0) with kind := .array 7 (.object "java/lang/String"), interfaces := #[17, 2], accessFlags := 1041 }

def heap : Heap := #[{ cls := 7, slots := #[.long 0, .int 1, .null, .int 0, .null, .int 0, .int 0], vm := .statics 7 },
  { cls := 18, slots := #[.long 0, .int 0, .ref 3, .ref 4], vm := .statics 18 },
  { cls := 23, slots := #[.null, .null, .null], vm := .statics 23 },
  { cls := 31, slots := #[], vm := .none },
  { cls := 31, slots := #[], vm := .none }]
def classes : Array Class := #[k0, k1, k2, k3, k4, k5, k6, k7, k8, k9, k10, k11, k12, k13, k14, k15, k16, k17, k18, k19, k20, k21, k22, k23, k24, k25, k26, k27, k28, k29, k30, k31, k32]
def interned : List (Array UInt16 × Addr) := []
def slotsUsed : Nat := 14
def theMethod : MethodId := ⟨1, 1⟩
def args0 : Array Value := #[.int 5, .int 6, .int 7, .long 8, .long 9, .int 66051]
def aboutOver (below : List Frame) : State where
  vm := { classes := classes, interned := interned.toArray }
  heap := heap
  slotsUsed := slotsUsed
  threads := #[{ frames := .invoking theMethod args0 :: below }]
def below0 : List Frame := [.native { method := ⟨0, 0⟩, args := #[] }]
def about1 : State := aboutOver below0
def p0 : Program := .bare "" "" ""
def e0 : Env := launch0.env 0 0 0
theorem w_frames : about1.frames = Frame.invoking theMethod args0 :: below0 := rfl
set_option maxRecDepth 65536 in
theorem w_args : argsFit about1.vm theMethod args0 = true := by decide +kernel
set_option maxRecDepth 65536 in
theorem w_heap : heapFits about1 = true := by decide +kernel
set_option maxRecDepth 65536 in
theorem w_runnable : about1.curStatus? = some .runnable := by decide +kernel
set_option maxRecDepth 65536 in
theorem w_alone : about1.alone = true := by decide +kernel
set_option maxRecDepth 65536 in
theorem w_named : about1.methodNamed? x = some theMethod := by decide +kernel
set_option maxRecDepth 65536 in
theorem w_hears : about1.hears theMethod below0 = true := by decide +kernel
set_option maxRecDepth 65536 in
theorem w_ripe : about1.ripe theMethod args0 below0 = true := by decide +kernel
theorem w_running : about1.status = .running := rfl
set_option maxRecDepth 65536 in
theorem w_room : about1.hasRoom e0.platform room_1 = true :=
  launch0.hasRoom_least _ room_1 (by decide +kernel) (by decide +kernel) (by decide +kernel) (by decide +kernel) (by decide +kernel) (by decide +kernel)
theorem allAtoms_all (ts : List Jvm.Cond) (a : Array Jvm.Value) (st : Jvm.State) : (allAtoms ts).before a st = ts.all (fun c => c.before a st) := by
  induction ts with
  | nil => rfl
  | cons c t ih =>
    show (Jvm.Cond.and c (allAtoms t)).before a st = _
    rw [Jvm.Cond.before_and, ih, List.all_cons]
def words1 : List Jvm.Cond := Jvm.Cond.code x code maxLocals ret :: tables_1
/-- a 'code' word, met by the world's own term for the bytes: nothing is compared byte by byte -/
theorem code_word {y : MethodName} {bytes : ByteArray} {mx : Nat} {rt : Option FieldType} {a : Array Value} {s : State} {m : MethodId} {meth : Method} {c : Code} (h1 : s.methodNamed? y = some m) (h2 : s.vm.method? m = some meth) (h3 : meth.code = some c) (h4 : c.code = bytes)
    (h5 : (c.maxLocals == mx && c.exceptionTable.isEmpty && decide (c.maxStack ≤ mostOperands) && decide (meth.sig.returnType = rt) && !meth.locks && decide (parseMethodDescriptor y.desc = some meth.sig)) = true) : (Jvm.Cond.code y bytes mx rt).before a s = true := by
  simp only [Bool.and_eq_true, beq_iff_eq, Bool.not_eq_true', decide_eq_true_eq] at h5
  obtain ⟨⟨⟨⟨⟨g1, g2⟩, g3⟩, g4⟩, g5⟩, g6⟩ := h5
  simp [Cond.before, Cond.holds, Cond.value, h1, h2, h3, h4, g1, g2, g3, g4, g5, g6]
def isCode : Jvm.Cond → Bool
  | .code _ _ _ _ => true
  | _ => false
theorem all_split {L : List Jvm.Cond} {P : Jvm.Cond → Bool} (h1 : L.all (fun c => isCode c || P c) = true) (h2 : ∀ c ∈ L.filter isCode, P c = true) : L.all P = true := by
  refine List.all_eq_true.mpr fun c hc => ?_
  have h := List.all_eq_true.mp h1 c hc
  rcases Bool.eq_false_or_eq_true (isCode c) with hi | hi
  · exact h2 c (List.mem_filter.mpr ⟨hc, hi⟩)
  · simpa [hi] using h
set_option maxRecDepth 65536 in
theorem w_c0 : (Jvm.Cond.code x code maxLocals ret).before args0 about1 = true := code_word (m := ⟨1, 1⟩) (meth := k1m1) (c := k1c1) (by decide +kernel) rfl rfl rfl (by decide +kernel)
set_option maxRecDepth 65536 in
theorem w_c1 : (Jvm.Cond.code ({ cls := "java/lang/String", name := "valueOf", desc := "(C)Ljava/lang/String;" } : Jvm.MethodName) jdk_42_method_139_code (1 : Nat) (Option.some (Jvm.ClassFile.FieldType.object "java/lang/String"))).before args0 about1 = true := code_word (m := ⟨7, 1⟩) (meth := k7m1) (c := k7c1) (by decide +kernel) rfl rfl rfl (by decide +kernel)
set_option maxRecDepth 65536 in
theorem w_c2 : (Jvm.Cond.code ({ cls := "java/lang/StringLatin1", name := "canEncode", desc := "(C)Z" } : Jvm.MethodName) jdk_43_method_3_code (1 : Nat) (Option.some Jvm.ClassFile.FieldType.boolean)).before args0 about1 = true := code_word (m := ⟨8, 1⟩) (meth := k8m1) (c := k8c1) (by decide +kernel) rfl rfl rfl (by decide +kernel)
set_option maxRecDepth 65536 in
theorem w_c3 : (Jvm.Cond.code ({ cls := "java/lang/StringLatin1", name := "toBytes", desc := "(C)[B" } : Jvm.MethodName) jdk_43_method_46_code (1 : Nat) (Option.some (Jvm.ClassFile.FieldType.array Jvm.ClassFile.FieldType.byte))).before args0 about1 = true := code_word (m := ⟨8, 2⟩) (meth := k8m2) (c := k8c2) (by decide +kernel) rfl rfl rfl (by decide +kernel)
set_option maxRecDepth 65536 in
theorem w_c4 : (Jvm.Cond.code ({ cls := "java/lang/String", name := "<init>", desc := "([BB)V" } : Jvm.MethodName) jdk_42_method_151_code (3 : Nat) (Option.none : Option Jvm.ClassFile.FieldType)).before args0 about1 = true := code_word (m := ⟨7, 2⟩) (meth := k7m2) (c := k7c2) (by decide +kernel) rfl rfl rfl (by decide +kernel)
set_option maxRecDepth 65536 in
theorem w_c5 : (Jvm.Cond.code ({ cls := "java/lang/Object", name := "<init>", desc := "()V" } : Jvm.MethodName) object_method_1_code (1 : Nat) (Option.none : Option Jvm.ClassFile.FieldType)).before args0 about1 = true := code_word (m := ⟨0, 0⟩) (meth := k0m0) (c := k0c0) (by decide +kernel) rfl rfl rfl (by decide +kernel)
set_option maxRecDepth 65536 in
theorem w_c6 : (Jvm.Cond.code ({ cls := "com/example/once_in_order/onceinorder/service/CursorTable", name := "<init>", desc := "()V" } : Jvm.MethodName) prog_43_method_1_code (1 : Nat) (Option.none : Option Jvm.ClassFile.FieldType)).before args0 about1 = true := code_word (m := ⟨9, 0⟩) (meth := k9m0) (c := k9c0) (by decide +kernel) rfl rfl rfl (by decide +kernel)
set_option maxRecDepth 65536 in
theorem w_c7 : (Jvm.Cond.code ({ cls := "java/util/ArrayList", name := "<init>", desc := "()V" } : Jvm.MethodName) jdk_38_method_2_code (1 : Nat) (Option.none : Option Jvm.ClassFile.FieldType)).before args0 about1 = true := code_word (m := ⟨18, 0⟩) (meth := k18m0) (c := k18c0) (by decide +kernel) rfl rfl rfl (by decide +kernel)
set_option maxRecDepth 65536 in
theorem w_c8 : (Jvm.Cond.code ({ cls := "java/util/AbstractList", name := "<init>", desc := "()V" } : Jvm.MethodName) jdk_39_method_1_code (1 : Nat) (Option.none : Option Jvm.ClassFile.FieldType)).before args0 about1 = true := code_word (m := ⟨15, 0⟩) (meth := k15m0) (c := k15c0) (by decide +kernel) rfl rfl rfl (by decide +kernel)
set_option maxRecDepth 65536 in
theorem w_c9 : (Jvm.Cond.code ({ cls := "java/util/AbstractCollection", name := "<init>", desc := "()V" } : Jvm.MethodName) jdk_22_method_1_code (1 : Nat) (Option.none : Option Jvm.ClassFile.FieldType)).before args0 about1 = true := code_word (m := ⟨12, 0⟩) (meth := k12m0) (c := k12c0) (by decide +kernel) rfl rfl rfl (by decide +kernel)
set_option maxRecDepth 65536 in
theorem w_c10 : (Jvm.Cond.code ({ cls := "java/util/HashMap", name := "<init>", desc := "()V" } : Jvm.MethodName) jdk_69_method_7_code (1 : Nat) (Option.none : Option Jvm.ClassFile.FieldType)).before args0 about1 = true := code_word (m := ⟨21, 0⟩) (meth := k21m0) (c := k21c0) (by decide +kernel) rfl rfl rfl (by decide +kernel)
set_option maxRecDepth 65536 in
theorem w_c11 : (Jvm.Cond.code ({ cls := "java/util/AbstractMap", name := "<init>", desc := "()V" } : Jvm.MethodName) jdk_71_method_1_code (1 : Nat) (Option.none : Option Jvm.ClassFile.FieldType)).before args0 about1 = true := code_word (m := ⟨20, 0⟩) (meth := k20m0) (c := k20c0) (by decide +kernel) rfl rfl rfl (by decide +kernel)
set_option maxRecDepth 65536 in
theorem w_c12 : (Jvm.Cond.code ({ cls := "com/example/once_in_order/onceinorder/service/CursorTable", name := "add", desc := "(I)V" } : Jvm.MethodName) prog_43_method_2_code (3 : Nat) (Option.none : Option Jvm.ClassFile.FieldType)).before args0 about1 = true := code_word (m := ⟨9, 1⟩) (meth := k9m1) (c := k9c1) (by decide +kernel) rfl rfl rfl (by decide +kernel)
set_option maxRecDepth 65536 in
theorem w_c13 : (Jvm.Cond.code ({ cls := "java/util/ArrayList", name := "add", desc := "(Ljava/lang/Object;)Z" } : Jvm.MethodName) jdk_38_method_25_code (2 : Nat) (Option.some Jvm.ClassFile.FieldType.boolean)).before args0 about1 = true := code_word (m := ⟨18, 4⟩) (meth := k18m4) (c := k18c4) (by decide +kernel) rfl rfl rfl (by decide +kernel)
set_option maxRecDepth 65536 in
theorem w_c14 : (Jvm.Cond.code ({ cls := "java/util/ArrayList", name := "add", desc := "(Ljava/lang/Object;[Ljava/lang/Object;I)V" } : Jvm.MethodName) jdk_38_method_24_code (4 : Nat) (Option.none : Option Jvm.ClassFile.FieldType)).before args0 about1 = true := code_word (m := ⟨18, 3⟩) (meth := k18m3) (c := k18c3) (by decide +kernel) rfl rfl rfl (by decide +kernel)
set_option maxRecDepth 65536 in
theorem w_c15 : (Jvm.Cond.code ({ cls := "java/util/ArrayList", name := "grow", desc := "()[Ljava/lang/Object;" } : Jvm.MethodName) jdk_38_method_7_code (1 : Nat) (Option.some (Jvm.ClassFile.FieldType.array (Jvm.ClassFile.FieldType.object "java/lang/Object")))).before args0 about1 = true := code_word (m := ⟨18, 2⟩) (meth := k18m2) (c := k18c2) (by decide +kernel) rfl rfl rfl (by decide +kernel)
set_option maxRecDepth 65536 in
theorem w_c16 : (Jvm.Cond.code ({ cls := "java/util/ArrayList", name := "grow", desc := "(I)[Ljava/lang/Object;" } : Jvm.MethodName) jdk_38_method_6_code (4 : Nat) (Option.some (Jvm.ClassFile.FieldType.array (Jvm.ClassFile.FieldType.object "java/lang/Object")))).before args0 about1 = true := code_word (m := ⟨18, 1⟩) (meth := k18m1) (c := k18c1) (by decide +kernel) rfl rfl rfl (by decide +kernel)
set_option maxRecDepth 65536 in
theorem w_c17 : (Jvm.Cond.code ({ cls := "java/lang/Math", name := "max", desc := "(II)I" } : Jvm.MethodName) jdk_29_method_65_code (2 : Nat) (Option.some Jvm.ClassFile.FieldType.int)).before args0 about1 = true := code_word (m := ⟨22, 1⟩) (meth := k22m1) (c := k22c1) (by decide +kernel) rfl rfl rfl (by decide +kernel)
set_option maxRecDepth 65536 in
theorem w_c18 : (Jvm.Cond.code ({ cls := "com/example/once_in_order/onceinorder/service/CursorTable", name := "delivered", desc := "(IILjava/lang/String;J)V" } : Jvm.MethodName) prog_43_method_7_code (6 : Nat) (Option.none : Option Jvm.ClassFile.FieldType)).before args0 about1 = true := code_word (m := ⟨9, 3⟩) (meth := k9m3) (c := k9c3) (by decide +kernel) rfl rfl rfl (by decide +kernel)
set_option maxRecDepth 65536 in
theorem w_c19 : (Jvm.Cond.code ({ cls := "com/example/once_in_order/onceinorder/service/CursorTable", name := "delivered", desc := "(I)I" } : Jvm.MethodName) prog_43_method_6_code (2 : Nat) (Option.some Jvm.ClassFile.FieldType.int)).before args0 about1 = true := code_word (m := ⟨9, 2⟩) (meth := k9m2) (c := k9c2) (by decide +kernel) rfl rfl rfl (by decide +kernel)
set_option maxRecDepth 65536 in
theorem w_c20 : (Jvm.Cond.code ({ cls := "com/example/once_in_order/onceinorder/service/CursorTable", name := "consumer", desc := "(I)Ljava/lang/String;" } : Jvm.MethodName) prog_43_method_10_code (2 : Nat) (Option.some (Jvm.ClassFile.FieldType.object "java/lang/String"))).before args0 about1 = true := code_word (m := ⟨9, 4⟩) (meth := k9m4) (c := k9c4) (by decide +kernel) rfl rfl rfl (by decide +kernel)
set_option maxRecDepth 65536 in
theorem w_c21 : (Jvm.Cond.code ({ cls := "com/example/once_in_order/onceinorder/service/CursorTable", name := "deliveredAt", desc := "(I)J" } : Jvm.MethodName) prog_43_method_11_code (2 : Nat) (Option.some Jvm.ClassFile.FieldType.long)).before args0 about1 = true := code_word (m := ⟨9, 5⟩) (meth := k9m5) (c := k9c5) (by decide +kernel) rfl rfl rfl (by decide +kernel)
def codes1 : List Jvm.Cond := [Jvm.Cond.code x code maxLocals ret, Jvm.Cond.code ({ cls := "java/lang/String", name := "valueOf", desc := "(C)Ljava/lang/String;" } : Jvm.MethodName) jdk_42_method_139_code (1 : Nat) (Option.some (Jvm.ClassFile.FieldType.object "java/lang/String")), Jvm.Cond.code ({ cls := "java/lang/StringLatin1", name := "canEncode", desc := "(C)Z" } : Jvm.MethodName) jdk_43_method_3_code (1 : Nat) (Option.some Jvm.ClassFile.FieldType.boolean), Jvm.Cond.code ({ cls := "java/lang/StringLatin1", name := "toBytes", desc := "(C)[B" } : Jvm.MethodName) jdk_43_method_46_code (1 : Nat) (Option.some (Jvm.ClassFile.FieldType.array Jvm.ClassFile.FieldType.byte)), Jvm.Cond.code ({ cls := "java/lang/String", name := "<init>", desc := "([BB)V" } : Jvm.MethodName) jdk_42_method_151_code (3 : Nat) (Option.none : Option Jvm.ClassFile.FieldType), Jvm.Cond.code ({ cls := "java/lang/Object", name := "<init>", desc := "()V" } : Jvm.MethodName) object_method_1_code (1 : Nat) (Option.none : Option Jvm.ClassFile.FieldType), Jvm.Cond.code ({ cls := "com/example/once_in_order/onceinorder/service/CursorTable", name := "<init>", desc := "()V" } : Jvm.MethodName) prog_43_method_1_code (1 : Nat) (Option.none : Option Jvm.ClassFile.FieldType), Jvm.Cond.code ({ cls := "java/util/ArrayList", name := "<init>", desc := "()V" } : Jvm.MethodName) jdk_38_method_2_code (1 : Nat) (Option.none : Option Jvm.ClassFile.FieldType), Jvm.Cond.code ({ cls := "java/util/AbstractList", name := "<init>", desc := "()V" } : Jvm.MethodName) jdk_39_method_1_code (1 : Nat) (Option.none : Option Jvm.ClassFile.FieldType), Jvm.Cond.code ({ cls := "java/util/AbstractCollection", name := "<init>", desc := "()V" } : Jvm.MethodName) jdk_22_method_1_code (1 : Nat) (Option.none : Option Jvm.ClassFile.FieldType), Jvm.Cond.code ({ cls := "java/util/HashMap", name := "<init>", desc := "()V" } : Jvm.MethodName) jdk_69_method_7_code (1 : Nat) (Option.none : Option Jvm.ClassFile.FieldType), Jvm.Cond.code ({ cls := "java/util/AbstractMap", name := "<init>", desc := "()V" } : Jvm.MethodName) jdk_71_method_1_code (1 : Nat) (Option.none : Option Jvm.ClassFile.FieldType), Jvm.Cond.code ({ cls := "com/example/once_in_order/onceinorder/service/CursorTable", name := "add", desc := "(I)V" } : Jvm.MethodName) prog_43_method_2_code (3 : Nat) (Option.none : Option Jvm.ClassFile.FieldType), Jvm.Cond.code ({ cls := "java/util/ArrayList", name := "add", desc := "(Ljava/lang/Object;)Z" } : Jvm.MethodName) jdk_38_method_25_code (2 : Nat) (Option.some Jvm.ClassFile.FieldType.boolean), Jvm.Cond.code ({ cls := "java/util/ArrayList", name := "add", desc := "(Ljava/lang/Object;[Ljava/lang/Object;I)V" } : Jvm.MethodName) jdk_38_method_24_code (4 : Nat) (Option.none : Option Jvm.ClassFile.FieldType), Jvm.Cond.code ({ cls := "java/util/ArrayList", name := "grow", desc := "()[Ljava/lang/Object;" } : Jvm.MethodName) jdk_38_method_7_code (1 : Nat) (Option.some (Jvm.ClassFile.FieldType.array (Jvm.ClassFile.FieldType.object "java/lang/Object"))), Jvm.Cond.code ({ cls := "java/util/ArrayList", name := "grow", desc := "(I)[Ljava/lang/Object;" } : Jvm.MethodName) jdk_38_method_6_code (4 : Nat) (Option.some (Jvm.ClassFile.FieldType.array (Jvm.ClassFile.FieldType.object "java/lang/Object"))), Jvm.Cond.code ({ cls := "java/lang/Math", name := "max", desc := "(II)I" } : Jvm.MethodName) jdk_29_method_65_code (2 : Nat) (Option.some Jvm.ClassFile.FieldType.int), Jvm.Cond.code ({ cls := "com/example/once_in_order/onceinorder/service/CursorTable", name := "delivered", desc := "(IILjava/lang/String;J)V" } : Jvm.MethodName) prog_43_method_7_code (6 : Nat) (Option.none : Option Jvm.ClassFile.FieldType), Jvm.Cond.code ({ cls := "com/example/once_in_order/onceinorder/service/CursorTable", name := "delivered", desc := "(I)I" } : Jvm.MethodName) prog_43_method_6_code (2 : Nat) (Option.some Jvm.ClassFile.FieldType.int), Jvm.Cond.code ({ cls := "com/example/once_in_order/onceinorder/service/CursorTable", name := "consumer", desc := "(I)Ljava/lang/String;" } : Jvm.MethodName) prog_43_method_10_code (2 : Nat) (Option.some (Jvm.ClassFile.FieldType.object "java/lang/String")), Jvm.Cond.code ({ cls := "com/example/once_in_order/onceinorder/service/CursorTable", name := "deliveredAt", desc := "(I)J" } : Jvm.MethodName) prog_43_method_11_code (2 : Nat) (Option.some Jvm.ClassFile.FieldType.long)]
set_option maxRecDepth 65536 in
theorem codes_eq : words1.filter isCode = codes1 := rfl
theorem w_codes : ∀ c ∈ words1.filter isCode, c.before args0 about1 = true := by
  rw [codes_eq]
  intro c hc
  simp only [codes1, List.mem_cons, List.not_mem_nil, or_false] at hc
  rcases hc with rfl | rfl | rfl | rfl | rfl | rfl | rfl | rfl | rfl | rfl | rfl | rfl | rfl | rfl | rfl | rfl | rfl | rfl | rfl | rfl | rfl | rfl
  · exact w_c0
  · exact w_c1
  · exact w_c2
  · exact w_c3
  · exact w_c4
  · exact w_c5
  · exact w_c6
  · exact w_c7
  · exact w_c8
  · exact w_c9
  · exact w_c10
  · exact w_c11
  · exact w_c12
  · exact w_c13
  · exact w_c14
  · exact w_c15
  · exact w_c16
  · exact w_c17
  · exact w_c18
  · exact w_c19
  · exact w_c20
  · exact w_c21
set_option maxRecDepth 65536 in
theorem w_t1 : (words1.take 24).all (fun c => isCode c || c.before args0 about1) = true := by decide +kernel
set_option maxRecDepth 65536 in
theorem w_t2 : ((words1.drop 24).take 24).all (fun c => isCode c || c.before args0 about1) = true := by decide +kernel
set_option maxRecDepth 65536 in
theorem w_t3 : (((words1.drop 24).drop 24).take 24).all (fun c => isCode c || c.before args0 about1) = true := by decide +kernel
set_option maxRecDepth 65536 in
theorem w_t4 : ((((words1.drop 24).drop 24).drop 24).take 24).all (fun c => isCode c || c.before args0 about1) = true := by decide +kernel
set_option maxRecDepth 65536 in
theorem w_t5 : (((((words1.drop 24).drop 24).drop 24).drop 24).take 24).all (fun c => isCode c || c.before args0 about1) = true := by decide +kernel
set_option maxRecDepth 65536 in
theorem w_t6 : ((((((words1.drop 24).drop 24).drop 24).drop 24).drop 24).take 24).all (fun c => isCode c || c.before args0 about1) = true := by decide +kernel
set_option maxRecDepth 65536 in
theorem w_t7 : ((((((words1.drop 24).drop 24).drop 24).drop 24).drop 24).drop 24).all (fun c => isCode c || c.before args0 about1) = true := by decide +kernel
theorem w_tables : (allAtoms (Jvm.Cond.code x code maxLocals ret :: tables_1)).before args0 about1 = true := by
  rw [allAtoms_all]
  show words1.all (fun c => c.before args0 about1) = true
  refine all_split ?_ w_codes
  rw [← List.take_append_drop 24 words1, List.all_append, w_t1, ← List.take_append_drop 24 (words1.drop 24), List.all_append, w_t2, ← List.take_append_drop 24 ((words1.drop 24).drop 24), List.all_append, w_t3, ← List.take_append_drop 24 (((words1.drop 24).drop 24).drop 24), List.all_append, w_t4, ← List.take_append_drop 24 ((((words1.drop 24).drop 24).drop 24).drop 24), List.all_append, w_t5, ← List.take_append_drop 24 (((((words1.drop 24).drop 24).drop 24).drop 24).drop 24), List.all_append, w_t6, w_t7]
  rfl
set_option maxRecDepth 65536 in
theorem w_rest : rest_1_c.before args0 about1 = true := by decide +kernel
set_option maxRecDepth 65536 in
theorem w_case : (Jvm.Cond.and given_1 narrow_1).before args0 about1 = true := by decide +kernel
theorem w_applies : (headSpec (Jvm.Cond.code x code maxLocals ret :: tables_1) room_1).applies x e0.platform about1 = true :=
  (Spec.applies_iff w_frames).mpr ⟨w_running, w_runnable, w_alone, w_named, w_hears, w_ripe, w_room, w_tables⟩
theorem atStart : AtStart classFile x code maxLocals ret World_1 tables_1 room_1 Calls_1 rest_1 Pre_1 launch0 p0 e0 about1 theMethod args0 below0 :=
  ⟨lists_1, trivial, launch0.admits_env _ _ _, launch0.least_env, fairChoices_fair.cas, fairChoices_fair.clock, w_frames, w_args, w_heap, w_applies, trivial, w_rest, w_case⟩
end start1
theorem witness_1 : WitnessClaimed_1 := ⟨start1.p0, start1.e0, start1.about1, start1.theMethod, start1.args0, start1.below0, start1.atStart⟩
end Jvm.Pilot.@@N@@
