import JvmDerived
import JvmDerived.Pilot.@@N@@Statement
import JvmDerived.Pilot.@@N@@Code
set_option linter.unusedVariables false
set_option linter.unusedSimpArgs false
@@BLOCK:NumsL.lean.txt@@
namespace Jvm.Pilot.@@N@@
open Jvm Jvm.ClassFile Sem Op Lib Jvm.Free Jvm.Stand Jvm.LawKit Jvm.RoadKit Bundle Jvm.Pilot.@@N@@.Jvm.D
section Own
variable {p : Program} {l : Launch} {e : Env} {R : Room} {s : State} {m : MethodId} {args : Array Value} {below : List Frame} {meth : Method} {c : Code} {T : State} {cells slots n0 : Nat} {Z : State} {a0 : Array Value} {h h' h0 : Heap} {own nm : String} {bytes : ByteArray} {mx : Nat} {rt : Option FieldType} {Q : Option Value → Heap → Prop} {En : Outcome → State → List Loc → Prop} {pc : Nat} {Ls : Array Slot} {S : List Value} {a b : Addr}
/-- the run from here ends as Q says -/
def ownGo (p : Program) (e : Env) (m : MethodId) (below : List Frame) (n0 : Nat) (En : Outcome → State → List Loc → Prop) (Q : Option Value → Heap → Prop) (T : State) (pc : Nat) (Ls : Array Slot) (S : List Value) : Prop :=
  ∃ s₂ o, Steps p.tables e below (T.setTop (mkF m pc Ls S)) s₂ ∧ s₂.status = .running ∧ Ended s₂ below o ∧ ∃ v L, o = .returned v ∧ (Q v s₂.heap ∧ Fr n0 L) ∧ En o s₂ L
abbrev ownEnd (s : State) (R : Room) (o : Outcome) (t : State) (L : List Loc) : Prop := FrameEnd s o t L R.cells R.slots
/-- where the walk stands -/
def ownSt (p : Program) (l : Launch) (e : Env) (R : Room) (s : State) (m : MethodId) (args : Array Value) (below : List Frame) (meth : Method) (c : Code) (Z : State) (n0 : Nat) (own : String) (bytes : ByteArray) (mx : Nat) (rt : Option FieldType) (nm : String) (T : State) (h : Heap) (cells slots : Nat) : Prop :=
  (p.tables.exec = Jvm.exec ∧ Z.Warmed39 s.vm ∧ c.code = bytes ∧ c.maxLocals = mx ∧ s.vm.findClass own = some m.cls ∧ meth.name = nm ∧ meth.sig.returnType = rt ∧ meth.locks = false) ∧ ∃ locs, Stand p l e R s m args below meth c T locs cells slots ∧ T.heap = h ∧ Fr n0 locs
def ownMet (l : Launch) (ws : List Jvm.Cond) (y : MethodName) (bytes : ByteArray) (mx : Nat) (rt : Option FieldType) (rm : Room) (Z : State) (n0 : Nat) (as' : Array Value) (h0 : Heap) (Q : Option Value → Heap → Prop) : Prop :=
  MetFree l y (head1 (Jvm.Cond.code y bytes mx rt :: ws) rm) (fun a U => a = as' ∧ Z.Warmed39 U.vm ∧ U.heap = h0) (fun _ _ _ _ _ => True) (fun _ U o U' => ∃ v L, o = .returned v ∧ (Q v U'.heap ∧ Fr n0 L) ∧ FrameEnd U o U' L rm.cells rm.slots)
theorem ownGo.step {T' : State} {pc' : Nat} {Ls' : Array Slot} {S' : List Value} (st : ∀ t, Steps p.tables e below (T'.setTop (mkF m pc' Ls' S')) t → Steps p.tables e below (T.setTop (mkF m pc Ls S)) t) (go : ownGo p e m below n0 En Q T' pc' Ls' S') : ownGo p e m below n0 En Q T pc Ls S := by
  obtain ⟨s₂, o, h1, h2⟩ := go
  exact ⟨s₂, o, st _ h1, h2⟩
theorem own_body {ws : List Jvm.Cond} {y : MethodName} {rm : Room} {as' : Array Value} {L0 : Array Slot} (pn : plainFor y = true) (ef : ∀ m, entryFrame m as' mx = mkF m 0 L0 []) (hc : y.cls = own) (hn : y.name = nm)
    (body : ∀ p e s m below meth c s₁, ownSt p l e rm s m as' below meth c Z n0 own bytes mx rt nm s₁ h0 0 0 → ownGo p e m below n0 (ownEnd s rm) Q s₁ 0 L0 []) : ownMet l ws y bytes mx rt rm Z n0 as' h0 Q := by
  subst hc hn
  refine MetFree.of_bodySF pn hisR ?_
  intro p e s m args below meth c s₁ Bd hml0 hP hK
  obtain ⟨rfl, hZ, hh⟩ := hP
  have e0 : s₁.heap = h0 := by rw [← hh, Bd.state]; rfl
  obtain ⟨s₂, o, h1, h2, h3, v, L, h4, h5, h6⟩ := body p e s m below meth c s₁ ⟨⟨Bd.exec, hZ, Bd.bytes, hml0, findClass_of_methodNamed Bd.named, (name_of_methodNamed Bd.named Bd.method).1, Bd.returns, Bd.notSynchronized⟩, [], Stand.of_body Bd, e0, Fr.nil n0⟩
  exact ⟨s₂, o, castTop (ef m) h1, h2, h3, v, L, h4, h5, h6⟩
theorem ownMet.mono {ws : List Jvm.Cond} {y : MethodName} {rm : Room} {as' : Array Value} {Q' : Option Value → Heap → Prop} (M : ownMet l ws y bytes mx rt rm Z n0 as' h0 Q) (q : ∀ v h, Q v h → Q' v h) : ownMet l ws y bytes mx rt rm Z n0 as' h0 Q' := by
  intro p e ha hc hk s m args below hf happ hP hK
  obtain ⟨n, o, h1, h2, h3, v, L, h4, ⟨h5, h5'⟩, h6⟩ := M p e ha hc hk s m args below hf happ hP hK
  exact ⟨n, o, h1, h2, h3, v, L, h4, ⟨q _ _ h5, h5'⟩, h6⟩
theorem ownGo.mono {Q' : Option Value → Heap → Prop} (go : ownGo p e m below n0 En Q T pc Ls S) (q : ∀ v h, Q v h → Q' v h) : ownGo p e m below n0 En Q' T pc Ls S := by
  obtain ⟨s₂, o, h1, h2, h3, v, L, h4, ⟨h5, h5'⟩, h6⟩ := go
  exact ⟨s₂, o, h1, h2, h3, v, L, h4, ⟨q _ _ h5, h5'⟩, h6⟩
theorem own_iload (G : ownSt p l e R s m args below meth c Z n0 own bytes mx rt nm T h cells slots) {k : Nat} {v : Int32} (hd : decode bytes pc = .ok (.iload k, 2)) (hl : Ls[k]? = some (.val (.int v))) (go : ownGo p e m below n0 En Q T (pc + 2) Ls (.int v :: S)) : ownGo p e m below n0 En Q T pc Ls S := by
  obtain ⟨⟨hx, hZ, hby, hml, hown, hnm, hret, hlk⟩, locs, X, eT, hN⟩ := G
  exact ownGo.step (fun t k => XS.iload X.here hx rfl (hb hby hd) hl k) go
theorem own_iloadN (G : ownSt p l e R s m args below meth c Z n0 own bytes mx rt nm T h cells slots) {k : Fin 4} {v : Int32} (hd : decode bytes pc = .ok (.iload_n k, 1)) (hl : Ls[k.val]? = some (.val (.int v))) (go : ownGo p e m below n0 En Q T (pc + 1) Ls (.int v :: S)) : ownGo p e m below n0 En Q T pc Ls S := by
  obtain ⟨⟨hx, hZ, hby, hml, hown, hnm, hret, hlk⟩, locs, X, eT, hN⟩ := G
  exact ownGo.step (fun t k => XS.iloadN X.here hx rfl (hb hby hd) hl k) go
theorem own_istore (G : ownSt p l e R s m args below meth c Z n0 own bytes mx rt nm T h cells slots) {k : Nat} {v : Int32} {L' : Array Slot} (hd : decode bytes pc = .ok (.istore k, 2)) (hl : storeLocals Ls k (.int v) = some L') (go : ownGo p e m below n0 En Q T (pc + 2) L' S) : ownGo p e m below n0 En Q T pc Ls (.int v :: S) := by
  obtain ⟨⟨hx, hZ, hby, hml, hown, hnm, hret, hlk⟩, locs, X, eT, hN⟩ := G
  exact ownGo.step (fun t k => XS.istore X.here hx rfl (hb hby hd) rfl (l' := L') hl k) go
theorem own_istoreN (G : ownSt p l e R s m args below meth c Z n0 own bytes mx rt nm T h cells slots) {k : Fin 4} {v : Int32} {L' : Array Slot} (hd : decode bytes pc = .ok (.istore_n k, 1)) (hl : storeLocals Ls k.val (.int v) = some L') (go : ownGo p e m below n0 En Q T (pc + 1) L' S) : ownGo p e m below n0 En Q T pc Ls (.int v :: S) := by
  obtain ⟨⟨hx, hZ, hby, hml, hown, hnm, hret, hlk⟩, locs, X, eT, hN⟩ := G
  exact ownGo.step (fun t k => XS.istoreN X.here hx rfl (hb hby hd) rfl (l' := L') hl k) go
theorem own_lload (G : ownSt p l e R s m args below meth c Z n0 own bytes mx rt nm T h cells slots) {k : Nat} {v : Int64} (hd : decode bytes pc = .ok (.lload k, 2)) (hl : Ls[k]? = some (.val (.long v))) (go : ownGo p e m below n0 En Q T (pc + 2) Ls (.long v :: S)) : ownGo p e m below n0 En Q T pc Ls S := by
  obtain ⟨⟨hx, hZ, hby, hml, hown, hnm, hret, hlk⟩, locs, X, eT, hN⟩ := G
  exact ownGo.step (fun t k => XS.lload X.here hx rfl (hb hby hd) hl k) go
theorem own_lloadN (G : ownSt p l e R s m args below meth c Z n0 own bytes mx rt nm T h cells slots) {k : Fin 4} {v : Int64} (hd : decode bytes pc = .ok (.lload_n k, 1)) (hl : Ls[k.val]? = some (.val (.long v))) (go : ownGo p e m below n0 En Q T (pc + 1) Ls (.long v :: S)) : ownGo p e m below n0 En Q T pc Ls S := by
  obtain ⟨⟨hx, hZ, hby, hml, hown, hnm, hret, hlk⟩, locs, X, eT, hN⟩ := G
  exact ownGo.step (fun t k => XS.lloadN X.here hx rfl (hb hby hd) hl k) go
theorem own_lstore (G : ownSt p l e R s m args below meth c Z n0 own bytes mx rt nm T h cells slots) {k : Nat} {v : Int64} {L' : Array Slot} (hd : decode bytes pc = .ok (.lstore k, 2)) (hl : storeLocals Ls k (.long v) = some L') (go : ownGo p e m below n0 En Q T (pc + 2) L' S) : ownGo p e m below n0 En Q T pc Ls (.long v :: S) := by
  obtain ⟨⟨hx, hZ, hby, hml, hown, hnm, hret, hlk⟩, locs, X, eT, hN⟩ := G
  exact ownGo.step (fun t k => XS.lstore X.here hx rfl (hb hby hd) rfl (l' := L') hl k) go
theorem own_lstoreN (G : ownSt p l e R s m args below meth c Z n0 own bytes mx rt nm T h cells slots) {k : Fin 4} {v : Int64} {L' : Array Slot} (hd : decode bytes pc = .ok (.lstore_n k, 1)) (hl : storeLocals Ls k.val (.long v) = some L') (go : ownGo p e m below n0 En Q T (pc + 1) L' S) : ownGo p e m below n0 En Q T pc Ls (.long v :: S) := by
  obtain ⟨⟨hx, hZ, hby, hml, hown, hnm, hret, hlk⟩, locs, X, eT, hN⟩ := G
  exact ownGo.step (fun t k => XS.lstoreN X.here hx rfl (hb hby hd) rfl (l' := L') hl k) go
theorem own_aload (G : ownSt p l e R s m args below meth c Z n0 own bytes mx rt nm T h cells slots) {k : Nat} {v : Value} (hd : decode bytes pc = .ok (.aload k, 2)) (hl : Ls[k]? = some (.val v)) (hv : v.isRef = true) (go : ownGo p e m below n0 En Q T (pc + 2) Ls (v :: S)) : ownGo p e m below n0 En Q T pc Ls S := by
  obtain ⟨⟨hx, hZ, hby, hml, hown, hnm, hret, hlk⟩, locs, X, eT, hN⟩ := G
  exact ownGo.step (fun t k => XS.aload X.here hx rfl (hb hby hd) hl hv k) go
theorem own_aloadN (G : ownSt p l e R s m args below meth c Z n0 own bytes mx rt nm T h cells slots) {k : Fin 4} {v : Value} (hd : decode bytes pc = .ok (.aload_n k, 1)) (hl : Ls[k.val]? = some (.val v)) (hv : v.isRef = true) (go : ownGo p e m below n0 En Q T (pc + 1) Ls (v :: S)) : ownGo p e m below n0 En Q T pc Ls S := by
  obtain ⟨⟨hx, hZ, hby, hml, hown, hnm, hret, hlk⟩, locs, X, eT, hN⟩ := G
  exact ownGo.step (fun t k => XS.aloadN X.here hx rfl (hb hby hd) hl hv k) go
theorem own_astore (G : ownSt p l e R s m args below meth c Z n0 own bytes mx rt nm T h cells slots) {k : Nat} {v : Value} {L' : Array Slot} (hd : decode bytes pc = .ok (.astore k, 2)) (hv : v.isRef = true) (hl : storeLocals Ls k v = some L') (go : ownGo p e m below n0 En Q T (pc + 2) L' S) : ownGo p e m below n0 En Q T pc Ls (v :: S) := by
  obtain ⟨⟨hx, hZ, hby, hml, hown, hnm, hret, hlk⟩, locs, X, eT, hN⟩ := G
  exact ownGo.step (fun t k => XS.astore X.here hx rfl (hb hby hd) rfl hv (l' := L') hl k) go
theorem own_astoreN (G : ownSt p l e R s m args below meth c Z n0 own bytes mx rt nm T h cells slots) {k : Fin 4} {v : Value} {L' : Array Slot} (hd : decode bytes pc = .ok (.astore_n k, 1)) (hv : v.isRef = true) (hl : storeLocals Ls k.val v = some L') (go : ownGo p e m below n0 En Q T (pc + 1) L' S) : ownGo p e m below n0 En Q T pc Ls (v :: S) := by
  obtain ⟨⟨hx, hZ, hby, hml, hown, hnm, hret, hlk⟩, locs, X, eT, hN⟩ := G
  exact ownGo.step (fun t k => XS.astoreN X.here hx rfl (hb hby hd) rfl hv (l' := L') hl k) go
theorem own_iconst (G : ownSt p l e R s m args below meth c Z n0 own bytes mx rt nm T h cells slots) {i : Int} (hd : decode bytes pc = .ok (.iconst i, 1))  (go : ownGo p e m below n0 En Q T (pc + 1) Ls (.int (Int32.ofInt i) :: S)) : ownGo p e m below n0 En Q T pc Ls S := by
  obtain ⟨⟨hx, hZ, hby, hml, hown, hnm, hret, hlk⟩, locs, X, eT, hN⟩ := G
  exact ownGo.step (fun t k => XS.iconst X.here hx rfl (hb hby hd)  k) go
theorem own_bipush (G : ownSt p l e R s m args below meth c Z n0 own bytes mx rt nm T h cells slots) {i : Int} (hd : decode bytes pc = .ok (.bipush i, 2))  (go : ownGo p e m below n0 En Q T (pc + 2) Ls (.int (Int8.ofInt i).toInt32 :: S)) : ownGo p e m below n0 En Q T pc Ls S := by
  obtain ⟨⟨hx, hZ, hby, hml, hown, hnm, hret, hlk⟩, locs, X, eT, hN⟩ := G
  exact ownGo.step (fun t k => XS.bipush X.here hx rfl (hb hby hd)  k) go
theorem own_sipush (G : ownSt p l e R s m args below meth c Z n0 own bytes mx rt nm T h cells slots) {i : Int} (hd : decode bytes pc = .ok (.sipush i, 3))  (go : ownGo p e m below n0 En Q T (pc + 3) Ls (.int (Int16.ofInt i).toInt32 :: S)) : ownGo p e m below n0 En Q T pc Ls S := by
  obtain ⟨⟨hx, hZ, hby, hml, hown, hnm, hret, hlk⟩, locs, X, eT, hN⟩ := G
  exact ownGo.step (fun t k => XS.sipush X.here hx rfl (hb hby hd)  k) go
theorem own_lconst (G : ownSt p l e R s m args below meth c Z n0 own bytes mx rt nm T h cells slots) {k : Fin 2} (hd : decode bytes pc = .ok (.lconst k, 1))  (go : ownGo p e m below n0 En Q T (pc + 1) Ls (.long (Int64.ofNat k.val) :: S)) : ownGo p e m below n0 En Q T pc Ls S := by
  obtain ⟨⟨hx, hZ, hby, hml, hown, hnm, hret, hlk⟩, locs, X, eT, hN⟩ := G
  exact ownGo.step (fun t k => XS.lconst X.here hx rfl (hb hby hd)  k) go
theorem own_aconst_null (G : ownSt p l e R s m args below meth c Z n0 own bytes mx rt nm T h cells slots)  (hd : decode bytes pc = .ok (.aconst_null, 1))  (go : ownGo p e m below n0 En Q T (pc + 1) Ls (.null :: S)) : ownGo p e m below n0 En Q T pc Ls S := by
  obtain ⟨⟨hx, hZ, hby, hml, hown, hnm, hret, hlk⟩, locs, X, eT, hN⟩ := G
  exact ownGo.step (fun t k => XS.aconstNull X.here hx rfl (hb hby hd)  k) go
theorem own_iadd (G : ownSt p l e R s m args below meth c Z n0 own bytes mx rt nm T h cells slots) {x y : Int32} (hd : decode bytes pc = .ok (.iadd, 1))  (go : ownGo p e m below n0 En Q T (pc + 1) Ls (.int (x + y) :: S)) : ownGo p e m below n0 En Q T pc Ls (.int y :: .int x :: S) := by
  obtain ⟨⟨hx, hZ, hby, hml, hown, hnm, hret, hlk⟩, locs, X, eT, hN⟩ := G
  exact ownGo.step (fun t k => XS.iadd X.here hx rfl (hb hby hd) rfl k) go
theorem own_isub (G : ownSt p l e R s m args below meth c Z n0 own bytes mx rt nm T h cells slots) {x y : Int32} (hd : decode bytes pc = .ok (.isub, 1))  (go : ownGo p e m below n0 En Q T (pc + 1) Ls (.int (x - y) :: S)) : ownGo p e m below n0 En Q T pc Ls (.int y :: .int x :: S) := by
  obtain ⟨⟨hx, hZ, hby, hml, hown, hnm, hret, hlk⟩, locs, X, eT, hN⟩ := G
  exact ownGo.step (fun t k => XS.isub X.here hx rfl (hb hby hd) rfl k) go
theorem own_imul (G : ownSt p l e R s m args below meth c Z n0 own bytes mx rt nm T h cells slots) {x y : Int32} (hd : decode bytes pc = .ok (.imul, 1))  (go : ownGo p e m below n0 En Q T (pc + 1) Ls (.int (x * y) :: S)) : ownGo p e m below n0 En Q T pc Ls (.int y :: .int x :: S) := by
  obtain ⟨⟨hx, hZ, hby, hml, hown, hnm, hret, hlk⟩, locs, X, eT, hN⟩ := G
  exact ownGo.step (fun t k => XS.imul X.here hx rfl (hb hby hd) rfl k) go
theorem own_iand (G : ownSt p l e R s m args below meth c Z n0 own bytes mx rt nm T h cells slots) {x y : Int32} (hd : decode bytes pc = .ok (.iand, 1))  (go : ownGo p e m below n0 En Q T (pc + 1) Ls (.int (x &&& y) :: S)) : ownGo p e m below n0 En Q T pc Ls (.int y :: .int x :: S) := by
  obtain ⟨⟨hx, hZ, hby, hml, hown, hnm, hret, hlk⟩, locs, X, eT, hN⟩ := G
  exact ownGo.step (fun t k => XS.iand X.here hx rfl (hb hby hd) rfl k) go
theorem own_ior (G : ownSt p l e R s m args below meth c Z n0 own bytes mx rt nm T h cells slots) {x y : Int32} (hd : decode bytes pc = .ok (.ior, 1))  (go : ownGo p e m below n0 En Q T (pc + 1) Ls (.int (x ||| y) :: S)) : ownGo p e m below n0 En Q T pc Ls (.int y :: .int x :: S) := by
  obtain ⟨⟨hx, hZ, hby, hml, hown, hnm, hret, hlk⟩, locs, X, eT, hN⟩ := G
  exact ownGo.step (fun t k => XS.ior X.here hx rfl (hb hby hd) rfl k) go
theorem own_ixor (G : ownSt p l e R s m args below meth c Z n0 own bytes mx rt nm T h cells slots) {x y : Int32} (hd : decode bytes pc = .ok (.ixor, 1))  (go : ownGo p e m below n0 En Q T (pc + 1) Ls (.int (x ^^^ y) :: S)) : ownGo p e m below n0 En Q T pc Ls (.int y :: .int x :: S) := by
  obtain ⟨⟨hx, hZ, hby, hml, hown, hnm, hret, hlk⟩, locs, X, eT, hN⟩ := G
  exact ownGo.step (fun t k => XS.ixor X.here hx rfl (hb hby hd) rfl k) go
theorem own_ishl (G : ownSt p l e R s m args below meth c Z n0 own bytes mx rt nm T h cells slots) {x y : Int32} (hd : decode bytes pc = .ok (.ishl, 1))  (go : ownGo p e m below n0 En Q T (pc + 1) Ls (.int (x <<< (y &&& 31)) :: S)) : ownGo p e m below n0 En Q T pc Ls (.int y :: .int x :: S) := by
  obtain ⟨⟨hx, hZ, hby, hml, hown, hnm, hret, hlk⟩, locs, X, eT, hN⟩ := G
  exact ownGo.step (fun t k => XS.ishl X.here hx rfl (hb hby hd) rfl k) go
theorem own_ishr (G : ownSt p l e R s m args below meth c Z n0 own bytes mx rt nm T h cells slots) {x y : Int32} (hd : decode bytes pc = .ok (.ishr, 1))  (go : ownGo p e m below n0 En Q T (pc + 1) Ls (.int (x >>> (y &&& 31)) :: S)) : ownGo p e m below n0 En Q T pc Ls (.int y :: .int x :: S) := by
  obtain ⟨⟨hx, hZ, hby, hml, hown, hnm, hret, hlk⟩, locs, X, eT, hN⟩ := G
  exact ownGo.step (fun t k => XS.ishr X.here hx rfl (hb hby hd) rfl k) go
theorem own_iushr (G : ownSt p l e R s m args below meth c Z n0 own bytes mx rt nm T h cells slots) {x y : Int32} (hd : decode bytes pc = .ok (.iushr, 1))  (go : ownGo p e m below n0 En Q T (pc + 1) Ls (.int ((x.toUInt32 >>> (y &&& 31).toUInt32).toInt32) :: S)) : ownGo p e m below n0 En Q T pc Ls (.int y :: .int x :: S) := by
  obtain ⟨⟨hx, hZ, hby, hml, hown, hnm, hret, hlk⟩, locs, X, eT, hN⟩ := G
  exact ownGo.step (fun t k => XS.iushr X.here hx rfl (hb hby hd) rfl k) go
theorem own_ladd (G : ownSt p l e R s m args below meth c Z n0 own bytes mx rt nm T h cells slots) {x y : Int64} (hd : decode bytes pc = .ok (.ladd, 1))  (go : ownGo p e m below n0 En Q T (pc + 1) Ls (.long (x + y) :: S)) : ownGo p e m below n0 En Q T pc Ls (.long y :: .long x :: S) := by
  obtain ⟨⟨hx, hZ, hby, hml, hown, hnm, hret, hlk⟩, locs, X, eT, hN⟩ := G
  exact ownGo.step (fun t k => XS.ladd X.here hx rfl (hb hby hd) rfl k) go
theorem own_lsub (G : ownSt p l e R s m args below meth c Z n0 own bytes mx rt nm T h cells slots) {x y : Int64} (hd : decode bytes pc = .ok (.lsub, 1))  (go : ownGo p e m below n0 En Q T (pc + 1) Ls (.long (x - y) :: S)) : ownGo p e m below n0 En Q T pc Ls (.long y :: .long x :: S) := by
  obtain ⟨⟨hx, hZ, hby, hml, hown, hnm, hret, hlk⟩, locs, X, eT, hN⟩ := G
  exact ownGo.step (fun t k => XS.lsub X.here hx rfl (hb hby hd) rfl k) go
theorem own_lmul (G : ownSt p l e R s m args below meth c Z n0 own bytes mx rt nm T h cells slots) {x y : Int64} (hd : decode bytes pc = .ok (.lmul, 1))  (go : ownGo p e m below n0 En Q T (pc + 1) Ls (.long (x * y) :: S)) : ownGo p e m below n0 En Q T pc Ls (.long y :: .long x :: S) := by
  obtain ⟨⟨hx, hZ, hby, hml, hown, hnm, hret, hlk⟩, locs, X, eT, hN⟩ := G
  exact ownGo.step (fun t k => XS.lmul X.here hx rfl (hb hby hd) rfl k) go
theorem own_land (G : ownSt p l e R s m args below meth c Z n0 own bytes mx rt nm T h cells slots) {x y : Int64} (hd : decode bytes pc = .ok (.land, 1))  (go : ownGo p e m below n0 En Q T (pc + 1) Ls (.long (x &&& y) :: S)) : ownGo p e m below n0 En Q T pc Ls (.long y :: .long x :: S) := by
  obtain ⟨⟨hx, hZ, hby, hml, hown, hnm, hret, hlk⟩, locs, X, eT, hN⟩ := G
  exact ownGo.step (fun t k => XS.land X.here hx rfl (hb hby hd) rfl k) go
theorem own_lor (G : ownSt p l e R s m args below meth c Z n0 own bytes mx rt nm T h cells slots) {x y : Int64} (hd : decode bytes pc = .ok (.lor, 1))  (go : ownGo p e m below n0 En Q T (pc + 1) Ls (.long (x ||| y) :: S)) : ownGo p e m below n0 En Q T pc Ls (.long y :: .long x :: S) := by
  obtain ⟨⟨hx, hZ, hby, hml, hown, hnm, hret, hlk⟩, locs, X, eT, hN⟩ := G
  exact ownGo.step (fun t k => XS.lor X.here hx rfl (hb hby hd) rfl k) go
theorem own_lxor (G : ownSt p l e R s m args below meth c Z n0 own bytes mx rt nm T h cells slots) {x y : Int64} (hd : decode bytes pc = .ok (.lxor, 1))  (go : ownGo p e m below n0 En Q T (pc + 1) Ls (.long (x ^^^ y) :: S)) : ownGo p e m below n0 En Q T pc Ls (.long y :: .long x :: S) := by
  obtain ⟨⟨hx, hZ, hby, hml, hown, hnm, hret, hlk⟩, locs, X, eT, hN⟩ := G
  exact ownGo.step (fun t k => XS.lxor X.here hx rfl (hb hby hd) rfl k) go
theorem own_lshl (G : ownSt p l e R s m args below meth c Z n0 own bytes mx rt nm T h cells slots) {x : Int64} {y : Int32} (hd : decode bytes pc = .ok (.lshl, 1))  (go : ownGo p e m below n0 En Q T (pc + 1) Ls (.long (x <<< (y &&& 0x3f).toInt64) :: S)) : ownGo p e m below n0 En Q T pc Ls (.int y :: .long x :: S) := by
  obtain ⟨⟨hx, hZ, hby, hml, hown, hnm, hret, hlk⟩, locs, X, eT, hN⟩ := G
  exact ownGo.step (fun t k => XS.lshl X.here hx rfl (hb hby hd) rfl k) go
theorem own_lshr (G : ownSt p l e R s m args below meth c Z n0 own bytes mx rt nm T h cells slots) {x : Int64} {y : Int32} (hd : decode bytes pc = .ok (.lshr, 1))  (go : ownGo p e m below n0 En Q T (pc + 1) Ls (.long (x >>> (y &&& 0x3f).toInt64) :: S)) : ownGo p e m below n0 En Q T pc Ls (.int y :: .long x :: S) := by
  obtain ⟨⟨hx, hZ, hby, hml, hown, hnm, hret, hlk⟩, locs, X, eT, hN⟩ := G
  exact ownGo.step (fun t k => XS.lshr X.here hx rfl (hb hby hd) rfl k) go
theorem own_lushr (G : ownSt p l e R s m args below meth c Z n0 own bytes mx rt nm T h cells slots) {x : Int64} {y : Int32} (hd : decode bytes pc = .ok (.lushr, 1))  (go : ownGo p e m below n0 En Q T (pc + 1) Ls (.long ((x.toUInt64 >>> (y &&& 0x3f).toInt64.toUInt64).toInt64) :: S)) : ownGo p e m below n0 En Q T pc Ls (.int y :: .long x :: S) := by
  obtain ⟨⟨hx, hZ, hby, hml, hown, hnm, hret, hlk⟩, locs, X, eT, hN⟩ := G
  exact ownGo.step (fun t k => XS.lushr X.here hx rfl (hb hby hd) rfl k) go
theorem own_ineg (G : ownSt p l e R s m args below meth c Z n0 own bytes mx rt nm T h cells slots) {x : Int32} (hd : decode bytes pc = .ok (.ineg, 1))  (go : ownGo p e m below n0 En Q T (pc + 1) Ls (.int (-x) :: S)) : ownGo p e m below n0 En Q T pc Ls (.int x :: S) := by
  obtain ⟨⟨hx, hZ, hby, hml, hown, hnm, hret, hlk⟩, locs, X, eT, hN⟩ := G
  exact ownGo.step (fun t k => XS.ineg X.here hx rfl (hb hby hd) rfl k) go
theorem own_lneg (G : ownSt p l e R s m args below meth c Z n0 own bytes mx rt nm T h cells slots) {x : Int64} (hd : decode bytes pc = .ok (.lneg, 1))  (go : ownGo p e m below n0 En Q T (pc + 1) Ls (.long (-x) :: S)) : ownGo p e m below n0 En Q T pc Ls (.long x :: S) := by
  obtain ⟨⟨hx, hZ, hby, hml, hown, hnm, hret, hlk⟩, locs, X, eT, hN⟩ := G
  exact ownGo.step (fun t k => XS.lneg X.here hx rfl (hb hby hd) rfl k) go
theorem own_i2l (G : ownSt p l e R s m args below meth c Z n0 own bytes mx rt nm T h cells slots) {x : Int32} (hd : decode bytes pc = .ok (.i2l, 1))  (go : ownGo p e m below n0 En Q T (pc + 1) Ls (.long (x.toInt64) :: S)) : ownGo p e m below n0 En Q T pc Ls (.int x :: S) := by
  obtain ⟨⟨hx, hZ, hby, hml, hown, hnm, hret, hlk⟩, locs, X, eT, hN⟩ := G
  exact ownGo.step (fun t k => XS.i2l X.here hx rfl (hb hby hd) rfl k) go
theorem own_l2i (G : ownSt p l e R s m args below meth c Z n0 own bytes mx rt nm T h cells slots) {x : Int64} (hd : decode bytes pc = .ok (.l2i, 1))  (go : ownGo p e m below n0 En Q T (pc + 1) Ls (.int (x.toInt32) :: S)) : ownGo p e m below n0 En Q T pc Ls (.long x :: S) := by
  obtain ⟨⟨hx, hZ, hby, hml, hown, hnm, hret, hlk⟩, locs, X, eT, hN⟩ := G
  exact ownGo.step (fun t k => XS.l2i X.here hx rfl (hb hby hd) rfl k) go
theorem own_i2b (G : ownSt p l e R s m args below meth c Z n0 own bytes mx rt nm T h cells slots) {x : Int32} (hd : decode bytes pc = .ok (.i2b, 1))  (go : ownGo p e m below n0 En Q T (pc + 1) Ls (.int (x.toInt8.toInt32) :: S)) : ownGo p e m below n0 En Q T pc Ls (.int x :: S) := by
  obtain ⟨⟨hx, hZ, hby, hml, hown, hnm, hret, hlk⟩, locs, X, eT, hN⟩ := G
  exact ownGo.step (fun t k => XS.i2b X.here hx rfl (hb hby hd) rfl k) go
theorem own_i2s (G : ownSt p l e R s m args below meth c Z n0 own bytes mx rt nm T h cells slots) {x : Int32} (hd : decode bytes pc = .ok (.i2s, 1))  (go : ownGo p e m below n0 En Q T (pc + 1) Ls (.int (x.toInt16.toInt32) :: S)) : ownGo p e m below n0 En Q T pc Ls (.int x :: S) := by
  obtain ⟨⟨hx, hZ, hby, hml, hown, hnm, hret, hlk⟩, locs, X, eT, hN⟩ := G
  exact ownGo.step (fun t k => XS.i2s X.here hx rfl (hb hby hd) rfl k) go
theorem own_i2c (G : ownSt p l e R s m args below meth c Z n0 own bytes mx rt nm T h cells slots) {x : Int32} (hd : decode bytes pc = .ok (.i2c, 1))  (go : ownGo p e m below n0 En Q T (pc + 1) Ls (.int (x.toUInt32.toUInt16.toUInt32.toInt32) :: S)) : ownGo p e m below n0 En Q T pc Ls (.int x :: S) := by
  obtain ⟨⟨hx, hZ, hby, hml, hown, hnm, hret, hlk⟩, locs, X, eT, hN⟩ := G
  exact ownGo.step (fun t k => XS.i2c X.here hx rfl (hb hby hd) rfl k) go
theorem own_lcmp (G : ownSt p l e R s m args below meth c Z n0 own bytes mx rt nm T h cells slots) {x y : Int64} (hd : decode bytes pc = .ok (.lcmp, 1))  (go : ownGo p e m below n0 En Q T (pc + 1) Ls (.int (lcmpW x y) :: S)) : ownGo p e m below n0 En Q T pc Ls (.long y :: .long x :: S) := by
  obtain ⟨⟨hx, hZ, hby, hml, hown, hnm, hret, hlk⟩, locs, X, eT, hN⟩ := G
  exact ownGo.step (fun t k => XS.lcmp X.here hx rfl (hb hby hd) rfl k) go
theorem own_pop (G : ownSt p l e R s m args below meth c Z n0 own bytes mx rt nm T h cells slots) {v : Value} (hd : decode bytes pc = .ok (.pop, 1)) (hc : v.category = 1) (go : ownGo p e m below n0 En Q T (pc + 1) Ls S) : ownGo p e m below n0 En Q T pc Ls (v :: S) := by
  obtain ⟨⟨hx, hZ, hby, hml, hown, hnm, hret, hlk⟩, locs, X, eT, hN⟩ := G
  exact ownGo.step (fun t k => XS.pop X.here hx rfl (hb hby hd) rfl hc k) go
theorem own_dup (G : ownSt p l e R s m args below meth c Z n0 own bytes mx rt nm T h cells slots) {v : Value} (hd : decode bytes pc = .ok (.dup, 1)) (hc : v.category = 1) (go : ownGo p e m below n0 En Q T (pc + 1) Ls (v :: v :: S)) : ownGo p e m below n0 En Q T pc Ls (v :: S) := by
  obtain ⟨⟨hx, hZ, hby, hml, hown, hnm, hret, hlk⟩, locs, X, eT, hN⟩ := G
  exact ownGo.step (fun t k => XS.dup X.here hx rfl (hb hby hd) rfl hc k) go
theorem own_dup_x1 (G : ownSt p l e R s m args below meth c Z n0 own bytes mx rt nm T h cells slots) {v w : Value} (hd : decode bytes pc = .ok (.dup_x1, 1)) (hc : v.category = 1) (hc' : w.category = 1) (go : ownGo p e m below n0 En Q T (pc + 1) Ls (v :: w :: v :: S)) : ownGo p e m below n0 En Q T pc Ls (v :: w :: S) := by
  obtain ⟨⟨hx, hZ, hby, hml, hown, hnm, hret, hlk⟩, locs, X, eT, hN⟩ := G
  exact ownGo.step (fun t k => XS.dupX1 X.here hx rfl (hb hby hd) rfl hc hc' k) go
theorem own_irem (G : ownSt p l e R s m args below meth c Z n0 own bytes mx rt nm T h cells slots) {x y : Int32} (hd : decode bytes pc = .ok (.irem, 1)) (hy : y ≠ 0) (go : ownGo p e m below n0 En Q T (pc + 1) Ls (.int (x % y) :: S)) : ownGo p e m below n0 En Q T pc Ls (.int y :: .int x :: S) := by
  obtain ⟨⟨hx, hZ, hby, hml, hown, hnm, hret, hlk⟩, locs, X, eT, hN⟩ := G
  exact ownGo.step (fun t k => iremM X hx rfl (hb hby hd) rfl hy k) go
theorem own_iinc (G : ownSt p l e R s m args below meth c Z n0 own bytes mx rt nm T h cells slots) {k : Nat} {d : Int} {v : Int32} {L' : Array Slot} (hd : decode bytes pc = .ok (.iinc k d, 3)) (hv : Ls[k]? = some (.val (.int v))) (hl : storeLocals Ls k (.int (v + Int32.ofInt d)) = some L') (go : ownGo p e m below n0 En Q T (pc + 3) L' S) : ownGo p e m below n0 En Q T pc Ls S := by
  obtain ⟨⟨hx, hZ, hby, hml, hown, hnm, hret, hlk⟩, locs, X, eT, hN⟩ := G
  exact ownGo.step (fun t k => XS.iinc X.here hx rfl (hb hby hd) hv (l' := L') hl k) go
theorem own_goto (G : ownSt p l e R s m args below meth c Z n0 own bytes mx rt nm T h cells slots) {o : Int} {pc' : Nat} (hd : decode bytes pc = .ok (.goto o, 3)) (ho : 0 ≤ (pc : Int) + o) (hp : ((pc : Int) + o).toNat = pc') (go : ownGo p e m below n0 En Q T pc' Ls S) : ownGo p e m below n0 En Q T pc Ls S := by
  obtain ⟨⟨hx, hZ, hby, hml, hown, hnm, hret, hlk⟩, locs, X, eT, hN⟩ := G
  exact ownGo.step (fun t k => XS.goto X.here hx rfl (pc0 := pc) rfl (hb hby hd) ho hp k) go
theorem own_icmp_lt (G : ownSt p l e R s m args below meth c Z n0 own bytes mx rt nm T h cells slots) {x y : Int32} {o : Int} {pc' : Nat} (hd : decode bytes pc = .ok (.if_icmp .lt o, 3)) (ho : 0 ≤ (pc : Int) + o) (hp : ((pc : Int) + o).toNat = pc') (yes : x < y → ownGo p e m below n0 En Q T pc' Ls S) (no : ¬ x < y → ownGo p e m below n0 En Q T (pc + 3) Ls S) : ownGo p e m below n0 En Q T pc Ls (.int y :: .int x :: S) := by
  obtain ⟨⟨hx, hZ, hby, hml, hown, hnm, hret, hlk⟩, locs, X, eT, hN⟩ := G
  by_cases q : x < y
  · exact ownGo.step (fun t k => XS.icmpYes X.here hx rfl (pc0 := pc) rfl (hb hby hd) rfl (tlt q).1 ho hp k) (yes q)
  · exact ownGo.step (fun t k => XS.icmpNo X.here hx rfl (hb hby hd) rfl (flt q).1 k) (no q)
theorem own_if_lt (G : ownSt p l e R s m args below meth c Z n0 own bytes mx rt nm T h cells slots) {x : Int32} {o : Int} {pc' : Nat} (hd : decode bytes pc = .ok (.ifCond .lt o, 3)) (ho : 0 ≤ (pc : Int) + o) (hp : ((pc : Int) + o).toNat = pc') (yes : x < (0 : Int32) → ownGo p e m below n0 En Q T pc' Ls S) (no : ¬ x < (0 : Int32) → ownGo p e m below n0 En Q T (pc + 3) Ls S) : ownGo p e m below n0 En Q T pc Ls (.int x :: S) := by
  obtain ⟨⟨hx, hZ, hby, hml, hown, hnm, hret, hlk⟩, locs, X, eT, hN⟩ := G
  by_cases q : x < (0 : Int32)
  · exact ownGo.step (fun t k => XS.ifYes X.here hx rfl (pc0 := pc) rfl (hb hby hd) rfl ((if0 _ _).trans (tlt q).1) ho hp k) (yes q)
  · exact ownGo.step (fun t k => XS.ifNo X.here hx rfl (hb hby hd) rfl ((if0 _ _).trans (flt q).1) k) (no q)
theorem own_icmp_ge (G : ownSt p l e R s m args below meth c Z n0 own bytes mx rt nm T h cells slots) {x y : Int32} {o : Int} {pc' : Nat} (hd : decode bytes pc = .ok (.if_icmp .ge o, 3)) (ho : 0 ≤ (pc : Int) + o) (hp : ((pc : Int) + o).toNat = pc') (yes : ¬ x < y → ownGo p e m below n0 En Q T pc' Ls S) (no : x < y → ownGo p e m below n0 En Q T (pc + 3) Ls S) : ownGo p e m below n0 En Q T pc Ls (.int y :: .int x :: S) := by
  obtain ⟨⟨hx, hZ, hby, hml, hown, hnm, hret, hlk⟩, locs, X, eT, hN⟩ := G
  by_cases q : x < y
  · exact ownGo.step (fun t k => XS.icmpNo X.here hx rfl (hb hby hd) rfl (tlt q).2.1 k) (no q)
  · exact ownGo.step (fun t k => XS.icmpYes X.here hx rfl (pc0 := pc) rfl (hb hby hd) rfl (flt q).2.1 ho hp k) (yes q)
theorem own_if_ge (G : ownSt p l e R s m args below meth c Z n0 own bytes mx rt nm T h cells slots) {x : Int32} {o : Int} {pc' : Nat} (hd : decode bytes pc = .ok (.ifCond .ge o, 3)) (ho : 0 ≤ (pc : Int) + o) (hp : ((pc : Int) + o).toNat = pc') (yes : ¬ x < (0 : Int32) → ownGo p e m below n0 En Q T pc' Ls S) (no : x < (0 : Int32) → ownGo p e m below n0 En Q T (pc + 3) Ls S) : ownGo p e m below n0 En Q T pc Ls (.int x :: S) := by
  obtain ⟨⟨hx, hZ, hby, hml, hown, hnm, hret, hlk⟩, locs, X, eT, hN⟩ := G
  by_cases q : x < (0 : Int32)
  · exact ownGo.step (fun t k => XS.ifNo X.here hx rfl (hb hby hd) rfl ((if0 _ _).trans (tlt q).2.1) k) (no q)
  · exact ownGo.step (fun t k => XS.ifYes X.here hx rfl (pc0 := pc) rfl (hb hby hd) rfl ((if0 _ _).trans (flt q).2.1) ho hp k) (yes q)
theorem own_icmp_gt (G : ownSt p l e R s m args below meth c Z n0 own bytes mx rt nm T h cells slots) {x y : Int32} {o : Int} {pc' : Nat} (hd : decode bytes pc = .ok (.if_icmp .gt o, 3)) (ho : 0 ≤ (pc : Int) + o) (hp : ((pc : Int) + o).toNat = pc') (yes : y < x → ownGo p e m below n0 En Q T pc' Ls S) (no : ¬ y < x → ownGo p e m below n0 En Q T (pc + 3) Ls S) : ownGo p e m below n0 En Q T pc Ls (.int y :: .int x :: S) := by
  obtain ⟨⟨hx, hZ, hby, hml, hown, hnm, hret, hlk⟩, locs, X, eT, hN⟩ := G
  by_cases q : y < x
  · exact ownGo.step (fun t k => XS.icmpYes X.here hx rfl (pc0 := pc) rfl (hb hby hd) rfl (tlt q).2.2.1 ho hp k) (yes q)
  · exact ownGo.step (fun t k => XS.icmpNo X.here hx rfl (hb hby hd) rfl (flt q).2.2.1 k) (no q)
theorem own_if_gt (G : ownSt p l e R s m args below meth c Z n0 own bytes mx rt nm T h cells slots) {x : Int32} {o : Int} {pc' : Nat} (hd : decode bytes pc = .ok (.ifCond .gt o, 3)) (ho : 0 ≤ (pc : Int) + o) (hp : ((pc : Int) + o).toNat = pc') (yes : (0 : Int32) < x → ownGo p e m below n0 En Q T pc' Ls S) (no : ¬ (0 : Int32) < x → ownGo p e m below n0 En Q T (pc + 3) Ls S) : ownGo p e m below n0 En Q T pc Ls (.int x :: S) := by
  obtain ⟨⟨hx, hZ, hby, hml, hown, hnm, hret, hlk⟩, locs, X, eT, hN⟩ := G
  by_cases q : (0 : Int32) < x
  · exact ownGo.step (fun t k => XS.ifYes X.here hx rfl (pc0 := pc) rfl (hb hby hd) rfl ((if0 _ _).trans (tlt q).2.2.1) ho hp k) (yes q)
  · exact ownGo.step (fun t k => XS.ifNo X.here hx rfl (hb hby hd) rfl ((if0 _ _).trans (flt q).2.2.1) k) (no q)
theorem own_icmp_le (G : ownSt p l e R s m args below meth c Z n0 own bytes mx rt nm T h cells slots) {x y : Int32} {o : Int} {pc' : Nat} (hd : decode bytes pc = .ok (.if_icmp .le o, 3)) (ho : 0 ≤ (pc : Int) + o) (hp : ((pc : Int) + o).toNat = pc') (yes : ¬ y < x → ownGo p e m below n0 En Q T pc' Ls S) (no : y < x → ownGo p e m below n0 En Q T (pc + 3) Ls S) : ownGo p e m below n0 En Q T pc Ls (.int y :: .int x :: S) := by
  obtain ⟨⟨hx, hZ, hby, hml, hown, hnm, hret, hlk⟩, locs, X, eT, hN⟩ := G
  by_cases q : y < x
  · exact ownGo.step (fun t k => XS.icmpNo X.here hx rfl (hb hby hd) rfl (tlt q).2.2.2 k) (no q)
  · exact ownGo.step (fun t k => XS.icmpYes X.here hx rfl (pc0 := pc) rfl (hb hby hd) rfl (flt q).2.2.2 ho hp k) (yes q)
theorem own_if_le (G : ownSt p l e R s m args below meth c Z n0 own bytes mx rt nm T h cells slots) {x : Int32} {o : Int} {pc' : Nat} (hd : decode bytes pc = .ok (.ifCond .le o, 3)) (ho : 0 ≤ (pc : Int) + o) (hp : ((pc : Int) + o).toNat = pc') (yes : ¬ (0 : Int32) < x → ownGo p e m below n0 En Q T pc' Ls S) (no : (0 : Int32) < x → ownGo p e m below n0 En Q T (pc + 3) Ls S) : ownGo p e m below n0 En Q T pc Ls (.int x :: S) := by
  obtain ⟨⟨hx, hZ, hby, hml, hown, hnm, hret, hlk⟩, locs, X, eT, hN⟩ := G
  by_cases q : (0 : Int32) < x
  · exact ownGo.step (fun t k => XS.ifNo X.here hx rfl (hb hby hd) rfl ((if0 _ _).trans (tlt q).2.2.2) k) (no q)
  · exact ownGo.step (fun t k => XS.ifYes X.here hx rfl (pc0 := pc) rfl (hb hby hd) rfl ((if0 _ _).trans (flt q).2.2.2) ho hp k) (yes q)
theorem own_icmp_eq (G : ownSt p l e R s m args below meth c Z n0 own bytes mx rt nm T h cells slots) {x y : Int32} {o : Int} {pc' : Nat} (hd : decode bytes pc = .ok (.if_icmp .eq o, 3)) (ho : 0 ≤ (pc : Int) + o) (hp : ((pc : Int) + o).toNat = pc') (yes : x = y → ownGo p e m below n0 En Q T pc' Ls S) (no : ¬ x = y → ownGo p e m below n0 En Q T (pc + 3) Ls S) : ownGo p e m below n0 En Q T pc Ls (.int y :: .int x :: S) := by
  obtain ⟨⟨hx, hZ, hby, hml, hown, hnm, hret, hlk⟩, locs, X, eT, hN⟩ := G
  by_cases q : x = y
  · exact ownGo.step (fun t k => XS.icmpYes X.here hx rfl (pc0 := pc) rfl (hb hby hd) rfl (teq q).1 ho hp k) (yes q)
  · exact ownGo.step (fun t k => XS.icmpNo X.here hx rfl (hb hby hd) rfl (feq q).1 k) (no q)
theorem own_if_eq (G : ownSt p l e R s m args below meth c Z n0 own bytes mx rt nm T h cells slots) {x : Int32} {o : Int} {pc' : Nat} (hd : decode bytes pc = .ok (.ifCond .eq o, 3)) (ho : 0 ≤ (pc : Int) + o) (hp : ((pc : Int) + o).toNat = pc') (yes : x = (0 : Int32) → ownGo p e m below n0 En Q T pc' Ls S) (no : ¬ x = (0 : Int32) → ownGo p e m below n0 En Q T (pc + 3) Ls S) : ownGo p e m below n0 En Q T pc Ls (.int x :: S) := by
  obtain ⟨⟨hx, hZ, hby, hml, hown, hnm, hret, hlk⟩, locs, X, eT, hN⟩ := G
  by_cases q : x = (0 : Int32)
  · exact ownGo.step (fun t k => XS.ifYes X.here hx rfl (pc0 := pc) rfl (hb hby hd) rfl ((if0 _ _).trans (teq q).1) ho hp k) (yes q)
  · exact ownGo.step (fun t k => XS.ifNo X.here hx rfl (hb hby hd) rfl ((if0 _ _).trans (feq q).1) k) (no q)
theorem own_icmp_ne (G : ownSt p l e R s m args below meth c Z n0 own bytes mx rt nm T h cells slots) {x y : Int32} {o : Int} {pc' : Nat} (hd : decode bytes pc = .ok (.if_icmp .ne o, 3)) (ho : 0 ≤ (pc : Int) + o) (hp : ((pc : Int) + o).toNat = pc') (yes : ¬ x = y → ownGo p e m below n0 En Q T pc' Ls S) (no : x = y → ownGo p e m below n0 En Q T (pc + 3) Ls S) : ownGo p e m below n0 En Q T pc Ls (.int y :: .int x :: S) := by
  obtain ⟨⟨hx, hZ, hby, hml, hown, hnm, hret, hlk⟩, locs, X, eT, hN⟩ := G
  by_cases q : x = y
  · exact ownGo.step (fun t k => XS.icmpNo X.here hx rfl (hb hby hd) rfl (teq q).2 k) (no q)
  · exact ownGo.step (fun t k => XS.icmpYes X.here hx rfl (pc0 := pc) rfl (hb hby hd) rfl (feq q).2 ho hp k) (yes q)
theorem own_if_ne (G : ownSt p l e R s m args below meth c Z n0 own bytes mx rt nm T h cells slots) {x : Int32} {o : Int} {pc' : Nat} (hd : decode bytes pc = .ok (.ifCond .ne o, 3)) (ho : 0 ≤ (pc : Int) + o) (hp : ((pc : Int) + o).toNat = pc') (yes : ¬ x = (0 : Int32) → ownGo p e m below n0 En Q T pc' Ls S) (no : x = (0 : Int32) → ownGo p e m below n0 En Q T (pc + 3) Ls S) : ownGo p e m below n0 En Q T pc Ls (.int x :: S) := by
  obtain ⟨⟨hx, hZ, hby, hml, hown, hnm, hret, hlk⟩, locs, X, eT, hN⟩ := G
  by_cases q : x = (0 : Int32)
  · exact ownGo.step (fun t k => XS.ifNo X.here hx rfl (hb hby hd) rfl ((if0 _ _).trans (teq q).2) k) (no q)
  · exact ownGo.step (fun t k => XS.ifYes X.here hx rfl (pc0 := pc) rfl (hb hby hd) rfl ((if0 _ _).trans (feq q).2) ho hp k) (yes q)
theorem own_lcif_lt (G : ownSt p l e R s m args below meth c Z n0 own bytes mx rt nm T h cells slots) {x y : Int64} {o : Int} {pc' : Nat} (hd : decode bytes pc = .ok (.lcmp, 1)) (hd' : decode bytes (pc + 1) = .ok (.ifCond .lt o, 3)) (ho : 0 ≤ ((pc + 1 : Nat) : Int) + o) (hp : (((pc + 1 : Nat) : Int) + o).toNat = pc') (yes : x < y → ownGo p e m below n0 En Q T pc' Ls S) (no : ¬ x < y → ownGo p e m below n0 En Q T (pc + 1 + 3) Ls S) : ownGo p e m below n0 En Q T pc Ls (.long y :: .long x :: S) :=
  own_lcmp G hd (own_if_lt G hd' ho hp (fun q => yes ((lw_lt _ _).mp q)) (fun q => no (fun r => q ((lw_lt _ _).mpr r))))
theorem own_lcif_ge (G : ownSt p l e R s m args below meth c Z n0 own bytes mx rt nm T h cells slots) {x y : Int64} {o : Int} {pc' : Nat} (hd : decode bytes pc = .ok (.lcmp, 1)) (hd' : decode bytes (pc + 1) = .ok (.ifCond .ge o, 3)) (ho : 0 ≤ ((pc + 1 : Nat) : Int) + o) (hp : (((pc + 1 : Nat) : Int) + o).toNat = pc') (yes : ¬ x < y → ownGo p e m below n0 En Q T pc' Ls S) (no : x < y → ownGo p e m below n0 En Q T (pc + 1 + 3) Ls S) : ownGo p e m below n0 En Q T pc Ls (.long y :: .long x :: S) :=
  own_lcmp G hd (own_if_ge G hd' ho hp (fun q => yes (fun r => q ((lw_lt _ _).mpr r))) (fun q => no ((lw_lt _ _).mp q)))
theorem own_lcif_gt (G : ownSt p l e R s m args below meth c Z n0 own bytes mx rt nm T h cells slots) {x y : Int64} {o : Int} {pc' : Nat} (hd : decode bytes pc = .ok (.lcmp, 1)) (hd' : decode bytes (pc + 1) = .ok (.ifCond .gt o, 3)) (ho : 0 ≤ ((pc + 1 : Nat) : Int) + o) (hp : (((pc + 1 : Nat) : Int) + o).toNat = pc') (yes : y < x → ownGo p e m below n0 En Q T pc' Ls S) (no : ¬ y < x → ownGo p e m below n0 En Q T (pc + 1 + 3) Ls S) : ownGo p e m below n0 En Q T pc Ls (.long y :: .long x :: S) :=
  own_lcmp G hd (own_if_gt G hd' ho hp (fun q => yes ((lw_gt _ _).mp q)) (fun q => no (fun r => q ((lw_gt _ _).mpr r))))
theorem own_lcif_le (G : ownSt p l e R s m args below meth c Z n0 own bytes mx rt nm T h cells slots) {x y : Int64} {o : Int} {pc' : Nat} (hd : decode bytes pc = .ok (.lcmp, 1)) (hd' : decode bytes (pc + 1) = .ok (.ifCond .le o, 3)) (ho : 0 ≤ ((pc + 1 : Nat) : Int) + o) (hp : (((pc + 1 : Nat) : Int) + o).toNat = pc') (yes : ¬ y < x → ownGo p e m below n0 En Q T pc' Ls S) (no : y < x → ownGo p e m below n0 En Q T (pc + 1 + 3) Ls S) : ownGo p e m below n0 En Q T pc Ls (.long y :: .long x :: S) :=
  own_lcmp G hd (own_if_le G hd' ho hp (fun q => yes (fun r => q ((lw_gt _ _).mpr r))) (fun q => no ((lw_gt _ _).mp q)))
theorem own_lcif_eq (G : ownSt p l e R s m args below meth c Z n0 own bytes mx rt nm T h cells slots) {x y : Int64} {o : Int} {pc' : Nat} (hd : decode bytes pc = .ok (.lcmp, 1)) (hd' : decode bytes (pc + 1) = .ok (.ifCond .eq o, 3)) (ho : 0 ≤ ((pc + 1 : Nat) : Int) + o) (hp : (((pc + 1 : Nat) : Int) + o).toNat = pc') (yes : x = y → ownGo p e m below n0 En Q T pc' Ls S) (no : ¬ x = y → ownGo p e m below n0 En Q T (pc + 1 + 3) Ls S) : ownGo p e m below n0 En Q T pc Ls (.long y :: .long x :: S) :=
  own_lcmp G hd (own_if_eq G hd' ho hp (fun q => yes ((lw_eq _ _).mp q)) (fun q => no (fun r => q ((lw_eq _ _).mpr r))))
theorem own_lcif_ne (G : ownSt p l e R s m args below meth c Z n0 own bytes mx rt nm T h cells slots) {x y : Int64} {o : Int} {pc' : Nat} (hd : decode bytes pc = .ok (.lcmp, 1)) (hd' : decode bytes (pc + 1) = .ok (.ifCond .ne o, 3)) (ho : 0 ≤ ((pc + 1 : Nat) : Int) + o) (hp : (((pc + 1 : Nat) : Int) + o).toNat = pc') (yes : ¬ x = y → ownGo p e m below n0 En Q T pc' Ls S) (no : x = y → ownGo p e m below n0 En Q T (pc + 1 + 3) Ls S) : ownGo p e m below n0 En Q T pc Ls (.long y :: .long x :: S) :=
  own_lcmp G hd (own_if_ne G hd' ho hp (fun q => yes (fun r => q ((lw_eq _ _).mpr r))) (fun q => no ((lw_eq _ _).mp q)))
theorem own_ifnull_null (G : ownSt p l e R s m args below meth c Z n0 own bytes mx rt nm T h cells slots) {o : Int} {pc' : Nat} (hd : decode bytes pc = .ok (.ifnull o, 3)) (ho : 0 ≤ (pc : Int) + o) (hp : ((pc : Int) + o).toNat = pc') (go : ownGo p e m below n0 En Q T pc' Ls S) : ownGo p e m below n0 En Q T pc Ls (.null :: S) := by
  obtain ⟨⟨hx, hZ, hby, hml, hown, hnm, hret, hlk⟩, locs, X, eT, hN⟩ := G
  exact ownGo.step (fun t k => XS.ifnullYes X.here hx rfl (pc0 := pc) rfl (hb hby hd) rfl ho hp k) go
theorem own_ifnull_ref (G : ownSt p l e R s m args below meth c Z n0 own bytes mx rt nm T h cells slots) {o : Int} (hd : decode bytes pc = .ok (.ifnull o, 3)) (go : ownGo p e m below n0 En Q T (pc + 3) Ls S) : ownGo p e m below n0 En Q T pc Ls (.ref b :: S) := by
  obtain ⟨⟨hx, hZ, hby, hml, hown, hnm, hret, hlk⟩, locs, X, eT, hN⟩ := G
  exact ownGo.step (fun t k => XS.ifnullNo X.here hx rfl (hb hby hd) rfl k) go
theorem own_ifnonnull_ref (G : ownSt p l e R s m args below meth c Z n0 own bytes mx rt nm T h cells slots) {o : Int} {pc' : Nat} (hd : decode bytes pc = .ok (.ifnonnull o, 3)) (ho : 0 ≤ (pc : Int) + o) (hp : ((pc : Int) + o).toNat = pc') (go : ownGo p e m below n0 En Q T pc' Ls S) : ownGo p e m below n0 En Q T pc Ls (.ref b :: S) := by
  obtain ⟨⟨hx, hZ, hby, hml, hown, hnm, hret, hlk⟩, locs, X, eT, hN⟩ := G
  exact ownGo.step (fun t k => XS.ifnonnullYes X.here hx rfl (pc0 := pc) rfl (hb hby hd) rfl ho hp k) go
theorem own_ifnonnull_null (G : ownSt p l e R s m args below meth c Z n0 own bytes mx rt nm T h cells slots) {o : Int} (hd : decode bytes pc = .ok (.ifnonnull o, 3)) (go : ownGo p e m below n0 En Q T (pc + 3) Ls S) : ownGo p e m below n0 En Q T pc Ls (.null :: S) := by
  obtain ⟨⟨hx, hZ, hby, hml, hown, hnm, hret, hlk⟩, locs, X, eT, hN⟩ := G
  exact ownGo.step (fun t k => XS.ifnonnullNo X.here hx rfl (hb hby hd) rfl k) go
theorem own_acmp (G : ownSt p l e R s m args below meth c Z n0 own bytes mx rt nm T h cells slots) {cd : ACond} {x y : Value} {o : Int} {pc' : Nat} {same : Bool} (hd : decode bytes pc = .ok (.if_acmp cd o, 3)) (h1 : x.isRef = true) (h2 : y.isRef = true) (hq : decide (x = y) = same) (ho : 0 ≤ (pc : Int) + o) (hp : pc' = if acV cd same = true then ((pc : Int) + o).toNat else pc + 3) (go : ownGo p e m below n0 En Q T pc' Ls S) : ownGo p e m below n0 En Q T pc Ls (y :: x :: S) := by
  obtain ⟨⟨hx, hZ, hby, hml, hown, hnm, hret, hlk⟩, locs, X, eT, hN⟩ := G
  exact ownGo.step (fun t k => Jvm.RoadKit.acmp (g := mkF m pc Ls (y :: x :: S)) X hx rfl h1 h2 (pc0 := pc) rfl (hb hby hd) rfl hq ho hp k) go
theorem own_ret (G : ownSt p l e R s m args below meth c Z n0 own bytes mx rt nm T h cells slots) (hd : decode bytes pc = .ok (.return_, 1)) (hrt : rt = none) (hc : cells ≤ R.cells) (hs : slots ≤ R.slots) (q : Q none h) : ownGo p e m below n0 (ownEnd s R) Q T pc Ls [] := by
  obtain ⟨⟨hx, hZ, hby, hml, hown, hnm, hret, hlk⟩, locs, X, eT, hN⟩ := G
  obtain ⟨fs, hr, hrun, hended, hW, hsame⟩ := X.leave (v := none) (fun _ => rfl)
  exact ⟨_, _, X.returnOut hx (hret.trans hrt) (hb hby hd) hr, hrun, hended, _, _, rfl, ⟨by show Q none T.heap; rw [eT]; exact q, hN⟩, ⟨_, rfl⟩, hW, hsame.mono hc hs⟩
theorem own_ireturn (G : ownSt p l e R s m args below meth c Z n0 own bytes mx rt nm T h cells slots) {z : Int32} (hd : decode bytes pc = .ok (.ireturn, 1)) (hrt : rt = some .int) (hc : cells ≤ R.cells) (hs : slots ≤ R.slots) (q : Q (some (.int z)) h) : ownGo p e m below n0 (ownEnd s R) Q T pc Ls (.int z :: S) := by
  obtain ⟨⟨hx, hZ, hby, hml, hown, hnm, hret, hlk⟩, locs, X, eT, hN⟩ := G
  obtain ⟨fs, hr, hrun, hended, hW, hsame⟩ := X.leave (v := some (.int z)) (fun h => by rw [hret, hrt] at h; cases h)
  exact ⟨_, _, retOut X hx (hret.trans hrt) rfl (Or.inl ⟨rfl, Or.inl rfl, _, rfl⟩) (hb hby hd) hr, hrun, hended, _, _, rfl, ⟨by show Q _ T.heap; rw [eT]; exact q, hN⟩, ⟨_, rfl⟩, hW, hsame.mono hc hs⟩
theorem own_zreturn (G : ownSt p l e R s m args below meth c Z n0 own bytes mx rt nm T h cells slots) {z : Int32} (hd : decode bytes pc = .ok (.ireturn, 1)) (hrt : rt = some .boolean) (hc : cells ≤ R.cells) (hs : slots ≤ R.slots) (q : Q (some (.int (nar .boolean z))) h) : ownGo p e m below n0 (ownEnd s R) Q T pc Ls (.int z :: S) := by
  obtain ⟨⟨hx, hZ, hby, hml, hown, hnm, hret, hlk⟩, locs, X, eT, hN⟩ := G
  obtain ⟨fs, hr, hrun, hended, hW, hsame⟩ := X.leave (v := some (.int (nar .boolean z))) (fun h => by rw [hret, hrt] at h; cases h)
  exact ⟨_, _, retN X hx (t := .boolean) (hret.trans hrt) (by simp) (hb hby hd) hr, hrun, hended, _, _, rfl, ⟨by show Q _ T.heap; rw [eT]; exact q, hN⟩, ⟨_, rfl⟩, hW, hsame.mono hc hs⟩
theorem own_lreturn (G : ownSt p l e R s m args below meth c Z n0 own bytes mx rt nm T h cells slots) {z : Int64} (hd : decode bytes pc = .ok (.lreturn, 1)) (hrt : rt = some .long) (hc : cells ≤ R.cells) (hs : slots ≤ R.slots) (q : Q (some (.long z)) h) : ownGo p e m below n0 (ownEnd s R) Q T pc Ls (.long z :: S) := by
  obtain ⟨⟨hx, hZ, hby, hml, hown, hnm, hret, hlk⟩, locs, X, eT, hN⟩ := G
  obtain ⟨fs, hr, hrun, hended, hW, hsame⟩ := X.leave (v := some (.long z)) (fun h => by rw [hret, hrt] at h; cases h)
  exact ⟨_, _, retOut X hx (hret.trans hrt) rfl (Or.inr (Or.inl ⟨rfl, rfl, _, rfl⟩)) (hb hby hd) hr, hrun, hended, _, _, rfl, ⟨by show Q _ T.heap; rw [eT]; exact q, hN⟩, ⟨_, rfl⟩, hW, hsame.mono hc hs⟩
theorem own_areturn (G : ownSt p l e R s m args below meth c Z n0 own bytes mx rt nm T h cells slots) {v : Value} {t : FieldType} (hd : decode bytes pc = .ok (.areturn, 1)) (hrt : rt = some t) (ht : t.isReference = true) (hv : v.isRef = true) (hn : narrow t v = v) (hc : cells ≤ R.cells) (hs : slots ≤ R.slots) (q : Q (some v) h) : ownGo p e m below n0 (ownEnd s R) Q T pc Ls (v :: S) := by
  obtain ⟨⟨hx, hZ, hby, hml, hown, hnm, hret, hlk⟩, locs, X, eT, hN⟩ := G
  obtain ⟨fs, hr, hrun, hended, hW, hsame⟩ := X.leave (v := some v) (fun h => by rw [hret, hrt] at h; cases h)
  exact ⟨_, _, retOut X hx (hret.trans hrt) hn (Or.inr (Or.inr (Or.inr (Or.inr ⟨rfl, ht, hv⟩)))) (hb hby hd) hr, hrun, hended, _, _, rfl, ⟨by show Q _ T.heap; rw [eT]; exact q, hN⟩, ⟨_, rfl⟩, hW, hsame.mono hc hs⟩
theorem own_ldcInt (G : ownSt p l e R s m args below meth c Z n0 own bytes mx rt nm T h cells slots) {index : Nat} {v : Int32} (hd : decode bytes pc = .ok (.ldc index, 2)) (w : (Cond.constant own index v).before a0 Z = true) (go : ownGo p e m below n0 En Q T (pc + 2) Ls (.int v :: S)) : ownGo p e m below n0 En Q T pc Ls S := by
  obtain ⟨⟨hx, hZ, hby, hml, hown, hnm, hret, hlk⟩, locs, X, eT, hN⟩ := G
  exact ownGo.step (fun t k => X.ldcInt hx hown (mvT hZ w) (g := mkF m pc Ls S) rfl (hb hby hd) _ k) go
theorem own_ldcw (G : ownSt p l e R s m args below meth c Z n0 own bytes mx rt nm T h cells slots) {index : Nat} {v : Int32} (hd : decode bytes pc = .ok (.ldc_w index, 3)) (w : (Cond.constant own index v).before a0 Z = true) (go : ownGo p e m below n0 En Q T (pc + 3) Ls (.int v :: S)) : ownGo p e m below n0 En Q T pc Ls S := by
  obtain ⟨⟨hx, hZ, hby, hml, hown, hnm, hret, hlk⟩, locs, X, eT, hN⟩ := G
  exact ownGo.step (fun t k => X.ldcwInt hx hown (mvT hZ w) (g := mkF m pc Ls S) rfl (hb hby hd) _ k) go
theorem own_ldc2 (G : ownSt p l e R s m args below meth c Z n0 own bytes mx rt nm T h cells slots) {index : Nat} {v : Int64} (hd : decode bytes pc = .ok (.ldc2_w index, 3)) (w : (Cond.constantLong own index v).before a0 Z = true) (go : ownGo p e m below n0 En Q T (pc + 3) Ls (.long v :: S)) : ownGo p e m below n0 En Q T pc Ls S := by
  obtain ⟨⟨hx, hZ, hby, hml, hown, hnm, hret, hlk⟩, locs, X, eT, hN⟩ := G
  exact ownGo.step (fun t k => X.ldc2Long hx hown (mvT hZ w) (g := mkF m pc Ls S) rfl (hb hby hd) _ k) go
theorem own_getF (G : ownSt p l e R s m args below meth c Z n0 own bytes mx rt nm T h cells slots) {R0 O n d : String} {index : Nat} {v : Value} (hd : decode bytes pc = .ok (.getfield index, 3)) (w : (Cond.fieldLink own index R0 n d).before a0 Z = true) (via : Via Z R0 O n d) (F : Fld Z h a O n d v)
    (go : ∀ T', ownSt p l e R s m args below meth c Z n0 own bytes mx rt nm T' h cells slots → ownGo p e m below n0 En Q T' (pc + 3) Ls (v :: S)) : ownGo p e m below n0 En Q T pc Ls (.ref a :: S) := by
  obtain ⟨⟨hx, hZ, hby, hml, hown, hnm, hret, hlk⟩, locs, X, eT, hN⟩ := G
  obtain ⟨T', X', e', st⟩ := getF X hx hZ hown (host := "") (Or.inl w) via eT F (g := mkF m pc Ls (.ref a :: S)) rfl rfl (hb hby hd)
  exact ownGo.step (fun t k => st t k) (go T' ⟨⟨hx, hZ, hby, hml, hown, hnm, hret, hlk⟩, locs, X', e', hN⟩)
theorem own_putF (G : ownSt p l e R s m args below meth c Z n0 own bytes mx rt nm T h cells slots) {R0 O n d C : String} {index kk : Nat} {ty : FieldType} {v old : Value} (hd : decode bytes pc = .ok (.putfield index, 3)) (w : (Cond.fieldLink own index R0 n d).before a0 Z = true) (via : Via Z R0 O n d) (F : Fld Z h a O n d old) (E : Exa Z h a C) (L : (Cond.lays C O n d).before a0 Z = true ∨ ((Cond.laysFinal C O n d).before a0 Z = true ∧ own = O ∧ nm = "<init>")) (wi : (Cond.instantiable C kk).before a0 Z = true)
    (hty : parseFieldDescriptor d = some ty) (hn : narrow ty v = v) (hf : fits ty v = true) (hfr : n0 ≤ a)
    (go : ∀ T' h', Wr h h' a (Jvm.RoadKit.slotOf Z O n d) v → ownSt p l e R s m args below meth c Z n0 own bytes mx rt nm T' h' cells slots → ownGo p e m below n0 En Q T' (pc + 3) Ls S) : ownGo p e m below n0 En Q T pc Ls (v :: .ref a :: S) := by
  obtain ⟨⟨hx, hZ, hby, hml, hown, hnm, hret, hlk⟩, locs, X, eT, hN⟩ := G
  obtain ⟨T', h', X', e', W', st⟩ := putF X hx hZ hown (host := "") (Or.inl w) via eT F E (L.imp id fun q => ⟨q.1, q.2.1, hnm.trans q.2.2⟩) wi hty hn hf (g := mkF m pc Ls (v :: .ref a :: S)) rfl rfl (hb hby hd)
  exact ownGo.step (fun t k => st t k) (go T' h' W' ⟨⟨hx, hZ, hby, hml, hown, hnm, hret, hlk⟩, _, X', e', Fr.snoc X' hN hfr⟩)
theorem own_getS (G : ownSt p l e R s m args below meth c Z n0 own bytes mx rt nm T h cells slots) {R0 O n d : String} {index : Nat} {v : Value} (hd : decode bytes pc = .ok (.getstatic index, 3)) (w : (Cond.fieldLink own index R0 n d).before a0 Z = true) (via : Via Z R0 O n d) (F : Sta Z h O n d v)
    (go : ∀ T', ownSt p l e R s m args below meth c Z n0 own bytes mx rt nm T' h cells slots → ownGo p e m below n0 En Q T' (pc + 3) Ls (v :: S)) : ownGo p e m below n0 En Q T pc Ls S := by
  obtain ⟨⟨hx, hZ, hby, hml, hown, hnm, hret, hlk⟩, locs, X, eT, hN⟩ := G
  obtain ⟨T', X', e', st⟩ := getS2 X hx hZ hown (host := "") (Or.inl w) via eT F (g := mkF m pc Ls S) rfl (hb hby hd)
  exact ownGo.step (fun t k => st t k) (go T' ⟨⟨hx, hZ, hby, hml, hown, hnm, hret, hlk⟩, locs, X', e', hN⟩)
theorem own_new (G : ownSt p l e R s m args below meth c Z n0 own bytes mx rt nm T h cells slots) {C : String} {index n : Nat} (hd : decode bytes pc = .ok (.new index, 3)) (w : (Cond.classLink own index C).before a0 Z = true) (wi : (Cond.instantiable C n).before a0 Z = true) (wz : (Cond.initialized C).before a0 Z = true) (hc : cells + 1 ≤ R.cells) (hl : slots + n ≤ R.slots)
    (go : ∀ T' h' a, a = h.size → Ext h h' → Exa Z h' a C → (∀ {O nm d : String} {ty : FieldType}, Laid Z a0 C O nm d → parseFieldDescriptor d = some ty → Fld Z h' a O nm d (defaultValue ty)) → ownSt p l e R s m args below meth c Z n0 own bytes mx rt nm T' h' (cells + 1) (slots + n) → ownGo p e m below n0 En Q T' (pc + 3) Ls (.ref a :: S)) : ownGo p e m below n0 En Q T pc Ls S := by
  obtain ⟨⟨hx, hZ, hby, hml, hown, hnm, hret, hlk⟩, locs, X, eT, hN⟩ := G
  obtain ⟨T', h', X', e', E', A', D', -, st⟩ := newO X hx hZ hown w wi wz eT (g := mkF m pc Ls S) rfl (hb hby hd) hc hl
  exact ownGo.step (fun t k => st t k) (go T' h' h.size rfl E' A' D' ⟨⟨hx, hZ, hby, hml, hown, hnm, hret, hlk⟩, locs, X', e', hN⟩)
theorem own_initO (G : ownSt p l e R s m args below meth c Z n0 own bytes mx rt nm T h cells slots) {idx : Nat} (hd : decode bytes pc = .ok (.invokespecial idx, 3)) (w1 : (Cond.methodLink own idx Lib.objectInit).before a0 Z = true) (w2 : (Cond.instanceMethod Lib.objectInit).before a0 Z = true) (w3 : (Cond.code Lib.objectInit object_method_1_code 1 none).before a0 Z = true) (hsz : Ls.size = mx) (hf : 1 ≤ R.frames) {W : Nat} (hW : (S.map fun v => v.category).sum ≤ W) (hl : W + 12 ≤ R.locals)
    (go : ∀ T', ownSt p l e R s m args below meth c Z n0 own bytes mx rt nm T' h cells slots → ownGo p e m below n0 En Q T' (pc + 3) Ls S) : ownGo p e m below n0 En Q T pc Ls (.ref a :: S) := by
  obtain ⟨⟨hx, hZ, hby, hml, hown, hnm, hret, hlk⟩, locs, X, eT, hN⟩ := G
  obtain ⟨T', X', e', st⟩ := initO X hx hZ hown w1 w2 w3 eT (g := mkF m pc Ls (.ref a :: S)) rfl (hsz.trans hml.symm) rfl (hb hby hd) hf (W := W) (by show 2 * 0 + _ ≤ _; omega) hl
  exact ownGo.step (fun t k => st t k) (go T' ⟨⟨hx, hZ, hby, hml, hown, hnm, hret, hlk⟩, locs, X', e', hN⟩)
/-- an array of n places: place j holds f j -/
def ownArr (Z : State) (h : Heap) (a : Addr) (ty : FieldType) (n : Nat) (f : Nat → Value) : Prop := ∃ cl : Cell, Arr Z h a cl ty ∧ cl.slots.size = n ∧ ∀ j, j < n → cl.slots[j]? = some (f j)
variable {ty : FieldType} {n i : Nat} {f g : Nat → Value} {j : Int32}
theorem ownArr.lt (A : ownArr Z h a ty n f) : a < h.size := by obtain ⟨cl, A, -⟩ := A; exact A.lt
theorem ownArr.ext (A : ownArr Z h a ty n f) (E : Ext h h') : ownArr Z h' a ty n f := by obtain ⟨cl, A, r⟩ := A; exact ⟨cl, A.ext E, r⟩
theorem ownArr.keep (A : ownArr Z h a ty n f) {ws : List Addr} (K : Keep h h' ws) (q : a ∉ ws) : ownArr Z h' a ty n f := by obtain ⟨cl, A, r⟩ := A; exact ⟨cl, ⟨K.2.1 a cl A.1 q, A.2⟩, r⟩
theorem ownArr.congr (A : ownArr Z h a ty n f) (q : ∀ j, j < n → f j = g j) : ownArr Z h a ty n g := by obtain ⟨cl, A, r1, r2⟩ := A; exact ⟨cl, A, r1, fun j hj => by rw [← q j hj]; exact r2 j hj⟩
theorem ownArr.other (A : ownArr Z h a ty n f) {sl : Nat} {v : Value} (W : Wr h h' b sl v) (q : a ≠ b) : ownArr Z h' a ty n f := by obtain ⟨cl, A, r⟩ := A; exact ⟨cl, A.other W q, r⟩
theorem ownArr.same (A : ownArr Z h a ty n f) {v : Value} (W : Wr h h' a i v) : ownArr Z h' a ty n (fun j => if j = i then v else f j) := by
  obtain ⟨cl, A, r1, r2⟩ := A
  refine ⟨_, A.same W, by rw [sz_set]; exact r1, fun j hj => ?_⟩
  by_cases q : j = i
  · subst q; simp [Cell.setSlot, r1, hj]
  · simp only [if_neg q]; rw [← r2 j hj]; exact Array.getElem?_setIfInBounds_ne (Ne.symm q)
theorem ownArr.wr (A : ownArr Z h a ty n f) {v : Value} (W : Wr h h' b i v) : ownArr Z h' a ty n (fun j => if a = b ∧ j = i then v else f j) := by
  by_cases q : a = b
  · subst q; exact (A.same W).congr fun j _ => by simp
  · exact (A.other W q).congr fun j _ => by simp [q]
theorem own_in {cl : Cell} (S : cl.slots.size = n) (ix : ¬ j < 0 ∧ j.toNatClampNeg = i ∧ i < n) : ¬ (j < 0 ∨ cl.slots.size ≤ j.toNatClampNeg) := by
  obtain ⟨q1, q2, q3⟩ := ix; rw [S, q2]; intro q; exact q.elim q1 fun r => absurd q3 (Nat.not_lt.mpr r)
theorem own_iaload (G : ownSt p l e R s m args below meth c Z n0 own bytes mx rt nm T h cells slots) {v : Value} (hd : decode bytes pc = .ok (.iaload, 1)) (A : ownArr Z h a .int n f) (ix : ¬ j < 0 ∧ j.toNatClampNeg = i ∧ i < n) (hv : f i = v) (go : ownGo p e m below n0 En Q T (pc + 1) Ls (v :: S)) : ownGo p e m below n0 En Q T pc Ls (.int j :: .ref a :: S) := by
  obtain ⟨⟨hx, hZ, hby, hml, hown, hnm, hret, hlk⟩, locs, X, eT, hN⟩ := G
  obtain ⟨cl, A, r1, r2⟩ := A
  exact ownGo.step (fun t k => X.iaload hx (by rw [eT]; exact A.1) (State.isArrayOf_alike hZ.alike A.2.1) A.2.2 (own_in r1 ix) (by rw [ix.2.1, ← hv]; exact r2 i ix.2.2) (g := mkF m pc Ls (.int j :: .ref a :: S)) rfl rfl (hb hby hd) _ k) go
theorem own_laload (G : ownSt p l e R s m args below meth c Z n0 own bytes mx rt nm T h cells slots) {v : Value} (hd : decode bytes pc = .ok (.laload, 1)) (A : ownArr Z h a .long n f) (ix : ¬ j < 0 ∧ j.toNatClampNeg = i ∧ i < n) (hv : f i = v) (go : ownGo p e m below n0 En Q T (pc + 1) Ls (v :: S)) : ownGo p e m below n0 En Q T pc Ls (.int j :: .ref a :: S) := by
  obtain ⟨⟨hx, hZ, hby, hml, hown, hnm, hret, hlk⟩, locs, X, eT, hN⟩ := G
  obtain ⟨cl, A, r1, r2⟩ := A
  exact ownGo.step (fun t k => X.laload hx (by rw [eT]; exact A.1) (State.isArrayOf_alike hZ.alike A.2.1) A.2.2 (own_in r1 ix) (by rw [ix.2.1, ← hv]; exact r2 i ix.2.2) (g := mkF m pc Ls (.int j :: .ref a :: S)) rfl rfl (hb hby hd) _ k) go
theorem own_baload (G : ownSt p l e R s m args below meth c Z n0 own bytes mx rt nm T h cells slots) {v : Value} (hd : decode bytes pc = .ok (.baload, 1)) (A : ownArr Z h a .byte n f) (ix : ¬ j < 0 ∧ j.toNatClampNeg = i ∧ i < n) (hv : f i = v) (go : ownGo p e m below n0 En Q T (pc + 1) Ls (v :: S)) : ownGo p e m below n0 En Q T pc Ls (.int j :: .ref a :: S) := by
  obtain ⟨⟨hx, hZ, hby, hml, hown, hnm, hret, hlk⟩, locs, X, eT, hN⟩ := G
  obtain ⟨cl, A, r1, r2⟩ := A
  exact ownGo.step (fun t k => X.baloadBytes hx (by rw [eT]; exact A.1) (State.isArrayOf_alike hZ.alike A.2.1) A.2.2 (own_in r1 ix) (by rw [ix.2.1, ← hv]; exact r2 i ix.2.2) (g := mkF m pc Ls (.int j :: .ref a :: S)) rfl rfl (hb hby hd) _ k) go
theorem own_aaload (G : ownSt p l e R s m args below meth c Z n0 own bytes mx rt nm T h cells slots) {v : Value} (hd : decode bytes pc = .ok (.aaload, 1)) (A : ownArr Z h a ty n f) (hty : ty.isReference = true) (ix : ¬ j < 0 ∧ j.toNatClampNeg = i ∧ i < n) (hv : f i = v) (go : ownGo p e m below n0 En Q T (pc + 1) Ls (v :: S)) : ownGo p e m below n0 En Q T pc Ls (.int j :: .ref a :: S) := by
  obtain ⟨⟨hx, hZ, hby, hml, hown, hnm, hret, hlk⟩, locs, X, eT, hN⟩ := G
  obtain ⟨cl, A, r1, r2⟩ := A
  exact ownGo.step (fun t k => X.aaload hx (by rw [eT]; exact A.1) (State.isArrayOf_alike hZ.alike A.2.1) hty A.2.2 (own_in r1 ix) (by rw [ix.2.1, ← hv]; exact r2 i ix.2.2) (g := mkF m pc Ls (.int j :: .ref a :: S)) rfl rfl (hb hby hd) _ k) go
theorem own_arraylength (G : ownSt p l e R s m args below meth c Z n0 own bytes mx rt nm T h cells slots) (hd : decode bytes pc = .ok (.arraylength, 1)) (A : ownArr Z h a ty n f) (go : ownGo p e m below n0 En Q T (pc + 1) Ls (.int n.toInt32 :: S)) : ownGo p e m below n0 En Q T pc Ls (.ref a :: S) := by
  obtain ⟨⟨hx, hZ, hby, hml, hown, hnm, hret, hlk⟩, locs, X, eT, hN⟩ := G
  obtain ⟨cl, A, r1, r2⟩ := A
  subst r1
  exact ownGo.step (fun t k => X.arraylength hx (by rw [eT]; exact A.1) (State.isArrayOf_alike hZ.alike A.2.1) (g := mkF m pc Ls (.ref a :: S)) rfl rfl (hb hby hd) _ k) go
theorem own_iastore (G : ownSt p l e R s m args below meth c Z n0 own bytes mx rt nm T h cells slots) {x : Int32} (hd : decode bytes pc = .ok (.iastore, 1)) (A : ownArr Z h a .int n f) (ix : ¬ j < 0 ∧ j.toNatClampNeg = i ∧ i < n) (hfr : n0 ≤ a) (go : ∀ T' h', Wr h h' a i (.int x) → ownSt p l e R s m args below meth c Z n0 own bytes mx rt nm T' h' cells slots → ownGo p e m below n0 En Q T' (pc + 1) Ls S) : ownGo p e m below n0 En Q T pc Ls (.int x :: .int j :: .ref a :: S) := by
  obtain ⟨⟨hx, hZ, hby, hml, hown, hnm, hret, hlk⟩, locs, X, eT, hN⟩ := G
  obtain ⟨cl, A, r1, r2⟩ := A
  obtain ⟨T', h', X', e', W', st⟩ := stI X hx hZ eT A (own_in r1 ix) (g := mkF m pc Ls (.int x :: .int j :: .ref a :: S)) rfl rfl (hb hby hd)
  exact ownGo.step (fun t k => st t k) (go T' h' (ix.2.1 ▸ W') ⟨⟨hx, hZ, hby, hml, hown, hnm, hret, hlk⟩, _, X', e', Fr.snoc X' hN hfr⟩)
theorem own_lastore (G : ownSt p l e R s m args below meth c Z n0 own bytes mx rt nm T h cells slots) {x : Int64} (hd : decode bytes pc = .ok (.lastore, 1)) (A : ownArr Z h a .long n f) (ix : ¬ j < 0 ∧ j.toNatClampNeg = i ∧ i < n) (hfr : n0 ≤ a) (go : ∀ T' h', Wr h h' a i (.long x) → ownSt p l e R s m args below meth c Z n0 own bytes mx rt nm T' h' cells slots → ownGo p e m below n0 En Q T' (pc + 1) Ls S) : ownGo p e m below n0 En Q T pc Ls (.long x :: .int j :: .ref a :: S) := by
  obtain ⟨⟨hx, hZ, hby, hml, hown, hnm, hret, hlk⟩, locs, X, eT, hN⟩ := G
  obtain ⟨cl, A, r1, r2⟩ := A
  obtain ⟨T', h', X', e', W', st⟩ := stJ X hx hZ eT A (own_in r1 ix) (g := mkF m pc Ls (.long x :: .int j :: .ref a :: S)) rfl rfl (hb hby hd)
  exact ownGo.step (fun t k => st t k) (go T' h' (ix.2.1 ▸ W') ⟨⟨hx, hZ, hby, hml, hown, hnm, hret, hlk⟩, _, X', e', Fr.snoc X' hN hfr⟩)
theorem own_bastore (G : ownSt p l e R s m args below meth c Z n0 own bytes mx rt nm T h cells slots) {x : Int32} (hd : decode bytes pc = .ok (.bastore, 1)) (A : ownArr Z h a .byte n f) (ix : ¬ j < 0 ∧ j.toNatClampNeg = i ∧ i < n) (hfr : n0 ≤ a) (go : ∀ T' h', Wr h h' a i (.int (nar .byte x)) → ownSt p l e R s m args below meth c Z n0 own bytes mx rt nm T' h' cells slots → ownGo p e m below n0 En Q T' (pc + 1) Ls S) : ownGo p e m below n0 En Q T pc Ls (.int x :: .int j :: .ref a :: S) := by
  obtain ⟨⟨hx, hZ, hby, hml, hown, hnm, hret, hlk⟩, locs, X, eT, hN⟩ := G
  obtain ⟨cl, A, r1, r2⟩ := A
  obtain ⟨T', h', X', e', W', st⟩ := stB X hx hZ eT A (own_in r1 ix) (g := mkF m pc Ls (.int x :: .int j :: .ref a :: S)) rfl rfl (hb hby hd)
  exact ownGo.step (fun t k => st t k) (go T' h' (ix.2.1 ▸ W') ⟨⟨hx, hZ, hby, hml, hown, hnm, hret, hlk⟩, _, X', e', Fr.snoc X' hN hfr⟩)
theorem own_newarr (G : ownSt p l e R s m args below meth c Z n0 own bytes mx rt nm T h cells slots) {aty : ArrayType} {x : Int32} (hd : decode bytes pc = .ok (.newarray aty, 2)) (w : (Cond.arrayClass (newarray.typeOf aty)).before a0 Z = true) (hn : ¬ x < 0) {k cap : Nat} (hk : x.toNatClampNeg = k) (hcap : k ≤ cap) (hb8 : cap * 8 ≤ 536870912) (hc : cells + 1 ≤ R.cells) (hl : slots + cap ≤ R.slots)
    (go : ∀ T' h' a, a = h.size → Ext h h' → ownArr Z h' a (newarray.typeOf aty) k (fun _ => defaultValue (newarray.typeOf aty)) → ownSt p l e R s m args below meth c Z n0 own bytes mx rt nm T' h' (cells + 1) (slots + cap) → ownGo p e m below n0 En Q T' (pc + 2) Ls (.ref a :: S)) : ownGo p e m below n0 En Q T pc Ls (.int x :: S) := by
  obtain ⟨⟨hx, hZ, hby, hml, hown, hnm, hret, hlk⟩, locs, X, eT, hN⟩ := G
  subst hk
  obtain ⟨T', h', cA, X', e', E', A', st⟩ := newP X hx hZ w eT (g := mkF m pc Ls (.int x :: S)) rfl (hb hby hd) rfl hn hcap hb8 hc hl
  exact ownGo.step (fun t k => st t k) (go T' h' h.size rfl E' ⟨_, A', sz_new _ _ _, fun j hj => by simp [newA, hj]⟩ ⟨⟨hx, hZ, hby, hml, hown, hnm, hret, hlk⟩, locs, X', e', hN⟩)
theorem own_ldcFloat (G : ownSt p l e R s m args below meth c Z n0 own bytes mx rt nm T h cells slots) {index : Nat} {v : UInt32} (hd : decode bytes pc = .ok (.ldc index, 2)) (w : (Cond.constantFloat own index v).before a0 Z = true) (go : ownGo p e m below n0 En Q T (pc + 2) Ls (.float v :: S)) : ownGo p e m below n0 En Q T pc Ls S := by
  obtain ⟨⟨hx, hZ, hby, hml, hown, hnm, hret, hlk⟩, locs, X, eT, hN⟩ := G
  exact ownGo.step (fun t k => X.ldcFloatC hx hown (mvT hZ w) (g := mkF m pc Ls S) rfl (hb hby hd) _ k) go
/-- an array of references to objects of C -/
def ownRef (Z : State) (h : Heap) (a : Addr) (C : String) (n : Nat) (f : Nat → Value) : Prop := ∃ cl : Cell, Arr Z h a cl (.object C) ∧ Ovr Z cl.cls C ∧ cl.slots.size = n ∧ ∀ j, j < n → cl.slots[j]? = some (f j)
theorem ownRef.arr {C : String} (A : ownRef Z h a C n f) : ownArr Z h a (.object C) n f := by obtain ⟨cl, A, -, r⟩ := A; exact ⟨cl, A, r⟩
theorem ownRef.lt {C : String} (A : ownRef Z h a C n f) : a < h.size := A.arr.lt
theorem ownRef.ext {C : String} (A : ownRef Z h a C n f) (E : Ext h h') : ownRef Z h' a C n f := by obtain ⟨cl, A, r⟩ := A; exact ⟨cl, A.ext E, r⟩
theorem ownRef.keep {C : String} (A : ownRef Z h a C n f) {ws : List Addr} (K : Keep h h' ws) (q : a ∉ ws) : ownRef Z h' a C n f := by obtain ⟨cl, A, r⟩ := A; exact ⟨cl, ⟨K.2.1 a cl A.1 q, A.2⟩, r⟩
theorem ownRef.congr {C : String} (A : ownRef Z h a C n f) (q : ∀ j, j < n → f j = g j) : ownRef Z h a C n g := by obtain ⟨cl, A, r0, r1, r2⟩ := A; exact ⟨cl, A, r0, r1, fun j hj => by rw [← q j hj]; exact r2 j hj⟩
theorem ownRef.other {C : String} (A : ownRef Z h a C n f) {sl : Nat} {v : Value} (W : Wr h h' b sl v) (q : a ≠ b) : ownRef Z h' a C n f := by obtain ⟨cl, A, r⟩ := A; exact ⟨cl, A.other W q, r⟩
theorem ownRef.same {C : String} (A : ownRef Z h a C n f) {v : Value} (W : Wr h h' a i v) : ownRef Z h' a C n (fun j => if j = i then v else f j) := by
  obtain ⟨cl, A, r0, r1, r2⟩ := A
  refine ⟨_, A.same W, r0, by rw [sz_set]; exact r1, fun j hj => ?_⟩
  by_cases q : j = i
  · subst q; simp [Cell.setSlot, r1, hj]
  · simp only [if_neg q]; rw [← r2 j hj]; exact Array.getElem?_setIfInBounds_ne (Ne.symm q)
theorem own_aastore (G : ownSt p l e R s m args below meth c Z n0 own bytes mx rt nm T h cells slots) {C : String} {v : Value} (hd : decode bytes pc = .ok (.aastore, 1)) (A : ownRef Z h a C n f) (ix : ¬ j < 0 ∧ j.toNatClampNeg = i ∧ i < n) (hv : v = .null ∨ ∃ y, v = .ref y ∧ Ins Z h y C true) (hfr : n0 ≤ a) (go : ∀ T' h', Wr h h' a i v → ownSt p l e R s m args below meth c Z n0 own bytes mx rt nm T' h' cells slots → ownGo p e m below n0 En Q T' (pc + 1) Ls S) : ownGo p e m below n0 En Q T pc Ls (v :: .int j :: .ref a :: S) := by
  obtain ⟨⟨hx, hZ, hby, hml, hown, hnm, hret, hlk⟩, locs, X, eT, hN⟩ := G
  obtain ⟨cl, A, r0, r1, r2⟩ := A
  have F : Sto Z h a v := by
    rcases hv with rfl | ⟨y, rfl, I⟩
    · exact Or.inl rfl
    · exact Sto.of A r0 I
  obtain ⟨T', h', X', e', W', st⟩ := stR X hx hZ eT A (own_in r1 ix) rfl F (g := mkF m pc Ls (v :: .int j :: .ref a :: S)) rfl rfl (hb hby hd)
  exact ownGo.step (fun t k => st t k) (go T' h' (ix.2.1 ▸ W') ⟨⟨hx, hZ, hby, hml, hown, hnm, hret, hlk⟩, _, X', e', Fr.snoc X' hN hfr⟩)
theorem own_anewarr (G : ownSt p l e R s m args below meth c Z n0 own bytes mx rt nm T h cells slots) {C : String} {index : Nat} {x : Int32} (hd : decode bytes pc = .ok (.anewarray index, 3)) (w1 : (Cond.classLink own index C).before a0 Z = true) (w2 : (Cond.arrayOver (.object C)).before a0 Z = true) (hn : ¬ x < 0) {k cap : Nat} (hk : x.toNatClampNeg = k) (hcap : k ≤ cap) (hb8 : cap * 8 ≤ 536870912) (hc : cells + 1 ≤ R.cells) (hl : slots + cap ≤ R.slots)
    (go : ∀ T' h' a, a = h.size → Ext h h' → ownRef Z h' a C k (fun _ => .null) → ownSt p l e R s m args below meth c Z n0 own bytes mx rt nm T' h' (cells + 1) (slots + cap) → ownGo p e m below n0 En Q T' (pc + 3) Ls (.ref a :: S)) : ownGo p e m below n0 En Q T pc Ls (.int x :: S) := by
  obtain ⟨⟨hx, hZ, hby, hml, hown, hnm, hret, hlk⟩, locs, X, eT, hN⟩ := G
  subst hk
  obtain ⟨T', h', cA, X', e', E', A', O', st⟩ := newR X hx hZ hown w1 w2 eT (g := mkF m pc Ls (.int x :: S)) rfl (hb hby hd) rfl hn hcap hb8 hc hl
  exact ownGo.step (fun t k => st t k) (go T' h' h.size rfl E' ⟨_, A', O', sz_new _ _ _, fun j hj => by simp [newA, hj, defaultValue]⟩ ⟨⟨hx, hZ, hby, hml, hown, hnm, hret, hlk⟩, locs, X', e', hN⟩)
theorem own_callS (G : ownSt p l e R s m args below meth c Z n0 own bytes mx rt nm T h cells slots) {index : Nat} {y : MethodName} {by' : ByteArray} {mx' : Nat} {rt' : Option FieldType} {rm : Room} {as' : Array Value} {Q' : Option Value → Heap → Prop} (hd : decode bytes pc = .ok (.invokestatic index, 3))
    (w1 : (Cond.methodLink own index y).before a0 Z = true) (w2 : (Cond.static y).before a0 Z = true) (w3 : (Cond.initialized y.cls).before a0 Z = true) (w4 : (Cond.code y by' mx' rt').before a0 Z = true) (hy : y.cls ≠ "java/lang/invoke/MethodHandle" ∧ y.cls ≠ "java/lang/invoke/VarHandle")
    {argsL rest : List Value} (hM : ownMet l [] y by' mx' rt' rm Z n0 as' h Q') (has : as' = argsL.toArray) (hst : S = argsL.reverse ++ rest) (hsz : Ls.size = mx) (hlen : ∀ sig, parseMethodDescriptor y.desc = some sig → argsL.length = sig.parameters.length)
    {W : Nat} (hW : (rest.map fun v => v.category).sum ≤ W) (hf : rm.frames + 1 ≤ R.frames) (hl : W + (mx' + 11) + rm.locals ≤ R.locals) (hc : cells + rm.cells ≤ R.cells) (hs : slots + rm.slots ≤ R.slots)
    (go : ∀ v T' h', Q' v h' → ownSt p l e R s m args below meth c Z n0 own bytes mx rt nm T' h' (cells + rm.cells) (slots + rm.slots) → ownGo p e m below n0 En Q T' (pc + 3) Ls (v.toList ++ rest)) : ownGo p e m below n0 En Q T pc Ls S := by
  obtain ⟨⟨hx, hZ, hby, hml, hown, hnm, hret, hlk⟩, locs, X, eT, hN⟩ := G
  subst has hst
  obtain ⟨v, _, ⟨T', L', k', n'⟩, -, X', ⟨Lc, ⟨hQ, hN'⟩, l', y', z'⟩, st⟩ := Jvm.LawKit.callS X hx (y := y) hown (mvT hZ w1) (mvT hZ w2) (mvT hZ w3) (mvT hZ w4) hy (backOf (W := W) (Q := fun v h L => Q' v h ∧ Fr n0 L) hM hZ w4 w3 hf hl) (g := mkF m pc Ls (argsL.reverse ++ rest)) rfl (hsz.trans hml.symm) (argsL := argsL) (rest := rest) hlen rfl (by show 2 * 0 + _ ≤ _; omega) (hb hby hd) (fun _ _ => ⟨rfl, eT, hc, hs⟩)
  dsimp only [Pt.U, Pt.locs, Pt.cells, Pt.slots] at X' l' y' z' st hQ
  subst l' y' z'
  exact ownGo.step (fun t k => st t k) (go v T' T'.heap hQ ⟨⟨hx, hZ, hby, hml, hown, hnm, hret, hlk⟩, _, X', rfl, Fr.app hN hN'⟩)
theorem own_callSUp (G : ownSt p l e R s m args below meth c Z n0 own bytes mx rt nm T h cells slots) {owner : String} {index : Nat} {x : MethodName} {by' : ByteArray} {mx' : Nat} {rt' : Option FieldType} {rm : Room} {as' : Array Value} {Q' : Option Value → Heap → Prop} (hd : decode bytes pc = .ok (.invokestatic index, 3))
    (w1 : (Cond.methodLink own index x).before a0 Z = true) (wm : (Cond.sameMethod x.cls owner x.name x.desc).before a0 Z = true) (w2 : (Cond.static ⟨owner, x.name, x.desc⟩).before a0 Z = true) (w3 : (Cond.initialized owner).before a0 Z = true) (w4 : (Cond.code ⟨owner, x.name, x.desc⟩ by' mx' rt').before a0 Z = true) (hy : owner ≠ "java/lang/invoke/MethodHandle" ∧ owner ≠ "java/lang/invoke/VarHandle")
    {argsL rest : List Value} (hM : ownMet l [] ⟨owner, x.name, x.desc⟩ by' mx' rt' rm Z n0 as' h Q') (has : as' = argsL.toArray) (hst : S = argsL.reverse ++ rest) (hsz : Ls.size = mx) (hlen : ∀ sig, parseMethodDescriptor x.desc = some sig → argsL.length = sig.parameters.length)
    {W : Nat} (hW : (rest.map fun v => v.category).sum ≤ W) (hf : rm.frames + 1 ≤ R.frames) (hl : W + (mx' + 11) + rm.locals ≤ R.locals) (hc : cells + rm.cells ≤ R.cells) (hs : slots + rm.slots ≤ R.slots)
    (go : ∀ v T' h', Q' v h' → ownSt p l e R s m args below meth c Z n0 own bytes mx rt nm T' h' (cells + rm.cells) (slots + rm.slots) → ownGo p e m below n0 En Q T' (pc + 3) Ls (v.toList ++ rest)) : ownGo p e m below n0 En Q T pc Ls S := by
  obtain ⟨⟨hx, hZ, hby, hml, hown, hnm, hret, hlk⟩, locs, X, eT, hN⟩ := G
  subst has hst
  have w4s : (Cond.code ⟨owner, x.name, x.desc⟩ by' mx' rt').before args s = true := mvT hZ w4
  obtain ⟨mk, hnamed⟩ := Cond.code_named w4s
  obtain ⟨methM, cM, hmethM, -, -, -, -, -, -, hsigM⟩ := Cond.code_spec hnamed w4s
  obtain ⟨v, _, ⟨T', L', k', n'⟩, -, X', ⟨Lc, ⟨hQ, hN'⟩, l', y', z'⟩, st⟩ := X.staticBackUp hx (x := x) hown (mvT hZ w1) (mvT hZ wm) (mvT hZ w2) (mvT hZ w3) hnamed hmethM hsigM hy (backOf (W := W) (Q := fun v h L => Q' v h ∧ Fr n0 L) hM hZ w4 w3 hf hl) (g := mkF m pc Ls (argsL.reverse ++ rest)) rfl (hsz.trans hml.symm) (Steps.refl _) (argsL := argsL) (rest := rest) hlen rfl (by show 2 * 0 + _ ≤ _; omega) (hb hby hd) (fun _ _ => ⟨rfl, eT, hc, hs⟩)
  dsimp only [Pt.U, Pt.locs, Pt.cells, Pt.slots] at X' l' y' z' st hQ
  subst l' y' z'
  exact ownGo.step (fun t k => st.trans k) (go v T' T'.heap hQ ⟨⟨hx, hZ, hby, hml, hown, hnm, hret, hlk⟩, _, X', rfl, Fr.app hN hN'⟩)
theorem own_special (G : ownSt p l e R s m args below meth c Z n0 own bytes mx rt nm T h cells slots) {index : Nat} {y : MethodName} {by' : ByteArray} {mx' : Nat} {rm : Room} {as' : Array Value} {Q' : Option Value → Heap → Prop} (hd : decode bytes pc = .ok (.invokespecial index, 3)) (hy1 : y.name = "<init>")
    (w1 : (Cond.methodLink own index y).before a0 Z = true) (w2 : (Cond.instanceMethod y).before a0 Z = true) (w3 : (Cond.initialized y.cls).before a0 Z = true) (w4 : (Cond.code y by' mx' none).before a0 Z = true) (hy : y.cls ≠ "java/lang/invoke/MethodHandle" ∧ y.cls ≠ "java/lang/invoke/VarHandle")
    {argsL rest : List Value} (hM : ownMet l [] y by' mx' none rm Z n0 as' h Q') (has : as' = (.ref a :: argsL).toArray) (hst : S = argsL.reverse ++ .ref a :: rest) (hsz : Ls.size = mx) (hlen : ∀ sig, parseMethodDescriptor y.desc = some sig → argsL.length = sig.parameters.length)
    {W : Nat} (hW : (rest.map fun v => v.category).sum ≤ W) (hf : rm.frames + 1 ≤ R.frames) (hl : W + (mx' + 11) + rm.locals ≤ R.locals) (hc : cells + rm.cells ≤ R.cells) (hs : slots + rm.slots ≤ R.slots)
    (go : ∀ v T' h', Q' v h' → ownSt p l e R s m args below meth c Z n0 own bytes mx rt nm T' h' (cells + rm.cells) (slots + rm.slots) → ownGo p e m below n0 En Q T' (pc + 3) Ls (v.toList ++ rest)) : ownGo p e m below n0 En Q T pc Ls S := by
  obtain ⟨⟨hx, hZ, hby, hml, hown, hnm, hret, hlk⟩, locs, X, eT, hN⟩ := G
  subst has hst
  obtain ⟨v, _, ⟨T', L', k', n'⟩, -, X', ⟨Lc, ⟨hQ, hN'⟩, l', y', z'⟩, st⟩ := X.specialBack hx (y := y) hy1 hown (mvT hZ w1) (mvT hZ w2) (mvT hZ w4) hy (backOf (W := W) (Q := fun v h L => Q' v h ∧ Fr n0 L) hM hZ w4 w3 hf hl) (g := mkF m pc Ls (argsL.reverse ++ .ref a :: rest)) rfl (hsz.trans hml.symm) (Steps.refl _) (a := a) (argsL := argsL) (rest := rest) hlen rfl (by show 2 * 0 + _ ≤ _; omega) (hb hby hd) (fun _ _ => ⟨rfl, eT, hc, hs⟩)
  dsimp only [Pt.U, Pt.locs, Pt.cells, Pt.slots] at X' l' y' z' st hQ
  subst l' y' z'
  exact ownGo.step (fun t k => st.trans k) (go v T' T'.heap hQ ⟨⟨hx, hZ, hby, hml, hown, hnm, hret, hlk⟩, _, X', rfl, Fr.app hN hN'⟩)
theorem own_virtual (G : ownSt p l e R s m args below meth c Z n0 own bytes mx rt nm T h cells slots) {C : String} {index : Nat} {y : MethodName} {by' : ByteArray} {mx' : Nat} {rt' : Option FieldType} {rm : Room} {as' : Array Value} {Q' : Option Value → Heap → Prop} (hd : decode bytes pc = .ok (.invokevirtual index, 3))
    (w1 : (Cond.methodLink own index y).before a0 Z = true) (w2 : (Cond.declares y).before a0 Z = true) (ws : (Cond.selects C y y).before a0 Z = true) (wi : (Cond.instanceMethod y).before a0 Z = true) (w3 : (Cond.initialized y.cls).before a0 Z = true) (w4 : (Cond.code y by' mx' rt').before a0 Z = true) (hy : y.cls ≠ "java/lang/invoke/MethodHandle" ∧ y.cls ≠ "java/lang/invoke/VarHandle")
    {argsL rest : List Value} (E : Exa Z h a C) (hM : ownMet l [] y by' mx' rt' rm Z n0 as' h Q') (has : as' = (.ref a :: argsL).toArray) (hst : S = argsL.reverse ++ .ref a :: rest) (hsz : Ls.size = mx) (hlen : ∀ sig, parseMethodDescriptor y.desc = some sig → argsL.length = sig.parameters.length)
    {W : Nat} (hW : (rest.map fun v => v.category).sum ≤ W) (hf : rm.frames + 1 ≤ R.frames) (hl : W + (mx' + 11) + rm.locals ≤ R.locals) (hc : cells + rm.cells ≤ R.cells) (hs : slots + rm.slots ≤ R.slots)
    (go : ∀ v T' h', Q' v h' → ownSt p l e R s m args below meth c Z n0 own bytes mx rt nm T' h' (cells + rm.cells) (slots + rm.slots) → ownGo p e m below n0 En Q T' (pc + 3) Ls (v.toList ++ rest)) : ownGo p e m below n0 En Q T pc Ls S := by
  obtain ⟨⟨hx, hZ, hby, hml, hown, hnm, hret, hlk⟩, locs, X, eT, hN⟩ := G
  subst has hst
  obtain ⟨cq, kq, qa, qb, qc⟩ := isOf hZ eT E
  obtain ⟨v, _, ⟨T', L', k', n'⟩, -, X', ⟨Lc, ⟨hQ, hN'⟩, l', y', z'⟩, st⟩ := X.virtualBack hx (y := y) (z := y) hown (mvT hZ w1) (mvT hZ w2) (notFace_of_selects (args := #[]) (mvT hZ ws)) (mvT hZ ws) (mvT hZ wi) hy (backOf (W := W) (Q := fun v h L => Q' v h ∧ Fr n0 L) hM hZ w4 w3 hf hl) qa qc (g := mkF m pc Ls (argsL.reverse ++ .ref a :: rest)) rfl (hsz.trans hml.symm) (Steps.refl _) (argsL := argsL) (rest := rest) hlen rfl (by show 2 * 0 + _ ≤ _; omega) (hb hby hd) (fun _ _ => ⟨rfl, eT, hc, hs⟩)
  dsimp only [Pt.U, Pt.locs, Pt.cells, Pt.slots] at X' l' y' z' st hQ
  subst l' y' z'
  exact ownGo.step (fun t k => st.trans k) (go v T' T'.heap hQ ⟨⟨hx, hZ, hby, hml, hown, hnm, hret, hlk⟩, _, X', rfl, Fr.app hN hN'⟩)
theorem own_interface (G : ownSt p l e R s m args below meth c Z n0 own bytes mx rt nm T h cells slots) {C : String} {index count : Nat} {xi y : MethodName} {by' : ByteArray} {mx' : Nat} {rt' : Option FieldType} {rm : Room} {as' : Array Value} {Q' : Option Value → Heap → Prop} (hd : decode bytes pc = .ok (.invokeinterface index count, 5))
    (w1 : (Cond.methodLink own index xi).before a0 Z = true) (w2 : (Cond.declares xi).before a0 Z = true) (wf : (Cond.interfaceMethod xi.cls xi.cls xi.name xi.desc).before a0 Z = true) (ws : (Cond.selects C xi y).before a0 Z = true) (wi : (Cond.instanceMethod y).before a0 Z = true) (wp : (Cond.publicMethod y).before a0 Z = true) (wu : (Cond.unhidden C xi.name xi.desc).before a0 Z = true) (wc : (Cond.castable C xi.cls).before a0 Z = true) (w3 : (Cond.initialized y.cls).before a0 Z = true) (w4 : (Cond.code y by' mx' rt').before a0 Z = true) (hy : xi.cls ≠ "java/lang/invoke/MethodHandle" ∧ xi.cls ≠ "java/lang/invoke/VarHandle")
    {argsL rest : List Value} (E : Exa Z h a C) (hM : ownMet l [] y by' mx' rt' rm Z n0 as' h Q') (has : as' = (.ref a :: argsL).toArray) (hst : S = argsL.reverse ++ .ref a :: rest) (hsz : Ls.size = mx) (hlen : ∀ sig, parseMethodDescriptor xi.desc = some sig → argsL.length = sig.parameters.length)
    {W : Nat} (hW : (rest.map fun v => v.category).sum ≤ W) (hf : rm.frames + 1 ≤ R.frames) (hl : W + (mx' + 11) + rm.locals ≤ R.locals) (hc : cells + rm.cells ≤ R.cells) (hs : slots + rm.slots ≤ R.slots)
    (go : ∀ v T' h', Q' v h' → ownSt p l e R s m args below meth c Z n0 own bytes mx rt nm T' h' (cells + rm.cells) (slots + rm.slots) → ownGo p e m below n0 En Q T' (pc + 5) Ls (v.toList ++ rest)) : ownGo p e m below n0 En Q T pc Ls S := by
  obtain ⟨⟨hx, hZ, hby, hml, hown, hnm, hret, hlk⟩, locs, X, eT, hN⟩ := G
  subst has hst
  obtain ⟨cq, kq, qa, qb, qc⟩ := isOf hZ eT E
  obtain ⟨v, _, ⟨T', L', k', n'⟩, -, X', ⟨Lc, ⟨hQ, hN'⟩, l', y', z'⟩, st⟩ := X.interfaceBack hx (xi := xi) (y := y) hown (mvT hZ w1) (mvT hZ w2) (mvT hZ wf (by simp [Cond.onTables, Cond.keepsFace, Cond.keeps, Cond.steady, Cond.faceAtom, hy])) (mvT hZ ws) (mvT hZ wi) (mvT hZ wp) (mvT hZ wu) (mvT hZ wc) hy (backOf (W := W) (Q := fun v h L => Q' v h ∧ Fr n0 L) hM hZ w4 w3 hf hl) qa qb qc (g := mkF m pc Ls (argsL.reverse ++ .ref a :: rest)) rfl (hsz.trans hml.symm) (Steps.refl _) (argsL := argsL) (rest := rest) hlen rfl (by show 2 * 0 + _ ≤ _; omega) (hb hby hd) (fun _ _ => ⟨rfl, eT, hc, hs⟩)
  dsimp only [Pt.U, Pt.locs, Pt.cells, Pt.slots] at X' l' y' z' st hQ
  subst l' y' z'
  exact ownGo.step (fun t k => st.trans k) (go v T' T'.heap hQ ⟨⟨hx, hZ, hby, hml, hown, hnm, hret, hlk⟩, _, X', rfl, Fr.app hN hN'⟩)
theorem own_private (G : ownSt p l e R s m args below meth c Z n0 own bytes mx rt nm T h cells slots) {index : Nat} {y : MethodName} {by' : ByteArray} {mx' : Nat} {rt' : Option FieldType} {rm : Room} {as' : Array Value} {Q' : Option Value → Heap → Prop} {C : String} (hd : decode bytes pc = .ok (.invokevirtual index, 3))
    (w1 : (Cond.methodLink own index y).before a0 Z = true) (wi : (Cond.instanceMethod y).before a0 Z = true) (ws : (Cond.selects y.cls y y).before a0 Z = true) (wp : (Cond.privateMethod y).before a0 Z = true) (w3 : (Cond.initialized y.cls).before a0 Z = true) (w4 : (Cond.code y by' mx' rt').before a0 Z = true) (hy : y.cls ≠ "java/lang/invoke/MethodHandle" ∧ y.cls ≠ "java/lang/invoke/VarHandle")
    {argsL rest : List Value} (E : Exa Z h a C) (hM : ownMet l [] y by' mx' rt' rm Z n0 as' h Q') (has : as' = (.ref a :: argsL).toArray) (hst : S = argsL.reverse ++ .ref a :: rest) (hsz : Ls.size = mx) (hlen : ∀ sig, parseMethodDescriptor y.desc = some sig → argsL.length = sig.parameters.length)
    {W : Nat} (hW : (rest.map fun v => v.category).sum ≤ W) (hf : rm.frames + 1 ≤ R.frames) (hl : W + (mx' + 11) + rm.locals ≤ R.locals) (hc : cells + rm.cells ≤ R.cells) (hs : slots + rm.slots ≤ R.slots)
    (go : ∀ v T' h', Q' v h' → ownSt p l e R s m args below meth c Z n0 own bytes mx rt nm T' h' (cells + rm.cells) (slots + rm.slots) → ownGo p e m below n0 En Q T' (pc + 3) Ls (v.toList ++ rest)) : ownGo p e m below n0 En Q T pc Ls S := by
  obtain ⟨⟨hx, hZ, hby, hml, hown, hnm, hret, hlk⟩, locs, X, eT, hN⟩ := G
  subst has hst
  obtain ⟨cq, q1, q2⟩ := E.cell
  obtain ⟨v, _, ⟨T', L', k', n'⟩, -, X', ⟨Lc, ⟨hQ, hN'⟩, l', y', z'⟩, st⟩ := X.privateBack hx (y := y) hown (mvT hZ w1) (mvT hZ wi) (mvT hZ ws) (Cond.privateMethod_at (mvP hZ wp (args := #[]))) (mvT hZ w4) hy (backOf (W := W) (Q := fun v h L => Q' v h ∧ Fr n0 L) hM hZ w4 w3 hf hl) (g := mkF m pc Ls (argsL.reverse ++ .ref a :: rest)) rfl (hsz.trans hml.symm) (Steps.refl _) (a := a) (by rw [eT]; exact q1) q2 (argsL := argsL) (rest := rest) hlen rfl (by show 2 * 0 + _ ≤ _; omega) (hb hby hd) (fun _ _ => ⟨rfl, eT, hc, hs⟩)
  dsimp only [Pt.U, Pt.locs, Pt.cells, Pt.slots] at X' l' y' z' st hQ
  subst l' y' z'
  exact ownGo.step (fun t k => st.trans k) (go v T' T'.heap hQ ⟨⟨hx, hZ, hby, hml, hown, hnm, hret, hlk⟩, _, X', rfl, Fr.app hN hN'⟩)
theorem own_more (G : ownSt p l e R s m args below meth c Z n0 own bytes mx rt nm T h cells slots) {k n' : Nat} (hc : cells ≤ k) (hs : slots ≤ n') : ownSt p l e R s m args below meth c Z n0 own bytes mx rt nm T h k n' := by
  obtain ⟨⟨hx, hZ, hby, hml, hown, hnm, hret, hlk⟩, locs, X, eT, hN⟩ := G
  exact ⟨⟨hx, hZ, hby, hml, hown, hnm, hret, hlk⟩, locs, X.more hc hs, eT, hN⟩
end Own
def ownUpd {α : Type} (f : Nat → α) (i : Nat) (v : α) (j : Nat) : α := if j = i then v else f j
theorem ownArr.setL {Z : State} {h h' : Heap} {a : Addr} {n i : Nat} {f : Nat → Int64} {v : Int64} (A : ownArr Z h a .long n (fun j => .long (f j))) (W : Wr h h' a i (.long v)) : ownArr Z h' a .long n (fun j => .long (ownUpd f i v j)) :=
  (A.same W).congr fun j _ => by unfold ownUpd; by_cases q : j = i <;> simp [q]
theorem ownArr.setI {Z : State} {h h' : Heap} {a : Addr} {n i : Nat} {f : Nat → Int32} {v : Int32} (A : ownArr Z h a .int n (fun j => .int (f j))) (W : Wr h h' a i (.int v)) : ownArr Z h' a .int n (fun j => .int (ownUpd f i v j)) :=
  (A.same W).congr fun j _ => by unfold ownUpd; by_cases q : j = i <;> simp [q]
theorem ownArr.setN {Z : State} {h h' : Heap} {a : Addr} {n i : Nat} {f : Nat → Nat} {v : Nat} (A : ownArr Z h a .int n (fun j => .int (Int32.ofNat (f j)))) (W : Wr h h' a i (.int (Int32.ofNat v))) : ownArr Z h' a .int n (fun j => .int (Int32.ofNat (ownUpd f i v j))) :=
  (A.same W).congr fun j _ => by unfold ownUpd; by_cases q : j = i <;> simp [q]
theorem own_neA {a b : Nat} (h : ¬ @Eq Nat a b) : @Ne Addr a b := h
theorem own_n32 {i : Nat} (hi : i < 2147483648) : (Int32.ofNat i).toInt = (i : Int) := by
  rw [Int32.toInt_ofNat_of_lt (by simpa using hi)]
theorem own_ltN {i n : Nat} (hi : i < 2147483648) (hn : n < 2147483648) : Int32.ofNat i < Int32.ofNat n ↔ i < n := by
  rw [Int32.lt_iff_toInt_lt, own_n32 hi, own_n32 hn]; omega
theorem own_injN {i n : Nat} (hi : i < 2147483648) (hn : n < 2147483648) (h : Int32.ofNat i = Int32.ofNat n) : i = n := by
  have q := congrArg Int32.toInt h; rw [own_n32 hi, own_n32 hn] at q; omega
theorem own_clampN {i : Nat} (hi : i < 2147483648) : (Int32.ofNat i).toNatClampNeg = i := by
  show (Int32.ofNat i).toInt.toNat = i; rw [own_n32 hi]; omega
theorem own_nonneg {i : Nat} (hi : i < 2147483648) : ¬ Int32.ofNat i < 0 := by
  rw [Int32.lt_iff_toInt_lt, own_n32 hi]; show ¬ (i : Int) < 0; omega
theorem own_ixN {i n : Nat} (hi : i < n) (hn : n < 2147483648) : ¬ Int32.ofNat i < 0 ∧ (Int32.ofNat i).toNatClampNeg = i ∧ i < n := ⟨own_nonneg (by omega), own_clampN (by omega), hi⟩
theorem own_succN' (i : Nat) : Int32.ofNat i + 1 = Int32.ofNat (i + 1) := (Int32.ofNat_add i 1).symm
theorem own_predN (i : Nat) : Int32.ofNat (i + 1) - 1 = Int32.ofNat i := by
  rw [← own_succN']; exact Int32.add_sub_cancel _ _
theorem own_decN (i : Nat) : Int32.ofNat i + (-1 : Int32) = Int32.ofNat i - 1 := (Int32.sub_eq_add_neg _ _).symm
theorem own_succN (i : Nat) : Int32.ofNat i + 1 = Int32.ofNat (i + 1) := (Int32.ofNat_add i 1).symm
theorem d1_0 : decode prog_15_method_1_code 0 = .ok (.aload_n 0, 1) := by decide +kernel
theorem d1_1 : decode prog_15_method_1_code 1 = .ok (.invokespecial 1, 3) := by decide +kernel
theorem d1_4 : decode prog_15_method_1_code 4 = .ok (.aload_n 0, 1) := by decide +kernel
theorem d1_5 : decode prog_15_method_1_code 5 = .ok (.iload_n 1, 1) := by decide +kernel
theorem d1_6 : decode prog_15_method_1_code 6 = .ok (.newarray .int, 2) := by decide +kernel
theorem d1_8 : decode prog_15_method_1_code 8 = .ok (.putfield 7, 3) := by decide +kernel
theorem d1_11 : decode prog_15_method_1_code 11 = .ok (.iconst 0, 1) := by decide +kernel
theorem d1_12 : decode prog_15_method_1_code 12 = .ok (.istore_n 2, 1) := by decide +kernel
theorem d1_13 : decode prog_15_method_1_code 13 = .ok (.iload_n 2, 1) := by decide +kernel
theorem d1_14 : decode prog_15_method_1_code 14 = .ok (.iload_n 1, 1) := by decide +kernel
theorem d1_15 : decode prog_15_method_1_code 15 = .ok (.if_icmp .ge 16, 3) := by decide +kernel
theorem d1_18 : decode prog_15_method_1_code 18 = .ok (.aload_n 0, 1) := by decide +kernel
theorem d1_19 : decode prog_15_method_1_code 19 = .ok (.getfield 7, 3) := by decide +kernel
theorem d1_22 : decode prog_15_method_1_code 22 = .ok (.iload_n 2, 1) := by decide +kernel
theorem d1_23 : decode prog_15_method_1_code 23 = .ok (.iload_n 2, 1) := by decide +kernel
theorem d1_24 : decode prog_15_method_1_code 24 = .ok (.iastore, 1) := by decide +kernel
theorem d1_25 : decode prog_15_method_1_code 25 = .ok (.iinc 2 1, 3) := by decide +kernel
theorem d1_28 : decode prog_15_method_1_code 28 = .ok (.goto (-15), 3) := by decide +kernel
theorem d1_31 : decode prog_15_method_1_code 31 = .ok (.return_, 1) := by decide +kernel
theorem d3_0 : decode method_4_code 0 = .ok (.iload_n 2, 1) := by decide +kernel
theorem d3_1 : decode method_4_code 1 = .ok (.sipush 255, 3) := by decide +kernel
theorem d3_4 : decode method_4_code 4 = .ok (.iand, 1) := by decide +kernel
theorem d3_5 : decode method_4_code 5 = .ok (.iload_n 3, 1) := by decide +kernel
theorem d3_6 : decode method_4_code 6 = .ok (.irem, 1) := by decide +kernel
theorem d3_7 : decode method_4_code 7 = .ok (.istore 4, 2) := by decide +kernel
theorem d3_9 : decode method_4_code 9 = .ok (.iload_n 2, 1) := by decide +kernel
theorem d3_10 : decode method_4_code 10 = .ok (.bipush 8, 2) := by decide +kernel
theorem d3_12 : decode method_4_code 12 = .ok (.iushr, 1) := by decide +kernel
theorem d3_13 : decode method_4_code 13 = .ok (.sipush 255, 3) := by decide +kernel
theorem d3_16 : decode method_4_code 16 = .ok (.iand, 1) := by decide +kernel
theorem d3_17 : decode method_4_code 17 = .ok (.iload_n 3, 1) := by decide +kernel
theorem d3_18 : decode method_4_code 18 = .ok (.irem, 1) := by decide +kernel
theorem d3_19 : decode method_4_code 19 = .ok (.istore 5, 2) := by decide +kernel
theorem d3_21 : decode method_4_code 21 = .ok (.aload_n 1, 1) := by decide +kernel
theorem d3_22 : decode method_4_code 22 = .ok (.iload 4, 2) := by decide +kernel
theorem d3_24 : decode method_4_code 24 = .ok (.iaload, 1) := by decide +kernel
theorem d3_25 : decode method_4_code 25 = .ok (.istore 6, 2) := by decide +kernel
theorem d3_27 : decode method_4_code 27 = .ok (.aload_n 1, 1) := by decide +kernel
theorem d3_28 : decode method_4_code 28 = .ok (.iload 5, 2) := by decide +kernel
theorem d3_30 : decode method_4_code 30 = .ok (.iaload, 1) := by decide +kernel
theorem d3_31 : decode method_4_code 31 = .ok (.istore 7, 2) := by decide +kernel
theorem d3_33 : decode method_4_code 33 = .ok (.aload_n 0, 1) := by decide +kernel
theorem d3_34 : decode method_4_code 34 = .ok (.iload 4, 2) := by decide +kernel
theorem d3_36 : decode method_4_code 36 = .ok (.iload 5, 2) := by decide +kernel
theorem d3_38 : decode method_4_code 38 = .ok (.invokevirtual 27, 3) := by decide +kernel
theorem d3_41 : decode method_4_code 41 = .ok (.aload_n 1, 1) := by decide +kernel
theorem d3_42 : decode method_4_code 42 = .ok (.iconst 0, 1) := by decide +kernel
theorem d3_43 : decode method_4_code 43 = .ok (.iaload, 1) := by decide +kernel
theorem d3_44 : decode method_4_code 44 = .ok (.iload 6, 2) := by decide +kernel
theorem d3_46 : decode method_4_code 46 = .ok (.if_icmp .ne 8, 3) := by decide +kernel
theorem d3_49 : decode method_4_code 49 = .ok (.aload_n 1, 1) := by decide +kernel
theorem d3_50 : decode method_4_code 50 = .ok (.iconst 0, 1) := by decide +kernel
theorem d3_51 : decode method_4_code 51 = .ok (.iload 7, 2) := by decide +kernel
theorem d3_53 : decode method_4_code 53 = .ok (.iastore, 1) := by decide +kernel
theorem d3_54 : decode method_4_code 54 = .ok (.aload_n 1, 1) := by decide +kernel
theorem d3_55 : decode method_4_code 55 = .ok (.iconst 1, 1) := by decide +kernel
theorem d3_56 : decode method_4_code 56 = .ok (.iaload, 1) := by decide +kernel
theorem d3_57 : decode method_4_code 57 = .ok (.iload 6, 2) := by decide +kernel
theorem d3_59 : decode method_4_code 59 = .ok (.if_icmp .ne 8, 3) := by decide +kernel
theorem d3_62 : decode method_4_code 62 = .ok (.aload_n 1, 1) := by decide +kernel
theorem d3_63 : decode method_4_code 63 = .ok (.iconst 1, 1) := by decide +kernel
theorem d3_64 : decode method_4_code 64 = .ok (.iload 7, 2) := by decide +kernel
theorem d3_66 : decode method_4_code 66 = .ok (.iastore, 1) := by decide +kernel
theorem d3_67 : decode method_4_code 67 = .ok (.aload_n 1, 1) := by decide +kernel
theorem d3_68 : decode method_4_code 68 = .ok (.iconst 2, 1) := by decide +kernel
theorem d3_69 : decode method_4_code 69 = .ok (.iaload, 1) := by decide +kernel
theorem d3_70 : decode method_4_code 70 = .ok (.iload 6, 2) := by decide +kernel
theorem d3_72 : decode method_4_code 72 = .ok (.if_icmp .ne 8, 3) := by decide +kernel
theorem d3_75 : decode method_4_code 75 = .ok (.aload_n 1, 1) := by decide +kernel
theorem d3_76 : decode method_4_code 76 = .ok (.iconst 2, 1) := by decide +kernel
theorem d3_77 : decode method_4_code 77 = .ok (.iload 7, 2) := by decide +kernel
theorem d3_79 : decode method_4_code 79 = .ok (.iastore, 1) := by decide +kernel
theorem d3_80 : decode method_4_code 80 = .ok (.aload_n 1, 1) := by decide +kernel
theorem d3_81 : decode method_4_code 81 = .ok (.iconst 3, 1) := by decide +kernel
theorem d3_82 : decode method_4_code 82 = .ok (.iaload, 1) := by decide +kernel
theorem d3_83 : decode method_4_code 83 = .ok (.iload 6, 2) := by decide +kernel
theorem d3_85 : decode method_4_code 85 = .ok (.if_icmp .ne 8, 3) := by decide +kernel
theorem d3_88 : decode method_4_code 88 = .ok (.aload_n 1, 1) := by decide +kernel
theorem d3_89 : decode method_4_code 89 = .ok (.iconst 3, 1) := by decide +kernel
theorem d3_90 : decode method_4_code 90 = .ok (.iload 7, 2) := by decide +kernel
theorem d3_92 : decode method_4_code 92 = .ok (.iastore, 1) := by decide +kernel
theorem d3_93 : decode method_4_code 93 = .ok (.return_, 1) := by decide +kernel
theorem d4_0 : decode prog_15_method_3_code 0 = .ok (.aload_n 0, 1) := by decide +kernel
theorem d4_1 : decode prog_15_method_3_code 1 = .ok (.getfield 7, 3) := by decide +kernel
theorem d4_4 : decode prog_15_method_3_code 4 = .ok (.aload_n 0, 1) := by decide +kernel
theorem d4_5 : decode prog_15_method_3_code 5 = .ok (.iload_n 1, 1) := by decide +kernel
theorem d4_6 : decode prog_15_method_3_code 6 = .ok (.invokevirtual 13, 3) := by decide +kernel
theorem d4_9 : decode prog_15_method_3_code 9 = .ok (.aload_n 0, 1) := by decide +kernel
theorem d4_10 : decode prog_15_method_3_code 10 = .ok (.iload_n 2, 1) := by decide +kernel
theorem d4_11 : decode prog_15_method_3_code 11 = .ok (.invokevirtual 13, 3) := by decide +kernel
theorem d4_14 : decode prog_15_method_3_code 14 = .ok (.iastore, 1) := by decide +kernel
theorem d4_15 : decode prog_15_method_3_code 15 = .ok (.return_, 1) := by decide +kernel
theorem d5_0 : decode prog_15_method_2_code 0 = .ok (.aload_n 0, 1) := by decide +kernel
theorem d5_1 : decode prog_15_method_2_code 1 = .ok (.getfield 7, 3) := by decide +kernel
theorem d5_4 : decode prog_15_method_2_code 4 = .ok (.iload_n 1, 1) := by decide +kernel
theorem d5_5 : decode prog_15_method_2_code 5 = .ok (.iaload, 1) := by decide +kernel
theorem d5_6 : decode prog_15_method_2_code 6 = .ok (.iload_n 1, 1) := by decide +kernel
theorem d5_7 : decode prog_15_method_2_code 7 = .ok (.if_icmp .eq 30, 3) := by decide +kernel
theorem d5_10 : decode prog_15_method_2_code 10 = .ok (.aload_n 0, 1) := by decide +kernel
theorem d5_11 : decode prog_15_method_2_code 11 = .ok (.getfield 7, 3) := by decide +kernel
theorem d5_14 : decode prog_15_method_2_code 14 = .ok (.iload_n 1, 1) := by decide +kernel
theorem d5_15 : decode prog_15_method_2_code 15 = .ok (.aload_n 0, 1) := by decide +kernel
theorem d5_16 : decode prog_15_method_2_code 16 = .ok (.getfield 7, 3) := by decide +kernel
theorem d5_19 : decode prog_15_method_2_code 19 = .ok (.aload_n 0, 1) := by decide +kernel
theorem d5_20 : decode prog_15_method_2_code 20 = .ok (.getfield 7, 3) := by decide +kernel
theorem d5_23 : decode prog_15_method_2_code 23 = .ok (.iload_n 1, 1) := by decide +kernel
theorem d5_24 : decode prog_15_method_2_code 24 = .ok (.iaload, 1) := by decide +kernel
theorem d5_25 : decode prog_15_method_2_code 25 = .ok (.iaload, 1) := by decide +kernel
theorem d5_26 : decode prog_15_method_2_code 26 = .ok (.iastore, 1) := by decide +kernel
theorem d5_27 : decode prog_15_method_2_code 27 = .ok (.aload_n 0, 1) := by decide +kernel
theorem d5_28 : decode prog_15_method_2_code 28 = .ok (.getfield 7, 3) := by decide +kernel
theorem d5_31 : decode prog_15_method_2_code 31 = .ok (.iload_n 1, 1) := by decide +kernel
theorem d5_32 : decode prog_15_method_2_code 32 = .ok (.iaload, 1) := by decide +kernel
theorem d5_33 : decode prog_15_method_2_code 33 = .ok (.istore_n 1, 1) := by decide +kernel
theorem d5_34 : decode prog_15_method_2_code 34 = .ok (.goto (-34), 3) := by decide +kernel
theorem d5_37 : decode prog_15_method_2_code 37 = .ok (.iload_n 1, 1) := by decide +kernel
theorem d5_38 : decode prog_15_method_2_code 38 = .ok (.ireturn, 1) := by decide +kernel
theorem d6_0 : decode method_3_code 0 = .ok (.iload_n 2, 1) := by decide +kernel
theorem d6_1 : decode method_3_code 1 = .ok (.iload_n 3, 1) := by decide +kernel
theorem d6_2 : decode method_3_code 2 = .ok (.if_icmp .lt 5, 3) := by decide +kernel
theorem d6_5 : decode method_3_code 5 = .ok (.iconst 1, 1) := by decide +kernel
theorem d6_6 : decode method_3_code 6 = .ok (.ireturn, 1) := by decide +kernel
theorem d6_7 : decode method_3_code 7 = .ok (.aload_n 0, 1) := by decide +kernel
theorem d6_8 : decode method_3_code 8 = .ok (.iload_n 2, 1) := by decide +kernel
theorem d6_9 : decode method_3_code 9 = .ok (.invokevirtual 23, 3) := by decide +kernel
theorem d6_12 : decode method_3_code 12 = .ok (.aload_n 1, 1) := by decide +kernel
theorem d6_13 : decode method_3_code 13 = .ok (.iload_n 2, 1) := by decide +kernel
theorem d6_14 : decode method_3_code 14 = .ok (.iaload, 1) := by decide +kernel
theorem d6_15 : decode method_3_code 15 = .ok (.if_icmp .ne 7, 3) := by decide +kernel
theorem d6_18 : decode method_3_code 18 = .ok (.iconst 1, 1) := by decide +kernel
theorem d6_19 : decode method_3_code 19 = .ok (.goto 4, 3) := by decide +kernel
theorem d6_23 : decode method_3_code 23 = .ok (.ireturn, 1) := by decide +kernel
theorem pd_0 : parseMethodDescriptor "(I)I" = some ⟨[.int], some .int⟩ := by decide +kernel
theorem pd_1 : parseMethodDescriptor "(II)V" = some ⟨[.int, .int], none⟩ := by decide +kernel
theorem pd_2 : parseMethodDescriptor "(I)V" = some ⟨[.int], none⟩ := by decide +kernel
theorem pd_3 : parseMethodDescriptor "(Lcom/example/resguardo/resguardo/DisjointSets;[III)V" = some ⟨[(.object "com/example/resguardo/resguardo/DisjointSets"), (.array .int), .int, .int], none⟩ := by decide +kernel
theorem pd_4 : parseMethodDescriptor "(Lcom/example/resguardo/resguardo/DisjointSets;[III)Z" = some ⟨[(.object "com/example/resguardo/resguardo/DisjointSets"), (.array .int), .int, .int], some .boolean⟩ := by decide +kernel
def ownUF (n : Nat) (p R d : Nat → Nat) : Prop := ∀ i, i < n → p i < n ∧ R i < n ∧ p (R i) = R i ∧ R (p i) = R i ∧ (p i = i → R i = i) ∧ (p i ≠ i → d (p i) < d i)
theorem own_halve {n : Nat} {p R d : Nat → Nat} (U : ownUF n p R d) {x : Nat} (hx : x < n) : ownUF n (ownUpd p x (p (p x))) R d ∧ (p x ≠ x → d (p (p x)) < d x) ∧ R (p (p x)) = R x ∧ p (p x) < n := by
  obtain ⟨x1, x2, x3, x4, x5, x6⟩ := U x hx
  obtain ⟨y1, y2, y3, y4, y5, y6⟩ := U (p x) x1
  have hd : p x ≠ x → d (p (p x)) < d x := fun q => by
    have := x6 q
    by_cases r : p (p x) = p x
    · rw [r]; exact this
    · have := y6 r; omega
  refine ⟨fun i hi => ?_, hd, by rw [y4, x4], y1⟩
  obtain ⟨z1, z2, z3, z4, z5, z6⟩ := U i hi
  have hR : ownUpd p x (p (p x)) (R i) = R i := by
    unfold ownUpd
    by_cases q : R i = x
    · rw [if_pos q]
      have r : p x = x := by rw [← q]; exact z3
      rw [r, r, q]
    · rw [if_neg q]; exact z3
  by_cases q : i = x
  · subst q
    have e : ownUpd p i (p (p i)) i = p (p i) := by unfold ownUpd; simp
    refine ⟨by rw [e]; exact y1, z2, hR, by rw [e, y4, x4], fun r => ?_, fun r => ?_⟩
    · rw [e] at r
      by_cases u : p i = i
      · exact z5 u
      · have := hd u; rw [r] at this; omega
    · rw [e] at r ⊢
      exact hd fun u => r (by rw [u, u])
  · have e : ownUpd p x (p (p x)) i = p i := by unfold ownUpd; simp [q]
    rw [e]; exact ⟨z1, z2, hR, z4, z5, z6⟩
def ownJ (R : Nat → Nat) (a b : Nat) (i : Nat) : Nat := if R i = R a then R b else R i
theorem own_joinUF {n : Nat} {p R d : Nat → Nat} (U : ownUF n p R d) {a b : Nat} (ha : a < n) (hb : b < n) : ∃ d', ownUF n (ownUpd p (R a) (R b)) (ownJ R a b) d' := by
  obtain ⟨a1, a2, a3, a4, a5, a6⟩ := U a ha
  obtain ⟨b1, b2, b3, b4, b5, b6⟩ := U b hb
  have ra := (U (R a) a2).2.2.2.2.1 a3
  have rb := (U (R b) b2).2.2.2.2.1 b3
  by_cases e : R a = R b
  · have e1 : ∀ i, ownUpd p (R a) (R b) i = p i := fun i => by
      unfold ownUpd
      by_cases q : i = R a
      · rw [if_pos q, q, a3, e]
      · rw [if_neg q]
    have e2 : ∀ i, ownJ R a b i = R i := fun i => by
      unfold ownJ
      by_cases q : R i = R a
      · rw [if_pos q, q, e]
      · rw [if_neg q]
    refine ⟨d, fun i hi => ?_⟩
    simp only [e1, e2]; exact U i hi
  · refine ⟨fun i => if R i = R a then d i + d (R b) + 1 else d i, fun i hi => ?_⟩
    obtain ⟨z1, z2, z3, z4, z5, z6⟩ := U i hi
    have rne : R (R b) ≠ R a := by rw [rb]; exact fun q => e q.symm
    have hJ : ownJ R a b i < n := by unfold ownJ; by_cases q : R i = R a <;> simp [q, b2, z2]
    have hpJ : ownUpd p (R a) (R b) (ownJ R a b i) = ownJ R a b i := by
      unfold ownJ ownUpd
      by_cases q : R i = R a
      · rw [if_pos q, if_neg (fun r => e r.symm)]; exact b3
      · rw [if_neg q, if_neg q]; exact z3
    by_cases q : i = R a
    · subst q
      have ep : ownUpd p (R a) (R b) (R a) = R b := by unfold ownUpd; simp
      have eJ : ownJ R a b (R a) = R b := by unfold ownJ; simp [ra]
      have eJb : ownJ R a b (R b) = R b := by unfold ownJ; rw [rb]; by_cases q : R b = R a <;> simp [q]
      refine ⟨by rw [ep]; exact b2, hJ, hpJ, by rw [ep, eJ, eJb], fun r => ?_, fun _ => ?_⟩
      · rw [ep] at r; exact absurd r.symm e
      · rw [ep]; simp only [ra, if_neg rne, if_true]; omega
    · have ep : ownUpd p (R a) (R b) i = p i := by unfold ownUpd; simp [q]
      have eJ : ownJ R a b (p i) = ownJ R a b i := by unfold ownJ; rw [z4]
      refine ⟨by rw [ep]; exact z1, hJ, hpJ, by rw [ep, eJ], fun r => ?_, fun r => ?_⟩
      · rw [ep] at r
        have := z5 r
        unfold ownJ; rw [this, if_neg q]
      · rw [ep] at r ⊢
        have := z6 r
        show (if R (p i) = R a then d (p i) + d (R b) + 1 else d (p i)) < (if R i = R a then d i + d (R b) + 1 else d i)
        rw [z4]
        by_cases u : R i = R a
        · rw [if_pos u, if_pos u]; omega
        · rw [if_neg u, if_neg u]; exact this
def ownV (Z : State) (h : Heap) (ds pa : Addr) (n : Nat) (R : Nat → Nat) : Prop := ∃ p d, ownUF n p R d ∧ Exa Z h ds "com/example/resguardo/resguardo/DisjointSets" ∧ Fld Z h ds "com/example/resguardo/resguardo/DisjointSets" "parent" "[I" (.ref pa) ∧ ownArr Z h pa .int n (fun j => .int (Int32.ofNat (p j)))
theorem ownV.exa {Z : State} {h : Heap} {ds pa : Addr} {n : Nat} {R : Nat → Nat} (V : ownV Z h ds pa n R) : Exa Z h ds "com/example/resguardo/resguardo/DisjointSets" := by obtain ⟨_, _, _, E, _⟩ := V; exact E
theorem ownV.keep {Z : State} {h h' : Heap} {ds pa : Addr} {n : Nat} {R : Nat → Nat} {ws : List Addr} (V : ownV Z h ds pa n R) (K : Keep h h' ws) (q1 : ds ∉ ws) (q2 : pa ∉ ws) : ownV Z h' ds pa n R := by
  obtain ⟨p, d, U, E, F, A⟩ := V; exact ⟨p, d, U, E.keep K, F.keep K q1, A.keep K q2⟩
theorem own_remN (x : Int32) {n : Nat} (h1 : 1 ≤ n) (h4 : n ≤ 4) (hx : 0 ≤ x.toInt) : ∃ A, A < n ∧ (x % Int32.ofNat n) = Int32.ofNat A := by
  have e : (Int32.ofNat n).toInt = (n : Int) := own_n32 (by omega)
  have h2 : (x % Int32.ofNat n).toInt = x.toInt.tmod (Int32.ofNat n).toInt := Int32.toInt_mod _ _
  rw [Int.tmod_eq_emod_of_nonneg hx, e] at h2
  have h3 : 0 ≤ x.toInt % (n : Int) := Int.emod_nonneg _ (by omega)
  have h5 : x.toInt % (n : Int) < n := Int.emod_lt_of_pos _ (by omega)
  refine ⟨(x % Int32.ofNat n).toInt.toNat, by omega, ?_⟩
  apply Int32.toInt_inj.mp
  rw [own_n32 (by omega)]; omega
theorem own_m255 (x : Int32) : 0 ≤ (x &&& (255 : Int32)).toInt := by
  have h1 : (x &&& (255 : Int32)).toInt = x.toInt % 2 ^ 8 := Jvm.Kit.i32_mask x 255 (k := 8) (by decide) (by decide)
  omega
theorem own_m31 (x : Int32) : 0 ≤ (x &&& (2147483647 : Int32)).toInt := by
  have h1 : (x &&& (2147483647 : Int32)).toInt = x.toInt % 2 ^ 31 := Jvm.Kit.i32_mask x 2147483647 (k := 31) (by decide) (by decide)
  omega
theorem own_m3 (x : Int32) : ∃ n, 1 ≤ n ∧ n ≤ 4 ∧ ((x &&& (3 : Int32)) + (1 : Int32)) = Int32.ofNat n := by
  have h1 : (x &&& (3 : Int32)).toInt = x.toInt % 2 ^ 2 := Jvm.Kit.i32_mask x 3 (k := 2) (by decide) (by decide)
  have h2 : ((x &&& (3 : Int32)) + (1 : Int32)).toInt = (x &&& (3 : Int32)).toInt + 1 := Jvm.Kit.i32_add (by show _ ≤ _ + (1 : Int); omega) (by show _ + (1 : Int) < _; omega)
  refine ⟨((x &&& (3 : Int32)) + (1 : Int32)).toInt.toNat, by omega, by omega, ?_⟩
  apply Int32.toInt_inj.mp
  rw [own_n32 (by omega)]; omega
theorem own_nz {n : Nat} (h1 : 1 ≤ n) (h4 : n ≤ 4) : Int32.ofNat n ≠ 0 := fun q => by
  have := own_injN (i := n) (n := 0) (by omega) (by decide) q; omega
def ownLab (R : Nat → Nat) (a b i j : Nat) : Nat := if j < i then ownJ R a b j else R j
theorem ownLab_at (R : Nat → Nat) (a b i : Nat) : ownLab R a b i i = R i := by unfold ownLab; simp
theorem ownLab_hit {Z : State} {h h' : Heap} {lb : Addr} {R : Nat → Nat} {a b i : Nat} (A : ownArr Z h lb .int 4 (fun j => .int (Int32.ofNat (ownLab R a b i j)))) (W : Wr h h' lb i (.int (Int32.ofNat (R b)))) (q : R i = R a) : ownArr Z h' lb .int 4 (fun j => .int (Int32.ofNat (ownLab R a b (i + 1) j))) :=
  (A.setN W).congr fun j _ => by
    congr 2
    unfold ownUpd ownLab
    by_cases r : j = i
    · subst r; simp [ownJ, q]
    · by_cases u : j < i
      · simp [r, u, show j < i + 1 by omega]
      · simp [r, u, show ¬ j < i + 1 by omega]
theorem ownLab_miss {Z : State} {h : Heap} {lb : Addr} {R : Nat → Nat} {a b i : Nat} (A : ownArr Z h lb .int 4 (fun j => .int (Int32.ofNat (ownLab R a b i j)))) (q : ¬ R i = R a) : ownArr Z h lb .int 4 (fun j => .int (Int32.ofNat (ownLab R a b (i + 1) j))) :=
  A.congr fun j _ => by
    congr 2
    unfold ownLab
    by_cases r : j = i
    · subst r; simp [ownJ, q]
    · by_cases u : j < i
      · simp [u, show j < i + 1 by omega]
      · simp [u, show ¬ j < i + 1 by omega]
theorem pn_rmNew : plainFor (⟨"com/example/resguardo/resguardo/DisjointSets", "<init>", "(I)V"⟩ : MethodName) = true := plainFor_of_name (by first | (simp [plainName, overriddenIn]; done) | decide +kernel)
theorem ef_rmNew (m : MethodId) (ds : Addr) (p1 : Int32) : entryFrame m #[(.ref ds), (.int p1)] 3 = mkF m 0 #[.val (.ref ds), .val (.int p1), .unset] [] := by first | (simp [entryFrame, mkF, argsToLocals, Value.category]; done) | rfl
set_option maxRecDepth 65536 in
set_option maxHeartbeats 40000000 in
theorem rmNew (l : Launch) (Z : State) (a0 : Array Value) (hw : ∀ d ∈ tables_1, d.before a0 Z = true) (ds : Addr) (p1 : Int32) (n : Nat) (h0 : Heap) (n0 : Nat) (Z0 : n0 ≤ h0.size) (E : Exa Z h0 ds "com/example/resguardo/resguardo/DisjointSets") (F : Fld Z h0 ds "com/example/resguardo/resguardo/DisjointSets" "parent" "[I" .null) (g : n0 ≤ ds) (h1 : 1 ≤ n) (h4 : n ≤ 4) (e1 : p1 = Int32.ofNat n) :
    ownMet l [] (⟨"com/example/resguardo/resguardo/DisjointSets", "<init>", "(I)V"⟩ : MethodName) prog_15_method_1_code 3 none ({ frames := 1, cells := 1, slots := 4, locals := 12 } : Room) Z n0 #[(.ref ds), (.int p1)] h0 (fun v h => ∃ pa, v = none ∧ h0.size ≤ pa ∧ pa < h.size ∧ Keep h0 h [ds] ∧ Exa Z h ds "com/example/resguardo/resguardo/DisjointSets" ∧ Fld Z h ds "com/example/resguardo/resguardo/DisjointSets" "parent" "[I" (.ref pa) ∧ ownArr Z h pa .int n (fun j => .int (Int32.ofNat j))) := by
  refine own_body (own := "com/example/resguardo/resguardo/DisjointSets") (nm := "<init>") pn_rmNew (fun m => ef_rmNew m ds p1) rfl rfl ?_
  intro p e s m below meth c T0 G0
  show ownGo _ _ _ _ _ _ _ T0 0 #[.val (.ref ds), .val (.int p1), .unset] []
  subst e1
  show ownGo _ _ _ _ _ _ _ T0 0 #[.val (.ref ds), .val (.int (Int32.ofNat n)), .unset] []
  refine own_aloadN G0 d1_0 rfl rfl ?_
  show ownGo _ _ _ _ _ _ _ T0 1 #[.val (.ref ds), .val (.int (Int32.ofNat n)), .unset] [(.ref ds)]
  refine own_initO G0 d1_1 (hw _ (List.mem_of_getElem? (i := 7) rfl)) (hw _ (List.mem_of_getElem? (i := 8) rfl)) (hw _ (List.mem_of_getElem? (i := 9) rfl)) rfl (by decide) (W := 0) (Nat.le_of_eq rfl) (by decide) ?_
  intro T1 G1
  show ownGo _ _ _ _ _ _ _ T1 4 #[.val (.ref ds), .val (.int (Int32.ofNat n)), .unset] []
  refine own_aloadN G1 d1_4 rfl rfl ?_
  show ownGo _ _ _ _ _ _ _ T1 5 #[.val (.ref ds), .val (.int (Int32.ofNat n)), .unset] [(.ref ds)]
  refine own_iloadN G1 d1_5 rfl ?_
  show ownGo _ _ _ _ _ _ _ T1 6 #[.val (.ref ds), .val (.int (Int32.ofNat n)), .unset] [(.int (Int32.ofNat n)), (.ref ds)]
  refine own_newarr G1 d1_6 (hw _ (List.mem_of_getElem? (i := 0) rfl)) (own_nonneg (by omega)) (k := n) (cap := 4) (own_clampN (by omega)) h4 (by decide) (by decide) (by decide) ?_
  intro T2 h2 b2 g2 E2 A2 G2
  replace A2 : ownArr Z h2 b2 .int n (fun _ => .int 0) := A2
  show ownGo _ _ _ _ _ _ _ T2 8 #[.val (.ref ds), .val (.int (Int32.ofNat n)), .unset] [(.ref b2), (.ref ds)]
  have ne : ds ≠ b2 := Nat.ne_of_lt (Nat.lt_of_lt_of_le E.lt (Nat.le_of_eq g2.symm))
  have sp : h0.size ≤ b2 := Nat.le_of_eq g2.symm
  have fp : n0 ≤ b2 := Nat.le_trans Z0 sp
  have K : Keep h0 h2 [ds] := (Keep.refl h0 [ds]).ext E2
  refine own_putF G2 d1_8 (hw _ (List.mem_of_getElem? (i := 10) rfl)) Via.refl (F.ext E2) (E.ext E2) (Or.inr ⟨(hw _ (List.mem_of_getElem? (i := 11) rfl)), rfl, rfl⟩) (hw _ (List.mem_of_getElem? (i := 2) rfl)) (ty := (.array .int)) (by decide) rfl rfl g ?_
  intro T3 h3 W3 G3
  show ownGo _ _ _ _ _ _ _ T3 11 #[.val (.ref ds), .val (.int (Int32.ofNat n)), .unset] []
  replace K := K.wr W3 (Or.inl (List.mem_singleton.mpr rfl))
  have F' := (F.ext E2).same W3
  have E' := (E.ext E2).wr W3
  replace A2 := A2.other W3 ne.symm
  replace A2 : ownArr Z h3 b2 .int n (fun j => .int (Int32.ofNat (if j < 0 then j else 0))) := A2.congr fun j _ => by simp
  have loop : ∀ k i, i + k = n → ∀ (T : State) (h : Heap), ownSt p l e ({ frames := 1, cells := 1, slots := 4, locals := 12 } : Room) s m #[(.ref ds), (.int (Int32.ofNat n))] below meth c Z n0 "com/example/resguardo/resguardo/DisjointSets" prog_15_method_1_code 3 none "<init>" T h (0 + 1) (0 + 4) → Keep h0 h [ds] → Exa Z h ds "com/example/resguardo/resguardo/DisjointSets" → Fld Z h ds "com/example/resguardo/resguardo/DisjointSets" "parent" "[I" (.ref b2) → ownArr Z h b2 .int n (fun j => .int (Int32.ofNat (if j < i then j else 0))) → ownGo p e m below n0 (ownEnd s ({ frames := 1, cells := 1, slots := 4, locals := 12 } : Room)) (fun v h => ∃ pa, v = none ∧ h0.size ≤ pa ∧ pa < h.size ∧ Keep h0 h [ds] ∧ Exa Z h ds "com/example/resguardo/resguardo/DisjointSets" ∧ Fld Z h ds "com/example/resguardo/resguardo/DisjointSets" "parent" "[I" (.ref pa) ∧ ownArr Z h pa .int n (fun j => .int (Int32.ofNat j))) T 13 #[.val (.ref ds), .val (.int (Int32.ofNat n)), .val (.int (Int32.ofNat i))] [] := by
    intro k
    induction k with
    | zero =>
      intro i hi T h G K E F A
      show ownGo _ _ _ _ _ _ _ T 13 #[.val (.ref ds), .val (.int (Int32.ofNat n)), .val (.int (Int32.ofNat i))] []
      refine own_iloadN G d1_13 rfl ?_
      show ownGo _ _ _ _ _ _ _ T 14 #[.val (.ref ds), .val (.int (Int32.ofNat n)), .val (.int (Int32.ofNat i))] [(.int (Int32.ofNat i))]
      refine own_iloadN G d1_14 rfl ?_
      show ownGo _ _ _ _ _ _ _ T 15 #[.val (.ref ds), .val (.int (Int32.ofNat n)), .val (.int (Int32.ofNat i))] [(.int (Int32.ofNat n)), (.int (Int32.ofNat i))]
      refine own_icmp_ge G d1_15 (pc' := 31) (by decide) (by decide) (fun hc => ?_) (fun hc => False.elim (absurd ((own_ltN (by omega) (by omega)).mp hc) (by omega)))
      show ownGo _ _ _ _ _ _ _ T 31 #[.val (.ref ds), .val (.int (Int32.ofNat n)), .val (.int (Int32.ofNat i))] []
      exact own_ret G d1_31 rfl (by decide) (by decide) ⟨b2, rfl, sp, A.lt, K, E, F, A.congr fun j hj => by rw [if_pos (by omega)]⟩
    | succ k ih =>
      intro i hi T h G K E F A
      show ownGo _ _ _ _ _ _ _ T 13 #[.val (.ref ds), .val (.int (Int32.ofNat n)), .val (.int (Int32.ofNat i))] []
      refine own_iloadN G d1_13 rfl ?_
      show ownGo _ _ _ _ _ _ _ T 14 #[.val (.ref ds), .val (.int (Int32.ofNat n)), .val (.int (Int32.ofNat i))] [(.int (Int32.ofNat i))]
      refine own_iloadN G d1_14 rfl ?_
      show ownGo _ _ _ _ _ _ _ T 15 #[.val (.ref ds), .val (.int (Int32.ofNat n)), .val (.int (Int32.ofNat i))] [(.int (Int32.ofNat n)), (.int (Int32.ofNat i))]
      refine own_icmp_ge G d1_15 (pc' := 31) (by decide) (by decide) (fun hc => False.elim (hc ((own_ltN (by omega) (by omega)).mpr (by omega)))) (fun hc => ?_)
      show ownGo _ _ _ _ _ _ _ T 18 #[.val (.ref ds), .val (.int (Int32.ofNat n)), .val (.int (Int32.ofNat i))] []
      refine own_aloadN G d1_18 rfl rfl ?_
      show ownGo _ _ _ _ _ _ _ T 19 #[.val (.ref ds), .val (.int (Int32.ofNat n)), .val (.int (Int32.ofNat i))] [(.ref ds)]
      refine own_getF G d1_19 (hw _ (List.mem_of_getElem? (i := 10) rfl)) Via.refl F ?_
      intro T4 G4
      show ownGo _ _ _ _ _ _ _ T4 22 #[.val (.ref ds), .val (.int (Int32.ofNat n)), .val (.int (Int32.ofNat i))] [(.ref b2)]
      refine own_iloadN G4 d1_22 rfl ?_
      show ownGo _ _ _ _ _ _ _ T4 23 #[.val (.ref ds), .val (.int (Int32.ofNat n)), .val (.int (Int32.ofNat i))] [(.int (Int32.ofNat i)), (.ref b2)]
      refine own_iloadN G4 d1_23 rfl ?_
      show ownGo _ _ _ _ _ _ _ T4 24 #[.val (.ref ds), .val (.int (Int32.ofNat n)), .val (.int (Int32.ofNat i))] [(.int (Int32.ofNat i)), (.int (Int32.ofNat i)), (.ref b2)]
      refine own_iastore G4 d1_24 A  (own_ixN (by omega) (by omega)) fp ?_
      intro T5 h5 W5 G5
      show ownGo _ _ _ _ _ _ _ T5 25 #[.val (.ref ds), .val (.int (Int32.ofNat n)), .val (.int (Int32.ofNat i))] []
      refine own_iinc G5 d1_25 (L' := #[.val (.ref ds), .val (.int (Int32.ofNat n)), .val (.int ((Int32.ofNat i) + (1 : Int32)))]) rfl rfl ?_
      show ownGo _ _ _ _ _ _ _ T5 28 #[.val (.ref ds), .val (.int (Int32.ofNat n)), .val (.int ((Int32.ofNat i) + (1 : Int32)))] []
      refine own_goto G5 d1_28 (pc' := 13) (by decide) (by decide) ?_
      show ownGo _ _ _ _ _ _ _ T5 13 #[.val (.ref ds), .val (.int (Int32.ofNat n)), .val (.int ((Int32.ofNat i) + (1 : Int32)))] []
      rw [own_succN]
      refine ih (i + 1) (by omega) _ _ G5 (K.wr W5 (Or.inr sp)) (E.wr W5) (F.other W5 (Or.inl ne)) ((A.setN W5).congr fun j hj => ?_)
      congr 2
      unfold ownUpd
      by_cases r : j = i
      · subst r; simp
      · by_cases u : j < i
        · simp [r, u, show j < i + 1 by omega]
        · simp [r, u, show ¬ j < i + 1 by omega]
  refine own_iconst G3 d1_11 ?_
  show ownGo _ _ _ _ _ _ _ T3 12 #[.val (.ref ds), .val (.int (Int32.ofNat n)), .unset] [(.int (0 : Int32))]
  refine own_istoreN G3 d1_12 (L' := #[.val (.ref ds), .val (.int (Int32.ofNat n)), .val (.int (0 : Int32))]) rfl ?_
  show ownGo _ _ _ _ _ _ _ T3 13 #[.val (.ref ds), .val (.int (Int32.ofNat n)), .val (.int (0 : Int32))] []
  exact loop n 0 (by omega) _ _ G3 K E' F' A2
theorem pn_rmFind : plainFor (⟨"com/example/resguardo/resguardo/DisjointSets", "find", "(I)I"⟩ : MethodName) = true := plainFor_of_name (by first | (simp [plainName, overriddenIn]; done) | decide +kernel)
theorem ef_rmFind (m : MethodId) (ds : Addr) (p1 : Int32) : entryFrame m #[(.ref ds), (.int p1)] 2 = mkF m 0 #[.val (.ref ds), .val (.int p1)] [] := by first | (simp [entryFrame, mkF, argsToLocals, Value.category]; done) | rfl
set_option maxRecDepth 65536 in
set_option maxHeartbeats 40000000 in
theorem rmFind (l : Launch) (Z : State) (a0 : Array Value) (hw : ∀ d ∈ tables_1, d.before a0 Z = true) (ds : Addr) (p1 : Int32) (pa : Addr) (n x0 : Nat) (R : Nat → Nat) (h0 : Heap) (n0 : Nat) (Z0 : n0 ≤ h0.size) (V0 : ownV Z h0 ds pa n R) (hx0 : x0 < n) (h4 : n ≤ 4) (ne : ds ≠ pa) (fp : n0 ≤ pa) (e1 : p1 = Int32.ofNat x0) :
    ownMet l [] (⟨"com/example/resguardo/resguardo/DisjointSets", "find", "(I)I"⟩ : MethodName) prog_15_method_2_code 2 (some .int) ({ frames := 0, cells := 0, slots := 0, locals := 0 } : Room) Z n0 #[(.ref ds), (.int p1)] h0 (fun v h => v = some (.int (Int32.ofNat (R x0))) ∧ Keep h0 h [pa] ∧ ownV Z h ds pa n R) := by
  refine own_body (own := "com/example/resguardo/resguardo/DisjointSets") (nm := "find") pn_rmFind (fun m => ef_rmFind m ds p1) rfl rfl ?_
  intro p e s m below meth c T0 G0
  show ownGo _ _ _ _ _ _ _ T0 0 #[.val (.ref ds), .val (.int p1)] []
  subst e1
  show ownGo _ _ _ _ _ _ _ T0 0 #[.val (.ref ds), .val (.int (Int32.ofNat x0))] []
  obtain ⟨p0, d, U0, E0, F0, A0⟩ := V0
  have loop : ∀ (k x : Nat) (pr : Nat → Nat), x < n → d x < k → R x = R x0 → ownUF n pr R d → ∀ (T : State) (h : Heap), ownSt p l e ({ frames := 0, cells := 0, slots := 0, locals := 0 } : Room) s m #[(.ref ds), (.int (Int32.ofNat x0))] below meth c Z n0 "com/example/resguardo/resguardo/DisjointSets" prog_15_method_2_code 2 (some .int) "find" T h 0 0 → Keep h0 h [pa] → Exa Z h ds "com/example/resguardo/resguardo/DisjointSets" → Fld Z h ds "com/example/resguardo/resguardo/DisjointSets" "parent" "[I" (.ref pa) → ownArr Z h pa .int n (fun j => .int (Int32.ofNat (pr j))) → ownGo p e m below n0 (ownEnd s ({ frames := 0, cells := 0, slots := 0, locals := 0 } : Room)) (fun v h => v = some (.int (Int32.ofNat (R x0))) ∧ Keep h0 h [pa] ∧ ownV Z h ds pa n R) T 0 #[.val (.ref ds), .val (.int (Int32.ofNat x))] [] := by
    intro k
    induction k with
    | zero =>
      intro x pr hx hd
      exact absurd hd (Nat.not_lt_zero _)
    | succ k ih =>
      intro x pr hx hd hR U T h G K E F A
      obtain ⟨x1, x2, x3, x4, x5, x6⟩ := U x hx
      obtain ⟨U', hd', hR', hx'⟩ := own_halve U hx
      show ownGo _ _ _ _ _ _ _ T 0 #[.val (.ref ds), .val (.int (Int32.ofNat x))] []
      refine own_aloadN G d5_0 rfl rfl ?_
      show ownGo _ _ _ _ _ _ _ T 1 #[.val (.ref ds), .val (.int (Int32.ofNat x))] [(.ref ds)]
      refine own_getF G d5_1 (hw _ (List.mem_of_getElem? (i := 10) rfl)) Via.refl F ?_
      intro T6 G6
      show ownGo _ _ _ _ _ _ _ T6 4 #[.val (.ref ds), .val (.int (Int32.ofNat x))] [(.ref pa)]
      refine own_iloadN G6 d5_4 rfl ?_
      show ownGo _ _ _ _ _ _ _ T6 5 #[.val (.ref ds), .val (.int (Int32.ofNat x))] [(.int (Int32.ofNat x)), (.ref pa)]
      refine own_iaload G6 d5_5 (v := (.int (Int32.ofNat (pr x)))) A  (own_ixN hx (by omega)) rfl ?_
      show ownGo _ _ _ _ _ _ _ T6 6 #[.val (.ref ds), .val (.int (Int32.ofNat x))] [(.int (Int32.ofNat (pr x)))]
      refine own_iloadN G6 d5_6 rfl ?_
      show ownGo _ _ _ _ _ _ _ T6 7 #[.val (.ref ds), .val (.int (Int32.ofNat x))] [(.int (Int32.ofNat x)), (.int (Int32.ofNat (pr x)))]
      refine own_icmp_eq G6 d5_7 (pc' := 37) (by decide) (by decide) (fun hc => ?_) (fun hc => ?_)
      · show ownGo _ _ _ _ _ _ _ T6 37 #[.val (.ref ds), .val (.int (Int32.ofNat x))] []
        have q : pr x = x := own_injN (by omega) (by omega) hc
        refine own_iloadN G6 d5_37 rfl ?_
        show ownGo _ _ _ _ _ _ _ T6 38 #[.val (.ref ds), .val (.int (Int32.ofNat x))] [(.int (Int32.ofNat x))]
        exact own_ireturn G6 d5_38 rfl (by decide) (by decide) ⟨by rw [← hR, x5 q], K, pr, d, U, E, F, A⟩
      · show ownGo _ _ _ _ _ _ _ T6 10 #[.val (.ref ds), .val (.int (Int32.ofNat x))] []
        have q : pr x ≠ x := fun r => hc (by rw [r])
        refine own_aloadN G6 d5_10 rfl rfl ?_
        show ownGo _ _ _ _ _ _ _ T6 11 #[.val (.ref ds), .val (.int (Int32.ofNat x))] [(.ref ds)]
        refine own_getF G6 d5_11 (hw _ (List.mem_of_getElem? (i := 10) rfl)) Via.refl F ?_
        intro T7 G7
        show ownGo _ _ _ _ _ _ _ T7 14 #[.val (.ref ds), .val (.int (Int32.ofNat x))] [(.ref pa)]
        refine own_iloadN G7 d5_14 rfl ?_
        show ownGo _ _ _ _ _ _ _ T7 15 #[.val (.ref ds), .val (.int (Int32.ofNat x))] [(.int (Int32.ofNat x)), (.ref pa)]
        refine own_aloadN G7 d5_15 rfl rfl ?_
        show ownGo _ _ _ _ _ _ _ T7 16 #[.val (.ref ds), .val (.int (Int32.ofNat x))] [(.ref ds), (.int (Int32.ofNat x)), (.ref pa)]
        refine own_getF G7 d5_16 (hw _ (List.mem_of_getElem? (i := 10) rfl)) Via.refl F ?_
        intro T8 G8
        show ownGo _ _ _ _ _ _ _ T8 19 #[.val (.ref ds), .val (.int (Int32.ofNat x))] [(.ref pa), (.int (Int32.ofNat x)), (.ref pa)]
        refine own_aloadN G8 d5_19 rfl rfl ?_
        show ownGo _ _ _ _ _ _ _ T8 20 #[.val (.ref ds), .val (.int (Int32.ofNat x))] [(.ref ds), (.ref pa), (.int (Int32.ofNat x)), (.ref pa)]
        refine own_getF G8 d5_20 (hw _ (List.mem_of_getElem? (i := 10) rfl)) Via.refl F ?_
        intro T9 G9
        show ownGo _ _ _ _ _ _ _ T9 23 #[.val (.ref ds), .val (.int (Int32.ofNat x))] [(.ref pa), (.ref pa), (.int (Int32.ofNat x)), (.ref pa)]
        refine own_iloadN G9 d5_23 rfl ?_
        show ownGo _ _ _ _ _ _ _ T9 24 #[.val (.ref ds), .val (.int (Int32.ofNat x))] [(.int (Int32.ofNat x)), (.ref pa), (.ref pa), (.int (Int32.ofNat x)), (.ref pa)]
        refine own_iaload G9 d5_24 (v := (.int (Int32.ofNat (pr x)))) A  (own_ixN hx (by omega)) rfl ?_
        show ownGo _ _ _ _ _ _ _ T9 25 #[.val (.ref ds), .val (.int (Int32.ofNat x))] [(.int (Int32.ofNat (pr x))), (.ref pa), (.int (Int32.ofNat x)), (.ref pa)]
        refine own_iaload G9 d5_25 (v := (.int (Int32.ofNat (pr (pr x))))) A  (own_ixN x1 (by omega)) rfl ?_
        show ownGo _ _ _ _ _ _ _ T9 26 #[.val (.ref ds), .val (.int (Int32.ofNat x))] [(.int (Int32.ofNat (pr (pr x)))), (.int (Int32.ofNat x)), (.ref pa)]
        refine own_iastore G9 d5_26 A  (own_ixN hx (by omega)) fp ?_
        intro T10 h10 W10 G10
        show ownGo _ _ _ _ _ _ _ T10 27 #[.val (.ref ds), .val (.int (Int32.ofNat x))] []
        have F' := F.other W10 (Or.inl ne)
        have A' := A.setN W10
        refine own_aloadN G10 d5_27 rfl rfl ?_
        show ownGo _ _ _ _ _ _ _ T10 28 #[.val (.ref ds), .val (.int (Int32.ofNat x))] [(.ref ds)]
        refine own_getF G10 d5_28 (hw _ (List.mem_of_getElem? (i := 10) rfl)) Via.refl F' ?_
        intro T11 G11
        show ownGo _ _ _ _ _ _ _ T11 31 #[.val (.ref ds), .val (.int (Int32.ofNat x))] [(.ref pa)]
        refine own_iloadN G11 d5_31 rfl ?_
        show ownGo _ _ _ _ _ _ _ T11 32 #[.val (.ref ds), .val (.int (Int32.ofNat x))] [(.int (Int32.ofNat x)), (.ref pa)]
        refine own_iaload G11 d5_32 (v := (.int (Int32.ofNat (pr (pr x))))) A'  (own_ixN hx (by omega)) (by unfold ownUpd; simp) ?_
        show ownGo _ _ _ _ _ _ _ T11 33 #[.val (.ref ds), .val (.int (Int32.ofNat x))] [(.int (Int32.ofNat (pr (pr x))))]
        refine own_istoreN G11 d5_33 (L' := #[.val (.ref ds), .val (.int (Int32.ofNat (pr (pr x))))]) rfl ?_
        show ownGo _ _ _ _ _ _ _ T11 34 #[.val (.ref ds), .val (.int (Int32.ofNat (pr (pr x))))] []
        refine own_goto G11 d5_34 (pc' := 0) (by decide) (by decide) ?_
        show ownGo _ _ _ _ _ _ _ T11 0 #[.val (.ref ds), .val (.int (Int32.ofNat (pr (pr x))))] []
        exact ih (pr (pr x)) _ hx' (by have := hd' q; omega) (hR'.trans hR) U' _ _ G11 (K.wr W10 (Or.inl (List.mem_singleton.mpr rfl))) (E.wr W10) F' A'
  exact loop (d x0 + 1) x0 p0 hx0 (Nat.lt_succ_self _) rfl U0 _ _ G0 (Keep.refl _ _) E0 F0 A0
theorem pn_rmJoin : plainFor (⟨"com/example/resguardo/resguardo/DisjointSets", "join", "(II)V"⟩ : MethodName) = true := plainFor_of_name (by first | (simp [plainName, overriddenIn]; done) | decide +kernel)
theorem ef_rmJoin (m : MethodId) (ds : Addr) (p1 : Int32) (p2 : Int32) : entryFrame m #[(.ref ds), (.int p1), (.int p2)] 3 = mkF m 0 #[.val (.ref ds), .val (.int p1), .val (.int p2)] [] := by first | (simp [entryFrame, mkF, argsToLocals, Value.category]; done) | rfl
set_option maxRecDepth 65536 in
set_option maxHeartbeats 40000000 in
theorem rmJoin (l : Launch) (Z : State) (a0 : Array Value) (hw : ∀ d ∈ tables_1, d.before a0 Z = true) (ds : Addr) (p1 p2 : Int32) (pa : Addr) (n x y : Nat) (R : Nat → Nat) (h0 : Heap) (n0 : Nat) (Z0 : n0 ≤ h0.size) (V0 : ownV Z h0 ds pa n R) (hx : x < n) (hy : y < n) (h4 : n ≤ 4) (ne : ds ≠ pa) (fp : n0 ≤ pa) (e1 : p1 = Int32.ofNat x) (e2 : p2 = Int32.ofNat y) :
    ownMet l [] (⟨"com/example/resguardo/resguardo/DisjointSets", "join", "(II)V"⟩ : MethodName) prog_15_method_3_code 3 none ({ frames := 1, cells := 0, slots := 0, locals := 15 } : Room) Z n0 #[(.ref ds), (.int p1), (.int p2)] h0 (fun v h => v = none ∧ Keep h0 h [pa] ∧ ownV Z h ds pa n (ownJ R x y)) := by
  refine own_body (own := "com/example/resguardo/resguardo/DisjointSets") (nm := "join") pn_rmJoin (fun m => ef_rmJoin m ds p1 p2) rfl rfl ?_
  intro p e s m below meth c T0 G0
  show ownGo _ _ _ _ _ _ _ T0 0 #[.val (.ref ds), .val (.int p1), .val (.int p2)] []
  subst e1 e2
  show ownGo _ _ _ _ _ _ _ T0 0 #[.val (.ref ds), .val (.int (Int32.ofNat x)), .val (.int (Int32.ofNat y))] []
  have V := V0
  obtain ⟨p0, d0, U0, E0, F0, A0⟩ := V0
  refine own_aloadN G0 d4_0 rfl rfl ?_
  show ownGo _ _ _ _ _ _ _ T0 1 #[.val (.ref ds), .val (.int (Int32.ofNat x)), .val (.int (Int32.ofNat y))] [(.ref ds)]
  refine own_getF G0 d4_1 (hw _ (List.mem_of_getElem? (i := 10) rfl)) Via.refl F0 ?_
  intro T12 G12
  show ownGo _ _ _ _ _ _ _ T12 4 #[.val (.ref ds), .val (.int (Int32.ofNat x)), .val (.int (Int32.ofNat y))] [(.ref pa)]
  refine own_aloadN G12 d4_4 rfl rfl ?_
  show ownGo _ _ _ _ _ _ _ T12 5 #[.val (.ref ds), .val (.int (Int32.ofNat x)), .val (.int (Int32.ofNat y))] [(.ref ds), (.ref pa)]
  refine own_iloadN G12 d4_5 rfl ?_
  show ownGo _ _ _ _ _ _ _ T12 6 #[.val (.ref ds), .val (.int (Int32.ofNat x)), .val (.int (Int32.ofNat y))] [(.int (Int32.ofNat x)), (.ref ds), (.ref pa)]
  refine own_virtual G12 d4_6 (y := (⟨"com/example/resguardo/resguardo/DisjointSets", "find", "(I)I"⟩ : MethodName)) (hw _ (List.mem_of_getElem? (i := 21) rfl)) (hw _ (List.mem_of_getElem? (i := 22) rfl)) (hw _ (List.mem_of_getElem? (i := 24) rfl)) (hw _ (List.mem_of_getElem? (i := 23) rfl)) (hw _ (List.mem_of_getElem? (i := 3) rfl)) (hw _ (List.mem_of_getElem? (i := 25) rfl)) (by decide) (a := ds) (argsL := [(.int (Int32.ofNat x))]) (rest := [(.ref pa)]) E0 (rmFind l Z a0 hw ds _ pa n x R h0 n0 Z0 V hx h4 ne fp rfl) rfl rfl rfl (lenOf pd_0 rfl) (W := 1) (Nat.le_of_eq rfl) (by decide) (by decide) (by decide) (by decide) ?_
  intro v13 T13 h13 hq13 G13
  obtain ⟨rfl, K1, V1⟩ := hq13
  show ownGo _ _ _ _ _ _ _ T13 9 #[.val (.ref ds), .val (.int (Int32.ofNat x)), .val (.int (Int32.ofNat y))] [(.int (Int32.ofNat (R x))), (.ref pa)]
  refine own_aloadN G13 d4_9 rfl rfl ?_
  show ownGo _ _ _ _ _ _ _ T13 10 #[.val (.ref ds), .val (.int (Int32.ofNat x)), .val (.int (Int32.ofNat y))] [(.ref ds), (.int (Int32.ofNat (R x))), (.ref pa)]
  refine own_iloadN G13 d4_10 rfl ?_
  show ownGo _ _ _ _ _ _ _ T13 11 #[.val (.ref ds), .val (.int (Int32.ofNat x)), .val (.int (Int32.ofNat y))] [(.int (Int32.ofNat y)), (.ref ds), (.int (Int32.ofNat (R x))), (.ref pa)]
  have Y1 : n0 ≤ h13.size := Nat.le_trans Z0 K1.1
  refine own_virtual G13 d4_11 (y := (⟨"com/example/resguardo/resguardo/DisjointSets", "find", "(I)I"⟩ : MethodName)) (hw _ (List.mem_of_getElem? (i := 21) rfl)) (hw _ (List.mem_of_getElem? (i := 22) rfl)) (hw _ (List.mem_of_getElem? (i := 24) rfl)) (hw _ (List.mem_of_getElem? (i := 23) rfl)) (hw _ (List.mem_of_getElem? (i := 3) rfl)) (hw _ (List.mem_of_getElem? (i := 25) rfl)) (by decide) (a := ds) (argsL := [(.int (Int32.ofNat y))]) (rest := [(.int (Int32.ofNat (R x))), (.ref pa)]) V1.exa (rmFind l Z a0 hw ds _ pa n y R h13 n0 Y1 V1 hy h4 ne fp rfl) rfl rfl rfl (lenOf pd_0 rfl) (W := 2) (Nat.le_of_eq rfl) (by decide) (by decide) (by decide) (by decide) ?_
  intro v14 T14 h14 hq14 G14
  obtain ⟨rfl, K2, V2⟩ := hq14
  show ownGo _ _ _ _ _ _ _ T14 14 #[.val (.ref ds), .val (.int (Int32.ofNat x)), .val (.int (Int32.ofNat y))] [(.int (Int32.ofNat (R y))), (.int (Int32.ofNat (R x))), (.ref pa)]
  obtain ⟨pj, d, U, E, F, A⟩ := V2
  obtain ⟨x1, x2, x3, x4, x5, x6⟩ := U x hx
  obtain ⟨d', U'⟩ := own_joinUF U hx hy
  refine own_iastore G14 d4_14 A  (own_ixN x2 (by omega)) fp ?_
  intro T15 h15 W15 G15
  show ownGo _ _ _ _ _ _ _ T15 15 #[.val (.ref ds), .val (.int (Int32.ofNat x)), .val (.int (Int32.ofNat y))] []
  exact own_ret G15 d4_15 rfl (by decide) (by decide) ⟨rfl, (K1.trans K2 (allS (Or.inl (List.mem_singleton.mpr rfl)) all0)).wr W15 (Or.inl (List.mem_singleton.mpr rfl)), _, d', U', E.wr W15, F.other W15 (Or.inl ne), A.setN W15⟩
theorem pn_rmCheck : plainFor (⟨"com/example/resguardo/resguardo/DisjointSetsFindPinLaw", "check", "(Lcom/example/resguardo/resguardo/DisjointSets;[III)Z"⟩ : MethodName) = true := plainFor_of_name (by first | (simp [plainName, overriddenIn]; done) | decide +kernel)
theorem ef_rmCheck (m : MethodId) (ds : Addr) (lb : Addr) (p3 : Int32) (p4 : Int32) : entryFrame m #[(.ref ds), (.ref lb), (.int p3), (.int p4)] 4 = mkF m 0 #[.val (.ref ds), .val (.ref lb), .val (.int p3), .val (.int p4)] [] := by first | (simp [entryFrame, mkF, argsToLocals, Value.category]; done) | rfl
set_option maxRecDepth 65536 in
set_option maxHeartbeats 40000000 in
theorem rmCheck (l : Launch) (Z : State) (a0 : Array Value) (hw : ∀ d ∈ tables_1, d.before a0 Z = true) (ds lb : Addr) (p3 p4 : Int32) (pa : Addr) (n x : Nat) (R : Nat → Nat) (h0 : Heap) (n0 : Nat) (Z0 : n0 ≤ h0.size) (V0 : ownV Z h0 ds pa n R) (B0 : ownArr Z h0 lb .int 4 (fun j => .int (Int32.ofNat (R j)))) (hx : x < 4) (h4 : n ≤ 4) (ne : ds ≠ pa) (nl : lb ≠ pa) (fp : n0 ≤ pa) (e3 : p3 = Int32.ofNat x) (e4 : p4 = Int32.ofNat n) :
    ownMet l [] (⟨"com/example/resguardo/resguardo/DisjointSetsFindPinLaw", "check", "(Lcom/example/resguardo/resguardo/DisjointSets;[III)Z"⟩ : MethodName) method_3_code 4 (some .boolean) ({ frames := 1, cells := 0, slots := 0, locals := 13 } : Room) Z n0 #[(.ref ds), (.ref lb), (.int p3), (.int p4)] h0 (fun v h => v = some (.int 1) ∧ Keep h0 h [pa] ∧ ownV Z h ds pa n R) := by
  refine own_body (own := "com/example/resguardo/resguardo/DisjointSetsFindPinLaw") (nm := "check") pn_rmCheck (fun m => ef_rmCheck m ds lb p3 p4) rfl rfl ?_
  intro p e s m below meth c T0 G0
  show ownGo _ _ _ _ _ _ _ T0 0 #[.val (.ref ds), .val (.ref lb), .val (.int p3), .val (.int p4)] []
  subst e3 e4
  show ownGo _ _ _ _ _ _ _ T0 0 #[.val (.ref ds), .val (.ref lb), .val (.int (Int32.ofNat x)), .val (.int (Int32.ofNat n))] []
  refine own_iloadN G0 d6_0 rfl ?_
  show ownGo _ _ _ _ _ _ _ T0 1 #[.val (.ref ds), .val (.ref lb), .val (.int (Int32.ofNat x)), .val (.int (Int32.ofNat n))] [(.int (Int32.ofNat x))]
  refine own_iloadN G0 d6_1 rfl ?_
  show ownGo _ _ _ _ _ _ _ T0 2 #[.val (.ref ds), .val (.ref lb), .val (.int (Int32.ofNat x)), .val (.int (Int32.ofNat n))] [(.int (Int32.ofNat n)), (.int (Int32.ofNat x))]
  refine own_icmp_lt G0 d6_2 (pc' := 7) (by decide) (by decide) (fun hc => ?_) (fun hc => ?_)
  · show ownGo _ _ _ _ _ _ _ T0 7 #[.val (.ref ds), .val (.ref lb), .val (.int (Int32.ofNat x)), .val (.int (Int32.ofNat n))] []
    have q : x < n := (own_ltN (by omega) (by omega)).mp hc
    refine own_aloadN G0 d6_7 rfl rfl ?_
    show ownGo _ _ _ _ _ _ _ T0 8 #[.val (.ref ds), .val (.ref lb), .val (.int (Int32.ofNat x)), .val (.int (Int32.ofNat n))] [(.ref ds)]
    refine own_iloadN G0 d6_8 rfl ?_
    show ownGo _ _ _ _ _ _ _ T0 9 #[.val (.ref ds), .val (.ref lb), .val (.int (Int32.ofNat x)), .val (.int (Int32.ofNat n))] [(.int (Int32.ofNat x)), (.ref ds)]
    refine own_virtual G0 d6_9 (y := (⟨"com/example/resguardo/resguardo/DisjointSets", "find", "(I)I"⟩ : MethodName)) (hw _ (List.mem_of_getElem? (i := 29) rfl)) (hw _ (List.mem_of_getElem? (i := 22) rfl)) (hw _ (List.mem_of_getElem? (i := 24) rfl)) (hw _ (List.mem_of_getElem? (i := 23) rfl)) (hw _ (List.mem_of_getElem? (i := 3) rfl)) (hw _ (List.mem_of_getElem? (i := 25) rfl)) (by decide) (a := ds) (argsL := [(.int (Int32.ofNat x))]) (rest := []) V0.exa (rmFind l Z a0 hw ds _ pa n x R h0 n0 Z0 V0 q h4 ne fp rfl) rfl rfl rfl (lenOf pd_0 rfl) (W := 0) (Nat.le_of_eq rfl) (by decide) (by decide) (by decide) (by decide) ?_
    intro v16 T16 h16 hq16 G16
    obtain ⟨rfl, K1, V1⟩ := hq16
    show ownGo _ _ _ _ _ _ _ T16 12 #[.val (.ref ds), .val (.ref lb), .val (.int (Int32.ofNat x)), .val (.int (Int32.ofNat n))] [(.int (Int32.ofNat (R x)))]
    refine own_aloadN G16 d6_12 rfl rfl ?_
    show ownGo _ _ _ _ _ _ _ T16 13 #[.val (.ref ds), .val (.ref lb), .val (.int (Int32.ofNat x)), .val (.int (Int32.ofNat n))] [(.ref lb), (.int (Int32.ofNat (R x)))]
    refine own_iloadN G16 d6_13 rfl ?_
    show ownGo _ _ _ _ _ _ _ T16 14 #[.val (.ref ds), .val (.ref lb), .val (.int (Int32.ofNat x)), .val (.int (Int32.ofNat n))] [(.int (Int32.ofNat x)), (.ref lb), (.int (Int32.ofNat (R x)))]
    refine own_iaload G16 d6_14 (v := (.int (Int32.ofNat (R x)))) (B0.keep K1 (ninS nl nin0))  (own_ixN hx (by decide)) rfl ?_
    show ownGo _ _ _ _ _ _ _ T16 15 #[.val (.ref ds), .val (.ref lb), .val (.int (Int32.ofNat x)), .val (.int (Int32.ofNat n))] [(.int (Int32.ofNat (R x))), (.int (Int32.ofNat (R x)))]
    refine own_icmp_ne G16 d6_15 (pc' := 22) (by decide) (by decide) (fun hc => False.elim (hc rfl)) (fun hc => ?_)
    show ownGo _ _ _ _ _ _ _ T16 18 #[.val (.ref ds), .val (.ref lb), .val (.int (Int32.ofNat x)), .val (.int (Int32.ofNat n))] []
    refine own_iconst G16 d6_18 ?_
    show ownGo _ _ _ _ _ _ _ T16 19 #[.val (.ref ds), .val (.ref lb), .val (.int (Int32.ofNat x)), .val (.int (Int32.ofNat n))] [(.int (1 : Int32))]
    refine own_goto G16 d6_19 (pc' := 23) (by decide) (by decide) ?_
    show ownGo _ _ _ _ _ _ _ T16 23 #[.val (.ref ds), .val (.ref lb), .val (.int (Int32.ofNat x)), .val (.int (Int32.ofNat n))] [(.int (1 : Int32))]
    exact own_zreturn G16 d6_23 rfl (by decide) (by decide) ⟨rfl, K1, V1⟩
  · show ownGo _ _ _ _ _ _ _ T0 5 #[.val (.ref ds), .val (.ref lb), .val (.int (Int32.ofNat x)), .val (.int (Int32.ofNat n))] []
    refine own_iconst G0 d6_5 ?_
    show ownGo _ _ _ _ _ _ _ T0 6 #[.val (.ref ds), .val (.ref lb), .val (.int (Int32.ofNat x)), .val (.int (Int32.ofNat n))] [(.int (1 : Int32))]
    exact own_zreturn G0 d6_6 rfl (by decide) (by decide) ⟨rfl, Keep.refl _ _, V0⟩
theorem pn_rmDo : plainFor (⟨"com/example/resguardo/resguardo/DisjointSetsFindPinLaw", "doJoin", "(Lcom/example/resguardo/resguardo/DisjointSets;[III)V"⟩ : MethodName) = true := plainFor_of_name (by first | (simp [plainName, overriddenIn]; done) | decide +kernel)
theorem ef_rmDo (m : MethodId) (ds : Addr) (lb : Addr) (p3 : Int32) (p4 : Int32) : entryFrame m #[(.ref ds), (.ref lb), (.int p3), (.int p4)] 8 = mkF m 0 #[.val (.ref ds), .val (.ref lb), .val (.int p3), .val (.int p4), .unset, .unset, .unset, .unset] [] := by first | (simp [entryFrame, mkF, argsToLocals, Value.category]; done) | rfl
set_option maxRecDepth 65536 in
set_option maxHeartbeats 40000000 in
theorem rmDo (l : Launch) (Z : State) (a0 : Array Value) (hw : ∀ d ∈ tables_1, d.before a0 Z = true) (ds lb : Addr) (p3 p4 : Int32) (pa : Addr) (n : Nat) (R : Nat → Nat) (h0 : Heap) (n0 : Nat) (Z0 : n0 ≤ h0.size) (V0 : ownV Z h0 ds pa n R) (B0 : ownArr Z h0 lb .int 4 (fun j => .int (Int32.ofNat (R j)))) (hR : ∀ i, i < 4 → R i < 4) (h1 : 1 ≤ n) (h4 : n ≤ 4) (ne : ds ≠ pa) (nl : lb ≠ pa) (nd : ds ≠ lb) (fp : n0 ≤ pa) (fl : n0 ≤ lb) (e4 : p4 = Int32.ofNat n) :
    ownMet l [] (⟨"com/example/resguardo/resguardo/DisjointSetsFindPinLaw", "doJoin", "(Lcom/example/resguardo/resguardo/DisjointSets;[III)V"⟩ : MethodName) method_4_code 8 none ({ frames := 2, cells := 0, slots := 0, locals := 29 } : Room) Z n0 #[(.ref ds), (.ref lb), (.int p3), (.int p4)] h0 (fun v h => ∃ R', v = none ∧ Keep h0 h [pa, lb] ∧ ownV Z h ds pa n R' ∧ (∀ i, i < 4 → R' i < 4) ∧ ownArr Z h lb .int 4 (fun j => .int (Int32.ofNat (R' j)))) := by
  refine own_body (own := "com/example/resguardo/resguardo/DisjointSetsFindPinLaw") (nm := "doJoin") pn_rmDo (fun m => ef_rmDo m ds lb p3 p4) rfl rfl ?_
  intro p e s m below meth c T0 G0
  show ownGo _ _ _ _ _ _ _ T0 0 #[.val (.ref ds), .val (.ref lb), .val (.int p3), .val (.int p4), .unset, .unset, .unset, .unset] []
  subst e4
  show ownGo _ _ _ _ _ _ _ T0 0 #[.val (.ref ds), .val (.ref lb), .val (.int p3), .val (.int (Int32.ofNat n)), .unset, .unset, .unset, .unset] []
  refine own_iloadN G0 d3_0 rfl ?_
  show ownGo _ _ _ _ _ _ _ T0 1 #[.val (.ref ds), .val (.ref lb), .val (.int p3), .val (.int (Int32.ofNat n)), .unset, .unset, .unset, .unset] [(.int p3)]
  refine own_sipush G0 d3_1 ?_
  show ownGo _ _ _ _ _ _ _ T0 4 #[.val (.ref ds), .val (.ref lb), .val (.int p3), .val (.int (Int32.ofNat n)), .unset, .unset, .unset, .unset] [(.int (255 : Int32)), (.int p3)]
  refine own_iand G0 d3_4 ?_
  show ownGo _ _ _ _ _ _ _ T0 5 #[.val (.ref ds), .val (.ref lb), .val (.int p3), .val (.int (Int32.ofNat n)), .unset, .unset, .unset, .unset] [(.int (p3 &&& (255 : Int32)))]
  refine own_iloadN G0 d3_5 rfl ?_
  show ownGo _ _ _ _ _ _ _ T0 6 #[.val (.ref ds), .val (.ref lb), .val (.int p3), .val (.int (Int32.ofNat n)), .unset, .unset, .unset, .unset] [(.int (Int32.ofNat n)), (.int (p3 &&& (255 : Int32)))]
  refine own_irem G0 d3_6 (own_nz h1 h4) ?_
  show ownGo _ _ _ _ _ _ _ T0 7 #[.val (.ref ds), .val (.ref lb), .val (.int p3), .val (.int (Int32.ofNat n)), .unset, .unset, .unset, .unset] [(.int ((p3 &&& (255 : Int32)) % (Int32.ofNat n)))]
  obtain ⟨x, hx, ex⟩ := own_remN (p3 &&& (255 : Int32)) h1 h4 (own_m255 _)
  rw [ex]
  show ownGo _ _ _ _ _ _ _ T0 7 #[.val (.ref ds), .val (.ref lb), .val (.int p3), .val (.int (Int32.ofNat n)), .unset, .unset, .unset, .unset] [(.int (Int32.ofNat x))]
  refine own_istore G0 d3_7 (L' := #[.val (.ref ds), .val (.ref lb), .val (.int p3), .val (.int (Int32.ofNat n)), .val (.int (Int32.ofNat x)), .unset, .unset, .unset]) rfl ?_
  show ownGo _ _ _ _ _ _ _ T0 9 #[.val (.ref ds), .val (.ref lb), .val (.int p3), .val (.int (Int32.ofNat n)), .val (.int (Int32.ofNat x)), .unset, .unset, .unset] []
  refine own_iloadN G0 d3_9 rfl ?_
  show ownGo _ _ _ _ _ _ _ T0 10 #[.val (.ref ds), .val (.ref lb), .val (.int p3), .val (.int (Int32.ofNat n)), .val (.int (Int32.ofNat x)), .unset, .unset, .unset] [(.int p3)]
  refine own_bipush G0 d3_10 ?_
  show ownGo _ _ _ _ _ _ _ T0 12 #[.val (.ref ds), .val (.ref lb), .val (.int p3), .val (.int (Int32.ofNat n)), .val (.int (Int32.ofNat x)), .unset, .unset, .unset] [(.int (8 : Int32)), (.int p3)]
  refine own_iushr G0 d3_12 ?_
  show ownGo _ _ _ _ _ _ _ T0 13 #[.val (.ref ds), .val (.ref lb), .val (.int p3), .val (.int (Int32.ofNat n)), .val (.int (Int32.ofNat x)), .unset, .unset, .unset] [(.int ((p3.toUInt32 >>> ((8 : Int32) &&& 31).toUInt32).toInt32))]
  refine own_sipush G0 d3_13 ?_
  show ownGo _ _ _ _ _ _ _ T0 16 #[.val (.ref ds), .val (.ref lb), .val (.int p3), .val (.int (Int32.ofNat n)), .val (.int (Int32.ofNat x)), .unset, .unset, .unset] [(.int (255 : Int32)), (.int ((p3.toUInt32 >>> ((8 : Int32) &&& 31).toUInt32).toInt32))]
  refine own_iand G0 d3_16 ?_
  show ownGo _ _ _ _ _ _ _ T0 17 #[.val (.ref ds), .val (.ref lb), .val (.int p3), .val (.int (Int32.ofNat n)), .val (.int (Int32.ofNat x)), .unset, .unset, .unset] [(.int (((p3.toUInt32 >>> ((8 : Int32) &&& 31).toUInt32).toInt32) &&& (255 : Int32)))]
  refine own_iloadN G0 d3_17 rfl ?_
  show ownGo _ _ _ _ _ _ _ T0 18 #[.val (.ref ds), .val (.ref lb), .val (.int p3), .val (.int (Int32.ofNat n)), .val (.int (Int32.ofNat x)), .unset, .unset, .unset] [(.int (Int32.ofNat n)), (.int (((p3.toUInt32 >>> ((8 : Int32) &&& 31).toUInt32).toInt32) &&& (255 : Int32)))]
  refine own_irem G0 d3_18 (own_nz h1 h4) ?_
  show ownGo _ _ _ _ _ _ _ T0 19 #[.val (.ref ds), .val (.ref lb), .val (.int p3), .val (.int (Int32.ofNat n)), .val (.int (Int32.ofNat x)), .unset, .unset, .unset] [(.int ((((p3.toUInt32 >>> ((8 : Int32) &&& 31).toUInt32).toInt32) &&& (255 : Int32)) % (Int32.ofNat n)))]
  obtain ⟨y, hy, ey⟩ := own_remN (((p3.toUInt32 >>> ((8 : Int32) &&& 31).toUInt32).toInt32) &&& (255 : Int32)) h1 h4 (own_m255 _)
  rw [ey]
  show ownGo _ _ _ _ _ _ _ T0 19 #[.val (.ref ds), .val (.ref lb), .val (.int p3), .val (.int (Int32.ofNat n)), .val (.int (Int32.ofNat x)), .unset, .unset, .unset] [(.int (Int32.ofNat y))]
  refine own_istore G0 d3_19 (L' := #[.val (.ref ds), .val (.ref lb), .val (.int p3), .val (.int (Int32.ofNat n)), .val (.int (Int32.ofNat x)), .val (.int (Int32.ofNat y)), .unset, .unset]) rfl ?_
  show ownGo _ _ _ _ _ _ _ T0 21 #[.val (.ref ds), .val (.ref lb), .val (.int p3), .val (.int (Int32.ofNat n)), .val (.int (Int32.ofNat x)), .val (.int (Int32.ofNat y)), .unset, .unset] []
  refine own_aloadN G0 d3_21 rfl rfl ?_
  show ownGo _ _ _ _ _ _ _ T0 22 #[.val (.ref ds), .val (.ref lb), .val (.int p3), .val (.int (Int32.ofNat n)), .val (.int (Int32.ofNat x)), .val (.int (Int32.ofNat y)), .unset, .unset] [(.ref lb)]
  refine own_iload G0 d3_22 rfl ?_
  show ownGo _ _ _ _ _ _ _ T0 24 #[.val (.ref ds), .val (.ref lb), .val (.int p3), .val (.int (Int32.ofNat n)), .val (.int (Int32.ofNat x)), .val (.int (Int32.ofNat y)), .unset, .unset] [(.int (Int32.ofNat x)), (.ref lb)]
  refine own_iaload G0 d3_24 (v := (.int (Int32.ofNat (R x)))) B0  (own_ixN (show x < 4 by omega) (by decide)) rfl ?_
  show ownGo _ _ _ _ _ _ _ T0 25 #[.val (.ref ds), .val (.ref lb), .val (.int p3), .val (.int (Int32.ofNat n)), .val (.int (Int32.ofNat x)), .val (.int (Int32.ofNat y)), .unset, .unset] [(.int (Int32.ofNat (R x)))]
  refine own_istore G0 d3_25 (L' := #[.val (.ref ds), .val (.ref lb), .val (.int p3), .val (.int (Int32.ofNat n)), .val (.int (Int32.ofNat x)), .val (.int (Int32.ofNat y)), .val (.int (Int32.ofNat (R x))), .unset]) rfl ?_
  show ownGo _ _ _ _ _ _ _ T0 27 #[.val (.ref ds), .val (.ref lb), .val (.int p3), .val (.int (Int32.ofNat n)), .val (.int (Int32.ofNat x)), .val (.int (Int32.ofNat y)), .val (.int (Int32.ofNat (R x))), .unset] []
  refine own_aloadN G0 d3_27 rfl rfl ?_
  show ownGo _ _ _ _ _ _ _ T0 28 #[.val (.ref ds), .val (.ref lb), .val (.int p3), .val (.int (Int32.ofNat n)), .val (.int (Int32.ofNat x)), .val (.int (Int32.ofNat y)), .val (.int (Int32.ofNat (R x))), .unset] [(.ref lb)]
  refine own_iload G0 d3_28 rfl ?_
  show ownGo _ _ _ _ _ _ _ T0 30 #[.val (.ref ds), .val (.ref lb), .val (.int p3), .val (.int (Int32.ofNat n)), .val (.int (Int32.ofNat x)), .val (.int (Int32.ofNat y)), .val (.int (Int32.ofNat (R x))), .unset] [(.int (Int32.ofNat y)), (.ref lb)]
  refine own_iaload G0 d3_30 (v := (.int (Int32.ofNat (R y)))) B0  (own_ixN (show y < 4 by omega) (by decide)) rfl ?_
  show ownGo _ _ _ _ _ _ _ T0 31 #[.val (.ref ds), .val (.ref lb), .val (.int p3), .val (.int (Int32.ofNat n)), .val (.int (Int32.ofNat x)), .val (.int (Int32.ofNat y)), .val (.int (Int32.ofNat (R x))), .unset] [(.int (Int32.ofNat (R y)))]
  refine own_istore G0 d3_31 (L' := #[.val (.ref ds), .val (.ref lb), .val (.int p3), .val (.int (Int32.ofNat n)), .val (.int (Int32.ofNat x)), .val (.int (Int32.ofNat y)), .val (.int (Int32.ofNat (R x))), .val (.int (Int32.ofNat (R y)))]) rfl ?_
  show ownGo _ _ _ _ _ _ _ T0 33 #[.val (.ref ds), .val (.ref lb), .val (.int p3), .val (.int (Int32.ofNat n)), .val (.int (Int32.ofNat x)), .val (.int (Int32.ofNat y)), .val (.int (Int32.ofNat (R x))), .val (.int (Int32.ofNat (R y)))] []
  refine own_aloadN G0 d3_33 rfl rfl ?_
  show ownGo _ _ _ _ _ _ _ T0 34 #[.val (.ref ds), .val (.ref lb), .val (.int p3), .val (.int (Int32.ofNat n)), .val (.int (Int32.ofNat x)), .val (.int (Int32.ofNat y)), .val (.int (Int32.ofNat (R x))), .val (.int (Int32.ofNat (R y)))] [(.ref ds)]
  refine own_iload G0 d3_34 rfl ?_
  show ownGo _ _ _ _ _ _ _ T0 36 #[.val (.ref ds), .val (.ref lb), .val (.int p3), .val (.int (Int32.ofNat n)), .val (.int (Int32.ofNat x)), .val (.int (Int32.ofNat y)), .val (.int (Int32.ofNat (R x))), .val (.int (Int32.ofNat (R y)))] [(.int (Int32.ofNat x)), (.ref ds)]
  refine own_iload G0 d3_36 rfl ?_
  show ownGo _ _ _ _ _ _ _ T0 38 #[.val (.ref ds), .val (.ref lb), .val (.int p3), .val (.int (Int32.ofNat n)), .val (.int (Int32.ofNat x)), .val (.int (Int32.ofNat y)), .val (.int (Int32.ofNat (R x))), .val (.int (Int32.ofNat (R y)))] [(.int (Int32.ofNat y)), (.int (Int32.ofNat x)), (.ref ds)]
  refine own_virtual G0 d3_38 (y := (⟨"com/example/resguardo/resguardo/DisjointSets", "join", "(II)V"⟩ : MethodName)) (hw _ (List.mem_of_getElem? (i := 16) rfl)) (hw _ (List.mem_of_getElem? (i := 17) rfl)) (hw _ (List.mem_of_getElem? (i := 19) rfl)) (hw _ (List.mem_of_getElem? (i := 18) rfl)) (hw _ (List.mem_of_getElem? (i := 3) rfl)) (hw _ (List.mem_of_getElem? (i := 20) rfl)) (by decide) (a := ds) (argsL := [(.int (Int32.ofNat x)), (.int (Int32.ofNat y))]) (rest := []) V0.exa (rmJoin l Z a0 hw ds _ _ pa n x y R h0 n0 Z0 V0 hx hy h4 ne fp rfl rfl) rfl rfl rfl (lenOf pd_1 rfl) (W := 0) (Nat.le_of_eq rfl) (by decide) (by decide) (by decide) (by decide) ?_
  intro v17 T17 h17 hq17 G17
  obtain ⟨rfl, K1, V1⟩ := hq17
  show ownGo _ _ _ _ _ _ _ T17 41 #[.val (.ref ds), .val (.ref lb), .val (.int p3), .val (.int (Int32.ofNat n)), .val (.int (Int32.ofNat x)), .val (.int (Int32.ofNat y)), .val (.int (Int32.ofNat (R x))), .val (.int (Int32.ofNat (R y)))] []
  have st4 : ∀ (T : State) (h : Heap), ownSt p l e ({ frames := 2, cells := 0, slots := 0, locals := 29 } : Room) s m #[(.ref ds), (.ref lb), (.int p3), (.int (Int32.ofNat n))] below meth c Z n0 "com/example/resguardo/resguardo/DisjointSetsFindPinLaw" method_4_code 8 none "doJoin" T h (0 + 0) (0 + 0) → Keep h0 h [pa, lb] → ownV Z h ds pa n (ownJ R x y) → ownArr Z h lb .int 4 (fun j => .int (Int32.ofNat (ownLab R x y 4 j))) → ownGo p e m below n0 (ownEnd s ({ frames := 2, cells := 0, slots := 0, locals := 29 } : Room)) (fun v h => ∃ R', v = none ∧ Keep h0 h [pa, lb] ∧ ownV Z h ds pa n R' ∧ (∀ i, i < 4 → R' i < 4) ∧ ownArr Z h lb .int 4 (fun j => .int (Int32.ofNat (R' j)))) T 93 #[.val (.ref ds), .val (.ref lb), .val (.int p3), .val (.int (Int32.ofNat n)), .val (.int (Int32.ofNat x)), .val (.int (Int32.ofNat y)), .val (.int (Int32.ofNat (R x))), .val (.int (Int32.ofNat (R y)))] [] := by
    intro T h G K V A
    show ownGo _ _ _ _ _ _ _ T 93 #[.val (.ref ds), .val (.ref lb), .val (.int p3), .val (.int (Int32.ofNat n)), .val (.int (Int32.ofNat x)), .val (.int (Int32.ofNat y)), .val (.int (Int32.ofNat (R x))), .val (.int (Int32.ofNat (R y)))] []
    exact own_ret G d3_93 rfl (by decide) (by decide) ⟨ownJ R x y, rfl, K, V, fun i hi => by unfold ownJ; by_cases q : R i = R x <;> simp [q, hR i hi, hR y (by omega)], A.congr fun j hj => by unfold ownLab; simp [hj]⟩
  have st3 : ∀ (T : State) (h : Heap), ownSt p l e ({ frames := 2, cells := 0, slots := 0, locals := 29 } : Room) s m #[(.ref ds), (.ref lb), (.int p3), (.int (Int32.ofNat n))] below meth c Z n0 "com/example/resguardo/resguardo/DisjointSetsFindPinLaw" method_4_code 8 none "doJoin" T h (0 + 0) (0 + 0) → Keep h0 h [pa, lb] → ownV Z h ds pa n (ownJ R x y) → ownArr Z h lb .int 4 (fun j => .int (Int32.ofNat (ownLab R x y 3 j))) → ownGo p e m below n0 (ownEnd s ({ frames := 2, cells := 0, slots := 0, locals := 29 } : Room)) (fun v h => ∃ R', v = none ∧ Keep h0 h [pa, lb] ∧ ownV Z h ds pa n R' ∧ (∀ i, i < 4 → R' i < 4) ∧ ownArr Z h lb .int 4 (fun j => .int (Int32.ofNat (R' j)))) T 80 #[.val (.ref ds), .val (.ref lb), .val (.int p3), .val (.int (Int32.ofNat n)), .val (.int (Int32.ofNat x)), .val (.int (Int32.ofNat y)), .val (.int (Int32.ofNat (R x))), .val (.int (Int32.ofNat (R y)))] [] := by
    intro T h G K V A
    show ownGo _ _ _ _ _ _ _ T 80 #[.val (.ref ds), .val (.ref lb), .val (.int p3), .val (.int (Int32.ofNat n)), .val (.int (Int32.ofNat x)), .val (.int (Int32.ofNat y)), .val (.int (Int32.ofNat (R x))), .val (.int (Int32.ofNat (R y)))] []
    refine own_aloadN G d3_80 rfl rfl ?_
    show ownGo _ _ _ _ _ _ _ T 81 #[.val (.ref ds), .val (.ref lb), .val (.int p3), .val (.int (Int32.ofNat n)), .val (.int (Int32.ofNat x)), .val (.int (Int32.ofNat y)), .val (.int (Int32.ofNat (R x))), .val (.int (Int32.ofNat (R y)))] [(.ref lb)]
    refine own_iconst G d3_81 ?_
    show ownGo _ _ _ _ _ _ _ T 82 #[.val (.ref ds), .val (.ref lb), .val (.int p3), .val (.int (Int32.ofNat n)), .val (.int (Int32.ofNat x)), .val (.int (Int32.ofNat y)), .val (.int (Int32.ofNat (R x))), .val (.int (Int32.ofNat (R y)))] [(.int (3 : Int32)), (.ref lb)]
    refine own_iaload G d3_82 (v := (.int (Int32.ofNat (R 3)))) A (i := 3) (by decide) (by rw [ownLab_at]) ?_
    show ownGo _ _ _ _ _ _ _ T 83 #[.val (.ref ds), .val (.ref lb), .val (.int p3), .val (.int (Int32.ofNat n)), .val (.int (Int32.ofNat x)), .val (.int (Int32.ofNat y)), .val (.int (Int32.ofNat (R x))), .val (.int (Int32.ofNat (R y)))] [(.int (Int32.ofNat (R 3)))]
    refine own_iload G d3_83 rfl ?_
    show ownGo _ _ _ _ _ _ _ T 85 #[.val (.ref ds), .val (.ref lb), .val (.int p3), .val (.int (Int32.ofNat n)), .val (.int (Int32.ofNat x)), .val (.int (Int32.ofNat y)), .val (.int (Int32.ofNat (R x))), .val (.int (Int32.ofNat (R y)))] [(.int (Int32.ofNat (R x))), (.int (Int32.ofNat (R 3)))]
    refine own_icmp_ne G d3_85 (pc' := 93) (by decide) (by decide) (fun hc => ?_) (fun hc => ?_)
    · show ownGo _ _ _ _ _ _ _ T 93 #[.val (.ref ds), .val (.ref lb), .val (.int p3), .val (.int (Int32.ofNat n)), .val (.int (Int32.ofNat x)), .val (.int (Int32.ofNat y)), .val (.int (Int32.ofNat (R x))), .val (.int (Int32.ofNat (R y)))] []
      exact st4 _ _ G K V (ownLab_miss A fun q => hc (by rw [q]))
    · show ownGo _ _ _ _ _ _ _ T 88 #[.val (.ref ds), .val (.ref lb), .val (.int p3), .val (.int (Int32.ofNat n)), .val (.int (Int32.ofNat x)), .val (.int (Int32.ofNat y)), .val (.int (Int32.ofNat (R x))), .val (.int (Int32.ofNat (R y)))] []
      have q : R 3 = R x := own_injN (by have := hR 3 (by decide); omega) (by have := hR x (by omega); omega) hc
      refine own_aloadN G d3_88 rfl rfl ?_
      show ownGo _ _ _ _ _ _ _ T 89 #[.val (.ref ds), .val (.ref lb), .val (.int p3), .val (.int (Int32.ofNat n)), .val (.int (Int32.ofNat x)), .val (.int (Int32.ofNat y)), .val (.int (Int32.ofNat (R x))), .val (.int (Int32.ofNat (R y)))] [(.ref lb)]
      refine own_iconst G d3_89 ?_
      show ownGo _ _ _ _ _ _ _ T 90 #[.val (.ref ds), .val (.ref lb), .val (.int p3), .val (.int (Int32.ofNat n)), .val (.int (Int32.ofNat x)), .val (.int (Int32.ofNat y)), .val (.int (Int32.ofNat (R x))), .val (.int (Int32.ofNat (R y)))] [(.int (3 : Int32)), (.ref lb)]
      refine own_iload G d3_90 rfl ?_
      show ownGo _ _ _ _ _ _ _ T 92 #[.val (.ref ds), .val (.ref lb), .val (.int p3), .val (.int (Int32.ofNat n)), .val (.int (Int32.ofNat x)), .val (.int (Int32.ofNat y)), .val (.int (Int32.ofNat (R x))), .val (.int (Int32.ofNat (R y)))] [(.int (Int32.ofNat (R y))), (.int (3 : Int32)), (.ref lb)]
      refine own_iastore G d3_92 A (i := 3) (by decide) fl ?_
      intro T18 h18 W18 G18
      show ownGo _ _ _ _ _ _ _ T18 93 #[.val (.ref ds), .val (.ref lb), .val (.int p3), .val (.int (Int32.ofNat n)), .val (.int (Int32.ofNat x)), .val (.int (Int32.ofNat y)), .val (.int (Int32.ofNat (R x))), .val (.int (Int32.ofNat (R y)))] []
      exact st4 _ _ G18 (K.wr W18 (Or.inl (List.mem_cons_of_mem _ (List.mem_singleton.mpr rfl)))) (V.keep (Keep.of_wr W18) (ninS nd nin0) (ninS nl.symm nin0)) (ownLab_hit A W18 q)
  have st2 : ∀ (T : State) (h : Heap), ownSt p l e ({ frames := 2, cells := 0, slots := 0, locals := 29 } : Room) s m #[(.ref ds), (.ref lb), (.int p3), (.int (Int32.ofNat n))] below meth c Z n0 "com/example/resguardo/resguardo/DisjointSetsFindPinLaw" method_4_code 8 none "doJoin" T h (0 + 0) (0 + 0) → Keep h0 h [pa, lb] → ownV Z h ds pa n (ownJ R x y) → ownArr Z h lb .int 4 (fun j => .int (Int32.ofNat (ownLab R x y 2 j))) → ownGo p e m below n0 (ownEnd s ({ frames := 2, cells := 0, slots := 0, locals := 29 } : Room)) (fun v h => ∃ R', v = none ∧ Keep h0 h [pa, lb] ∧ ownV Z h ds pa n R' ∧ (∀ i, i < 4 → R' i < 4) ∧ ownArr Z h lb .int 4 (fun j => .int (Int32.ofNat (R' j)))) T 67 #[.val (.ref ds), .val (.ref lb), .val (.int p3), .val (.int (Int32.ofNat n)), .val (.int (Int32.ofNat x)), .val (.int (Int32.ofNat y)), .val (.int (Int32.ofNat (R x))), .val (.int (Int32.ofNat (R y)))] [] := by
    intro T h G K V A
    show ownGo _ _ _ _ _ _ _ T 67 #[.val (.ref ds), .val (.ref lb), .val (.int p3), .val (.int (Int32.ofNat n)), .val (.int (Int32.ofNat x)), .val (.int (Int32.ofNat y)), .val (.int (Int32.ofNat (R x))), .val (.int (Int32.ofNat (R y)))] []
    refine own_aloadN G d3_67 rfl rfl ?_
    show ownGo _ _ _ _ _ _ _ T 68 #[.val (.ref ds), .val (.ref lb), .val (.int p3), .val (.int (Int32.ofNat n)), .val (.int (Int32.ofNat x)), .val (.int (Int32.ofNat y)), .val (.int (Int32.ofNat (R x))), .val (.int (Int32.ofNat (R y)))] [(.ref lb)]
    refine own_iconst G d3_68 ?_
    show ownGo _ _ _ _ _ _ _ T 69 #[.val (.ref ds), .val (.ref lb), .val (.int p3), .val (.int (Int32.ofNat n)), .val (.int (Int32.ofNat x)), .val (.int (Int32.ofNat y)), .val (.int (Int32.ofNat (R x))), .val (.int (Int32.ofNat (R y)))] [(.int (2 : Int32)), (.ref lb)]
    refine own_iaload G d3_69 (v := (.int (Int32.ofNat (R 2)))) A (i := 2) (by decide) (by rw [ownLab_at]) ?_
    show ownGo _ _ _ _ _ _ _ T 70 #[.val (.ref ds), .val (.ref lb), .val (.int p3), .val (.int (Int32.ofNat n)), .val (.int (Int32.ofNat x)), .val (.int (Int32.ofNat y)), .val (.int (Int32.ofNat (R x))), .val (.int (Int32.ofNat (R y)))] [(.int (Int32.ofNat (R 2)))]
    refine own_iload G d3_70 rfl ?_
    show ownGo _ _ _ _ _ _ _ T 72 #[.val (.ref ds), .val (.ref lb), .val (.int p3), .val (.int (Int32.ofNat n)), .val (.int (Int32.ofNat x)), .val (.int (Int32.ofNat y)), .val (.int (Int32.ofNat (R x))), .val (.int (Int32.ofNat (R y)))] [(.int (Int32.ofNat (R x))), (.int (Int32.ofNat (R 2)))]
    refine own_icmp_ne G d3_72 (pc' := 80) (by decide) (by decide) (fun hc => ?_) (fun hc => ?_)
    · show ownGo _ _ _ _ _ _ _ T 80 #[.val (.ref ds), .val (.ref lb), .val (.int p3), .val (.int (Int32.ofNat n)), .val (.int (Int32.ofNat x)), .val (.int (Int32.ofNat y)), .val (.int (Int32.ofNat (R x))), .val (.int (Int32.ofNat (R y)))] []
      exact st3 _ _ G K V (ownLab_miss A fun q => hc (by rw [q]))
    · show ownGo _ _ _ _ _ _ _ T 75 #[.val (.ref ds), .val (.ref lb), .val (.int p3), .val (.int (Int32.ofNat n)), .val (.int (Int32.ofNat x)), .val (.int (Int32.ofNat y)), .val (.int (Int32.ofNat (R x))), .val (.int (Int32.ofNat (R y)))] []
      have q : R 2 = R x := own_injN (by have := hR 2 (by decide); omega) (by have := hR x (by omega); omega) hc
      refine own_aloadN G d3_75 rfl rfl ?_
      show ownGo _ _ _ _ _ _ _ T 76 #[.val (.ref ds), .val (.ref lb), .val (.int p3), .val (.int (Int32.ofNat n)), .val (.int (Int32.ofNat x)), .val (.int (Int32.ofNat y)), .val (.int (Int32.ofNat (R x))), .val (.int (Int32.ofNat (R y)))] [(.ref lb)]
      refine own_iconst G d3_76 ?_
      show ownGo _ _ _ _ _ _ _ T 77 #[.val (.ref ds), .val (.ref lb), .val (.int p3), .val (.int (Int32.ofNat n)), .val (.int (Int32.ofNat x)), .val (.int (Int32.ofNat y)), .val (.int (Int32.ofNat (R x))), .val (.int (Int32.ofNat (R y)))] [(.int (2 : Int32)), (.ref lb)]
      refine own_iload G d3_77 rfl ?_
      show ownGo _ _ _ _ _ _ _ T 79 #[.val (.ref ds), .val (.ref lb), .val (.int p3), .val (.int (Int32.ofNat n)), .val (.int (Int32.ofNat x)), .val (.int (Int32.ofNat y)), .val (.int (Int32.ofNat (R x))), .val (.int (Int32.ofNat (R y)))] [(.int (Int32.ofNat (R y))), (.int (2 : Int32)), (.ref lb)]
      refine own_iastore G d3_79 A (i := 2) (by decide) fl ?_
      intro T19 h19 W19 G19
      show ownGo _ _ _ _ _ _ _ T19 80 #[.val (.ref ds), .val (.ref lb), .val (.int p3), .val (.int (Int32.ofNat n)), .val (.int (Int32.ofNat x)), .val (.int (Int32.ofNat y)), .val (.int (Int32.ofNat (R x))), .val (.int (Int32.ofNat (R y)))] []
      exact st3 _ _ G19 (K.wr W19 (Or.inl (List.mem_cons_of_mem _ (List.mem_singleton.mpr rfl)))) (V.keep (Keep.of_wr W19) (ninS nd nin0) (ninS nl.symm nin0)) (ownLab_hit A W19 q)
  have st1 : ∀ (T : State) (h : Heap), ownSt p l e ({ frames := 2, cells := 0, slots := 0, locals := 29 } : Room) s m #[(.ref ds), (.ref lb), (.int p3), (.int (Int32.ofNat n))] below meth c Z n0 "com/example/resguardo/resguardo/DisjointSetsFindPinLaw" method_4_code 8 none "doJoin" T h (0 + 0) (0 + 0) → Keep h0 h [pa, lb] → ownV Z h ds pa n (ownJ R x y) → ownArr Z h lb .int 4 (fun j => .int (Int32.ofNat (ownLab R x y 1 j))) → ownGo p e m below n0 (ownEnd s ({ frames := 2, cells := 0, slots := 0, locals := 29 } : Room)) (fun v h => ∃ R', v = none ∧ Keep h0 h [pa, lb] ∧ ownV Z h ds pa n R' ∧ (∀ i, i < 4 → R' i < 4) ∧ ownArr Z h lb .int 4 (fun j => .int (Int32.ofNat (R' j)))) T 54 #[.val (.ref ds), .val (.ref lb), .val (.int p3), .val (.int (Int32.ofNat n)), .val (.int (Int32.ofNat x)), .val (.int (Int32.ofNat y)), .val (.int (Int32.ofNat (R x))), .val (.int (Int32.ofNat (R y)))] [] := by
    intro T h G K V A
    show ownGo _ _ _ _ _ _ _ T 54 #[.val (.ref ds), .val (.ref lb), .val (.int p3), .val (.int (Int32.ofNat n)), .val (.int (Int32.ofNat x)), .val (.int (Int32.ofNat y)), .val (.int (Int32.ofNat (R x))), .val (.int (Int32.ofNat (R y)))] []
    refine own_aloadN G d3_54 rfl rfl ?_
    show ownGo _ _ _ _ _ _ _ T 55 #[.val (.ref ds), .val (.ref lb), .val (.int p3), .val (.int (Int32.ofNat n)), .val (.int (Int32.ofNat x)), .val (.int (Int32.ofNat y)), .val (.int (Int32.ofNat (R x))), .val (.int (Int32.ofNat (R y)))] [(.ref lb)]
    refine own_iconst G d3_55 ?_
    show ownGo _ _ _ _ _ _ _ T 56 #[.val (.ref ds), .val (.ref lb), .val (.int p3), .val (.int (Int32.ofNat n)), .val (.int (Int32.ofNat x)), .val (.int (Int32.ofNat y)), .val (.int (Int32.ofNat (R x))), .val (.int (Int32.ofNat (R y)))] [(.int (1 : Int32)), (.ref lb)]
    refine own_iaload G d3_56 (v := (.int (Int32.ofNat (R 1)))) A (i := 1) (by decide) (by rw [ownLab_at]) ?_
    show ownGo _ _ _ _ _ _ _ T 57 #[.val (.ref ds), .val (.ref lb), .val (.int p3), .val (.int (Int32.ofNat n)), .val (.int (Int32.ofNat x)), .val (.int (Int32.ofNat y)), .val (.int (Int32.ofNat (R x))), .val (.int (Int32.ofNat (R y)))] [(.int (Int32.ofNat (R 1)))]
    refine own_iload G d3_57 rfl ?_
    show ownGo _ _ _ _ _ _ _ T 59 #[.val (.ref ds), .val (.ref lb), .val (.int p3), .val (.int (Int32.ofNat n)), .val (.int (Int32.ofNat x)), .val (.int (Int32.ofNat y)), .val (.int (Int32.ofNat (R x))), .val (.int (Int32.ofNat (R y)))] [(.int (Int32.ofNat (R x))), (.int (Int32.ofNat (R 1)))]
    refine own_icmp_ne G d3_59 (pc' := 67) (by decide) (by decide) (fun hc => ?_) (fun hc => ?_)
    · show ownGo _ _ _ _ _ _ _ T 67 #[.val (.ref ds), .val (.ref lb), .val (.int p3), .val (.int (Int32.ofNat n)), .val (.int (Int32.ofNat x)), .val (.int (Int32.ofNat y)), .val (.int (Int32.ofNat (R x))), .val (.int (Int32.ofNat (R y)))] []
      exact st2 _ _ G K V (ownLab_miss A fun q => hc (by rw [q]))
    · show ownGo _ _ _ _ _ _ _ T 62 #[.val (.ref ds), .val (.ref lb), .val (.int p3), .val (.int (Int32.ofNat n)), .val (.int (Int32.ofNat x)), .val (.int (Int32.ofNat y)), .val (.int (Int32.ofNat (R x))), .val (.int (Int32.ofNat (R y)))] []
      have q : R 1 = R x := own_injN (by have := hR 1 (by decide); omega) (by have := hR x (by omega); omega) hc
      refine own_aloadN G d3_62 rfl rfl ?_
      show ownGo _ _ _ _ _ _ _ T 63 #[.val (.ref ds), .val (.ref lb), .val (.int p3), .val (.int (Int32.ofNat n)), .val (.int (Int32.ofNat x)), .val (.int (Int32.ofNat y)), .val (.int (Int32.ofNat (R x))), .val (.int (Int32.ofNat (R y)))] [(.ref lb)]
      refine own_iconst G d3_63 ?_
      show ownGo _ _ _ _ _ _ _ T 64 #[.val (.ref ds), .val (.ref lb), .val (.int p3), .val (.int (Int32.ofNat n)), .val (.int (Int32.ofNat x)), .val (.int (Int32.ofNat y)), .val (.int (Int32.ofNat (R x))), .val (.int (Int32.ofNat (R y)))] [(.int (1 : Int32)), (.ref lb)]
      refine own_iload G d3_64 rfl ?_
      show ownGo _ _ _ _ _ _ _ T 66 #[.val (.ref ds), .val (.ref lb), .val (.int p3), .val (.int (Int32.ofNat n)), .val (.int (Int32.ofNat x)), .val (.int (Int32.ofNat y)), .val (.int (Int32.ofNat (R x))), .val (.int (Int32.ofNat (R y)))] [(.int (Int32.ofNat (R y))), (.int (1 : Int32)), (.ref lb)]
      refine own_iastore G d3_66 A (i := 1) (by decide) fl ?_
      intro T20 h20 W20 G20
      show ownGo _ _ _ _ _ _ _ T20 67 #[.val (.ref ds), .val (.ref lb), .val (.int p3), .val (.int (Int32.ofNat n)), .val (.int (Int32.ofNat x)), .val (.int (Int32.ofNat y)), .val (.int (Int32.ofNat (R x))), .val (.int (Int32.ofNat (R y)))] []
      exact st2 _ _ G20 (K.wr W20 (Or.inl (List.mem_cons_of_mem _ (List.mem_singleton.mpr rfl)))) (V.keep (Keep.of_wr W20) (ninS nd nin0) (ninS nl.symm nin0)) (ownLab_hit A W20 q)
  have st0 : ∀ (T : State) (h : Heap), ownSt p l e ({ frames := 2, cells := 0, slots := 0, locals := 29 } : Room) s m #[(.ref ds), (.ref lb), (.int p3), (.int (Int32.ofNat n))] below meth c Z n0 "com/example/resguardo/resguardo/DisjointSetsFindPinLaw" method_4_code 8 none "doJoin" T h (0 + 0) (0 + 0) → Keep h0 h [pa, lb] → ownV Z h ds pa n (ownJ R x y) → ownArr Z h lb .int 4 (fun j => .int (Int32.ofNat (ownLab R x y 0 j))) → ownGo p e m below n0 (ownEnd s ({ frames := 2, cells := 0, slots := 0, locals := 29 } : Room)) (fun v h => ∃ R', v = none ∧ Keep h0 h [pa, lb] ∧ ownV Z h ds pa n R' ∧ (∀ i, i < 4 → R' i < 4) ∧ ownArr Z h lb .int 4 (fun j => .int (Int32.ofNat (R' j)))) T 41 #[.val (.ref ds), .val (.ref lb), .val (.int p3), .val (.int (Int32.ofNat n)), .val (.int (Int32.ofNat x)), .val (.int (Int32.ofNat y)), .val (.int (Int32.ofNat (R x))), .val (.int (Int32.ofNat (R y)))] [] := by
    intro T h G K V A
    show ownGo _ _ _ _ _ _ _ T 41 #[.val (.ref ds), .val (.ref lb), .val (.int p3), .val (.int (Int32.ofNat n)), .val (.int (Int32.ofNat x)), .val (.int (Int32.ofNat y)), .val (.int (Int32.ofNat (R x))), .val (.int (Int32.ofNat (R y)))] []
    refine own_aloadN G d3_41 rfl rfl ?_
    show ownGo _ _ _ _ _ _ _ T 42 #[.val (.ref ds), .val (.ref lb), .val (.int p3), .val (.int (Int32.ofNat n)), .val (.int (Int32.ofNat x)), .val (.int (Int32.ofNat y)), .val (.int (Int32.ofNat (R x))), .val (.int (Int32.ofNat (R y)))] [(.ref lb)]
    refine own_iconst G d3_42 ?_
    show ownGo _ _ _ _ _ _ _ T 43 #[.val (.ref ds), .val (.ref lb), .val (.int p3), .val (.int (Int32.ofNat n)), .val (.int (Int32.ofNat x)), .val (.int (Int32.ofNat y)), .val (.int (Int32.ofNat (R x))), .val (.int (Int32.ofNat (R y)))] [(.int (0 : Int32)), (.ref lb)]
    refine own_iaload G d3_43 (v := (.int (Int32.ofNat (R 0)))) A (i := 0) (by decide) (by rw [ownLab_at]) ?_
    show ownGo _ _ _ _ _ _ _ T 44 #[.val (.ref ds), .val (.ref lb), .val (.int p3), .val (.int (Int32.ofNat n)), .val (.int (Int32.ofNat x)), .val (.int (Int32.ofNat y)), .val (.int (Int32.ofNat (R x))), .val (.int (Int32.ofNat (R y)))] [(.int (Int32.ofNat (R 0)))]
    refine own_iload G d3_44 rfl ?_
    show ownGo _ _ _ _ _ _ _ T 46 #[.val (.ref ds), .val (.ref lb), .val (.int p3), .val (.int (Int32.ofNat n)), .val (.int (Int32.ofNat x)), .val (.int (Int32.ofNat y)), .val (.int (Int32.ofNat (R x))), .val (.int (Int32.ofNat (R y)))] [(.int (Int32.ofNat (R x))), (.int (Int32.ofNat (R 0)))]
    refine own_icmp_ne G d3_46 (pc' := 54) (by decide) (by decide) (fun hc => ?_) (fun hc => ?_)
    · show ownGo _ _ _ _ _ _ _ T 54 #[.val (.ref ds), .val (.ref lb), .val (.int p3), .val (.int (Int32.ofNat n)), .val (.int (Int32.ofNat x)), .val (.int (Int32.ofNat y)), .val (.int (Int32.ofNat (R x))), .val (.int (Int32.ofNat (R y)))] []
      exact st1 _ _ G K V (ownLab_miss A fun q => hc (by rw [q]))
    · show ownGo _ _ _ _ _ _ _ T 49 #[.val (.ref ds), .val (.ref lb), .val (.int p3), .val (.int (Int32.ofNat n)), .val (.int (Int32.ofNat x)), .val (.int (Int32.ofNat y)), .val (.int (Int32.ofNat (R x))), .val (.int (Int32.ofNat (R y)))] []
      have q : R 0 = R x := own_injN (by have := hR 0 (by decide); omega) (by have := hR x (by omega); omega) hc
      refine own_aloadN G d3_49 rfl rfl ?_
      show ownGo _ _ _ _ _ _ _ T 50 #[.val (.ref ds), .val (.ref lb), .val (.int p3), .val (.int (Int32.ofNat n)), .val (.int (Int32.ofNat x)), .val (.int (Int32.ofNat y)), .val (.int (Int32.ofNat (R x))), .val (.int (Int32.ofNat (R y)))] [(.ref lb)]
      refine own_iconst G d3_50 ?_
      show ownGo _ _ _ _ _ _ _ T 51 #[.val (.ref ds), .val (.ref lb), .val (.int p3), .val (.int (Int32.ofNat n)), .val (.int (Int32.ofNat x)), .val (.int (Int32.ofNat y)), .val (.int (Int32.ofNat (R x))), .val (.int (Int32.ofNat (R y)))] [(.int (0 : Int32)), (.ref lb)]
      refine own_iload G d3_51 rfl ?_
      show ownGo _ _ _ _ _ _ _ T 53 #[.val (.ref ds), .val (.ref lb), .val (.int p3), .val (.int (Int32.ofNat n)), .val (.int (Int32.ofNat x)), .val (.int (Int32.ofNat y)), .val (.int (Int32.ofNat (R x))), .val (.int (Int32.ofNat (R y)))] [(.int (Int32.ofNat (R y))), (.int (0 : Int32)), (.ref lb)]
      refine own_iastore G d3_53 A (i := 0) (by decide) fl ?_
      intro T21 h21 W21 G21
      show ownGo _ _ _ _ _ _ _ T21 54 #[.val (.ref ds), .val (.ref lb), .val (.int p3), .val (.int (Int32.ofNat n)), .val (.int (Int32.ofNat x)), .val (.int (Int32.ofNat y)), .val (.int (Int32.ofNat (R x))), .val (.int (Int32.ofNat (R y)))] []
      exact st1 _ _ G21 (K.wr W21 (Or.inl (List.mem_cons_of_mem _ (List.mem_singleton.mpr rfl)))) (V.keep (Keep.of_wr W21) (ninS nd nin0) (ninS nl.symm nin0)) (ownLab_hit A W21 q)
  exact st0 _ _ G17 ⟨K1.1, fun x c q r => K1.2.1 x c q fun u => r (List.mem_cons.mpr (Or.inl (List.mem_singleton.mp u))), K1.2.2⟩ V1 ((B0.keep K1 (ninS nl nin0)).congr fun j _ => by unfold ownLab; simp)
theorem pn_rm0 : plainFor (⟨"com/example/resguardo/resguardo/DisjointSetsFindPinLaw", "law", "(IIIII)Z"⟩ : MethodName) = true := plainFor_of_name (by first | (simp [plainName, overriddenIn]; done) | decide +kernel)
theorem ef_rm0 (m : MethodId) (p1 : Int32) (p2 : Int32) (p3 : Int32) (p4 : Int32) (p5 : Int32) : entryFrame m #[(.int p1), (.int p2), (.int p3), (.int p4), (.int p5)] maxLocals = mkF m 0 #[.val (.int p1), .val (.int p2), .val (.int p3), .val (.int p4), .val (.int p5), .unset, .unset, .unset, .unset, .unset] [] := by first | (simp [entryFrame, mkF, argsToLocals, Value.category, maxLocals]; done) | rfl
set_option maxRecDepth 65536 in
set_option maxHeartbeats 40000000 in
theorem rm0 (l : Launch) (Z : State) (a0 : Array Value) (hw : ∀ d ∈ tables_1, d.before a0 Z = true) (p1 p2 p3 p4 p5 : Int32) (h0 : Heap) (n0 : Nat) (Z0 : n0 ≤ h0.size) :
    ownMet l tables_1 x code maxLocals ret room_1 Z n0 #[(.int p1), (.int p2), (.int p3), (.int p4), (.int p5)] h0 (fun v h => v = some (.int 1)) := by
  refine own_body (own := "com/example/resguardo/resguardo/DisjointSetsFindPinLaw") (nm := "law") pn_rm0 (fun m => ef_rm0 m p1 p2 p3 p4 p5) rfl rfl ?_
  intro p e s m below meth c T0 G0
  show ownGo _ _ _ _ _ _ _ T0 0 #[.val (.int p1), .val (.int p2), .val (.int p3), .val (.int p4), .val (.int p5), .unset, .unset, .unset, .unset, .unset] []
  refine own_iloadN G0 at_0 rfl ?_
  show ownGo _ _ _ _ _ _ _ T0 1 #[.val (.int p1), .val (.int p2), .val (.int p3), .val (.int p4), .val (.int p5), .unset, .unset, .unset, .unset, .unset] [(.int p1)]
  refine own_iconst G0 at_1 ?_
  show ownGo _ _ _ _ _ _ _ T0 2 #[.val (.int p1), .val (.int p2), .val (.int p3), .val (.int p4), .val (.int p5), .unset, .unset, .unset, .unset, .unset] [(.int (3 : Int32)), (.int p1)]
  refine own_iand G0 at_2 ?_
  show ownGo _ _ _ _ _ _ _ T0 3 #[.val (.int p1), .val (.int p2), .val (.int p3), .val (.int p4), .val (.int p5), .unset, .unset, .unset, .unset, .unset] [(.int (p1 &&& (3 : Int32)))]
  refine own_iconst G0 at_3 ?_
  show ownGo _ _ _ _ _ _ _ T0 4 #[.val (.int p1), .val (.int p2), .val (.int p3), .val (.int p4), .val (.int p5), .unset, .unset, .unset, .unset, .unset] [(.int (1 : Int32)), (.int (p1 &&& (3 : Int32)))]
  refine own_iadd G0 at_4 ?_
  show ownGo _ _ _ _ _ _ _ T0 5 #[.val (.int p1), .val (.int p2), .val (.int p3), .val (.int p4), .val (.int p5), .unset, .unset, .unset, .unset, .unset] [(.int ((p1 &&& (3 : Int32)) + (1 : Int32)))]
  obtain ⟨n, h1', h4, en⟩ := own_m3 p1
  rw [en]
  show ownGo _ _ _ _ _ _ _ T0 5 #[.val (.int p1), .val (.int p2), .val (.int p3), .val (.int p4), .val (.int p5), .unset, .unset, .unset, .unset, .unset] [(.int (Int32.ofNat n))]
  refine own_istore G0 at_5 (L' := #[.val (.int p1), .val (.int p2), .val (.int p3), .val (.int p4), .val (.int p5), .val (.int (Int32.ofNat n)), .unset, .unset, .unset, .unset]) rfl ?_
  show ownGo _ _ _ _ _ _ _ T0 7 #[.val (.int p1), .val (.int p2), .val (.int p3), .val (.int p4), .val (.int p5), .val (.int (Int32.ofNat n)), .unset, .unset, .unset, .unset] []
  refine own_iconst G0 at_7 ?_
  show ownGo _ _ _ _ _ _ _ T0 8 #[.val (.int p1), .val (.int p2), .val (.int p3), .val (.int p4), .val (.int p5), .val (.int (Int32.ofNat n)), .unset, .unset, .unset, .unset] [(.int (4 : Int32))]
  refine own_newarr G0 at_8 (hw _ (List.mem_of_getElem? (i := 0) rfl)) (by decide) (k := 4) (cap := 4) (by decide) (by decide) (by decide) (by decide) (by decide) ?_
  intro T22 h22 b22 g22 E22 A22 G22
  replace A22 : ownArr Z h22 b22 .int 4 (fun _ => .int 0) := A22
  show ownGo _ _ _ _ _ _ _ T22 10 #[.val (.int p1), .val (.int p2), .val (.int p3), .val (.int p4), .val (.int p5), .val (.int (Int32.ofNat n)), .unset, .unset, .unset, .unset] [(.ref b22)]
  have fl : n0 ≤ b22 := Nat.le_trans Z0 (Nat.le_of_eq g22.symm)
  have Y : n0 ≤ h22.size := Nat.le_trans Z0 E22.1
  refine own_dup G22 at_10 rfl ?_
  show ownGo _ _ _ _ _ _ _ T22 11 #[.val (.int p1), .val (.int p2), .val (.int p3), .val (.int p4), .val (.int p5), .val (.int (Int32.ofNat n)), .unset, .unset, .unset, .unset] [(.ref b22), (.ref b22)]
  refine own_iconst G22 at_11 ?_
  show ownGo _ _ _ _ _ _ _ T22 12 #[.val (.int p1), .val (.int p2), .val (.int p3), .val (.int p4), .val (.int p5), .val (.int (Int32.ofNat n)), .unset, .unset, .unset, .unset] [(.int (0 : Int32)), (.ref b22), (.ref b22)]
  refine own_iconst G22 at_12 ?_
  show ownGo _ _ _ _ _ _ _ T22 13 #[.val (.int p1), .val (.int p2), .val (.int p3), .val (.int p4), .val (.int p5), .val (.int (Int32.ofNat n)), .unset, .unset, .unset, .unset] [(.int (0 : Int32)), (.int (0 : Int32)), (.ref b22), (.ref b22)]
  refine own_iastore G22 at_13 A22 (i := 0) (by decide) fl ?_
  intro T23 h23 W23 G23
  show ownGo _ _ _ _ _ _ _ T23 14 #[.val (.int p1), .val (.int p2), .val (.int p3), .val (.int p4), .val (.int p5), .val (.int (Int32.ofNat n)), .unset, .unset, .unset, .unset] [(.ref b22)]
  replace A22 := A22.same W23
  replace Y : n0 ≤ h23.size := by rw [W23.size]; exact Y
  refine own_dup G23 at_14 rfl ?_
  show ownGo _ _ _ _ _ _ _ T23 15 #[.val (.int p1), .val (.int p2), .val (.int p3), .val (.int p4), .val (.int p5), .val (.int (Int32.ofNat n)), .unset, .unset, .unset, .unset] [(.ref b22), (.ref b22)]
  refine own_iconst G23 at_15 ?_
  show ownGo _ _ _ _ _ _ _ T23 16 #[.val (.int p1), .val (.int p2), .val (.int p3), .val (.int p4), .val (.int p5), .val (.int (Int32.ofNat n)), .unset, .unset, .unset, .unset] [(.int (1 : Int32)), (.ref b22), (.ref b22)]
  refine own_iconst G23 at_16 ?_
  show ownGo _ _ _ _ _ _ _ T23 17 #[.val (.int p1), .val (.int p2), .val (.int p3), .val (.int p4), .val (.int p5), .val (.int (Int32.ofNat n)), .unset, .unset, .unset, .unset] [(.int (1 : Int32)), (.int (1 : Int32)), (.ref b22), (.ref b22)]
  refine own_iastore G23 at_17 A22 (i := 1) (by decide) fl ?_
  intro T24 h24 W24 G24
  show ownGo _ _ _ _ _ _ _ T24 18 #[.val (.int p1), .val (.int p2), .val (.int p3), .val (.int p4), .val (.int p5), .val (.int (Int32.ofNat n)), .unset, .unset, .unset, .unset] [(.ref b22)]
  replace A22 := A22.same W24
  replace Y : n0 ≤ h24.size := by rw [W24.size]; exact Y
  refine own_dup G24 at_18 rfl ?_
  show ownGo _ _ _ _ _ _ _ T24 19 #[.val (.int p1), .val (.int p2), .val (.int p3), .val (.int p4), .val (.int p5), .val (.int (Int32.ofNat n)), .unset, .unset, .unset, .unset] [(.ref b22), (.ref b22)]
  refine own_iconst G24 at_19 ?_
  show ownGo _ _ _ _ _ _ _ T24 20 #[.val (.int p1), .val (.int p2), .val (.int p3), .val (.int p4), .val (.int p5), .val (.int (Int32.ofNat n)), .unset, .unset, .unset, .unset] [(.int (2 : Int32)), (.ref b22), (.ref b22)]
  refine own_iconst G24 at_20 ?_
  show ownGo _ _ _ _ _ _ _ T24 21 #[.val (.int p1), .val (.int p2), .val (.int p3), .val (.int p4), .val (.int p5), .val (.int (Int32.ofNat n)), .unset, .unset, .unset, .unset] [(.int (2 : Int32)), (.int (2 : Int32)), (.ref b22), (.ref b22)]
  refine own_iastore G24 at_21 A22 (i := 2) (by decide) fl ?_
  intro T25 h25 W25 G25
  show ownGo _ _ _ _ _ _ _ T25 22 #[.val (.int p1), .val (.int p2), .val (.int p3), .val (.int p4), .val (.int p5), .val (.int (Int32.ofNat n)), .unset, .unset, .unset, .unset] [(.ref b22)]
  replace A22 := A22.same W25
  replace Y : n0 ≤ h25.size := by rw [W25.size]; exact Y
  refine own_dup G25 at_22 rfl ?_
  show ownGo _ _ _ _ _ _ _ T25 23 #[.val (.int p1), .val (.int p2), .val (.int p3), .val (.int p4), .val (.int p5), .val (.int (Int32.ofNat n)), .unset, .unset, .unset, .unset] [(.ref b22), (.ref b22)]
  refine own_iconst G25 at_23 ?_
  show ownGo _ _ _ _ _ _ _ T25 24 #[.val (.int p1), .val (.int p2), .val (.int p3), .val (.int p4), .val (.int p5), .val (.int (Int32.ofNat n)), .unset, .unset, .unset, .unset] [(.int (3 : Int32)), (.ref b22), (.ref b22)]
  refine own_iconst G25 at_24 ?_
  show ownGo _ _ _ _ _ _ _ T25 25 #[.val (.int p1), .val (.int p2), .val (.int p3), .val (.int p4), .val (.int p5), .val (.int (Int32.ofNat n)), .unset, .unset, .unset, .unset] [(.int (3 : Int32)), (.int (3 : Int32)), (.ref b22), (.ref b22)]
  refine own_iastore G25 at_25 A22 (i := 3) (by decide) fl ?_
  intro T26 h26 W26 G26
  show ownGo _ _ _ _ _ _ _ T26 26 #[.val (.int p1), .val (.int p2), .val (.int p3), .val (.int p4), .val (.int p5), .val (.int (Int32.ofNat n)), .unset, .unset, .unset, .unset] [(.ref b22)]
  replace A22 := A22.same W26
  replace Y : n0 ≤ h26.size := by rw [W26.size]; exact Y
  replace A22 : ownArr Z h26 b22 .int 4 (fun j => .int (Int32.ofNat ((fun i => i) j))) := A22.congr fun j hj => by
    rcases j with _ | _ | _ | _ | j
    · rfl
    · rfl
    · rfl
    · rfl
    · omega
  refine own_astore G26 at_26 (L' := #[.val (.int p1), .val (.int p2), .val (.int p3), .val (.int p4), .val (.int p5), .val (.int (Int32.ofNat n)), .val (.ref b22), .unset, .unset, .unset]) rfl rfl ?_
  show ownGo _ _ _ _ _ _ _ T26 28 #[.val (.int p1), .val (.int p2), .val (.int p3), .val (.int p4), .val (.int p5), .val (.int (Int32.ofNat n)), .val (.ref b22), .unset, .unset, .unset] []
  refine own_new G26 at_28 (hw _ (List.mem_of_getElem? (i := 1) rfl)) (hw _ (List.mem_of_getElem? (i := 2) rfl)) (hw _ (List.mem_of_getElem? (i := 3) rfl)) (by decide) (by decide) ?_
  intro T27 h27 b27 g27 E27 A27 D27 G27
  show ownGo _ _ _ _ _ _ _ T27 31 #[.val (.int p1), .val (.int p2), .val (.int p3), .val (.int p4), .val (.int p5), .val (.int (Int32.ofNat n)), .val (.ref b22), .unset, .unset, .unset] [(.ref b27)]
  have F_parent_b27 : Fld Z h27 b27 "com/example/resguardo/resguardo/DisjointSets" "parent" "[I" .null := D27 (Or.inr (hw _ (List.mem_of_getElem? (i := 11) rfl))) (ty := (.array .int)) (by decide)
  have fd : n0 ≤ b27 := Nat.le_trans Y (Nat.le_of_eq g27.symm)
  have nd : b27 ≠ b22 := (Nat.ne_of_lt (Nat.lt_of_lt_of_le A22.lt (Nat.le_of_eq g27.symm))).symm
  replace A22 := A22.ext E27
  replace Y : n0 ≤ h27.size := Nat.le_trans Y E27.1
  refine own_dup G27 at_31 rfl ?_
  show ownGo _ _ _ _ _ _ _ T27 32 #[.val (.int p1), .val (.int p2), .val (.int p3), .val (.int p4), .val (.int p5), .val (.int (Int32.ofNat n)), .val (.ref b22), .unset, .unset, .unset] [(.ref b27), (.ref b27)]
  refine own_iload G27 at_32 rfl ?_
  show ownGo _ _ _ _ _ _ _ T27 34 #[.val (.int p1), .val (.int p2), .val (.int p3), .val (.int p4), .val (.int p5), .val (.int (Int32.ofNat n)), .val (.ref b22), .unset, .unset, .unset] [(.int (Int32.ofNat n)), (.ref b27), (.ref b27)]
  refine own_special G27 at_34 (y := (⟨"com/example/resguardo/resguardo/DisjointSets", "<init>", "(I)V"⟩ : MethodName)) rfl (hw _ (List.mem_of_getElem? (i := 4) rfl)) (hw _ (List.mem_of_getElem? (i := 5) rfl)) (hw _ (List.mem_of_getElem? (i := 3) rfl)) (hw _ (List.mem_of_getElem? (i := 6) rfl)) (by decide) (a := b27) (argsL := [(.int (Int32.ofNat n))]) (rest := [(.ref b27)]) (rmNew l Z a0 hw b27 _ n h27 n0 Y A27 F_parent_b27 fd h1' h4 rfl) rfl rfl rfl (lenOf pd_2 rfl) (W := 1) (Nat.le_of_eq rfl) (by decide) (by decide) (by decide) (by decide) ?_
  intro v28 T28 h28 hq28 G28
  obtain ⟨pa, rfl, sp, lp, K, E, F, PA⟩ := hq28
  show ownGo _ _ _ _ _ _ _ T28 37 #[.val (.int p1), .val (.int p2), .val (.int p3), .val (.int p4), .val (.int p5), .val (.int (Int32.ofNat n)), .val (.ref b22), .unset, .unset, .unset] [(.ref b27)]
  have fp : n0 ≤ pa := Nat.le_trans Y sp
  have ne : b27 ≠ pa := Nat.ne_of_lt (Nat.lt_of_lt_of_le A27.lt sp)
  have nl : b22 ≠ pa := Nat.ne_of_lt (Nat.lt_of_lt_of_le A22.lt sp)
  replace A22 := A22.keep K (ninS nd.symm nin0)
  replace Y : n0 ≤ h28.size := Nat.le_trans Y K.1
  have V : ownV Z h28 b27 pa n (fun i => i) := ⟨fun i => i, fun _ => 0, fun i hi => ⟨hi, hi, rfl, rfl, fun _ => rfl, fun q => absurd rfl q⟩, E, F, PA⟩
  have hR : ∀ i, i < 4 → (fun i => i) i < 4 := fun i hi => hi
  obtain ⟨R, eR⟩ : ∃ R : Nat → Nat, R = fun i => i := ⟨_, rfl⟩
  rw [← eR] at V hR
  replace A22 : ownArr Z h28 b22 .int 4 (fun j => .int (Int32.ofNat (R j))) := by rw [eR]; exact A22
  clear eR
  refine own_astore G28 at_37 (L' := #[.val (.int p1), .val (.int p2), .val (.int p3), .val (.int p4), .val (.int p5), .val (.int (Int32.ofNat n)), .val (.ref b22), .val (.ref b27), .unset, .unset]) rfl rfl ?_
  show ownGo _ _ _ _ _ _ _ T28 39 #[.val (.int p1), .val (.int p2), .val (.int p3), .val (.int p4), .val (.int p5), .val (.int (Int32.ofNat n)), .val (.ref b22), .val (.ref b27), .unset, .unset] []
  refine own_aload G28 at_39 rfl rfl ?_
  show ownGo _ _ _ _ _ _ _ T28 41 #[.val (.int p1), .val (.int p2), .val (.int p3), .val (.int p4), .val (.int p5), .val (.int (Int32.ofNat n)), .val (.ref b22), .val (.ref b27), .unset, .unset] [(.ref b27)]
  refine own_aload G28 at_41 rfl rfl ?_
  show ownGo _ _ _ _ _ _ _ T28 43 #[.val (.int p1), .val (.int p2), .val (.int p3), .val (.int p4), .val (.int p5), .val (.int (Int32.ofNat n)), .val (.ref b22), .val (.ref b27), .unset, .unset] [(.ref b22), (.ref b27)]
  refine own_iloadN G28 at_43 rfl ?_
  show ownGo _ _ _ _ _ _ _ T28 44 #[.val (.int p1), .val (.int p2), .val (.int p3), .val (.int p4), .val (.int p5), .val (.int (Int32.ofNat n)), .val (.ref b22), .val (.ref b27), .unset, .unset] [(.int p2), (.ref b22), (.ref b27)]
  refine own_iload G28 at_44 rfl ?_
  show ownGo _ _ _ _ _ _ _ T28 46 #[.val (.int p1), .val (.int p2), .val (.int p3), .val (.int p4), .val (.int p5), .val (.int (Int32.ofNat n)), .val (.ref b22), .val (.ref b27), .unset, .unset] [(.int (Int32.ofNat n)), (.int p2), (.ref b22), (.ref b27)]
  refine own_callS G28 at_46 (y := (⟨"com/example/resguardo/resguardo/DisjointSetsFindPinLaw", "doJoin", "(Lcom/example/resguardo/resguardo/DisjointSets;[III)V"⟩ : MethodName)) (hw _ (List.mem_of_getElem? (i := 12) rfl)) (hw _ (List.mem_of_getElem? (i := 13) rfl)) (hw _ (List.mem_of_getElem? (i := 14) rfl)) (hw _ (List.mem_of_getElem? (i := 15) rfl)) (by decide) (argsL := [(.ref b27), (.ref b22), (.int p2), (.int (Int32.ofNat n))]) (rest := []) (rmDo l Z a0 hw b27 b22 _ _ pa n R h28 n0 Y V A22 hR h1' h4 ne nl nd fp fl rfl) rfl rfl rfl (lenOf pd_3 rfl) (W := 0) (Nat.le_of_eq rfl) (by decide) (by decide) (by decide) (by decide) ?_
  intro v29 T29 h29 hq29 G29
  obtain ⟨R0, rfl, K, V', hR', B⟩ := hq29
  show ownGo _ _ _ _ _ _ _ T29 49 #[.val (.int p1), .val (.int p2), .val (.int p3), .val (.int p4), .val (.int p5), .val (.int (Int32.ofNat n)), .val (.ref b22), .val (.ref b27), .unset, .unset] []
  replace V := V'
  replace hR := hR'
  replace A22 := B
  replace Y : n0 ≤ h29.size := Nat.le_trans Y K.1
  clear K V' hR' B
  refine own_aload G29 at_49 rfl rfl ?_
  show ownGo _ _ _ _ _ _ _ T29 51 #[.val (.int p1), .val (.int p2), .val (.int p3), .val (.int p4), .val (.int p5), .val (.int (Int32.ofNat n)), .val (.ref b22), .val (.ref b27), .unset, .unset] [(.ref b27)]
  refine own_aload G29 at_51 rfl rfl ?_
  show ownGo _ _ _ _ _ _ _ T29 53 #[.val (.int p1), .val (.int p2), .val (.int p3), .val (.int p4), .val (.int p5), .val (.int (Int32.ofNat n)), .val (.ref b22), .val (.ref b27), .unset, .unset] [(.ref b22), (.ref b27)]
  refine own_iloadN G29 at_53 rfl ?_
  show ownGo _ _ _ _ _ _ _ T29 54 #[.val (.int p1), .val (.int p2), .val (.int p3), .val (.int p4), .val (.int p5), .val (.int (Int32.ofNat n)), .val (.ref b22), .val (.ref b27), .unset, .unset] [(.int p3), (.ref b22), (.ref b27)]
  refine own_iload G29 at_54 rfl ?_
  show ownGo _ _ _ _ _ _ _ T29 56 #[.val (.int p1), .val (.int p2), .val (.int p3), .val (.int p4), .val (.int p5), .val (.int (Int32.ofNat n)), .val (.ref b22), .val (.ref b27), .unset, .unset] [(.int (Int32.ofNat n)), (.int p3), (.ref b22), (.ref b27)]
  refine own_callS G29 at_56 (y := (⟨"com/example/resguardo/resguardo/DisjointSetsFindPinLaw", "doJoin", "(Lcom/example/resguardo/resguardo/DisjointSets;[III)V"⟩ : MethodName)) (hw _ (List.mem_of_getElem? (i := 12) rfl)) (hw _ (List.mem_of_getElem? (i := 13) rfl)) (hw _ (List.mem_of_getElem? (i := 14) rfl)) (hw _ (List.mem_of_getElem? (i := 15) rfl)) (by decide) (argsL := [(.ref b27), (.ref b22), (.int p3), (.int (Int32.ofNat n))]) (rest := []) (rmDo l Z a0 hw b27 b22 _ _ pa n R0 h29 n0 Y V A22 hR h1' h4 ne nl nd fp fl rfl) rfl rfl rfl (lenOf pd_3 rfl) (W := 0) (Nat.le_of_eq rfl) (by decide) (by decide) (by decide) (by decide) ?_
  intro v30 T30 h30 hq30 G30
  obtain ⟨R1, rfl, K, V', hR', B⟩ := hq30
  show ownGo _ _ _ _ _ _ _ T30 59 #[.val (.int p1), .val (.int p2), .val (.int p3), .val (.int p4), .val (.int p5), .val (.int (Int32.ofNat n)), .val (.ref b22), .val (.ref b27), .unset, .unset] []
  replace V := V'
  replace hR := hR'
  replace A22 := B
  replace Y : n0 ≤ h30.size := Nat.le_trans Y K.1
  clear K V' hR' B
  refine own_aload G30 at_59 rfl rfl ?_
  show ownGo _ _ _ _ _ _ _ T30 61 #[.val (.int p1), .val (.int p2), .val (.int p3), .val (.int p4), .val (.int p5), .val (.int (Int32.ofNat n)), .val (.ref b22), .val (.ref b27), .unset, .unset] [(.ref b27)]
  refine own_aload G30 at_61 rfl rfl ?_
  show ownGo _ _ _ _ _ _ _ T30 63 #[.val (.int p1), .val (.int p2), .val (.int p3), .val (.int p4), .val (.int p5), .val (.int (Int32.ofNat n)), .val (.ref b22), .val (.ref b27), .unset, .unset] [(.ref b22), (.ref b27)]
  refine own_iloadN G30 at_63 rfl ?_
  show ownGo _ _ _ _ _ _ _ T30 64 #[.val (.int p1), .val (.int p2), .val (.int p3), .val (.int p4), .val (.int p5), .val (.int (Int32.ofNat n)), .val (.ref b22), .val (.ref b27), .unset, .unset] [(.int p4), (.ref b22), (.ref b27)]
  refine own_iload G30 at_64 rfl ?_
  show ownGo _ _ _ _ _ _ _ T30 66 #[.val (.int p1), .val (.int p2), .val (.int p3), .val (.int p4), .val (.int p5), .val (.int (Int32.ofNat n)), .val (.ref b22), .val (.ref b27), .unset, .unset] [(.int (Int32.ofNat n)), (.int p4), (.ref b22), (.ref b27)]
  refine own_callS G30 at_66 (y := (⟨"com/example/resguardo/resguardo/DisjointSetsFindPinLaw", "doJoin", "(Lcom/example/resguardo/resguardo/DisjointSets;[III)V"⟩ : MethodName)) (hw _ (List.mem_of_getElem? (i := 12) rfl)) (hw _ (List.mem_of_getElem? (i := 13) rfl)) (hw _ (List.mem_of_getElem? (i := 14) rfl)) (hw _ (List.mem_of_getElem? (i := 15) rfl)) (by decide) (argsL := [(.ref b27), (.ref b22), (.int p4), (.int (Int32.ofNat n))]) (rest := []) (rmDo l Z a0 hw b27 b22 _ _ pa n R1 h30 n0 Y V A22 hR h1' h4 ne nl nd fp fl rfl) rfl rfl rfl (lenOf pd_3 rfl) (W := 0) (Nat.le_of_eq rfl) (by decide) (by decide) (by decide) (by decide) ?_
  intro v31 T31 h31 hq31 G31
  obtain ⟨R2, rfl, K, V', hR', B⟩ := hq31
  show ownGo _ _ _ _ _ _ _ T31 69 #[.val (.int p1), .val (.int p2), .val (.int p3), .val (.int p4), .val (.int p5), .val (.int (Int32.ofNat n)), .val (.ref b22), .val (.ref b27), .unset, .unset] []
  replace V := V'
  replace hR := hR'
  replace A22 := B
  replace Y : n0 ≤ h31.size := Nat.le_trans Y K.1
  clear K V' hR' B
  refine own_aload G31 at_69 rfl rfl ?_
  show ownGo _ _ _ _ _ _ _ T31 71 #[.val (.int p1), .val (.int p2), .val (.int p3), .val (.int p4), .val (.int p5), .val (.int (Int32.ofNat n)), .val (.ref b22), .val (.ref b27), .unset, .unset] [(.ref b27)]
  refine own_aload G31 at_71 rfl rfl ?_
  show ownGo _ _ _ _ _ _ _ T31 73 #[.val (.int p1), .val (.int p2), .val (.int p3), .val (.int p4), .val (.int p5), .val (.int (Int32.ofNat n)), .val (.ref b22), .val (.ref b27), .unset, .unset] [(.ref b22), (.ref b27)]
  refine own_iconst G31 at_73 ?_
  show ownGo _ _ _ _ _ _ _ T31 74 #[.val (.int p1), .val (.int p2), .val (.int p3), .val (.int p4), .val (.int p5), .val (.int (Int32.ofNat n)), .val (.ref b22), .val (.ref b27), .unset, .unset] [(.int (0 : Int32)), (.ref b22), (.ref b27)]
  refine own_iload G31 at_74 rfl ?_
  show ownGo _ _ _ _ _ _ _ T31 76 #[.val (.int p1), .val (.int p2), .val (.int p3), .val (.int p4), .val (.int p5), .val (.int (Int32.ofNat n)), .val (.ref b22), .val (.ref b27), .unset, .unset] [(.int (Int32.ofNat n)), (.int (0 : Int32)), (.ref b22), (.ref b27)]
  refine own_callS G31 at_76 (y := (⟨"com/example/resguardo/resguardo/DisjointSetsFindPinLaw", "check", "(Lcom/example/resguardo/resguardo/DisjointSets;[III)Z"⟩ : MethodName)) (hw _ (List.mem_of_getElem? (i := 26) rfl)) (hw _ (List.mem_of_getElem? (i := 27) rfl)) (hw _ (List.mem_of_getElem? (i := 14) rfl)) (hw _ (List.mem_of_getElem? (i := 28) rfl)) (by decide) (argsL := [(.ref b27), (.ref b22), (.int (0 : Int32)), (.int (Int32.ofNat n))]) (rest := []) (rmCheck l Z a0 hw b27 b22 _ _ pa n 0 R2 h31 n0 Y V A22 (by decide) h4 ne nl fp rfl rfl) rfl rfl rfl (lenOf pd_4 rfl) (W := 0) (Nat.le_of_eq rfl) (by decide) (by decide) (by decide) (by decide) ?_
  intro v32 T32 h32 hq32 G32
  obtain ⟨rfl, K, V'⟩ := hq32
  show ownGo _ _ _ _ _ _ _ T32 79 #[.val (.int p1), .val (.int p2), .val (.int p3), .val (.int p4), .val (.int p5), .val (.int (Int32.ofNat n)), .val (.ref b22), .val (.ref b27), .unset, .unset] [(.int (1 : Int32))]
  replace V := V'
  replace A22 := A22.keep K (ninS nl nin0)
  replace Y : n0 ≤ h32.size := Nat.le_trans Y K.1
  refine own_istore G32 at_79 (L' := #[.val (.int p1), .val (.int p2), .val (.int p3), .val (.int p4), .val (.int p5), .val (.int (Int32.ofNat n)), .val (.ref b22), .val (.ref b27), .val (.int (1 : Int32)), .unset]) rfl ?_
  show ownGo _ _ _ _ _ _ _ T32 81 #[.val (.int p1), .val (.int p2), .val (.int p3), .val (.int p4), .val (.int p5), .val (.int (Int32.ofNat n)), .val (.ref b22), .val (.ref b27), .val (.int (1 : Int32)), .unset] []
  refine own_iload G32 at_81 rfl ?_
  show ownGo _ _ _ _ _ _ _ T32 83 #[.val (.int p1), .val (.int p2), .val (.int p3), .val (.int p4), .val (.int p5), .val (.int (Int32.ofNat n)), .val (.ref b22), .val (.ref b27), .val (.int (1 : Int32)), .unset] [(.int (1 : Int32))]
  refine own_if_eq G32 at_83 (pc' := 103) (by decide) (by decide) (fun hc => False.elim (absurd hc (by decide))) (fun hc => ?_)
  show ownGo _ _ _ _ _ _ _ T32 86 #[.val (.int p1), .val (.int p2), .val (.int p3), .val (.int p4), .val (.int p5), .val (.int (Int32.ofNat n)), .val (.ref b22), .val (.ref b27), .val (.int (1 : Int32)), .unset] []
  refine own_aload G32 at_86 rfl rfl ?_
  show ownGo _ _ _ _ _ _ _ T32 88 #[.val (.int p1), .val (.int p2), .val (.int p3), .val (.int p4), .val (.int p5), .val (.int (Int32.ofNat n)), .val (.ref b22), .val (.ref b27), .val (.int (1 : Int32)), .unset] [(.ref b27)]
  refine own_aload G32 at_88 rfl rfl ?_
  show ownGo _ _ _ _ _ _ _ T32 90 #[.val (.int p1), .val (.int p2), .val (.int p3), .val (.int p4), .val (.int p5), .val (.int (Int32.ofNat n)), .val (.ref b22), .val (.ref b27), .val (.int (1 : Int32)), .unset] [(.ref b22), (.ref b27)]
  refine own_iconst G32 at_90 ?_
  show ownGo _ _ _ _ _ _ _ T32 91 #[.val (.int p1), .val (.int p2), .val (.int p3), .val (.int p4), .val (.int p5), .val (.int (Int32.ofNat n)), .val (.ref b22), .val (.ref b27), .val (.int (1 : Int32)), .unset] [(.int (1 : Int32)), (.ref b22), (.ref b27)]
  refine own_iload G32 at_91 rfl ?_
  show ownGo _ _ _ _ _ _ _ T32 93 #[.val (.int p1), .val (.int p2), .val (.int p3), .val (.int p4), .val (.int p5), .val (.int (Int32.ofNat n)), .val (.ref b22), .val (.ref b27), .val (.int (1 : Int32)), .unset] [(.int (Int32.ofNat n)), (.int (1 : Int32)), (.ref b22), (.ref b27)]
  refine own_callS G32 at_93 (y := (⟨"com/example/resguardo/resguardo/DisjointSetsFindPinLaw", "check", "(Lcom/example/resguardo/resguardo/DisjointSets;[III)Z"⟩ : MethodName)) (hw _ (List.mem_of_getElem? (i := 26) rfl)) (hw _ (List.mem_of_getElem? (i := 27) rfl)) (hw _ (List.mem_of_getElem? (i := 14) rfl)) (hw _ (List.mem_of_getElem? (i := 28) rfl)) (by decide) (argsL := [(.ref b27), (.ref b22), (.int (1 : Int32)), (.int (Int32.ofNat n))]) (rest := []) (rmCheck l Z a0 hw b27 b22 _ _ pa n 1 R2 h32 n0 Y V A22 (by decide) h4 ne nl fp rfl rfl) rfl rfl rfl (lenOf pd_4 rfl) (W := 0) (Nat.le_of_eq rfl) (by decide) (by decide) (by decide) (by decide) ?_
  intro v33 T33 h33 hq33 G33
  obtain ⟨rfl, K, V'⟩ := hq33
  show ownGo _ _ _ _ _ _ _ T33 96 #[.val (.int p1), .val (.int p2), .val (.int p3), .val (.int p4), .val (.int p5), .val (.int (Int32.ofNat n)), .val (.ref b22), .val (.ref b27), .val (.int (1 : Int32)), .unset] [(.int (1 : Int32))]
  replace V := V'
  replace A22 := A22.keep K (ninS nl nin0)
  replace Y : n0 ≤ h33.size := Nat.le_trans Y K.1
  refine own_if_eq G33 at_96 (pc' := 103) (by decide) (by decide) (fun hc => False.elim (absurd hc (by decide))) (fun hc => ?_)
  show ownGo _ _ _ _ _ _ _ T33 99 #[.val (.int p1), .val (.int p2), .val (.int p3), .val (.int p4), .val (.int p5), .val (.int (Int32.ofNat n)), .val (.ref b22), .val (.ref b27), .val (.int (1 : Int32)), .unset] []
  refine own_iconst G33 at_99 ?_
  show ownGo _ _ _ _ _ _ _ T33 100 #[.val (.int p1), .val (.int p2), .val (.int p3), .val (.int p4), .val (.int p5), .val (.int (Int32.ofNat n)), .val (.ref b22), .val (.ref b27), .val (.int (1 : Int32)), .unset] [(.int (1 : Int32))]
  refine own_goto G33 at_100 (pc' := 104) (by decide) (by decide) ?_
  show ownGo _ _ _ _ _ _ _ T33 104 #[.val (.int p1), .val (.int p2), .val (.int p3), .val (.int p4), .val (.int p5), .val (.int (Int32.ofNat n)), .val (.ref b22), .val (.ref b27), .val (.int (1 : Int32)), .unset] [(.int (1 : Int32))]
  refine own_istore G33 at_104 (L' := #[.val (.int p1), .val (.int p2), .val (.int p3), .val (.int p4), .val (.int p5), .val (.int (Int32.ofNat n)), .val (.ref b22), .val (.ref b27), .val (.int (1 : Int32)), .unset]) rfl ?_
  show ownGo _ _ _ _ _ _ _ T33 106 #[.val (.int p1), .val (.int p2), .val (.int p3), .val (.int p4), .val (.int p5), .val (.int (Int32.ofNat n)), .val (.ref b22), .val (.ref b27), .val (.int (1 : Int32)), .unset] []
  refine own_iload G33 at_106 rfl ?_
  show ownGo _ _ _ _ _ _ _ T33 108 #[.val (.int p1), .val (.int p2), .val (.int p3), .val (.int p4), .val (.int p5), .val (.int (Int32.ofNat n)), .val (.ref b22), .val (.ref b27), .val (.int (1 : Int32)), .unset] [(.int (1 : Int32))]
  refine own_if_eq G33 at_108 (pc' := 128) (by decide) (by decide) (fun hc => False.elim (absurd hc (by decide))) (fun hc => ?_)
  show ownGo _ _ _ _ _ _ _ T33 111 #[.val (.int p1), .val (.int p2), .val (.int p3), .val (.int p4), .val (.int p5), .val (.int (Int32.ofNat n)), .val (.ref b22), .val (.ref b27), .val (.int (1 : Int32)), .unset] []
  refine own_aload G33 at_111 rfl rfl ?_
  show ownGo _ _ _ _ _ _ _ T33 113 #[.val (.int p1), .val (.int p2), .val (.int p3), .val (.int p4), .val (.int p5), .val (.int (Int32.ofNat n)), .val (.ref b22), .val (.ref b27), .val (.int (1 : Int32)), .unset] [(.ref b27)]
  refine own_aload G33 at_113 rfl rfl ?_
  show ownGo _ _ _ _ _ _ _ T33 115 #[.val (.int p1), .val (.int p2), .val (.int p3), .val (.int p4), .val (.int p5), .val (.int (Int32.ofNat n)), .val (.ref b22), .val (.ref b27), .val (.int (1 : Int32)), .unset] [(.ref b22), (.ref b27)]
  refine own_iconst G33 at_115 ?_
  show ownGo _ _ _ _ _ _ _ T33 116 #[.val (.int p1), .val (.int p2), .val (.int p3), .val (.int p4), .val (.int p5), .val (.int (Int32.ofNat n)), .val (.ref b22), .val (.ref b27), .val (.int (1 : Int32)), .unset] [(.int (2 : Int32)), (.ref b22), (.ref b27)]
  refine own_iload G33 at_116 rfl ?_
  show ownGo _ _ _ _ _ _ _ T33 118 #[.val (.int p1), .val (.int p2), .val (.int p3), .val (.int p4), .val (.int p5), .val (.int (Int32.ofNat n)), .val (.ref b22), .val (.ref b27), .val (.int (1 : Int32)), .unset] [(.int (Int32.ofNat n)), (.int (2 : Int32)), (.ref b22), (.ref b27)]
  refine own_callS G33 at_118 (y := (⟨"com/example/resguardo/resguardo/DisjointSetsFindPinLaw", "check", "(Lcom/example/resguardo/resguardo/DisjointSets;[III)Z"⟩ : MethodName)) (hw _ (List.mem_of_getElem? (i := 26) rfl)) (hw _ (List.mem_of_getElem? (i := 27) rfl)) (hw _ (List.mem_of_getElem? (i := 14) rfl)) (hw _ (List.mem_of_getElem? (i := 28) rfl)) (by decide) (argsL := [(.ref b27), (.ref b22), (.int (2 : Int32)), (.int (Int32.ofNat n))]) (rest := []) (rmCheck l Z a0 hw b27 b22 _ _ pa n 2 R2 h33 n0 Y V A22 (by decide) h4 ne nl fp rfl rfl) rfl rfl rfl (lenOf pd_4 rfl) (W := 0) (Nat.le_of_eq rfl) (by decide) (by decide) (by decide) (by decide) ?_
  intro v34 T34 h34 hq34 G34
  obtain ⟨rfl, K, V'⟩ := hq34
  show ownGo _ _ _ _ _ _ _ T34 121 #[.val (.int p1), .val (.int p2), .val (.int p3), .val (.int p4), .val (.int p5), .val (.int (Int32.ofNat n)), .val (.ref b22), .val (.ref b27), .val (.int (1 : Int32)), .unset] [(.int (1 : Int32))]
  replace V := V'
  replace A22 := A22.keep K (ninS nl nin0)
  replace Y : n0 ≤ h34.size := Nat.le_trans Y K.1
  refine own_if_eq G34 at_121 (pc' := 128) (by decide) (by decide) (fun hc => False.elim (absurd hc (by decide))) (fun hc => ?_)
  show ownGo _ _ _ _ _ _ _ T34 124 #[.val (.int p1), .val (.int p2), .val (.int p3), .val (.int p4), .val (.int p5), .val (.int (Int32.ofNat n)), .val (.ref b22), .val (.ref b27), .val (.int (1 : Int32)), .unset] []
  refine own_iconst G34 at_124 ?_
  show ownGo _ _ _ _ _ _ _ T34 125 #[.val (.int p1), .val (.int p2), .val (.int p3), .val (.int p4), .val (.int p5), .val (.int (Int32.ofNat n)), .val (.ref b22), .val (.ref b27), .val (.int (1 : Int32)), .unset] [(.int (1 : Int32))]
  refine own_goto G34 at_125 (pc' := 129) (by decide) (by decide) ?_
  show ownGo _ _ _ _ _ _ _ T34 129 #[.val (.int p1), .val (.int p2), .val (.int p3), .val (.int p4), .val (.int p5), .val (.int (Int32.ofNat n)), .val (.ref b22), .val (.ref b27), .val (.int (1 : Int32)), .unset] [(.int (1 : Int32))]
  refine own_istore G34 at_129 (L' := #[.val (.int p1), .val (.int p2), .val (.int p3), .val (.int p4), .val (.int p5), .val (.int (Int32.ofNat n)), .val (.ref b22), .val (.ref b27), .val (.int (1 : Int32)), .unset]) rfl ?_
  show ownGo _ _ _ _ _ _ _ T34 131 #[.val (.int p1), .val (.int p2), .val (.int p3), .val (.int p4), .val (.int p5), .val (.int (Int32.ofNat n)), .val (.ref b22), .val (.ref b27), .val (.int (1 : Int32)), .unset] []
  refine own_iload G34 at_131 rfl ?_
  show ownGo _ _ _ _ _ _ _ T34 133 #[.val (.int p1), .val (.int p2), .val (.int p3), .val (.int p4), .val (.int p5), .val (.int (Int32.ofNat n)), .val (.ref b22), .val (.ref b27), .val (.int (1 : Int32)), .unset] [(.int (1 : Int32))]
  refine own_if_eq G34 at_133 (pc' := 153) (by decide) (by decide) (fun hc => False.elim (absurd hc (by decide))) (fun hc => ?_)
  show ownGo _ _ _ _ _ _ _ T34 136 #[.val (.int p1), .val (.int p2), .val (.int p3), .val (.int p4), .val (.int p5), .val (.int (Int32.ofNat n)), .val (.ref b22), .val (.ref b27), .val (.int (1 : Int32)), .unset] []
  refine own_aload G34 at_136 rfl rfl ?_
  show ownGo _ _ _ _ _ _ _ T34 138 #[.val (.int p1), .val (.int p2), .val (.int p3), .val (.int p4), .val (.int p5), .val (.int (Int32.ofNat n)), .val (.ref b22), .val (.ref b27), .val (.int (1 : Int32)), .unset] [(.ref b27)]
  refine own_aload G34 at_138 rfl rfl ?_
  show ownGo _ _ _ _ _ _ _ T34 140 #[.val (.int p1), .val (.int p2), .val (.int p3), .val (.int p4), .val (.int p5), .val (.int (Int32.ofNat n)), .val (.ref b22), .val (.ref b27), .val (.int (1 : Int32)), .unset] [(.ref b22), (.ref b27)]
  refine own_iconst G34 at_140 ?_
  show ownGo _ _ _ _ _ _ _ T34 141 #[.val (.int p1), .val (.int p2), .val (.int p3), .val (.int p4), .val (.int p5), .val (.int (Int32.ofNat n)), .val (.ref b22), .val (.ref b27), .val (.int (1 : Int32)), .unset] [(.int (3 : Int32)), (.ref b22), (.ref b27)]
  refine own_iload G34 at_141 rfl ?_
  show ownGo _ _ _ _ _ _ _ T34 143 #[.val (.int p1), .val (.int p2), .val (.int p3), .val (.int p4), .val (.int p5), .val (.int (Int32.ofNat n)), .val (.ref b22), .val (.ref b27), .val (.int (1 : Int32)), .unset] [(.int (Int32.ofNat n)), (.int (3 : Int32)), (.ref b22), (.ref b27)]
  refine own_callS G34 at_143 (y := (⟨"com/example/resguardo/resguardo/DisjointSetsFindPinLaw", "check", "(Lcom/example/resguardo/resguardo/DisjointSets;[III)Z"⟩ : MethodName)) (hw _ (List.mem_of_getElem? (i := 26) rfl)) (hw _ (List.mem_of_getElem? (i := 27) rfl)) (hw _ (List.mem_of_getElem? (i := 14) rfl)) (hw _ (List.mem_of_getElem? (i := 28) rfl)) (by decide) (argsL := [(.ref b27), (.ref b22), (.int (3 : Int32)), (.int (Int32.ofNat n))]) (rest := []) (rmCheck l Z a0 hw b27 b22 _ _ pa n 3 R2 h34 n0 Y V A22 (by decide) h4 ne nl fp rfl rfl) rfl rfl rfl (lenOf pd_4 rfl) (W := 0) (Nat.le_of_eq rfl) (by decide) (by decide) (by decide) (by decide) ?_
  intro v35 T35 h35 hq35 G35
  obtain ⟨rfl, K, V'⟩ := hq35
  show ownGo _ _ _ _ _ _ _ T35 146 #[.val (.int p1), .val (.int p2), .val (.int p3), .val (.int p4), .val (.int p5), .val (.int (Int32.ofNat n)), .val (.ref b22), .val (.ref b27), .val (.int (1 : Int32)), .unset] [(.int (1 : Int32))]
  replace V := V'
  replace A22 := A22.keep K (ninS nl nin0)
  replace Y : n0 ≤ h35.size := Nat.le_trans Y K.1
  refine own_if_eq G35 at_146 (pc' := 153) (by decide) (by decide) (fun hc => False.elim (absurd hc (by decide))) (fun hc => ?_)
  show ownGo _ _ _ _ _ _ _ T35 149 #[.val (.int p1), .val (.int p2), .val (.int p3), .val (.int p4), .val (.int p5), .val (.int (Int32.ofNat n)), .val (.ref b22), .val (.ref b27), .val (.int (1 : Int32)), .unset] []
  refine own_iconst G35 at_149 ?_
  show ownGo _ _ _ _ _ _ _ T35 150 #[.val (.int p1), .val (.int p2), .val (.int p3), .val (.int p4), .val (.int p5), .val (.int (Int32.ofNat n)), .val (.ref b22), .val (.ref b27), .val (.int (1 : Int32)), .unset] [(.int (1 : Int32))]
  refine own_goto G35 at_150 (pc' := 154) (by decide) (by decide) ?_
  show ownGo _ _ _ _ _ _ _ T35 154 #[.val (.int p1), .val (.int p2), .val (.int p3), .val (.int p4), .val (.int p5), .val (.int (Int32.ofNat n)), .val (.ref b22), .val (.ref b27), .val (.int (1 : Int32)), .unset] [(.int (1 : Int32))]
  refine own_istore G35 at_154 (L' := #[.val (.int p1), .val (.int p2), .val (.int p3), .val (.int p4), .val (.int p5), .val (.int (Int32.ofNat n)), .val (.ref b22), .val (.ref b27), .val (.int (1 : Int32)), .unset]) rfl ?_
  show ownGo _ _ _ _ _ _ _ T35 156 #[.val (.int p1), .val (.int p2), .val (.int p3), .val (.int p4), .val (.int p5), .val (.int (Int32.ofNat n)), .val (.ref b22), .val (.ref b27), .val (.int (1 : Int32)), .unset] []
  refine own_iload G35 at_156 rfl ?_
  show ownGo _ _ _ _ _ _ _ T35 158 #[.val (.int p1), .val (.int p2), .val (.int p3), .val (.int p4), .val (.int p5), .val (.int (Int32.ofNat n)), .val (.ref b22), .val (.ref b27), .val (.int (1 : Int32)), .unset] [(.int p5)]
  refine own_ldcInt G35 at_158 (hw _ (List.mem_of_getElem? (i := 30) rfl)) ?_
  show ownGo _ _ _ _ _ _ _ T35 160 #[.val (.int p1), .val (.int p2), .val (.int p3), .val (.int p4), .val (.int p5), .val (.int (Int32.ofNat n)), .val (.ref b22), .val (.ref b27), .val (.int (1 : Int32)), .unset] [(.int (2147483647 : Int32)), (.int p5)]
  refine own_iand G35 at_160 ?_
  show ownGo _ _ _ _ _ _ _ T35 161 #[.val (.int p1), .val (.int p2), .val (.int p3), .val (.int p4), .val (.int p5), .val (.int (Int32.ofNat n)), .val (.ref b22), .val (.ref b27), .val (.int (1 : Int32)), .unset] [(.int (p5 &&& (2147483647 : Int32)))]
  refine own_iload G35 at_161 rfl ?_
  show ownGo _ _ _ _ _ _ _ T35 163 #[.val (.int p1), .val (.int p2), .val (.int p3), .val (.int p4), .val (.int p5), .val (.int (Int32.ofNat n)), .val (.ref b22), .val (.ref b27), .val (.int (1 : Int32)), .unset] [(.int (Int32.ofNat n)), (.int (p5 &&& (2147483647 : Int32)))]
  refine own_irem G35 at_163 (own_nz h1' h4) ?_
  show ownGo _ _ _ _ _ _ _ T35 164 #[.val (.int p1), .val (.int p2), .val (.int p3), .val (.int p4), .val (.int p5), .val (.int (Int32.ofNat n)), .val (.ref b22), .val (.ref b27), .val (.int (1 : Int32)), .unset] [(.int ((p5 &&& (2147483647 : Int32)) % (Int32.ofNat n)))]
  obtain ⟨x, hx, ex⟩ := own_remN (p5 &&& (2147483647 : Int32)) h1' h4 (own_m31 _)
  rw [ex]
  show ownGo _ _ _ _ _ _ _ T35 164 #[.val (.int p1), .val (.int p2), .val (.int p3), .val (.int p4), .val (.int p5), .val (.int (Int32.ofNat n)), .val (.ref b22), .val (.ref b27), .val (.int (1 : Int32)), .unset] [(.int (Int32.ofNat x))]
  refine own_istore G35 at_164 (L' := #[.val (.int p1), .val (.int p2), .val (.int p3), .val (.int p4), .val (.int p5), .val (.int (Int32.ofNat n)), .val (.ref b22), .val (.ref b27), .val (.int (1 : Int32)), .val (.int (Int32.ofNat x))]) rfl ?_
  show ownGo _ _ _ _ _ _ _ T35 166 #[.val (.int p1), .val (.int p2), .val (.int p3), .val (.int p4), .val (.int p5), .val (.int (Int32.ofNat n)), .val (.ref b22), .val (.ref b27), .val (.int (1 : Int32)), .val (.int (Int32.ofNat x))] []
  refine own_iload G35 at_166 rfl ?_
  show ownGo _ _ _ _ _ _ _ T35 168 #[.val (.int p1), .val (.int p2), .val (.int p3), .val (.int p4), .val (.int p5), .val (.int (Int32.ofNat n)), .val (.ref b22), .val (.ref b27), .val (.int (1 : Int32)), .val (.int (Int32.ofNat x))] [(.int (1 : Int32))]
  refine own_if_eq G35 at_168 (pc' := 190) (by decide) (by decide) (fun hc => False.elim (absurd hc (by decide))) (fun hc => ?_)
  show ownGo _ _ _ _ _ _ _ T35 171 #[.val (.int p1), .val (.int p2), .val (.int p3), .val (.int p4), .val (.int p5), .val (.int (Int32.ofNat n)), .val (.ref b22), .val (.ref b27), .val (.int (1 : Int32)), .val (.int (Int32.ofNat x))] []
  refine own_aload G35 at_171 rfl rfl ?_
  show ownGo _ _ _ _ _ _ _ T35 173 #[.val (.int p1), .val (.int p2), .val (.int p3), .val (.int p4), .val (.int p5), .val (.int (Int32.ofNat n)), .val (.ref b22), .val (.ref b27), .val (.int (1 : Int32)), .val (.int (Int32.ofNat x))] [(.ref b27)]
  refine own_iload G35 at_173 rfl ?_
  show ownGo _ _ _ _ _ _ _ T35 175 #[.val (.int p1), .val (.int p2), .val (.int p3), .val (.int p4), .val (.int p5), .val (.int (Int32.ofNat n)), .val (.ref b22), .val (.ref b27), .val (.int (1 : Int32)), .val (.int (Int32.ofNat x))] [(.int (Int32.ofNat x)), (.ref b27)]
  refine own_virtual G35 at_175 (y := (⟨"com/example/resguardo/resguardo/DisjointSets", "find", "(I)I"⟩ : MethodName)) (hw _ (List.mem_of_getElem? (i := 29) rfl)) (hw _ (List.mem_of_getElem? (i := 22) rfl)) (hw _ (List.mem_of_getElem? (i := 24) rfl)) (hw _ (List.mem_of_getElem? (i := 23) rfl)) (hw _ (List.mem_of_getElem? (i := 3) rfl)) (hw _ (List.mem_of_getElem? (i := 25) rfl)) (by decide) (a := b27) (argsL := [(.int (Int32.ofNat x))]) (rest := []) V.exa (rmFind l Z a0 hw b27 _ pa n x R2 h35 n0 Y V hx h4 ne fp rfl) rfl rfl rfl (lenOf pd_0 rfl) (W := 0) (Nat.le_of_eq rfl) (by decide) (by decide) (by decide) (by decide) ?_
  intro v36 T36 h36 hq36 G36
  obtain ⟨rfl, K, V'⟩ := hq36
  show ownGo _ _ _ _ _ _ _ T36 178 #[.val (.int p1), .val (.int p2), .val (.int p3), .val (.int p4), .val (.int p5), .val (.int (Int32.ofNat n)), .val (.ref b22), .val (.ref b27), .val (.int (1 : Int32)), .val (.int (Int32.ofNat x))] [(.int (Int32.ofNat (R2 x)))]
  refine own_aload G36 at_178 rfl rfl ?_
  show ownGo _ _ _ _ _ _ _ T36 180 #[.val (.int p1), .val (.int p2), .val (.int p3), .val (.int p4), .val (.int p5), .val (.int (Int32.ofNat n)), .val (.ref b22), .val (.ref b27), .val (.int (1 : Int32)), .val (.int (Int32.ofNat x))] [(.ref b22), (.int (Int32.ofNat (R2 x)))]
  refine own_iload G36 at_180 rfl ?_
  show ownGo _ _ _ _ _ _ _ T36 182 #[.val (.int p1), .val (.int p2), .val (.int p3), .val (.int p4), .val (.int p5), .val (.int (Int32.ofNat n)), .val (.ref b22), .val (.ref b27), .val (.int (1 : Int32)), .val (.int (Int32.ofNat x))] [(.int (Int32.ofNat x)), (.ref b22), (.int (Int32.ofNat (R2 x)))]
  refine own_iaload G36 at_182 (v := (.int (Int32.ofNat (R2 x)))) (A22.keep K (ninS nl nin0))  (own_ixN (show x < 4 by omega) (by decide)) rfl ?_
  show ownGo _ _ _ _ _ _ _ T36 183 #[.val (.int p1), .val (.int p2), .val (.int p3), .val (.int p4), .val (.int p5), .val (.int (Int32.ofNat n)), .val (.ref b22), .val (.ref b27), .val (.int (1 : Int32)), .val (.int (Int32.ofNat x))] [(.int (Int32.ofNat (R2 x))), (.int (Int32.ofNat (R2 x)))]
  refine own_icmp_ne G36 at_183 (pc' := 190) (by decide) (by decide) (fun hc => False.elim (hc rfl)) (fun hc => ?_)
  show ownGo _ _ _ _ _ _ _ T36 186 #[.val (.int p1), .val (.int p2), .val (.int p3), .val (.int p4), .val (.int p5), .val (.int (Int32.ofNat n)), .val (.ref b22), .val (.ref b27), .val (.int (1 : Int32)), .val (.int (Int32.ofNat x))] []
  refine own_iconst G36 at_186 ?_
  show ownGo _ _ _ _ _ _ _ T36 187 #[.val (.int p1), .val (.int p2), .val (.int p3), .val (.int p4), .val (.int p5), .val (.int (Int32.ofNat n)), .val (.ref b22), .val (.ref b27), .val (.int (1 : Int32)), .val (.int (Int32.ofNat x))] [(.int (1 : Int32))]
  refine own_goto G36 at_187 (pc' := 191) (by decide) (by decide) ?_
  show ownGo _ _ _ _ _ _ _ T36 191 #[.val (.int p1), .val (.int p2), .val (.int p3), .val (.int p4), .val (.int p5), .val (.int (Int32.ofNat n)), .val (.ref b22), .val (.ref b27), .val (.int (1 : Int32)), .val (.int (Int32.ofNat x))] [(.int (1 : Int32))]
  refine own_istore G36 at_191 (L' := #[.val (.int p1), .val (.int p2), .val (.int p3), .val (.int p4), .val (.int p5), .val (.int (Int32.ofNat n)), .val (.ref b22), .val (.ref b27), .val (.int (1 : Int32)), .val (.int (Int32.ofNat x))]) rfl ?_
  show ownGo _ _ _ _ _ _ _ T36 193 #[.val (.int p1), .val (.int p2), .val (.int p3), .val (.int p4), .val (.int p5), .val (.int (Int32.ofNat n)), .val (.ref b22), .val (.ref b27), .val (.int (1 : Int32)), .val (.int (Int32.ofNat x))] []
  refine own_iload G36 at_193 rfl ?_
  show ownGo _ _ _ _ _ _ _ T36 195 #[.val (.int p1), .val (.int p2), .val (.int p3), .val (.int p4), .val (.int p5), .val (.int (Int32.ofNat n)), .val (.ref b22), .val (.ref b27), .val (.int (1 : Int32)), .val (.int (Int32.ofNat x))] [(.int (1 : Int32))]
  exact own_zreturn G36 at_195 rfl (by decide) (by decide) rfl
set_option maxRecDepth 65536 in
set_option maxHeartbeats 40000000 in
theorem comes_1 {Post : Tables → Env → Array Value → State → Outcome → State → Prop} (hpost : ∀ tb e args s v u, (limb_1_1.after args s (.returned v) u = true ∧ limb_1_2.after args s (.returned v) u = true ∧ True) → FrameEnd s (.returned v) u (Jvm.fieldLocs frame_1_writes args s ++ Jvm.arrayLocs frame_1_arrays args s ++ Jvm.staticLocs frame_1_statics s) 16 128 → Post tb e args s (.returned v) u) :
    ArmFor flags0 classFile x code maxLocals ret World_1 tables_1 room_1 Calls_1 rest_1 Pre_1 Post := by
  intro l hfl _ _ p e ha hc hk s m args below hf hA hF happ hP
  obtain ⟨hcalls, hrest, hpre⟩ := hP
  obtain ⟨-, -, -, hnamed, -, -, -, hat⟩ := (Spec.applies_iff hf).mp happ
  obtain ⟨hg, hn⟩ := and_e (Cond.before_iff.mp (show (Jvm.Cond.and given_1 narrow_1).before args s = true from hpre))
  obtain ⟨g1, g2⟩ := and_e hg
  obtain ⟨g3, g4⟩ := and_e g2
  obtain ⟨g5, g6⟩ := and_e g4
  obtain ⟨g7, g8⟩ := and_e g6
  obtain ⟨g9, g10⟩ := and_e g8
  obtain ⟨w0, w1, w2, w3, w4, rfl⟩ : ∃ w0 w1 w2 w3 w4 : Value, args = #[w0, w1, w2, w3, w4] := by
    have hs : args.size = 5 := by simpa [Cond.value, given_1] using g1
    obtain ⟨L⟩ := args
    match L, hs with
    | [w0, w1, w2, w3, w4], _ => exact ⟨w0, w1, w2, w3, w4, rfl⟩
  have hw := fun d (hd : d ∈ tables_1) => atoms_spec (ws := Jvm.Cond.code x code maxLocals ret :: tables_1) hat d (List.mem_cons_of_mem _ hd)
  have hfit : Fit s := fun {y c} hc i hi => by
    obtain ⟨ha, rfl⟩ := Array.getElem?_eq_some_iff.mp hc
    have q := List.all_eq_true.mp ((Array.all_eq_true_iff_forall_mem.mp hF) _ (Array.getElem_mem ha)) i (List.mem_range.mpr hi)
    simpa [Array.getElem?_eq_getElem hi] using q
  obtain ⟨i0, ei0⟩ := is_v g3
  obtain rfl : w0 = (.int i0) := Option.some.inj ei0
  obtain ⟨i1, ei1⟩ := is_v g5
  obtain rfl : w1 = (.int i1) := Option.some.inj ei1
  obtain ⟨i2, ei2⟩ := is_v g7
  obtain rfl : w2 = (.int i2) := Option.some.inj ei2
  obtain ⟨i3, ei3⟩ := is_v g9
  obtain rfl : w3 = (.int i3) := Option.some.inj ei3
  obtain ⟨i4, ei4⟩ := is_v g10
  obtain rfl : w4 = (.int i4) := Option.some.inj ei4
  obtain ⟨n, o, h1, h2, h3, _, L, rfl, ⟨rfl, N⟩, hq⟩ := rm0 l s _ hw i0 i1 i2 i3 i4 s.heap s.heap.size (Nat.le_refl _) p e ha hc hk s m _ below hf ((Spec.applies_iff_loose hf).mp happ).1 ⟨rfl, State.Warmed39.refl s, rfl⟩ trivial
  refine ⟨n, _, h1, h2, h3, hpost _ _ _ _ _ _ ⟨Cond.after_iff.mpr rfl, Cond.after_iff.mpr (eq_i res_at (Term.int_eval (1)) rfl), trivial⟩ ⟨hq.1, hq.2.1, (hq.2.2.sift fun y hy => Or.inr (N y hy)).mono (by decide) (by decide)⟩⟩
theorem main_1_1 : Claimed_1_1 := comes_1 fun _ _ _ _ _ _ h hF => ⟨h.1, hF⟩
theorem main_1_2 : Claimed_1_2 := comes_1 fun _ _ _ _ _ _ h hF => ⟨h.2.1, hF⟩
end Jvm.Pilot.@@N@@
namespace Jvm.Pilot.@@N@@
open Jvm Jvm.ClassFile Sem Op Lib Jvm.Free Jvm.Stand Jvm.Pilot.@@N@@.Jvm.D
/-! MADE BY PROGRAM (witnessworld.py) out of the Statement's table words and the real class files: 9 classes; the members and pool entries that the words name. The judged class is class 1, her method 1. -/
namespace start1
open Jvm.ClassFile
def u (s : String) : CpInfo := .utf8 (stringToUtf16 s)
/-- a pool by its gaps: so many unusable entries, then the entry; so many at the end -/
def gap : Nat → List CpInfo → List CpInfo
  | 0, r => r
  | n + 1, r => .unusable :: gap n r
def poolList (es : List (Nat × CpInfo)) (last : Nat) : List CpInfo := es.foldr (fun e r => gap e.1 (e.2 :: r)) (gap last [])
def pool (es : List (Nat × CpInfo)) (last : Nat) : Array CpInfo := ⟨poolList es last⟩
def fileOf (pool : Array CpInfo) (this : Nat) (attrs : Array Attribute := #[]) (ms : Array MethodInfo := #[]) (fl : Nat := 33) (sup : Nat := 0) (ifs : Array Nat := #[]) (fds : Array FieldInfo := #[]) : ClassFile where
  minorVersion := 0
  majorVersion := 65
  constantPool := pool
  accessFlags := fl
  thisClass := this
  superClass := sup
  interfaces := ifs
  fields := fds
  methods := ms
  attributes := attrs
def plain (name : String) (sup : Option ClassId) : Class where
  name := name
  kind := .ordinary
  loader := none
  accessFlags := 33
  super := sup
  interfaces := #[]
  cf := none
  fields := #[]
  methods := #[]
  instanceTypes := #[]
  staticTypes := #[]
  resolved := #[]
  callSites := []
  init := .initialized
  statics := none
  mirror := none

def pool0 : Array CpInfo := pool [(5, u "<init>"), (0, u "()V"), (1, .class_ 10), (1, u "java/lang/Object")] 113

def k0c0 : Code := { maxStack := 0, maxLocals := 1, code := object_method_1_code, exceptionTable := #[], attributes := #[] }
def k0m0 : Method := { name := "<init>", desc := "()V", sig := { parameters := [], returnType := none }, accessFlags := 1, code := some k0c0 }
/-- java/lang/Object -/
def k0 : Class := { plain "java/lang/Object" none with
  accessFlags := 33
  interfaces := #[]
  cf := some (fileOf pool0 8 #[] #[{ accessFlags := 1, nameIndex := 5, descriptorIndex := 6, attributes := #[] }] 33 0 #[] #[])
  fields := #[]
  methods := #[k0m0]
  instanceTypes := #[]
  staticTypes := #[]
  resolved := Array.replicate 124 none
  statics := none }

def pool1 : Array CpInfo := pool [(2, .class_ 4), (1, u "java/lang/Object"), (0, u "<init>"), (0, u "()V"), (0, .class_ 8), (0, u "com/example/resguardo/resguardo/DisjointSets"), (0, .methodref 7 10), (0, .nameAndType 5 11), (0, u "(I)V"), (0, .methodref 13 14), (0, .class_ 15), (0, .nameAndType 16 17), (0, u "com/example/resguardo/resguardo/DisjointSetsFindPinLaw"), (0, u "doJoin"), (0, u "(Lcom/example/resguardo/resguardo/DisjointSets;[III)V"), (0, .methodref 13 19), (0, .nameAndType 20 21), (0, u "check"), (0, u "(Lcom/example/resguardo/resguardo/DisjointSets;[III)Z"), (0, .integer 2147483647), (0, .methodref 7 24), (0, .nameAndType 25 26), (0, u "find"), (0, u "(I)I"), (0, .methodref 7 28), (0, .nameAndType 29 30), (0, u "join"), (0, u "(II)V"), (2, u "law"), (0, u "(IIIII)Z")] 5

def k1m0 : Method := { name := "<init>", desc := "()V", sig := { parameters := [], returnType := none }, accessFlags := 1, code := none }
def k1c1 : Code := { maxStack := 4, maxLocals := 10, code := code, exceptionTable := #[], attributes := #[] }
def k1m1 : Method := { name := "law", desc := "(IIIII)Z", sig := { parameters := [.int, .int, .int, .int, .int], returnType := some .boolean }, accessFlags := 9, code := some k1c1 }
def k1c2 : Code := { maxStack := 3, maxLocals := 4, code := method_3_code, exceptionTable := #[], attributes := #[] }
def k1m2 : Method := { name := "check", desc := "(Lcom/example/resguardo/resguardo/DisjointSets;[III)Z", sig := { parameters := [(.object "com/example/resguardo/resguardo/DisjointSets"), (.array .int), .int, .int], returnType := some .boolean }, accessFlags := 10, code := some k1c2 }
def k1c3 : Code := { maxStack := 3, maxLocals := 8, code := method_4_code, exceptionTable := #[], attributes := #[] }
def k1m3 : Method := { name := "doJoin", desc := "(Lcom/example/resguardo/resguardo/DisjointSets;[III)V", sig := { parameters := [(.object "com/example/resguardo/resguardo/DisjointSets"), (.array .int), .int, .int], returnType := none }, accessFlags := 10, code := some k1c3 }
/-- com/example/resguardo/resguardo/DisjointSetsFindPinLaw -/
def k1 : Class := { plain "com/example/resguardo/resguardo/DisjointSetsFindPinLaw" (some 0) with
  accessFlags := 49
  interfaces := #[]
  cf := some (fileOf pool1 13 #[] #[{ accessFlags := 1, nameIndex := 5, descriptorIndex := 6, attributes := #[] }, { accessFlags := 9, nameIndex := 33, descriptorIndex := 34, attributes := #[] }, { accessFlags := 10, nameIndex := 20, descriptorIndex := 21, attributes := #[] }, { accessFlags := 10, nameIndex := 16, descriptorIndex := 17, attributes := #[] }] 49 2 #[] #[])
  fields := #[]
  methods := #[k1m0, k1m1, k1m2, k1m3]
  instanceTypes := #[]
  staticTypes := #[]
  resolved := Array.replicate 40 none
  statics := none }

def pool2 : Array CpInfo := pool [(1, .methodref 2 3), (0, .class_ 4), (0, .nameAndType 5 6), (0, u "java/lang/Object"), (0, u "<init>"), (0, u "()V"), (0, .fieldref 8 9), (0, .class_ 10), (0, .nameAndType 11 12), (0, u "com/example/resguardo/resguardo/DisjointSets"), (0, u "parent"), (0, u "[I"), (0, .methodref 8 14), (0, .nameAndType 15 16), (0, u "find"), (0, u "(I)I"), (0, u "(I)V"), (3, u "join"), (0, u "(II)V")] 2

def k2c0 : Code := { maxStack := 3, maxLocals := 3, code := prog_15_method_1_code, exceptionTable := #[], attributes := #[] }
def k2m0 : Method := { name := "<init>", desc := "(I)V", sig := { parameters := [.int], returnType := none }, accessFlags := 0, code := some k2c0 }
def k2c1 : Code := { maxStack := 5, maxLocals := 2, code := prog_15_method_2_code, exceptionTable := #[], attributes := #[] }
def k2m1 : Method := { name := "find", desc := "(I)I", sig := { parameters := [.int], returnType := some .int }, accessFlags := 0, code := some k2c1 }
def k2c2 : Code := { maxStack := 4, maxLocals := 3, code := prog_15_method_3_code, exceptionTable := #[], attributes := #[] }
def k2m2 : Method := { name := "join", desc := "(II)V", sig := { parameters := [.int, .int], returnType := none }, accessFlags := 0, code := some k2c2 }
/-- com/example/resguardo/resguardo/DisjointSets -/
def k2 : Class := { plain "com/example/resguardo/resguardo/DisjointSets" (some 0) with
  accessFlags := 48
  interfaces := #[]
  cf := some (fileOf pool2 8 #[] #[{ accessFlags := 0, nameIndex := 5, descriptorIndex := 17, attributes := #[] }, { accessFlags := 0, nameIndex := 15, descriptorIndex := 16, attributes := #[] }, { accessFlags := 0, nameIndex := 21, descriptorIndex := 22, attributes := #[] }] 48 2 #[] #[{ accessFlags := 18, nameIndex := 11, descriptorIndex := 12, attributes := #[] }])
  fields := #[{ name := "parent", type := (.array .int), accessFlags := 18, slot := 0, constantValue := 0 }]
  methods := #[k2m0, k2m1, k2m2]
  instanceTypes := #[(.array .int)]
  staticTypes := #[]
  resolved := Array.replicate 25 none
  statics := none }

def pool3 : Array CpInfo := pool [(1, u "java/lang/Cloneable"), (0, .class_ 1), (0, u "java/lang/Object"), (0, .class_ 3)] 3

/-- java/lang/Cloneable -/
def k3 : Class := { plain "java/lang/Cloneable" (some 0) with
  accessFlags := 1537
  interfaces := #[]
  cf := some (fileOf pool3 2 #[] #[] 1537 4 #[] #[])
  fields := #[]
  methods := #[]
  instanceTypes := #[]
  staticTypes := #[]
  resolved := Array.replicate 8 none
  statics := none }

def pool4 : Array CpInfo := pool [(1, u "java/io/Serializable"), (0, .class_ 1), (0, u "java/lang/Object"), (0, .class_ 3)] 3

/-- java/io/Serializable -/
def k4 : Class := { plain "java/io/Serializable" (some 0) with
  accessFlags := 1537
  interfaces := #[]
  cf := some (fileOf pool4 2 #[] #[] 1537 4 #[] #[])
  fields := #[]
  methods := #[]
  instanceTypes := #[]
  staticTypes := #[]
  resolved := Array.replicate 8 none
  statics := none }

/-- the primitive byte -/
def k5 : Class := { plain "byte" none with kind := .primitive 'B', accessFlags := 0x411 }
/-- [B -/
def k6 : Class := { plain "[B" (some 0) with kind := .array 5 .byte, interfaces := #[3, 4], accessFlags := 1041 }

/-- the primitive int -/
def k7 : Class := { plain "int" none with kind := .primitive 'I', accessFlags := 0x411 }
/-- [I -/
def k8 : Class := { plain "[I" (some 0) with kind := .array 7 .int, interfaces := #[3, 4], accessFlags := 1041 }

def heap : Heap := #[]
def classes : Array Class := #[k0, k1, k2, k3, k4, k5, k6, k7, k8]
def interned : List (Array UInt16 × Addr) := []
def slotsUsed : Nat := 0
def theMethod : MethodId := ⟨1, 1⟩
def args0 : Array Value := #[.int 5, .int 6, .int 7, .int 8, .int 9]
def aboutOver (below : List Frame) : State where
  vm := { classes := classes, interned := interned.toArray }
  heap := heap
  slotsUsed := slotsUsed
  threads := #[{ frames := .invoking theMethod args0 :: below }]
def below0 : List Frame := [.native { method := ⟨0, 0⟩, args := #[] }]
def about1 : State := aboutOver below0
def p0 : Program := .bare "" "" ""
def e0 : Env := launch0.env 0 0 0
theorem w_frames : about1.frames = Frame.invoking theMethod args0 :: below0 := rfl
set_option maxRecDepth 65536 in
theorem w_args : argsFit about1.vm theMethod args0 = true := by decide +kernel
set_option maxRecDepth 65536 in
theorem w_heap : heapFits about1 = true := by decide +kernel
set_option maxRecDepth 65536 in
theorem w_runnable : about1.curStatus? = some .runnable := by decide +kernel
set_option maxRecDepth 65536 in
theorem w_alone : about1.alone = true := by decide +kernel
set_option maxRecDepth 65536 in
theorem w_named : about1.methodNamed? x = some theMethod := by decide +kernel
set_option maxRecDepth 65536 in
theorem w_hears : about1.hears theMethod below0 = true := by decide +kernel
set_option maxRecDepth 65536 in
theorem w_ripe : about1.ripe theMethod args0 below0 = true := by decide +kernel
theorem w_running : about1.status = .running := rfl
set_option maxRecDepth 65536 in
theorem w_room : about1.hasRoom e0.platform room_1 = true :=
  launch0.hasRoom_least _ room_1 (by decide +kernel) (by decide +kernel) (by decide +kernel) (by decide +kernel) (by decide +kernel) (by decide +kernel)
theorem allAtoms_all (ts : List Jvm.Cond) (a : Array Jvm.Value) (st : Jvm.State) : (allAtoms ts).before a st = ts.all (fun c => c.before a st) := by
  induction ts with
  | nil => rfl
  | cons c t ih =>
    show (Jvm.Cond.and c (allAtoms t)).before a st = _
    rw [Jvm.Cond.before_and, ih, List.all_cons]
def words1 : List Jvm.Cond := Jvm.Cond.code x code maxLocals ret :: tables_1
/-- a 'code' word, met by the world's own term for the bytes: nothing is compared byte by byte -/
theorem code_word {y : MethodName} {bytes : ByteArray} {mx : Nat} {rt : Option FieldType} {a : Array Value} {s : State} {m : MethodId} {meth : Method} {c : Code} (h1 : s.methodNamed? y = some m) (h2 : s.vm.method? m = some meth) (h3 : meth.code = some c) (h4 : c.code = bytes)
    (h5 : (c.maxLocals == mx && c.exceptionTable.isEmpty && decide (c.maxStack ≤ mostOperands) && decide (meth.sig.returnType = rt) && !meth.locks && decide (parseMethodDescriptor y.desc = some meth.sig)) = true) : (Jvm.Cond.code y bytes mx rt).before a s = true := by
  simp only [Bool.and_eq_true, beq_iff_eq, Bool.not_eq_true', decide_eq_true_eq] at h5
  obtain ⟨⟨⟨⟨⟨g1, g2⟩, g3⟩, g4⟩, g5⟩, g6⟩ := h5
  simp [Cond.before, Cond.holds, Cond.value, h1, h2, h3, h4, g1, g2, g3, g4, g5, g6]
def isCode : Jvm.Cond → Bool
  | .code _ _ _ _ => true
  | _ => false
theorem all_split {L : List Jvm.Cond} {P : Jvm.Cond → Bool} (h1 : L.all (fun c => isCode c || P c) = true) (h2 : ∀ c ∈ L.filter isCode, P c = true) : L.all P = true := by
  refine List.all_eq_true.mpr fun c hc => ?_
  have h := List.all_eq_true.mp h1 c hc
  rcases Bool.eq_false_or_eq_true (isCode c) with hi | hi
  · exact h2 c (List.mem_filter.mpr ⟨hc, hi⟩)
  · simpa [hi] using h
set_option maxRecDepth 65536 in
theorem w_c0 : (Jvm.Cond.code x code maxLocals ret).before args0 about1 = true := code_word (m := ⟨1, 1⟩) (meth := k1m1) (c := k1c1) (by decide +kernel) rfl rfl rfl (by decide +kernel)
set_option maxRecDepth 65536 in
theorem w_c1 : (Jvm.Cond.code ({ cls := "com/example/resguardo/resguardo/DisjointSets", name := "<init>", desc := "(I)V" } : Jvm.MethodName) prog_15_method_1_code (3 : Nat) (Option.none : Option Jvm.ClassFile.FieldType)).before args0 about1 = true := code_word (m := ⟨2, 0⟩) (meth := k2m0) (c := k2c0) (by decide +kernel) rfl rfl rfl (by decide +kernel)
set_option maxRecDepth 65536 in
theorem w_c2 : (Jvm.Cond.code ({ cls := "java/lang/Object", name := "<init>", desc := "()V" } : Jvm.MethodName) object_method_1_code (1 : Nat) (Option.none : Option Jvm.ClassFile.FieldType)).before args0 about1 = true := code_word (m := ⟨0, 0⟩) (meth := k0m0) (c := k0c0) (by decide +kernel) rfl rfl rfl (by decide +kernel)
set_option maxRecDepth 65536 in
theorem w_c3 : (Jvm.Cond.code ({ cls := "com/example/resguardo/resguardo/DisjointSetsFindPinLaw", name := "doJoin", desc := "(Lcom/example/resguardo/resguardo/DisjointSets;[III)V" } : Jvm.MethodName) method_4_code (8 : Nat) (Option.none : Option Jvm.ClassFile.FieldType)).before args0 about1 = true := code_word (m := ⟨1, 3⟩) (meth := k1m3) (c := k1c3) (by decide +kernel) rfl rfl rfl (by decide +kernel)
set_option maxRecDepth 65536 in
theorem w_c4 : (Jvm.Cond.code ({ cls := "com/example/resguardo/resguardo/DisjointSets", name := "join", desc := "(II)V" } : Jvm.MethodName) prog_15_method_3_code (3 : Nat) (Option.none : Option Jvm.ClassFile.FieldType)).before args0 about1 = true := code_word (m := ⟨2, 2⟩) (meth := k2m2) (c := k2c2) (by decide +kernel) rfl rfl rfl (by decide +kernel)
set_option maxRecDepth 65536 in
theorem w_c5 : (Jvm.Cond.code ({ cls := "com/example/resguardo/resguardo/DisjointSets", name := "find", desc := "(I)I" } : Jvm.MethodName) prog_15_method_2_code (2 : Nat) (Option.some Jvm.ClassFile.FieldType.int)).before args0 about1 = true := code_word (m := ⟨2, 1⟩) (meth := k2m1) (c := k2c1) (by decide +kernel) rfl rfl rfl (by decide +kernel)
set_option maxRecDepth 65536 in
theorem w_c6 : (Jvm.Cond.code ({ cls := "com/example/resguardo/resguardo/DisjointSetsFindPinLaw", name := "check", desc := "(Lcom/example/resguardo/resguardo/DisjointSets;[III)Z" } : Jvm.MethodName) method_3_code (4 : Nat) (Option.some Jvm.ClassFile.FieldType.boolean)).before args0 about1 = true := code_word (m := ⟨1, 2⟩) (meth := k1m2) (c := k1c2) (by decide +kernel) rfl rfl rfl (by decide +kernel)
def codes1 : List Jvm.Cond := [Jvm.Cond.code x code maxLocals ret, Jvm.Cond.code ({ cls := "com/example/resguardo/resguardo/DisjointSets", name := "<init>", desc := "(I)V" } : Jvm.MethodName) prog_15_method_1_code (3 : Nat) (Option.none : Option Jvm.ClassFile.FieldType), Jvm.Cond.code ({ cls := "java/lang/Object", name := "<init>", desc := "()V" } : Jvm.MethodName) object_method_1_code (1 : Nat) (Option.none : Option Jvm.ClassFile.FieldType), Jvm.Cond.code ({ cls := "com/example/resguardo/resguardo/DisjointSetsFindPinLaw", name := "doJoin", desc := "(Lcom/example/resguardo/resguardo/DisjointSets;[III)V" } : Jvm.MethodName) method_4_code (8 : Nat) (Option.none : Option Jvm.ClassFile.FieldType), Jvm.Cond.code ({ cls := "com/example/resguardo/resguardo/DisjointSets", name := "join", desc := "(II)V" } : Jvm.MethodName) prog_15_method_3_code (3 : Nat) (Option.none : Option Jvm.ClassFile.FieldType), Jvm.Cond.code ({ cls := "com/example/resguardo/resguardo/DisjointSets", name := "find", desc := "(I)I" } : Jvm.MethodName) prog_15_method_2_code (2 : Nat) (Option.some Jvm.ClassFile.FieldType.int), Jvm.Cond.code ({ cls := "com/example/resguardo/resguardo/DisjointSetsFindPinLaw", name := "check", desc := "(Lcom/example/resguardo/resguardo/DisjointSets;[III)Z" } : Jvm.MethodName) method_3_code (4 : Nat) (Option.some Jvm.ClassFile.FieldType.boolean)]
set_option maxRecDepth 65536 in
theorem codes_eq : words1.filter isCode = codes1 := rfl
theorem w_codes : ∀ c ∈ words1.filter isCode, c.before args0 about1 = true := by
  rw [codes_eq]
  intro c hc
  simp only [codes1, List.mem_cons, List.not_mem_nil, or_false] at hc
  rcases hc with rfl | rfl | rfl | rfl | rfl | rfl | rfl
  · exact w_c0
  · exact w_c1
  · exact w_c2
  · exact w_c3
  · exact w_c4
  · exact w_c5
  · exact w_c6
set_option maxRecDepth 65536 in
theorem w_t1 : (words1.take 24).all (fun c => isCode c || c.before args0 about1) = true := by decide +kernel
set_option maxRecDepth 65536 in
theorem w_t2 : (words1.drop 24).all (fun c => isCode c || c.before args0 about1) = true := by decide +kernel
theorem w_tables : (allAtoms (Jvm.Cond.code x code maxLocals ret :: tables_1)).before args0 about1 = true := by
  rw [allAtoms_all]
  show words1.all (fun c => c.before args0 about1) = true
  refine all_split ?_ w_codes
  rw [← List.take_append_drop 24 words1, List.all_append, w_t1, w_t2]
  rfl
set_option maxRecDepth 65536 in
theorem w_case : (Jvm.Cond.and given_1 narrow_1).before args0 about1 = true := by decide +kernel
theorem w_applies : (headSpec (Jvm.Cond.code x code maxLocals ret :: tables_1) room_1).applies x e0.platform about1 = true :=
  (Spec.applies_iff w_frames).mpr ⟨w_running, w_runnable, w_alone, w_named, w_hears, w_ripe, w_room, w_tables⟩
theorem atStart : AtStart classFile x code maxLocals ret World_1 tables_1 room_1 Calls_1 rest_1 Pre_1 launch0 p0 e0 about1 theMethod args0 below0 :=
  ⟨lists_1, trivial, launch0.admits_env _ _ _, launch0.least_env, fairChoices_fair.cas, fairChoices_fair.clock, w_frames, w_args, w_heap, w_applies, trivial, trivial, w_case⟩
end start1
theorem witness_1 : WitnessClaimed_1 := ⟨start1.p0, start1.e0, start1.about1, start1.theMethod, start1.args0, start1.below0, start1.atStart⟩
end Jvm.Pilot.@@N@@
