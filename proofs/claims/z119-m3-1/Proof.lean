import JvmDerived
import JvmDerived.Pilot.@@N@@Statement
import JvmDerived.Pilot.@@N@@Code
set_option linter.unusedVariables false
set_option linter.unusedSimpArgs false
namespace Jvm.Pilot.@@N@@
open Jvm Jvm.ClassFile Sem Op Lib Jvm.Free Jvm.Stand Jvm.LawKit Jvm.RoadKit Bundle Jvm.Pilot.@@N@@.Jvm.D
section Own
variable {p : Program} {l : Launch} {e : Env} {R : Room} {s : State} {m : MethodId} {args : Array Value} {below : List Frame} {meth : Method} {c : Code} {T : State} {cells slots n0 : Nat} {Z : State} {a0 : Array Value} {h h' h0 : Heap} {own nm : String} {bytes : ByteArray} {mx : Nat} {rt : Option FieldType} {Q : Option Value → Heap → Prop} {En : Outcome → State → List Loc → Prop} {pc : Nat} {Ls : Array Slot} {S : List Value} {a b : Addr}
/-- the run from here ends as Q says -/
def ownGo (p : Program) (e : Env) (m : MethodId) (below : List Frame) (n0 : Nat) (En : Outcome → State → List Loc → Prop) (Q : Option Value → Heap → Prop) (T : State) (pc : Nat) (Ls : Array Slot) (S : List Value) : Prop :=
  ∃ s₂ o, Steps p.tables e below (T.setTop (mkF m pc Ls S)) s₂ ∧ s₂.status = .running ∧ Ended s₂ below o ∧ ∃ v L, o = .returned v ∧ (Q v s₂.heap ∧ Fr n0 L) ∧ En o s₂ L
abbrev ownEnd (s : State) (R : Room) (o : Outcome) (t : State) (L : List Loc) : Prop := FrameEnd s o t L R.cells R.slots
/-- where the walk stands -/
def ownSt (p : Program) (l : Launch) (e : Env) (R : Room) (s : State) (m : MethodId) (args : Array Value) (below : List Frame) (meth : Method) (c : Code) (Z : State) (n0 : Nat) (own : String) (bytes : ByteArray) (mx : Nat) (rt : Option FieldType) (nm : String) (T : State) (h : Heap) (cells slots : Nat) : Prop :=
  (p.tables.exec = Jvm.exec ∧ Z.Warmed39 s.vm ∧ c.code = bytes ∧ c.maxLocals = mx ∧ s.vm.findClass own = some m.cls ∧ meth.name = nm ∧ meth.sig.returnType = rt ∧ meth.locks = false) ∧ ∃ locs, Stand p l e R s m args below meth c T locs cells slots ∧ T.heap = h ∧ Fr n0 locs
def ownMet (l : Launch) (ws : List Jvm.Cond) (y : MethodName) (bytes : ByteArray) (mx : Nat) (rt : Option FieldType) (rm : Room) (Z : State) (n0 : Nat) (as' : Array Value) (h0 : Heap) (Q : Option Value → Heap → Prop) : Prop :=
  MetFree l y (head1 (Jvm.Cond.code y bytes mx rt :: ws) rm) (fun a U => a = as' ∧ Z.Warmed39 U.vm ∧ U.heap = h0) (fun _ _ _ _ _ => True) (fun _ U o U' => ∃ v L, o = .returned v ∧ (Q v U'.heap ∧ Fr n0 L) ∧ FrameEnd U o U' L rm.cells rm.slots)
theorem ownGo.step {T' : State} {pc' : Nat} {Ls' : Array Slot} {S' : List Value} (st : ∀ t, Steps p.tables e below (T'.setTop (mkF m pc' Ls' S')) t → Steps p.tables e below (T.setTop (mkF m pc Ls S)) t) (go : ownGo p e m below n0 En Q T' pc' Ls' S') : ownGo p e m below n0 En Q T pc Ls S := by
  obtain ⟨s₂, o, h1, h2⟩ := go
  exact ⟨s₂, o, st _ h1, h2⟩
theorem own_body {ws : List Jvm.Cond} {y : MethodName} {rm : Room} {as' : Array Value} {L0 : Array Slot} (pn : plainFor y = true) (ef : ∀ m, entryFrame m as' mx = mkF m 0 L0 []) (hc : y.cls = own) (hn : y.name = nm)
    (body : ∀ p e s m below meth c s₁, ownSt p l e rm s m as' below meth c Z n0 own bytes mx rt nm s₁ h0 0 0 → ownGo p e m below n0 (ownEnd s rm) Q s₁ 0 L0 []) : ownMet l ws y bytes mx rt rm Z n0 as' h0 Q := by
  subst hc hn
  refine MetFree.of_bodySF pn hisR ?_
  intro p e s m args below meth c s₁ Bd hml0 hP hK
  obtain ⟨rfl, hZ, hh⟩ := hP
  have e0 : s₁.heap = h0 := by rw [← hh, Bd.state]; rfl
  obtain ⟨s₂, o, h1, h2, h3, v, L, h4, h5, h6⟩ := body p e s m below meth c s₁ ⟨⟨Bd.exec, hZ, Bd.bytes, hml0, findClass_of_methodNamed Bd.named, (name_of_methodNamed Bd.named Bd.method).1, Bd.returns, Bd.notSynchronized⟩, [], Stand.of_body Bd, e0, Fr.nil n0⟩
  exact ⟨s₂, o, castTop (ef m) h1, h2, h3, v, L, h4, h5, h6⟩
theorem ownMet.mono {ws : List Jvm.Cond} {y : MethodName} {rm : Room} {as' : Array Value} {Q' : Option Value → Heap → Prop} (M : ownMet l ws y bytes mx rt rm Z n0 as' h0 Q) (q : ∀ v h, Q v h → Q' v h) : ownMet l ws y bytes mx rt rm Z n0 as' h0 Q' := by
  intro p e ha hc hk s m args below hf happ hP hK
  obtain ⟨n, o, h1, h2, h3, v, L, h4, ⟨h5, h5'⟩, h6⟩ := M p e ha hc hk s m args below hf happ hP hK
  exact ⟨n, o, h1, h2, h3, v, L, h4, ⟨q _ _ h5, h5'⟩, h6⟩
theorem ownGo.mono {Q' : Option Value → Heap → Prop} (go : ownGo p e m below n0 En Q T pc Ls S) (q : ∀ v h, Q v h → Q' v h) : ownGo p e m below n0 En Q' T pc Ls S := by
  obtain ⟨s₂, o, h1, h2, h3, v, L, h4, ⟨h5, h5'⟩, h6⟩ := go
  exact ⟨s₂, o, h1, h2, h3, v, L, h4, ⟨q _ _ h5, h5'⟩, h6⟩
theorem own_iload (G : ownSt p l e R s m args below meth c Z n0 own bytes mx rt nm T h cells slots) {k : Nat} {v : Int32} (hd : decode bytes pc = .ok (.iload k, 2)) (hl : Ls[k]? = some (.val (.int v))) (go : ownGo p e m below n0 En Q T (pc + 2) Ls (.int v :: S)) : ownGo p e m below n0 En Q T pc Ls S := by
  obtain ⟨⟨hx, hZ, hby, hml, hown, hnm, hret, hlk⟩, locs, X, eT, hN⟩ := G
  exact ownGo.step (fun t k => XS.iload X.here hx rfl (hb hby hd) hl k) go
theorem own_iloadN (G : ownSt p l e R s m args below meth c Z n0 own bytes mx rt nm T h cells slots) {k : Fin 4} {v : Int32} (hd : decode bytes pc = .ok (.iload_n k, 1)) (hl : Ls[k.val]? = some (.val (.int v))) (go : ownGo p e m below n0 En Q T (pc + 1) Ls (.int v :: S)) : ownGo p e m below n0 En Q T pc Ls S := by
  obtain ⟨⟨hx, hZ, hby, hml, hown, hnm, hret, hlk⟩, locs, X, eT, hN⟩ := G
  exact ownGo.step (fun t k => XS.iloadN X.here hx rfl (hb hby hd) hl k) go
theorem own_istore (G : ownSt p l e R s m args below meth c Z n0 own bytes mx rt nm T h cells slots) {k : Nat} {v : Int32} {L' : Array Slot} (hd : decode bytes pc = .ok (.istore k, 2)) (hl : storeLocals Ls k (.int v) = some L') (go : ownGo p e m below n0 En Q T (pc + 2) L' S) : ownGo p e m below n0 En Q T pc Ls (.int v :: S) := by
  obtain ⟨⟨hx, hZ, hby, hml, hown, hnm, hret, hlk⟩, locs, X, eT, hN⟩ := G
  exact ownGo.step (fun t k => XS.istore X.here hx rfl (hb hby hd) rfl (l' := L') hl k) go
theorem own_istoreN (G : ownSt p l e R s m args below meth c Z n0 own bytes mx rt nm T h cells slots) {k : Fin 4} {v : Int32} {L' : Array Slot} (hd : decode bytes pc = .ok (.istore_n k, 1)) (hl : storeLocals Ls k.val (.int v) = some L') (go : ownGo p e m below n0 En Q T (pc + 1) L' S) : ownGo p e m below n0 En Q T pc Ls (.int v :: S) := by
  obtain ⟨⟨hx, hZ, hby, hml, hown, hnm, hret, hlk⟩, locs, X, eT, hN⟩ := G
  exact ownGo.step (fun t k => XS.istoreN X.here hx rfl (hb hby hd) rfl (l' := L') hl k) go
theorem own_lload (G : ownSt p l e R s m args below meth c Z n0 own bytes mx rt nm T h cells slots) {k : Nat} {v : Int64} (hd : decode bytes pc = .ok (.lload k, 2)) (hl : Ls[k]? = some (.val (.long v))) (go : ownGo p e m below n0 En Q T (pc + 2) Ls (.long v :: S)) : ownGo p e m below n0 En Q T pc Ls S := by
  obtain ⟨⟨hx, hZ, hby, hml, hown, hnm, hret, hlk⟩, locs, X, eT, hN⟩ := G
  exact ownGo.step (fun t k => XS.lload X.here hx rfl (hb hby hd) hl k) go
theorem own_lloadN (G : ownSt p l e R s m args below meth c Z n0 own bytes mx rt nm T h cells slots) {k : Fin 4} {v : Int64} (hd : decode bytes pc = .ok (.lload_n k, 1)) (hl : Ls[k.val]? = some (.val (.long v))) (go : ownGo p e m below n0 En Q T (pc + 1) Ls (.long v :: S)) : ownGo p e m below n0 En Q T pc Ls S := by
  obtain ⟨⟨hx, hZ, hby, hml, hown, hnm, hret, hlk⟩, locs, X, eT, hN⟩ := G
  exact ownGo.step (fun t k => XS.lloadN X.here hx rfl (hb hby hd) hl k) go
theorem own_lstore (G : ownSt p l e R s m args below meth c Z n0 own bytes mx rt nm T h cells slots) {k : Nat} {v : Int64} {L' : Array Slot} (hd : decode bytes pc = .ok (.lstore k, 2)) (hl : storeLocals Ls k (.long v) = some L') (go : ownGo p e m below n0 En Q T (pc + 2) L' S) : ownGo p e m below n0 En Q T pc Ls (.long v :: S) := by
  obtain ⟨⟨hx, hZ, hby, hml, hown, hnm, hret, hlk⟩, locs, X, eT, hN⟩ := G
  exact ownGo.step (fun t k => XS.lstore X.here hx rfl (hb hby hd) rfl (l' := L') hl k) go
theorem own_lstoreN (G : ownSt p l e R s m args below meth c Z n0 own bytes mx rt nm T h cells slots) {k : Fin 4} {v : Int64} {L' : Array Slot} (hd : decode bytes pc = .ok (.lstore_n k, 1)) (hl : storeLocals Ls k.val (.long v) = some L') (go : ownGo p e m below n0 En Q T (pc + 1) L' S) : ownGo p e m below n0 En Q T pc Ls (.long v :: S) := by
  obtain ⟨⟨hx, hZ, hby, hml, hown, hnm, hret, hlk⟩, locs, X, eT, hN⟩ := G
  exact ownGo.step (fun t k => XS.lstoreN X.here hx rfl (hb hby hd) rfl (l' := L') hl k) go
theorem own_aload (G : ownSt p l e R s m args below meth c Z n0 own bytes mx rt nm T h cells slots) {k : Nat} {v : Value} (hd : decode bytes pc = .ok (.aload k, 2)) (hl : Ls[k]? = some (.val v)) (hv : v.isRef = true) (go : ownGo p e m below n0 En Q T (pc + 2) Ls (v :: S)) : ownGo p e m below n0 En Q T pc Ls S := by
  obtain ⟨⟨hx, hZ, hby, hml, hown, hnm, hret, hlk⟩, locs, X, eT, hN⟩ := G
  exact ownGo.step (fun t k => XS.aload X.here hx rfl (hb hby hd) hl hv k) go
theorem own_aloadN (G : ownSt p l e R s m args below meth c Z n0 own bytes mx rt nm T h cells slots) {k : Fin 4} {v : Value} (hd : decode bytes pc = .ok (.aload_n k, 1)) (hl : Ls[k.val]? = some (.val v)) (hv : v.isRef = true) (go : ownGo p e m below n0 En Q T (pc + 1) Ls (v :: S)) : ownGo p e m below n0 En Q T pc Ls S := by
  obtain ⟨⟨hx, hZ, hby, hml, hown, hnm, hret, hlk⟩, locs, X, eT, hN⟩ := G
  exact ownGo.step (fun t k => XS.aloadN X.here hx rfl (hb hby hd) hl hv k) go
theorem own_astore (G : ownSt p l e R s m args below meth c Z n0 own bytes mx rt nm T h cells slots) {k : Nat} {v : Value} {L' : Array Slot} (hd : decode bytes pc = .ok (.astore k, 2)) (hv : v.isRef = true) (hl : storeLocals Ls k v = some L') (go : ownGo p e m below n0 En Q T (pc + 2) L' S) : ownGo p e m below n0 En Q T pc Ls (v :: S) := by
  obtain ⟨⟨hx, hZ, hby, hml, hown, hnm, hret, hlk⟩, locs, X, eT, hN⟩ := G
  exact ownGo.step (fun t k => XS.astore X.here hx rfl (hb hby hd) rfl hv (l' := L') hl k) go
theorem own_astoreN (G : ownSt p l e R s m args below meth c Z n0 own bytes mx rt nm T h cells slots) {k : Fin 4} {v : Value} {L' : Array Slot} (hd : decode bytes pc = .ok (.astore_n k, 1)) (hv : v.isRef = true) (hl : storeLocals Ls k.val v = some L') (go : ownGo p e m below n0 En Q T (pc + 1) L' S) : ownGo p e m below n0 En Q T pc Ls (v :: S) := by
  obtain ⟨⟨hx, hZ, hby, hml, hown, hnm, hret, hlk⟩, locs, X, eT, hN⟩ := G
  exact ownGo.step (fun t k => XS.astoreN X.here hx rfl (hb hby hd) rfl hv (l' := L') hl k) go
theorem own_iconst (G : ownSt p l e R s m args below meth c Z n0 own bytes mx rt nm T h cells slots) {i : Int} (hd : decode bytes pc = .ok (.iconst i, 1))  (go : ownGo p e m below n0 En Q T (pc + 1) Ls (.int (Int32.ofInt i) :: S)) : ownGo p e m below n0 En Q T pc Ls S := by
  obtain ⟨⟨hx, hZ, hby, hml, hown, hnm, hret, hlk⟩, locs, X, eT, hN⟩ := G
  exact ownGo.step (fun t k => XS.iconst X.here hx rfl (hb hby hd)  k) go
theorem own_bipush (G : ownSt p l e R s m args below meth c Z n0 own bytes mx rt nm T h cells slots) {i : Int} (hd : decode bytes pc = .ok (.bipush i, 2))  (go : ownGo p e m below n0 En Q T (pc + 2) Ls (.int (Int8.ofInt i).toInt32 :: S)) : ownGo p e m below n0 En Q T pc Ls S := by
  obtain ⟨⟨hx, hZ, hby, hml, hown, hnm, hret, hlk⟩, locs, X, eT, hN⟩ := G
  exact ownGo.step (fun t k => XS.bipush X.here hx rfl (hb hby hd)  k) go
theorem own_sipush (G : ownSt p l e R s m args below meth c Z n0 own bytes mx rt nm T h cells slots) {i : Int} (hd : decode bytes pc = .ok (.sipush i, 3))  (go : ownGo p e m below n0 En Q T (pc + 3) Ls (.int (Int16.ofInt i).toInt32 :: S)) : ownGo p e m below n0 En Q T pc Ls S := by
  obtain ⟨⟨hx, hZ, hby, hml, hown, hnm, hret, hlk⟩, locs, X, eT, hN⟩ := G
  exact ownGo.step (fun t k => XS.sipush X.here hx rfl (hb hby hd)  k) go
theorem own_lconst (G : ownSt p l e R s m args below meth c Z n0 own bytes mx rt nm T h cells slots) {k : Fin 2} (hd : decode bytes pc = .ok (.lconst k, 1))  (go : ownGo p e m below n0 En Q T (pc + 1) Ls (.long (Int64.ofNat k.val) :: S)) : ownGo p e m below n0 En Q T pc Ls S := by
  obtain ⟨⟨hx, hZ, hby, hml, hown, hnm, hret, hlk⟩, locs, X, eT, hN⟩ := G
  exact ownGo.step (fun t k => XS.lconst X.here hx rfl (hb hby hd)  k) go
theorem own_aconst_null (G : ownSt p l e R s m args below meth c Z n0 own bytes mx rt nm T h cells slots)  (hd : decode bytes pc = .ok (.aconst_null, 1))  (go : ownGo p e m below n0 En Q T (pc + 1) Ls (.null :: S)) : ownGo p e m below n0 En Q T pc Ls S := by
  obtain ⟨⟨hx, hZ, hby, hml, hown, hnm, hret, hlk⟩, locs, X, eT, hN⟩ := G
  exact ownGo.step (fun t k => XS.aconstNull X.here hx rfl (hb hby hd)  k) go
theorem own_iadd (G : ownSt p l e R s m args below meth c Z n0 own bytes mx rt nm T h cells slots) {x y : Int32} (hd : decode bytes pc = .ok (.iadd, 1))  (go : ownGo p e m below n0 En Q T (pc + 1) Ls (.int (x + y) :: S)) : ownGo p e m below n0 En Q T pc Ls (.int y :: .int x :: S) := by
  obtain ⟨⟨hx, hZ, hby, hml, hown, hnm, hret, hlk⟩, locs, X, eT, hN⟩ := G
  exact ownGo.step (fun t k => XS.iadd X.here hx rfl (hb hby hd) rfl k) go
theorem own_isub (G : ownSt p l e R s m args below meth c Z n0 own bytes mx rt nm T h cells slots) {x y : Int32} (hd : decode bytes pc = .ok (.isub, 1))  (go : ownGo p e m below n0 En Q T (pc + 1) Ls (.int (x - y) :: S)) : ownGo p e m below n0 En Q T pc Ls (.int y :: .int x :: S) := by
  obtain ⟨⟨hx, hZ, hby, hml, hown, hnm, hret, hlk⟩, locs, X, eT, hN⟩ := G
  exact ownGo.step (fun t k => XS.isub X.here hx rfl (hb hby hd) rfl k) go
theorem own_imul (G : ownSt p l e R s m args below meth c Z n0 own bytes mx rt nm T h cells slots) {x y : Int32} (hd : decode bytes pc = .ok (.imul, 1))  (go : ownGo p e m below n0 En Q T (pc + 1) Ls (.int (x * y) :: S)) : ownGo p e m below n0 En Q T pc Ls (.int y :: .int x :: S) := by
  obtain ⟨⟨hx, hZ, hby, hml, hown, hnm, hret, hlk⟩, locs, X, eT, hN⟩ := G
  exact ownGo.step (fun t k => XS.imul X.here hx rfl (hb hby hd) rfl k) go
theorem own_iand (G : ownSt p l e R s m args below meth c Z n0 own bytes mx rt nm T h cells slots) {x y : Int32} (hd : decode bytes pc = .ok (.iand, 1))  (go : ownGo p e m below n0 En Q T (pc + 1) Ls (.int (x &&& y) :: S)) : ownGo p e m below n0 En Q T pc Ls (.int y :: .int x :: S) := by
  obtain ⟨⟨hx, hZ, hby, hml, hown, hnm, hret, hlk⟩, locs, X, eT, hN⟩ := G
  exact ownGo.step (fun t k => XS.iand X.here hx rfl (hb hby hd) rfl k) go
theorem own_ior (G : ownSt p l e R s m args below meth c Z n0 own bytes mx rt nm T h cells slots) {x y : Int32} (hd : decode bytes pc = .ok (.ior, 1))  (go : ownGo p e m below n0 En Q T (pc + 1) Ls (.int (x ||| y) :: S)) : ownGo p e m below n0 En Q T pc Ls (.int y :: .int x :: S) := by
  obtain ⟨⟨hx, hZ, hby, hml, hown, hnm, hret, hlk⟩, locs, X, eT, hN⟩ := G
  exact ownGo.step (fun t k => XS.ior X.here hx rfl (hb hby hd) rfl k) go
theorem own_ixor (G : ownSt p l e R s m args below meth c Z n0 own bytes mx rt nm T h cells slots) {x y : Int32} (hd : decode bytes pc = .ok (.ixor, 1))  (go : ownGo p e m below n0 En Q T (pc + 1) Ls (.int (x ^^^ y) :: S)) : ownGo p e m below n0 En Q T pc Ls (.int y :: .int x :: S) := by
  obtain ⟨⟨hx, hZ, hby, hml, hown, hnm, hret, hlk⟩, locs, X, eT, hN⟩ := G
  exact ownGo.step (fun t k => XS.ixor X.here hx rfl (hb hby hd) rfl k) go
theorem own_ishl (G : ownSt p l e R s m args below meth c Z n0 own bytes mx rt nm T h cells slots) {x y : Int32} (hd : decode bytes pc = .ok (.ishl, 1))  (go : ownGo p e m below n0 En Q T (pc + 1) Ls (.int (x <<< (y &&& 31)) :: S)) : ownGo p e m below n0 En Q T pc Ls (.int y :: .int x :: S) := by
  obtain ⟨⟨hx, hZ, hby, hml, hown, hnm, hret, hlk⟩, locs, X, eT, hN⟩ := G
  exact ownGo.step (fun t k => XS.ishl X.here hx rfl (hb hby hd) rfl k) go
theorem own_ishr (G : ownSt p l e R s m args below meth c Z n0 own bytes mx rt nm T h cells slots) {x y : Int32} (hd : decode bytes pc = .ok (.ishr, 1))  (go : ownGo p e m below n0 En Q T (pc + 1) Ls (.int (x >>> (y &&& 31)) :: S)) : ownGo p e m below n0 En Q T pc Ls (.int y :: .int x :: S) := by
  obtain ⟨⟨hx, hZ, hby, hml, hown, hnm, hret, hlk⟩, locs, X, eT, hN⟩ := G
  exact ownGo.step (fun t k => XS.ishr X.here hx rfl (hb hby hd) rfl k) go
theorem own_iushr (G : ownSt p l e R s m args below meth c Z n0 own bytes mx rt nm T h cells slots) {x y : Int32} (hd : decode bytes pc = .ok (.iushr, 1))  (go : ownGo p e m below n0 En Q T (pc + 1) Ls (.int ((x.toUInt32 >>> (y &&& 31).toUInt32).toInt32) :: S)) : ownGo p e m below n0 En Q T pc Ls (.int y :: .int x :: S) := by
  obtain ⟨⟨hx, hZ, hby, hml, hown, hnm, hret, hlk⟩, locs, X, eT, hN⟩ := G
  exact ownGo.step (fun t k => XS.iushr X.here hx rfl (hb hby hd) rfl k) go
theorem own_ladd (G : ownSt p l e R s m args below meth c Z n0 own bytes mx rt nm T h cells slots) {x y : Int64} (hd : decode bytes pc = .ok (.ladd, 1))  (go : ownGo p e m below n0 En Q T (pc + 1) Ls (.long (x + y) :: S)) : ownGo p e m below n0 En Q T pc Ls (.long y :: .long x :: S) := by
  obtain ⟨⟨hx, hZ, hby, hml, hown, hnm, hret, hlk⟩, locs, X, eT, hN⟩ := G
  exact ownGo.step (fun t k => XS.ladd X.here hx rfl (hb hby hd) rfl k) go
theorem own_lsub (G : ownSt p l e R s m args below meth c Z n0 own bytes mx rt nm T h cells slots) {x y : Int64} (hd : decode bytes pc = .ok (.lsub, 1))  (go : ownGo p e m below n0 En Q T (pc + 1) Ls (.long (x - y) :: S)) : ownGo p e m below n0 En Q T pc Ls (.long y :: .long x :: S) := by
  obtain ⟨⟨hx, hZ, hby, hml, hown, hnm, hret, hlk⟩, locs, X, eT, hN⟩ := G
  exact ownGo.step (fun t k => XS.lsub X.here hx rfl (hb hby hd) rfl k) go
theorem own_lmul (G : ownSt p l e R s m args below meth c Z n0 own bytes mx rt nm T h cells slots) {x y : Int64} (hd : decode bytes pc = .ok (.lmul, 1))  (go : ownGo p e m below n0 En Q T (pc + 1) Ls (.long (x * y) :: S)) : ownGo p e m below n0 En Q T pc Ls (.long y :: .long x :: S) := by
  obtain ⟨⟨hx, hZ, hby, hml, hown, hnm, hret, hlk⟩, locs, X, eT, hN⟩ := G
  exact ownGo.step (fun t k => XS.lmul X.here hx rfl (hb hby hd) rfl k) go
theorem own_land (G : ownSt p l e R s m args below meth c Z n0 own bytes mx rt nm T h cells slots) {x y : Int64} (hd : decode bytes pc = .ok (.land, 1))  (go : ownGo p e m below n0 En Q T (pc + 1) Ls (.long (x &&& y) :: S)) : ownGo p e m below n0 En Q T pc Ls (.long y :: .long x :: S) := by
  obtain ⟨⟨hx, hZ, hby, hml, hown, hnm, hret, hlk⟩, locs, X, eT, hN⟩ := G
  exact ownGo.step (fun t k => XS.land X.here hx rfl (hb hby hd) rfl k) go
theorem own_lor (G : ownSt p l e R s m args below meth c Z n0 own bytes mx rt nm T h cells slots) {x y : Int64} (hd : decode bytes pc = .ok (.lor, 1))  (go : ownGo p e m below n0 En Q T (pc + 1) Ls (.long (x ||| y) :: S)) : ownGo p e m below n0 En Q T pc Ls (.long y :: .long x :: S) := by
  obtain ⟨⟨hx, hZ, hby, hml, hown, hnm, hret, hlk⟩, locs, X, eT, hN⟩ := G
  exact ownGo.step (fun t k => XS.lor X.here hx rfl (hb hby hd) rfl k) go
theorem own_lxor (G : ownSt p l e R s m args below meth c Z n0 own bytes mx rt nm T h cells slots) {x y : Int64} (hd : decode bytes pc = .ok (.lxor, 1))  (go : ownGo p e m below n0 En Q T (pc + 1) Ls (.long (x ^^^ y) :: S)) : ownGo p e m below n0 En Q T pc Ls (.long y :: .long x :: S) := by
  obtain ⟨⟨hx, hZ, hby, hml, hown, hnm, hret, hlk⟩, locs, X, eT, hN⟩ := G
  exact ownGo.step (fun t k => XS.lxor X.here hx rfl (hb hby hd) rfl k) go
theorem own_lshl (G : ownSt p l e R s m args below meth c Z n0 own bytes mx rt nm T h cells slots) {x : Int64} {y : Int32} (hd : decode bytes pc = .ok (.lshl, 1))  (go : ownGo p e m below n0 En Q T (pc + 1) Ls (.long (x <<< (y &&& 0x3f).toInt64) :: S)) : ownGo p e m below n0 En Q T pc Ls (.int y :: .long x :: S) := by
  obtain ⟨⟨hx, hZ, hby, hml, hown, hnm, hret, hlk⟩, locs, X, eT, hN⟩ := G
  exact ownGo.step (fun t k => XS.lshl X.here hx rfl (hb hby hd) rfl k) go
theorem own_lshr (G : ownSt p l e R s m args below meth c Z n0 own bytes mx rt nm T h cells slots) {x : Int64} {y : Int32} (hd : decode bytes pc = .ok (.lshr, 1))  (go : ownGo p e m below n0 En Q T (pc + 1) Ls (.long (x >>> (y &&& 0x3f).toInt64) :: S)) : ownGo p e m below n0 En Q T pc Ls (.int y :: .long x :: S) := by
  obtain ⟨⟨hx, hZ, hby, hml, hown, hnm, hret, hlk⟩, locs, X, eT, hN⟩ := G
  exact ownGo.step (fun t k => XS.lshr X.here hx rfl (hb hby hd) rfl k) go
theorem own_lushr (G : ownSt p l e R s m args below meth c Z n0 own bytes mx rt nm T h cells slots) {x : Int64} {y : Int32} (hd : decode bytes pc = .ok (.lushr, 1))  (go : ownGo p e m below n0 En Q T (pc + 1) Ls (.long ((x.toUInt64 >>> (y &&& 0x3f).toInt64.toUInt64).toInt64) :: S)) : ownGo p e m below n0 En Q T pc Ls (.int y :: .long x :: S) := by
  obtain ⟨⟨hx, hZ, hby, hml, hown, hnm, hret, hlk⟩, locs, X, eT, hN⟩ := G
  exact ownGo.step (fun t k => XS.lushr X.here hx rfl (hb hby hd) rfl k) go
theorem own_ineg (G : ownSt p l e R s m args below meth c Z n0 own bytes mx rt nm T h cells slots) {x : Int32} (hd : decode bytes pc = .ok (.ineg, 1))  (go : ownGo p e m below n0 En Q T (pc + 1) Ls (.int (-x) :: S)) : ownGo p e m below n0 En Q T pc Ls (.int x :: S) := by
  obtain ⟨⟨hx, hZ, hby, hml, hown, hnm, hret, hlk⟩, locs, X, eT, hN⟩ := G
  exact ownGo.step (fun t k => XS.ineg X.here hx rfl (hb hby hd) rfl k) go
theorem own_lneg (G : ownSt p l e R s m args below meth c Z n0 own bytes mx rt nm T h cells slots) {x : Int64} (hd : decode bytes pc = .ok (.lneg, 1))  (go : ownGo p e m below n0 En Q T (pc + 1) Ls (.long (-x) :: S)) : ownGo p e m below n0 En Q T pc Ls (.long x :: S) := by
  obtain ⟨⟨hx, hZ, hby, hml, hown, hnm, hret, hlk⟩, locs, X, eT, hN⟩ := G
  exact ownGo.step (fun t k => XS.lneg X.here hx rfl (hb hby hd) rfl k) go
theorem own_i2l (G : ownSt p l e R s m args below meth c Z n0 own bytes mx rt nm T h cells slots) {x : Int32} (hd : decode bytes pc = .ok (.i2l, 1))  (go : ownGo p e m below n0 En Q T (pc + 1) Ls (.long (x.toInt64) :: S)) : ownGo p e m below n0 En Q T pc Ls (.int x :: S) := by
  obtain ⟨⟨hx, hZ, hby, hml, hown, hnm, hret, hlk⟩, locs, X, eT, hN⟩ := G
  exact ownGo.step (fun t k => XS.i2l X.here hx rfl (hb hby hd) rfl k) go
theorem own_l2i (G : ownSt p l e R s m args below meth c Z n0 own bytes mx rt nm T h cells slots) {x : Int64} (hd : decode bytes pc = .ok (.l2i, 1))  (go : ownGo p e m below n0 En Q T (pc + 1) Ls (.int (x.toInt32) :: S)) : ownGo p e m below n0 En Q T pc Ls (.long x :: S) := by
  obtain ⟨⟨hx, hZ, hby, hml, hown, hnm, hret, hlk⟩, locs, X, eT, hN⟩ := G
  exact ownGo.step (fun t k => XS.l2i X.here hx rfl (hb hby hd) rfl k) go
theorem own_i2b (G : ownSt p l e R s m args below meth c Z n0 own bytes mx rt nm T h cells slots) {x : Int32} (hd : decode bytes pc = .ok (.i2b, 1))  (go : ownGo p e m below n0 En Q T (pc + 1) Ls (.int (x.toInt8.toInt32) :: S)) : ownGo p e m below n0 En Q T pc Ls (.int x :: S) := by
  obtain ⟨⟨hx, hZ, hby, hml, hown, hnm, hret, hlk⟩, locs, X, eT, hN⟩ := G
  exact ownGo.step (fun t k => XS.i2b X.here hx rfl (hb hby hd) rfl k) go
theorem own_i2s (G : ownSt p l e R s m args below meth c Z n0 own bytes mx rt nm T h cells slots) {x : Int32} (hd : decode bytes pc = .ok (.i2s, 1))  (go : ownGo p e m below n0 En Q T (pc + 1) Ls (.int (x.toInt16.toInt32) :: S)) : ownGo p e m below n0 En Q T pc Ls (.int x :: S) := by
  obtain ⟨⟨hx, hZ, hby, hml, hown, hnm, hret, hlk⟩, locs, X, eT, hN⟩ := G
  exact ownGo.step (fun t k => XS.i2s X.here hx rfl (hb hby hd) rfl k) go
theorem own_i2c (G : ownSt p l e R s m args below meth c Z n0 own bytes mx rt nm T h cells slots) {x : Int32} (hd : decode bytes pc = .ok (.i2c, 1))  (go : ownGo p e m below n0 En Q T (pc + 1) Ls (.int (x.toUInt32.toUInt16.toUInt32.toInt32) :: S)) : ownGo p e m below n0 En Q T pc Ls (.int x :: S) := by
  obtain ⟨⟨hx, hZ, hby, hml, hown, hnm, hret, hlk⟩, locs, X, eT, hN⟩ := G
  exact ownGo.step (fun t k => XS.i2c X.here hx rfl (hb hby hd) rfl k) go
theorem own_lcmp (G : ownSt p l e R s m args below meth c Z n0 own bytes mx rt nm T h cells slots) {x y : Int64} (hd : decode bytes pc = .ok (.lcmp, 1))  (go : ownGo p e m below n0 En Q T (pc + 1) Ls (.int (lcmpW x y) :: S)) : ownGo p e m below n0 En Q T pc Ls (.long y :: .long x :: S) := by
  obtain ⟨⟨hx, hZ, hby, hml, hown, hnm, hret, hlk⟩, locs, X, eT, hN⟩ := G
  exact ownGo.step (fun t k => XS.lcmp X.here hx rfl (hb hby hd) rfl k) go
theorem own_pop (G : ownSt p l e R s m args below meth c Z n0 own bytes mx rt nm T h cells slots) {v : Value} (hd : decode bytes pc = .ok (.pop, 1)) (hc : v.category = 1) (go : ownGo p e m below n0 En Q T (pc + 1) Ls S) : ownGo p e m below n0 En Q T pc Ls (v :: S) := by
  obtain ⟨⟨hx, hZ, hby, hml, hown, hnm, hret, hlk⟩, locs, X, eT, hN⟩ := G
  exact ownGo.step (fun t k => XS.pop X.here hx rfl (hb hby hd) rfl hc k) go
theorem own_dup (G : ownSt p l e R s m args below meth c Z n0 own bytes mx rt nm T h cells slots) {v : Value} (hd : decode bytes pc = .ok (.dup, 1)) (hc : v.category = 1) (go : ownGo p e m below n0 En Q T (pc + 1) Ls (v :: v :: S)) : ownGo p e m below n0 En Q T pc Ls (v :: S) := by
  obtain ⟨⟨hx, hZ, hby, hml, hown, hnm, hret, hlk⟩, locs, X, eT, hN⟩ := G
  exact ownGo.step (fun t k => XS.dup X.here hx rfl (hb hby hd) rfl hc k) go
theorem own_dup_x1 (G : ownSt p l e R s m args below meth c Z n0 own bytes mx rt nm T h cells slots) {v w : Value} (hd : decode bytes pc = .ok (.dup_x1, 1)) (hc : v.category = 1) (hc' : w.category = 1) (go : ownGo p e m below n0 En Q T (pc + 1) Ls (v :: w :: v :: S)) : ownGo p e m below n0 En Q T pc Ls (v :: w :: S) := by
  obtain ⟨⟨hx, hZ, hby, hml, hown, hnm, hret, hlk⟩, locs, X, eT, hN⟩ := G
  exact ownGo.step (fun t k => XS.dupX1 X.here hx rfl (hb hby hd) rfl hc hc' k) go
theorem own_irem (G : ownSt p l e R s m args below meth c Z n0 own bytes mx rt nm T h cells slots) {x y : Int32} (hd : decode bytes pc = .ok (.irem, 1)) (hy : y ≠ 0) (go : ownGo p e m below n0 En Q T (pc + 1) Ls (.int (x % y) :: S)) : ownGo p e m below n0 En Q T pc Ls (.int y :: .int x :: S) := by
  obtain ⟨⟨hx, hZ, hby, hml, hown, hnm, hret, hlk⟩, locs, X, eT, hN⟩ := G
  exact ownGo.step (fun t k => iremM X hx rfl (hb hby hd) rfl hy k) go
theorem own_iinc (G : ownSt p l e R s m args below meth c Z n0 own bytes mx rt nm T h cells slots) {k : Nat} {d : Int} {v : Int32} {L' : Array Slot} (hd : decode bytes pc = .ok (.iinc k d, 3)) (hv : Ls[k]? = some (.val (.int v))) (hl : storeLocals Ls k (.int (v + Int32.ofInt d)) = some L') (go : ownGo p e m below n0 En Q T (pc + 3) L' S) : ownGo p e m below n0 En Q T pc Ls S := by
  obtain ⟨⟨hx, hZ, hby, hml, hown, hnm, hret, hlk⟩, locs, X, eT, hN⟩ := G
  exact ownGo.step (fun t k => XS.iinc X.here hx rfl (hb hby hd) hv (l' := L') hl k) go
theorem own_goto (G : ownSt p l e R s m args below meth c Z n0 own bytes mx rt nm T h cells slots) {o : Int} {pc' : Nat} (hd : decode bytes pc = .ok (.goto o, 3)) (ho : 0 ≤ (pc : Int) + o) (hp : ((pc : Int) + o).toNat = pc') (go : ownGo p e m below n0 En Q T pc' Ls S) : ownGo p e m below n0 En Q T pc Ls S := by
  obtain ⟨⟨hx, hZ, hby, hml, hown, hnm, hret, hlk⟩, locs, X, eT, hN⟩ := G
  exact ownGo.step (fun t k => XS.goto X.here hx rfl (pc0 := pc) rfl (hb hby hd) ho hp k) go
theorem own_icmp_lt (G : ownSt p l e R s m args below meth c Z n0 own bytes mx rt nm T h cells slots) {x y : Int32} {o : Int} {pc' : Nat} (hd : decode bytes pc = .ok (.if_icmp .lt o, 3)) (ho : 0 ≤ (pc : Int) + o) (hp : ((pc : Int) + o).toNat = pc') (yes : x < y → ownGo p e m below n0 En Q T pc' Ls S) (no : ¬ x < y → ownGo p e m below n0 En Q T (pc + 3) Ls S) : ownGo p e m below n0 En Q T pc Ls (.int y :: .int x :: S) := by
  obtain ⟨⟨hx, hZ, hby, hml, hown, hnm, hret, hlk⟩, locs, X, eT, hN⟩ := G
  by_cases q : x < y
  · exact ownGo.step (fun t k => XS.icmpYes X.here hx rfl (pc0 := pc) rfl (hb hby hd) rfl (tlt q).1 ho hp k) (yes q)
  · exact ownGo.step (fun t k => XS.icmpNo X.here hx rfl (hb hby hd) rfl (flt q).1 k) (no q)
theorem own_if_lt (G : ownSt p l e R s m args below meth c Z n0 own bytes mx rt nm T h cells slots) {x : Int32} {o : Int} {pc' : Nat} (hd : decode bytes pc = .ok (.ifCond .lt o, 3)) (ho : 0 ≤ (pc : Int) + o) (hp : ((pc : Int) + o).toNat = pc') (yes : x < (0 : Int32) → ownGo p e m below n0 En Q T pc' Ls S) (no : ¬ x < (0 : Int32) → ownGo p e m below n0 En Q T (pc + 3) Ls S) : ownGo p e m below n0 En Q T pc Ls (.int x :: S) := by
  obtain ⟨⟨hx, hZ, hby, hml, hown, hnm, hret, hlk⟩, locs, X, eT, hN⟩ := G
  by_cases q : x < (0 : Int32)
  · exact ownGo.step (fun t k => XS.ifYes X.here hx rfl (pc0 := pc) rfl (hb hby hd) rfl ((if0 _ _).trans (tlt q).1) ho hp k) (yes q)
  · exact ownGo.step (fun t k => XS.ifNo X.here hx rfl (hb hby hd) rfl ((if0 _ _).trans (flt q).1) k) (no q)
theorem own_icmp_ge (G : ownSt p l e R s m args below meth c Z n0 own bytes mx rt nm T h cells slots) {x y : Int32} {o : Int} {pc' : Nat} (hd : decode bytes pc = .ok (.if_icmp .ge o, 3)) (ho : 0 ≤ (pc : Int) + o) (hp : ((pc : Int) + o).toNat = pc') (yes : ¬ x < y → ownGo p e m below n0 En Q T pc' Ls S) (no : x < y → ownGo p e m below n0 En Q T (pc + 3) Ls S) : ownGo p e m below n0 En Q T pc Ls (.int y :: .int x :: S) := by
  obtain ⟨⟨hx, hZ, hby, hml, hown, hnm, hret, hlk⟩, locs, X, eT, hN⟩ := G
  by_cases q : x < y
  · exact ownGo.step (fun t k => XS.icmpNo X.here hx rfl (hb hby hd) rfl (tlt q).2.1 k) (no q)
  · exact ownGo.step (fun t k => XS.icmpYes X.here hx rfl (pc0 := pc) rfl (hb hby hd) rfl (flt q).2.1 ho hp k) (yes q)
theorem own_if_ge (G : ownSt p l e R s m args below meth c Z n0 own bytes mx rt nm T h cells slots) {x : Int32} {o : Int} {pc' : Nat} (hd : decode bytes pc = .ok (.ifCond .ge o, 3)) (ho : 0 ≤ (pc : Int) + o) (hp : ((pc : Int) + o).toNat = pc') (yes : ¬ x < (0 : Int32) → ownGo p e m below n0 En Q T pc' Ls S) (no : x < (0 : Int32) → ownGo p e m below n0 En Q T (pc + 3) Ls S) : ownGo p e m below n0 En Q T pc Ls (.int x :: S) := by
  obtain ⟨⟨hx, hZ, hby, hml, hown, hnm, hret, hlk⟩, locs, X, eT, hN⟩ := G
  by_cases q : x < (0 : Int32)
  · exact ownGo.step (fun t k => XS.ifNo X.here hx rfl (hb hby hd) rfl ((if0 _ _).trans (tlt q).2.1) k) (no q)
  · exact ownGo.step (fun t k => XS.ifYes X.here hx rfl (pc0 := pc) rfl (hb hby hd) rfl ((if0 _ _).trans (flt q).2.1) ho hp k) (yes q)
theorem own_icmp_gt (G : ownSt p l e R s m args below meth c Z n0 own bytes mx rt nm T h cells slots) {x y : Int32} {o : Int} {pc' : Nat} (hd : decode bytes pc = .ok (.if_icmp .gt o, 3)) (ho : 0 ≤ (pc : Int) + o) (hp : ((pc : Int) + o).toNat = pc') (yes : y < x → ownGo p e m below n0 En Q T pc' Ls S) (no : ¬ y < x → ownGo p e m below n0 En Q T (pc + 3) Ls S) : ownGo p e m below n0 En Q T pc Ls (.int y :: .int x :: S) := by
  obtain ⟨⟨hx, hZ, hby, hml, hown, hnm, hret, hlk⟩, locs, X, eT, hN⟩ := G
  by_cases q : y < x
  · exact ownGo.step (fun t k => XS.icmpYes X.here hx rfl (pc0 := pc) rfl (hb hby hd) rfl (tlt q).2.2.1 ho hp k) (yes q)
  · exact ownGo.step (fun t k => XS.icmpNo X.here hx rfl (hb hby hd) rfl (flt q).2.2.1 k) (no q)
theorem own_if_gt (G : ownSt p l e R s m args below meth c Z n0 own bytes mx rt nm T h cells slots) {x : Int32} {o : Int} {pc' : Nat} (hd : decode bytes pc = .ok (.ifCond .gt o, 3)) (ho : 0 ≤ (pc : Int) + o) (hp : ((pc : Int) + o).toNat = pc') (yes : (0 : Int32) < x → ownGo p e m below n0 En Q T pc' Ls S) (no : ¬ (0 : Int32) < x → ownGo p e m below n0 En Q T (pc + 3) Ls S) : ownGo p e m below n0 En Q T pc Ls (.int x :: S) := by
  obtain ⟨⟨hx, hZ, hby, hml, hown, hnm, hret, hlk⟩, locs, X, eT, hN⟩ := G
  by_cases q : (0 : Int32) < x
  · exact ownGo.step (fun t k => XS.ifYes X.here hx rfl (pc0 := pc) rfl (hb hby hd) rfl ((if0 _ _).trans (tlt q).2.2.1) ho hp k) (yes q)
  · exact ownGo.step (fun t k => XS.ifNo X.here hx rfl (hb hby hd) rfl ((if0 _ _).trans (flt q).2.2.1) k) (no q)
theorem own_icmp_le (G : ownSt p l e R s m args below meth c Z n0 own bytes mx rt nm T h cells slots) {x y : Int32} {o : Int} {pc' : Nat} (hd : decode bytes pc = .ok (.if_icmp .le o, 3)) (ho : 0 ≤ (pc : Int) + o) (hp : ((pc : Int) + o).toNat = pc') (yes : ¬ y < x → ownGo p e m below n0 En Q T pc' Ls S) (no : y < x → ownGo p e m below n0 En Q T (pc + 3) Ls S) : ownGo p e m below n0 En Q T pc Ls (.int y :: .int x :: S) := by
  obtain ⟨⟨hx, hZ, hby, hml, hown, hnm, hret, hlk⟩, locs, X, eT, hN⟩ := G
  by_cases q : y < x
  · exact ownGo.step (fun t k => XS.icmpNo X.here hx rfl (hb hby hd) rfl (tlt q).2.2.2 k) (no q)
  · exact ownGo.step (fun t k => XS.icmpYes X.here hx rfl (pc0 := pc) rfl (hb hby hd) rfl (flt q).2.2.2 ho hp k) (yes q)
theorem own_if_le (G : ownSt p l e R s m args below meth c Z n0 own bytes mx rt nm T h cells slots) {x : Int32} {o : Int} {pc' : Nat} (hd : decode bytes pc = .ok (.ifCond .le o, 3)) (ho : 0 ≤ (pc : Int) + o) (hp : ((pc : Int) + o).toNat = pc') (yes : ¬ (0 : Int32) < x → ownGo p e m below n0 En Q T pc' Ls S) (no : (0 : Int32) < x → ownGo p e m below n0 En Q T (pc + 3) Ls S) : ownGo p e m below n0 En Q T pc Ls (.int x :: S) := by
  obtain ⟨⟨hx, hZ, hby, hml, hown, hnm, hret, hlk⟩, locs, X, eT, hN⟩ := G
  by_cases q : (0 : Int32) < x
  · exact ownGo.step (fun t k => XS.ifNo X.here hx rfl (hb hby hd) rfl ((if0 _ _).trans (tlt q).2.2.2) k) (no q)
  · exact ownGo.step (fun t k => XS.ifYes X.here hx rfl (pc0 := pc) rfl (hb hby hd) rfl ((if0 _ _).trans (flt q).2.2.2) ho hp k) (yes q)
theorem own_icmp_eq (G : ownSt p l e R s m args below meth c Z n0 own bytes mx rt nm T h cells slots) {x y : Int32} {o : Int} {pc' : Nat} (hd : decode bytes pc = .ok (.if_icmp .eq o, 3)) (ho : 0 ≤ (pc : Int) + o) (hp : ((pc : Int) + o).toNat = pc') (yes : x = y → ownGo p e m below n0 En Q T pc' Ls S) (no : ¬ x = y → ownGo p e m below n0 En Q T (pc + 3) Ls S) : ownGo p e m below n0 En Q T pc Ls (.int y :: .int x :: S) := by
  obtain ⟨⟨hx, hZ, hby, hml, hown, hnm, hret, hlk⟩, locs, X, eT, hN⟩ := G
  by_cases q : x = y
  · exact ownGo.step (fun t k => XS.icmpYes X.here hx rfl (pc0 := pc) rfl (hb hby hd) rfl (teq q).1 ho hp k) (yes q)
  · exact ownGo.step (fun t k => XS.icmpNo X.here hx rfl (hb hby hd) rfl (feq q).1 k) (no q)
theorem own_if_eq (G : ownSt p l e R s m args below meth c Z n0 own bytes mx rt nm T h cells slots) {x : Int32} {o : Int} {pc' : Nat} (hd : decode bytes pc = .ok (.ifCond .eq o, 3)) (ho : 0 ≤ (pc : Int) + o) (hp : ((pc : Int) + o).toNat = pc') (yes : x = (0 : Int32) → ownGo p e m below n0 En Q T pc' Ls S) (no : ¬ x = (0 : Int32) → ownGo p e m below n0 En Q T (pc + 3) Ls S) : ownGo p e m below n0 En Q T pc Ls (.int x :: S) := by
  obtain ⟨⟨hx, hZ, hby, hml, hown, hnm, hret, hlk⟩, locs, X, eT, hN⟩ := G
  by_cases q : x = (0 : Int32)
  · exact ownGo.step (fun t k => XS.ifYes X.here hx rfl (pc0 := pc) rfl (hb hby hd) rfl ((if0 _ _).trans (teq q).1) ho hp k) (yes q)
  · exact ownGo.step (fun t k => XS.ifNo X.here hx rfl (hb hby hd) rfl ((if0 _ _).trans (feq q).1) k) (no q)
theorem own_icmp_ne (G : ownSt p l e R s m args below meth c Z n0 own bytes mx rt nm T h cells slots) {x y : Int32} {o : Int} {pc' : Nat} (hd : decode bytes pc = .ok (.if_icmp .ne o, 3)) (ho : 0 ≤ (pc : Int) + o) (hp : ((pc : Int) + o).toNat = pc') (yes : ¬ x = y → ownGo p e m below n0 En Q T pc' Ls S) (no : x = y → ownGo p e m below n0 En Q T (pc + 3) Ls S) : ownGo p e m below n0 En Q T pc Ls (.int y :: .int x :: S) := by
  obtain ⟨⟨hx, hZ, hby, hml, hown, hnm, hret, hlk⟩, locs, X, eT, hN⟩ := G
  by_cases q : x = y
  · exact ownGo.step (fun t k => XS.icmpNo X.here hx rfl (hb hby hd) rfl (teq q).2 k) (no q)
  · exact ownGo.step (fun t k => XS.icmpYes X.here hx rfl (pc0 := pc) rfl (hb hby hd) rfl (feq q).2 ho hp k) (yes q)
theorem own_if_ne (G : ownSt p l e R s m args below meth c Z n0 own bytes mx rt nm T h cells slots) {x : Int32} {o : Int} {pc' : Nat} (hd : decode bytes pc = .ok (.ifCond .ne o, 3)) (ho : 0 ≤ (pc : Int) + o) (hp : ((pc : Int) + o).toNat = pc') (yes : ¬ x = (0 : Int32) → ownGo p e m below n0 En Q T pc' Ls S) (no : x = (0 : Int32) → ownGo p e m below n0 En Q T (pc + 3) Ls S) : ownGo p e m below n0 En Q T pc Ls (.int x :: S) := by
  obtain ⟨⟨hx, hZ, hby, hml, hown, hnm, hret, hlk⟩, locs, X, eT, hN⟩ := G
  by_cases q : x = (0 : Int32)
  · exact ownGo.step (fun t k => XS.ifNo X.here hx rfl (hb hby hd) rfl ((if0 _ _).trans (teq q).2) k) (no q)
  · exact ownGo.step (fun t k => XS.ifYes X.here hx rfl (pc0 := pc) rfl (hb hby hd) rfl ((if0 _ _).trans (feq q).2) ho hp k) (yes q)
theorem own_lcif_lt (G : ownSt p l e R s m args below meth c Z n0 own bytes mx rt nm T h cells slots) {x y : Int64} {o : Int} {pc' : Nat} (hd : decode bytes pc = .ok (.lcmp, 1)) (hd' : decode bytes (pc + 1) = .ok (.ifCond .lt o, 3)) (ho : 0 ≤ ((pc + 1 : Nat) : Int) + o) (hp : (((pc + 1 : Nat) : Int) + o).toNat = pc') (yes : x < y → ownGo p e m below n0 En Q T pc' Ls S) (no : ¬ x < y → ownGo p e m below n0 En Q T (pc + 1 + 3) Ls S) : ownGo p e m below n0 En Q T pc Ls (.long y :: .long x :: S) :=
  own_lcmp G hd (own_if_lt G hd' ho hp (fun q => yes ((lw_lt _ _).mp q)) (fun q => no (fun r => q ((lw_lt _ _).mpr r))))
theorem own_lcif_ge (G : ownSt p l e R s m args below meth c Z n0 own bytes mx rt nm T h cells slots) {x y : Int64} {o : Int} {pc' : Nat} (hd : decode bytes pc = .ok (.lcmp, 1)) (hd' : decode bytes (pc + 1) = .ok (.ifCond .ge o, 3)) (ho : 0 ≤ ((pc + 1 : Nat) : Int) + o) (hp : (((pc + 1 : Nat) : Int) + o).toNat = pc') (yes : ¬ x < y → ownGo p e m below n0 En Q T pc' Ls S) (no : x < y → ownGo p e m below n0 En Q T (pc + 1 + 3) Ls S) : ownGo p e m below n0 En Q T pc Ls (.long y :: .long x :: S) :=
  own_lcmp G hd (own_if_ge G hd' ho hp (fun q => yes (fun r => q ((lw_lt _ _).mpr r))) (fun q => no ((lw_lt _ _).mp q)))
theorem own_lcif_gt (G : ownSt p l e R s m args below meth c Z n0 own bytes mx rt nm T h cells slots) {x y : Int64} {o : Int} {pc' : Nat} (hd : decode bytes pc = .ok (.lcmp, 1)) (hd' : decode bytes (pc + 1) = .ok (.ifCond .gt o, 3)) (ho : 0 ≤ ((pc + 1 : Nat) : Int) + o) (hp : (((pc + 1 : Nat) : Int) + o).toNat = pc') (yes : y < x → ownGo p e m below n0 En Q T pc' Ls S) (no : ¬ y < x → ownGo p e m below n0 En Q T (pc + 1 + 3) Ls S) : ownGo p e m below n0 En Q T pc Ls (.long y :: .long x :: S) :=
  own_lcmp G hd (own_if_gt G hd' ho hp (fun q => yes ((lw_gt _ _).mp q)) (fun q => no (fun r => q ((lw_gt _ _).mpr r))))
theorem own_lcif_le (G : ownSt p l e R s m args below meth c Z n0 own bytes mx rt nm T h cells slots) {x y : Int64} {o : Int} {pc' : Nat} (hd : decode bytes pc = .ok (.lcmp, 1)) (hd' : decode bytes (pc + 1) = .ok (.ifCond .le o, 3)) (ho : 0 ≤ ((pc + 1 : Nat) : Int) + o) (hp : (((pc + 1 : Nat) : Int) + o).toNat = pc') (yes : ¬ y < x → ownGo p e m below n0 En Q T pc' Ls S) (no : y < x → ownGo p e m below n0 En Q T (pc + 1 + 3) Ls S) : ownGo p e m below n0 En Q T pc Ls (.long y :: .long x :: S) :=
  own_lcmp G hd (own_if_le G hd' ho hp (fun q => yes (fun r => q ((lw_gt _ _).mpr r))) (fun q => no ((lw_gt _ _).mp q)))
theorem own_lcif_eq (G : ownSt p l e R s m args below meth c Z n0 own bytes mx rt nm T h cells slots) {x y : Int64} {o : Int} {pc' : Nat} (hd : decode bytes pc = .ok (.lcmp, 1)) (hd' : decode bytes (pc + 1) = .ok (.ifCond .eq o, 3)) (ho : 0 ≤ ((pc + 1 : Nat) : Int) + o) (hp : (((pc + 1 : Nat) : Int) + o).toNat = pc') (yes : x = y → ownGo p e m below n0 En Q T pc' Ls S) (no : ¬ x = y → ownGo p e m below n0 En Q T (pc + 1 + 3) Ls S) : ownGo p e m below n0 En Q T pc Ls (.long y :: .long x :: S) :=
  own_lcmp G hd (own_if_eq G hd' ho hp (fun q => yes ((lw_eq _ _).mp q)) (fun q => no (fun r => q ((lw_eq _ _).mpr r))))
theorem own_lcif_ne (G : ownSt p l e R s m args below meth c Z n0 own bytes mx rt nm T h cells slots) {x y : Int64} {o : Int} {pc' : Nat} (hd : decode bytes pc = .ok (.lcmp, 1)) (hd' : decode bytes (pc + 1) = .ok (.ifCond .ne o, 3)) (ho : 0 ≤ ((pc + 1 : Nat) : Int) + o) (hp : (((pc + 1 : Nat) : Int) + o).toNat = pc') (yes : ¬ x = y → ownGo p e m below n0 En Q T pc' Ls S) (no : x = y → ownGo p e m below n0 En Q T (pc + 1 + 3) Ls S) : ownGo p e m below n0 En Q T pc Ls (.long y :: .long x :: S) :=
  own_lcmp G hd (own_if_ne G hd' ho hp (fun q => yes (fun r => q ((lw_eq _ _).mpr r))) (fun q => no ((lw_eq _ _).mp q)))
theorem own_ifnull_null (G : ownSt p l e R s m args below meth c Z n0 own bytes mx rt nm T h cells slots) {o : Int} {pc' : Nat} (hd : decode bytes pc = .ok (.ifnull o, 3)) (ho : 0 ≤ (pc : Int) + o) (hp : ((pc : Int) + o).toNat = pc') (go : ownGo p e m below n0 En Q T pc' Ls S) : ownGo p e m below n0 En Q T pc Ls (.null :: S) := by
  obtain ⟨⟨hx, hZ, hby, hml, hown, hnm, hret, hlk⟩, locs, X, eT, hN⟩ := G
  exact ownGo.step (fun t k => XS.ifnullYes X.here hx rfl (pc0 := pc) rfl (hb hby hd) rfl ho hp k) go
theorem own_ifnull_ref (G : ownSt p l e R s m args below meth c Z n0 own bytes mx rt nm T h cells slots) {o : Int} (hd : decode bytes pc = .ok (.ifnull o, 3)) (go : ownGo p e m below n0 En Q T (pc + 3) Ls S) : ownGo p e m below n0 En Q T pc Ls (.ref b :: S) := by
  obtain ⟨⟨hx, hZ, hby, hml, hown, hnm, hret, hlk⟩, locs, X, eT, hN⟩ := G
  exact ownGo.step (fun t k => XS.ifnullNo X.here hx rfl (hb hby hd) rfl k) go
theorem own_ifnonnull_ref (G : ownSt p l e R s m args below meth c Z n0 own bytes mx rt nm T h cells slots) {o : Int} {pc' : Nat} (hd : decode bytes pc = .ok (.ifnonnull o, 3)) (ho : 0 ≤ (pc : Int) + o) (hp : ((pc : Int) + o).toNat = pc') (go : ownGo p e m below n0 En Q T pc' Ls S) : ownGo p e m below n0 En Q T pc Ls (.ref b :: S) := by
  obtain ⟨⟨hx, hZ, hby, hml, hown, hnm, hret, hlk⟩, locs, X, eT, hN⟩ := G
  exact ownGo.step (fun t k => XS.ifnonnullYes X.here hx rfl (pc0 := pc) rfl (hb hby hd) rfl ho hp k) go
theorem own_ifnonnull_null (G : ownSt p l e R s m args below meth c Z n0 own bytes mx rt nm T h cells slots) {o : Int} (hd : decode bytes pc = .ok (.ifnonnull o, 3)) (go : ownGo p e m below n0 En Q T (pc + 3) Ls S) : ownGo p e m below n0 En Q T pc Ls (.null :: S) := by
  obtain ⟨⟨hx, hZ, hby, hml, hown, hnm, hret, hlk⟩, locs, X, eT, hN⟩ := G
  exact ownGo.step (fun t k => XS.ifnonnullNo X.here hx rfl (hb hby hd) rfl k) go
theorem own_acmp (G : ownSt p l e R s m args below meth c Z n0 own bytes mx rt nm T h cells slots) {cd : ACond} {x y : Value} {o : Int} {pc' : Nat} {same : Bool} (hd : decode bytes pc = .ok (.if_acmp cd o, 3)) (h1 : x.isRef = true) (h2 : y.isRef = true) (hq : decide (x = y) = same) (ho : 0 ≤ (pc : Int) + o) (hp : pc' = if acV cd same = true then ((pc : Int) + o).toNat else pc + 3) (go : ownGo p e m below n0 En Q T pc' Ls S) : ownGo p e m below n0 En Q T pc Ls (y :: x :: S) := by
  obtain ⟨⟨hx, hZ, hby, hml, hown, hnm, hret, hlk⟩, locs, X, eT, hN⟩ := G
  exact ownGo.step (fun t k => Jvm.RoadKit.acmp (g := mkF m pc Ls (y :: x :: S)) X hx rfl h1 h2 (pc0 := pc) rfl (hb hby hd) rfl hq ho hp k) go
theorem own_ret (G : ownSt p l e R s m args below meth c Z n0 own bytes mx rt nm T h cells slots) (hd : decode bytes pc = .ok (.return_, 1)) (hrt : rt = none) (hc : cells ≤ R.cells) (hs : slots ≤ R.slots) (q : Q none h) : ownGo p e m below n0 (ownEnd s R) Q T pc Ls [] := by
  obtain ⟨⟨hx, hZ, hby, hml, hown, hnm, hret, hlk⟩, locs, X, eT, hN⟩ := G
  obtain ⟨fs, hr, hrun, hended, hW, hsame⟩ := X.leave (v := none) (fun _ => rfl)
  exact ⟨_, _, X.returnOut hx (hret.trans hrt) (hb hby hd) hr, hrun, hended, _, _, rfl, ⟨by show Q none T.heap; rw [eT]; exact q, hN⟩, ⟨_, rfl⟩, hW, hsame.mono hc hs⟩
theorem own_ireturn (G : ownSt p l e R s m args below meth c Z n0 own bytes mx rt nm T h cells slots) {z : Int32} (hd : decode bytes pc = .ok (.ireturn, 1)) (hrt : rt = some .int) (hc : cells ≤ R.cells) (hs : slots ≤ R.slots) (q : Q (some (.int z)) h) : ownGo p e m below n0 (ownEnd s R) Q T pc Ls (.int z :: S) := by
  obtain ⟨⟨hx, hZ, hby, hml, hown, hnm, hret, hlk⟩, locs, X, eT, hN⟩ := G
  obtain ⟨fs, hr, hrun, hended, hW, hsame⟩ := X.leave (v := some (.int z)) (fun h => by rw [hret, hrt] at h; cases h)
  exact ⟨_, _, retOut X hx (hret.trans hrt) rfl (Or.inl ⟨rfl, Or.inl rfl, _, rfl⟩) (hb hby hd) hr, hrun, hended, _, _, rfl, ⟨by show Q _ T.heap; rw [eT]; exact q, hN⟩, ⟨_, rfl⟩, hW, hsame.mono hc hs⟩
theorem own_zreturn (G : ownSt p l e R s m args below meth c Z n0 own bytes mx rt nm T h cells slots) {z : Int32} (hd : decode bytes pc = .ok (.ireturn, 1)) (hrt : rt = some .boolean) (hc : cells ≤ R.cells) (hs : slots ≤ R.slots) (q : Q (some (.int (nar .boolean z))) h) : ownGo p e m below n0 (ownEnd s R) Q T pc Ls (.int z :: S) := by
  obtain ⟨⟨hx, hZ, hby, hml, hown, hnm, hret, hlk⟩, locs, X, eT, hN⟩ := G
  obtain ⟨fs, hr, hrun, hended, hW, hsame⟩ := X.leave (v := some (.int (nar .boolean z))) (fun h => by rw [hret, hrt] at h; cases h)
  exact ⟨_, _, retN X hx (t := .boolean) (hret.trans hrt) (by simp) (hb hby hd) hr, hrun, hended, _, _, rfl, ⟨by show Q _ T.heap; rw [eT]; exact q, hN⟩, ⟨_, rfl⟩, hW, hsame.mono hc hs⟩
theorem own_lreturn (G : ownSt p l e R s m args below meth c Z n0 own bytes mx rt nm T h cells slots) {z : Int64} (hd : decode bytes pc = .ok (.lreturn, 1)) (hrt : rt = some .long) (hc : cells ≤ R.cells) (hs : slots ≤ R.slots) (q : Q (some (.long z)) h) : ownGo p e m below n0 (ownEnd s R) Q T pc Ls (.long z :: S) := by
  obtain ⟨⟨hx, hZ, hby, hml, hown, hnm, hret, hlk⟩, locs, X, eT, hN⟩ := G
  obtain ⟨fs, hr, hrun, hended, hW, hsame⟩ := X.leave (v := some (.long z)) (fun h => by rw [hret, hrt] at h; cases h)
  exact ⟨_, _, retOut X hx (hret.trans hrt) rfl (Or.inr (Or.inl ⟨rfl, rfl, _, rfl⟩)) (hb hby hd) hr, hrun, hended, _, _, rfl, ⟨by show Q _ T.heap; rw [eT]; exact q, hN⟩, ⟨_, rfl⟩, hW, hsame.mono hc hs⟩
theorem own_areturn (G : ownSt p l e R s m args below meth c Z n0 own bytes mx rt nm T h cells slots) {v : Value} {t : FieldType} (hd : decode bytes pc = .ok (.areturn, 1)) (hrt : rt = some t) (ht : t.isReference = true) (hv : v.isRef = true) (hn : narrow t v = v) (hc : cells ≤ R.cells) (hs : slots ≤ R.slots) (q : Q (some v) h) : ownGo p e m below n0 (ownEnd s R) Q T pc Ls (v :: S) := by
  obtain ⟨⟨hx, hZ, hby, hml, hown, hnm, hret, hlk⟩, locs, X, eT, hN⟩ := G
  obtain ⟨fs, hr, hrun, hended, hW, hsame⟩ := X.leave (v := some v) (fun h => by rw [hret, hrt] at h; cases h)
  exact ⟨_, _, retOut X hx (hret.trans hrt) hn (Or.inr (Or.inr (Or.inr (Or.inr ⟨rfl, ht, hv⟩)))) (hb hby hd) hr, hrun, hended, _, _, rfl, ⟨by show Q _ T.heap; rw [eT]; exact q, hN⟩, ⟨_, rfl⟩, hW, hsame.mono hc hs⟩
theorem own_ldcInt (G : ownSt p l e R s m args below meth c Z n0 own bytes mx rt nm T h cells slots) {index : Nat} {v : Int32} (hd : decode bytes pc = .ok (.ldc index, 2)) (w : (Cond.constant own index v).before a0 Z = true) (go : ownGo p e m below n0 En Q T (pc + 2) Ls (.int v :: S)) : ownGo p e m below n0 En Q T pc Ls S := by
  obtain ⟨⟨hx, hZ, hby, hml, hown, hnm, hret, hlk⟩, locs, X, eT, hN⟩ := G
  exact ownGo.step (fun t k => X.ldcInt hx hown (mvT hZ w) (g := mkF m pc Ls S) rfl (hb hby hd) _ k) go
theorem own_ldcw (G : ownSt p l e R s m args below meth c Z n0 own bytes mx rt nm T h cells slots) {index : Nat} {v : Int32} (hd : decode bytes pc = .ok (.ldc_w index, 3)) (w : (Cond.constant own index v).before a0 Z = true) (go : ownGo p e m below n0 En Q T (pc + 3) Ls (.int v :: S)) : ownGo p e m below n0 En Q T pc Ls S := by
  obtain ⟨⟨hx, hZ, hby, hml, hown, hnm, hret, hlk⟩, locs, X, eT, hN⟩ := G
  exact ownGo.step (fun t k => X.ldcwInt hx hown (mvT hZ w) (g := mkF m pc Ls S) rfl (hb hby hd) _ k) go
theorem own_ldc2 (G : ownSt p l e R s m args below meth c Z n0 own bytes mx rt nm T h cells slots) {index : Nat} {v : Int64} (hd : decode bytes pc = .ok (.ldc2_w index, 3)) (w : (Cond.constantLong own index v).before a0 Z = true) (go : ownGo p e m below n0 En Q T (pc + 3) Ls (.long v :: S)) : ownGo p e m below n0 En Q T pc Ls S := by
  obtain ⟨⟨hx, hZ, hby, hml, hown, hnm, hret, hlk⟩, locs, X, eT, hN⟩ := G
  exact ownGo.step (fun t k => X.ldc2Long hx hown (mvT hZ w) (g := mkF m pc Ls S) rfl (hb hby hd) _ k) go
theorem own_getF (G : ownSt p l e R s m args below meth c Z n0 own bytes mx rt nm T h cells slots) {R0 O n d : String} {index : Nat} {v : Value} (hd : decode bytes pc = .ok (.getfield index, 3)) (w : (Cond.fieldLink own index R0 n d).before a0 Z = true) (via : Via Z R0 O n d) (F : Fld Z h a O n d v)
    (go : ∀ T', ownSt p l e R s m args below meth c Z n0 own bytes mx rt nm T' h cells slots → ownGo p e m below n0 En Q T' (pc + 3) Ls (v :: S)) : ownGo p e m below n0 En Q T pc Ls (.ref a :: S) := by
  obtain ⟨⟨hx, hZ, hby, hml, hown, hnm, hret, hlk⟩, locs, X, eT, hN⟩ := G
  obtain ⟨T', X', e', st⟩ := getF X hx hZ hown (host := "") (Or.inl w) via eT F (g := mkF m pc Ls (.ref a :: S)) rfl rfl (hb hby hd)
  exact ownGo.step (fun t k => st t k) (go T' ⟨⟨hx, hZ, hby, hml, hown, hnm, hret, hlk⟩, locs, X', e', hN⟩)
theorem own_putF (G : ownSt p l e R s m args below meth c Z n0 own bytes mx rt nm T h cells slots) {R0 O n d C : String} {index kk : Nat} {ty : FieldType} {v old : Value} (hd : decode bytes pc = .ok (.putfield index, 3)) (w : (Cond.fieldLink own index R0 n d).before a0 Z = true) (via : Via Z R0 O n d) (F : Fld Z h a O n d old) (E : Exa Z h a C) (L : (Cond.lays C O n d).before a0 Z = true ∨ ((Cond.laysFinal C O n d).before a0 Z = true ∧ own = O ∧ nm = "<init>")) (wi : (Cond.instantiable C kk).before a0 Z = true)
    (hty : parseFieldDescriptor d = some ty) (hn : narrow ty v = v) (hf : fits ty v = true) (hfr : n0 ≤ a)
    (go : ∀ T' h', Wr h h' a (Jvm.RoadKit.slotOf Z O n d) v → ownSt p l e R s m args below meth c Z n0 own bytes mx rt nm T' h' cells slots → ownGo p e m below n0 En Q T' (pc + 3) Ls S) : ownGo p e m below n0 En Q T pc Ls (v :: .ref a :: S) := by
  obtain ⟨⟨hx, hZ, hby, hml, hown, hnm, hret, hlk⟩, locs, X, eT, hN⟩ := G
  obtain ⟨T', h', X', e', W', st⟩ := putF X hx hZ hown (host := "") (Or.inl w) via eT F E (L.imp id fun q => ⟨q.1, q.2.1, hnm.trans q.2.2⟩) wi hty hn hf (g := mkF m pc Ls (v :: .ref a :: S)) rfl rfl (hb hby hd)
  exact ownGo.step (fun t k => st t k) (go T' h' W' ⟨⟨hx, hZ, hby, hml, hown, hnm, hret, hlk⟩, _, X', e', Fr.snoc X' hN hfr⟩)
theorem own_getS (G : ownSt p l e R s m args below meth c Z n0 own bytes mx rt nm T h cells slots) {R0 O n d : String} {index : Nat} {v : Value} (hd : decode bytes pc = .ok (.getstatic index, 3)) (w : (Cond.fieldLink own index R0 n d).before a0 Z = true) (via : Via Z R0 O n d) (F : Sta Z h O n d v)
    (go : ∀ T', ownSt p l e R s m args below meth c Z n0 own bytes mx rt nm T' h cells slots → ownGo p e m below n0 En Q T' (pc + 3) Ls (v :: S)) : ownGo p e m below n0 En Q T pc Ls S := by
  obtain ⟨⟨hx, hZ, hby, hml, hown, hnm, hret, hlk⟩, locs, X, eT, hN⟩ := G
  obtain ⟨T', X', e', st⟩ := getS2 X hx hZ hown (host := "") (Or.inl w) via eT F (g := mkF m pc Ls S) rfl (hb hby hd)
  exact ownGo.step (fun t k => st t k) (go T' ⟨⟨hx, hZ, hby, hml, hown, hnm, hret, hlk⟩, locs, X', e', hN⟩)
theorem own_new (G : ownSt p l e R s m args below meth c Z n0 own bytes mx rt nm T h cells slots) {C : String} {index n : Nat} (hd : decode bytes pc = .ok (.new index, 3)) (w : (Cond.classLink own index C).before a0 Z = true) (wi : (Cond.instantiable C n).before a0 Z = true) (wz : (Cond.initialized C).before a0 Z = true) (hc : cells + 1 ≤ R.cells) (hl : slots + n ≤ R.slots)
    (go : ∀ T' h' a, a = h.size → Ext h h' → Exa Z h' a C → (∀ {O nm d : String} {ty : FieldType}, Laid Z a0 C O nm d → parseFieldDescriptor d = some ty → Fld Z h' a O nm d (defaultValue ty)) → ownSt p l e R s m args below meth c Z n0 own bytes mx rt nm T' h' (cells + 1) (slots + n) → ownGo p e m below n0 En Q T' (pc + 3) Ls (.ref a :: S)) : ownGo p e m below n0 En Q T pc Ls S := by
  obtain ⟨⟨hx, hZ, hby, hml, hown, hnm, hret, hlk⟩, locs, X, eT, hN⟩ := G
  obtain ⟨T', h', X', e', E', A', D', -, st⟩ := newO X hx hZ hown w wi wz eT (g := mkF m pc Ls S) rfl (hb hby hd) hc hl
  exact ownGo.step (fun t k => st t k) (go T' h' h.size rfl E' A' D' ⟨⟨hx, hZ, hby, hml, hown, hnm, hret, hlk⟩, locs, X', e', hN⟩)
/-- an array of n places: place j holds f j -/
def ownArr (Z : State) (h : Heap) (a : Addr) (ty : FieldType) (n : Nat) (f : Nat → Value) : Prop := ∃ cl : Cell, Arr Z h a cl ty ∧ cl.slots.size = n ∧ ∀ j, j < n → cl.slots[j]? = some (f j)
variable {ty : FieldType} {n i : Nat} {f g : Nat → Value} {j : Int32}
theorem ownArr.lt (A : ownArr Z h a ty n f) : a < h.size := by obtain ⟨cl, A, -⟩ := A; exact A.lt
theorem ownArr.ext (A : ownArr Z h a ty n f) (E : Ext h h') : ownArr Z h' a ty n f := by obtain ⟨cl, A, r⟩ := A; exact ⟨cl, A.ext E, r⟩
theorem ownArr.keep (A : ownArr Z h a ty n f) {ws : List Addr} (K : Keep h h' ws) (q : a ∉ ws) : ownArr Z h' a ty n f := by obtain ⟨cl, A, r⟩ := A; exact ⟨cl, ⟨K.2.1 a cl A.1 q, A.2⟩, r⟩
theorem ownArr.congr (A : ownArr Z h a ty n f) (q : ∀ j, j < n → f j = g j) : ownArr Z h a ty n g := by obtain ⟨cl, A, r1, r2⟩ := A; exact ⟨cl, A, r1, fun j hj => by rw [← q j hj]; exact r2 j hj⟩
theorem ownArr.other (A : ownArr Z h a ty n f) {sl : Nat} {v : Value} (W : Wr h h' b sl v) (q : a ≠ b) : ownArr Z h' a ty n f := by obtain ⟨cl, A, r⟩ := A; exact ⟨cl, A.other W q, r⟩
theorem ownArr.same (A : ownArr Z h a ty n f) {v : Value} (W : Wr h h' a i v) : ownArr Z h' a ty n (fun j => if j = i then v else f j) := by
  obtain ⟨cl, A, r1, r2⟩ := A
  refine ⟨_, A.same W, by rw [sz_set]; exact r1, fun j hj => ?_⟩
  by_cases q : j = i
  · subst q; simp [Cell.setSlot, r1, hj]
  · simp only [if_neg q]; rw [← r2 j hj]; exact Array.getElem?_setIfInBounds_ne (Ne.symm q)
theorem ownArr.wr (A : ownArr Z h a ty n f) {v : Value} (W : Wr h h' b i v) : ownArr Z h' a ty n (fun j => if a = b ∧ j = i then v else f j) := by
  by_cases q : a = b
  · subst q; exact (A.same W).congr fun j _ => by simp
  · exact (A.other W q).congr fun j _ => by simp [q]
theorem own_in {cl : Cell} (S : cl.slots.size = n) (ix : ¬ j < 0 ∧ j.toNatClampNeg = i ∧ i < n) : ¬ (j < 0 ∨ cl.slots.size ≤ j.toNatClampNeg) := by
  obtain ⟨q1, q2, q3⟩ := ix; rw [S, q2]; intro q; exact q.elim q1 fun r => absurd q3 (Nat.not_lt.mpr r)
theorem own_iaload (G : ownSt p l e R s m args below meth c Z n0 own bytes mx rt nm T h cells slots) {v : Value} (hd : decode bytes pc = .ok (.iaload, 1)) (A : ownArr Z h a .int n f) (ix : ¬ j < 0 ∧ j.toNatClampNeg = i ∧ i < n) (hv : f i = v) (go : ownGo p e m below n0 En Q T (pc + 1) Ls (v :: S)) : ownGo p e m below n0 En Q T pc Ls (.int j :: .ref a :: S) := by
  obtain ⟨⟨hx, hZ, hby, hml, hown, hnm, hret, hlk⟩, locs, X, eT, hN⟩ := G
  obtain ⟨cl, A, r1, r2⟩ := A
  exact ownGo.step (fun t k => X.iaload hx (by rw [eT]; exact A.1) (State.isArrayOf_alike hZ.alike A.2.1) A.2.2 (own_in r1 ix) (by rw [ix.2.1, ← hv]; exact r2 i ix.2.2) (g := mkF m pc Ls (.int j :: .ref a :: S)) rfl rfl (hb hby hd) _ k) go
theorem own_laload (G : ownSt p l e R s m args below meth c Z n0 own bytes mx rt nm T h cells slots) {v : Value} (hd : decode bytes pc = .ok (.laload, 1)) (A : ownArr Z h a .long n f) (ix : ¬ j < 0 ∧ j.toNatClampNeg = i ∧ i < n) (hv : f i = v) (go : ownGo p e m below n0 En Q T (pc + 1) Ls (v :: S)) : ownGo p e m below n0 En Q T pc Ls (.int j :: .ref a :: S) := by
  obtain ⟨⟨hx, hZ, hby, hml, hown, hnm, hret, hlk⟩, locs, X, eT, hN⟩ := G
  obtain ⟨cl, A, r1, r2⟩ := A
  exact ownGo.step (fun t k => X.laload hx (by rw [eT]; exact A.1) (State.isArrayOf_alike hZ.alike A.2.1) A.2.2 (own_in r1 ix) (by rw [ix.2.1, ← hv]; exact r2 i ix.2.2) (g := mkF m pc Ls (.int j :: .ref a :: S)) rfl rfl (hb hby hd) _ k) go
theorem own_baload (G : ownSt p l e R s m args below meth c Z n0 own bytes mx rt nm T h cells slots) {v : Value} (hd : decode bytes pc = .ok (.baload, 1)) (A : ownArr Z h a .byte n f) (ix : ¬ j < 0 ∧ j.toNatClampNeg = i ∧ i < n) (hv : f i = v) (go : ownGo p e m below n0 En Q T (pc + 1) Ls (v :: S)) : ownGo p e m below n0 En Q T pc Ls (.int j :: .ref a :: S) := by
  obtain ⟨⟨hx, hZ, hby, hml, hown, hnm, hret, hlk⟩, locs, X, eT, hN⟩ := G
  obtain ⟨cl, A, r1, r2⟩ := A
  exact ownGo.step (fun t k => X.baloadBytes hx (by rw [eT]; exact A.1) (State.isArrayOf_alike hZ.alike A.2.1) A.2.2 (own_in r1 ix) (by rw [ix.2.1, ← hv]; exact r2 i ix.2.2) (g := mkF m pc Ls (.int j :: .ref a :: S)) rfl rfl (hb hby hd) _ k) go
theorem own_aaload (G : ownSt p l e R s m args below meth c Z n0 own bytes mx rt nm T h cells slots) {v : Value} (hd : decode bytes pc = .ok (.aaload, 1)) (A : ownArr Z h a ty n f) (hty : ty.isReference = true) (ix : ¬ j < 0 ∧ j.toNatClampNeg = i ∧ i < n) (hv : f i = v) (go : ownGo p e m below n0 En Q T (pc + 1) Ls (v :: S)) : ownGo p e m below n0 En Q T pc Ls (.int j :: .ref a :: S) := by
  obtain ⟨⟨hx, hZ, hby, hml, hown, hnm, hret, hlk⟩, locs, X, eT, hN⟩ := G
  obtain ⟨cl, A, r1, r2⟩ := A
  exact ownGo.step (fun t k => X.aaload hx (by rw [eT]; exact A.1) (State.isArrayOf_alike hZ.alike A.2.1) hty A.2.2 (own_in r1 ix) (by rw [ix.2.1, ← hv]; exact r2 i ix.2.2) (g := mkF m pc Ls (.int j :: .ref a :: S)) rfl rfl (hb hby hd) _ k) go
theorem own_arraylength (G : ownSt p l e R s m args below meth c Z n0 own bytes mx rt nm T h cells slots) (hd : decode bytes pc = .ok (.arraylength, 1)) (A : ownArr Z h a ty n f) (go : ownGo p e m below n0 En Q T (pc + 1) Ls (.int n.toInt32 :: S)) : ownGo p e m below n0 En Q T pc Ls (.ref a :: S) := by
  obtain ⟨⟨hx, hZ, hby, hml, hown, hnm, hret, hlk⟩, locs, X, eT, hN⟩ := G
  obtain ⟨cl, A, r1, r2⟩ := A
  subst r1
  exact ownGo.step (fun t k => X.arraylength hx (by rw [eT]; exact A.1) (State.isArrayOf_alike hZ.alike A.2.1) (g := mkF m pc Ls (.ref a :: S)) rfl rfl (hb hby hd) _ k) go
theorem own_iastore (G : ownSt p l e R s m args below meth c Z n0 own bytes mx rt nm T h cells slots) {x : Int32} (hd : decode bytes pc = .ok (.iastore, 1)) (A : ownArr Z h a .int n f) (ix : ¬ j < 0 ∧ j.toNatClampNeg = i ∧ i < n) (hfr : n0 ≤ a) (go : ∀ T' h', Wr h h' a i (.int x) → ownSt p l e R s m args below meth c Z n0 own bytes mx rt nm T' h' cells slots → ownGo p e m below n0 En Q T' (pc + 1) Ls S) : ownGo p e m below n0 En Q T pc Ls (.int x :: .int j :: .ref a :: S) := by
  obtain ⟨⟨hx, hZ, hby, hml, hown, hnm, hret, hlk⟩, locs, X, eT, hN⟩ := G
  obtain ⟨cl, A, r1, r2⟩ := A
  obtain ⟨T', h', X', e', W', st⟩ := stI X hx hZ eT A (own_in r1 ix) (g := mkF m pc Ls (.int x :: .int j :: .ref a :: S)) rfl rfl (hb hby hd)
  exact ownGo.step (fun t k => st t k) (go T' h' (ix.2.1 ▸ W') ⟨⟨hx, hZ, hby, hml, hown, hnm, hret, hlk⟩, _, X', e', Fr.snoc X' hN hfr⟩)
theorem own_lastore (G : ownSt p l e R s m args below meth c Z n0 own bytes mx rt nm T h cells slots) {x : Int64} (hd : decode bytes pc = .ok (.lastore, 1)) (A : ownArr Z h a .long n f) (ix : ¬ j < 0 ∧ j.toNatClampNeg = i ∧ i < n) (hfr : n0 ≤ a) (go : ∀ T' h', Wr h h' a i (.long x) → ownSt p l e R s m args below meth c Z n0 own bytes mx rt nm T' h' cells slots → ownGo p e m below n0 En Q T' (pc + 1) Ls S) : ownGo p e m below n0 En Q T pc Ls (.long x :: .int j :: .ref a :: S) := by
  obtain ⟨⟨hx, hZ, hby, hml, hown, hnm, hret, hlk⟩, locs, X, eT, hN⟩ := G
  obtain ⟨cl, A, r1, r2⟩ := A
  obtain ⟨T', h', X', e', W', st⟩ := stJ X hx hZ eT A (own_in r1 ix) (g := mkF m pc Ls (.long x :: .int j :: .ref a :: S)) rfl rfl (hb hby hd)
  exact ownGo.step (fun t k => st t k) (go T' h' (ix.2.1 ▸ W') ⟨⟨hx, hZ, hby, hml, hown, hnm, hret, hlk⟩, _, X', e', Fr.snoc X' hN hfr⟩)
theorem own_bastore (G : ownSt p l e R s m args below meth c Z n0 own bytes mx rt nm T h cells slots) {x : Int32} (hd : decode bytes pc = .ok (.bastore, 1)) (A : ownArr Z h a .byte n f) (ix : ¬ j < 0 ∧ j.toNatClampNeg = i ∧ i < n) (hfr : n0 ≤ a) (go : ∀ T' h', Wr h h' a i (.int (nar .byte x)) → ownSt p l e R s m args below meth c Z n0 own bytes mx rt nm T' h' cells slots → ownGo p e m below n0 En Q T' (pc + 1) Ls S) : ownGo p e m below n0 En Q T pc Ls (.int x :: .int j :: .ref a :: S) := by
  obtain ⟨⟨hx, hZ, hby, hml, hown, hnm, hret, hlk⟩, locs, X, eT, hN⟩ := G
  obtain ⟨cl, A, r1, r2⟩ := A
  obtain ⟨T', h', X', e', W', st⟩ := stB X hx hZ eT A (own_in r1 ix) (g := mkF m pc Ls (.int x :: .int j :: .ref a :: S)) rfl rfl (hb hby hd)
  exact ownGo.step (fun t k => st t k) (go T' h' (ix.2.1 ▸ W') ⟨⟨hx, hZ, hby, hml, hown, hnm, hret, hlk⟩, _, X', e', Fr.snoc X' hN hfr⟩)
theorem own_newarr (G : ownSt p l e R s m args below meth c Z n0 own bytes mx rt nm T h cells slots) {aty : ArrayType} {x : Int32} (hd : decode bytes pc = .ok (.newarray aty, 2)) (w : (Cond.arrayClass (newarray.typeOf aty)).before a0 Z = true) (hn : ¬ x < 0) {k cap : Nat} (hk : x.toNatClampNeg = k) (hcap : k ≤ cap) (hb8 : cap * 8 ≤ 536870912) (hc : cells + 1 ≤ R.cells) (hl : slots + cap ≤ R.slots)
    (go : ∀ T' h' a, a = h.size → Ext h h' → ownArr Z h' a (newarray.typeOf aty) k (fun _ => defaultValue (newarray.typeOf aty)) → ownSt p l e R s m args below meth c Z n0 own bytes mx rt nm T' h' (cells + 1) (slots + cap) → ownGo p e m below n0 En Q T' (pc + 2) Ls (.ref a :: S)) : ownGo p e m below n0 En Q T pc Ls (.int x :: S) := by
  obtain ⟨⟨hx, hZ, hby, hml, hown, hnm, hret, hlk⟩, locs, X, eT, hN⟩ := G
  subst hk
  obtain ⟨T', h', cA, X', e', E', A', st⟩ := newP X hx hZ w eT (g := mkF m pc Ls (.int x :: S)) rfl (hb hby hd) rfl hn hcap hb8 hc hl
  exact ownGo.step (fun t k => st t k) (go T' h' h.size rfl E' ⟨_, A', sz_new _ _ _, fun j hj => by simp [newA, hj]⟩ ⟨⟨hx, hZ, hby, hml, hown, hnm, hret, hlk⟩, locs, X', e', hN⟩)
theorem own_ldcFloat (G : ownSt p l e R s m args below meth c Z n0 own bytes mx rt nm T h cells slots) {index : Nat} {v : UInt32} (hd : decode bytes pc = .ok (.ldc index, 2)) (w : (Cond.constantFloat own index v).before a0 Z = true) (go : ownGo p e m below n0 En Q T (pc + 2) Ls (.float v :: S)) : ownGo p e m below n0 En Q T pc Ls S := by
  obtain ⟨⟨hx, hZ, hby, hml, hown, hnm, hret, hlk⟩, locs, X, eT, hN⟩ := G
  exact ownGo.step (fun t k => X.ldcFloatC hx hown (mvT hZ w) (g := mkF m pc Ls S) rfl (hb hby hd) _ k) go
/-- an array of references to objects of C -/
def ownRef (Z : State) (h : Heap) (a : Addr) (C : String) (n : Nat) (f : Nat → Value) : Prop := ∃ cl : Cell, Arr Z h a cl (.object C) ∧ Ovr Z cl.cls C ∧ cl.slots.size = n ∧ ∀ j, j < n → cl.slots[j]? = some (f j)
theorem ownRef.arr {C : String} (A : ownRef Z h a C n f) : ownArr Z h a (.object C) n f := by obtain ⟨cl, A, -, r⟩ := A; exact ⟨cl, A, r⟩
theorem ownRef.lt {C : String} (A : ownRef Z h a C n f) : a < h.size := A.arr.lt
theorem ownRef.ext {C : String} (A : ownRef Z h a C n f) (E : Ext h h') : ownRef Z h' a C n f := by obtain ⟨cl, A, r⟩ := A; exact ⟨cl, A.ext E, r⟩
theorem ownRef.keep {C : String} (A : ownRef Z h a C n f) {ws : List Addr} (K : Keep h h' ws) (q : a ∉ ws) : ownRef Z h' a C n f := by obtain ⟨cl, A, r⟩ := A; exact ⟨cl, ⟨K.2.1 a cl A.1 q, A.2⟩, r⟩
theorem ownRef.congr {C : String} (A : ownRef Z h a C n f) (q : ∀ j, j < n → f j = g j) : ownRef Z h a C n g := by obtain ⟨cl, A, r0, r1, r2⟩ := A; exact ⟨cl, A, r0, r1, fun j hj => by rw [← q j hj]; exact r2 j hj⟩
theorem ownRef.other {C : String} (A : ownRef Z h a C n f) {sl : Nat} {v : Value} (W : Wr h h' b sl v) (q : a ≠ b) : ownRef Z h' a C n f := by obtain ⟨cl, A, r⟩ := A; exact ⟨cl, A.other W q, r⟩
theorem ownRef.same {C : String} (A : ownRef Z h a C n f) {v : Value} (W : Wr h h' a i v) : ownRef Z h' a C n (fun j => if j = i then v else f j) := by
  obtain ⟨cl, A, r0, r1, r2⟩ := A
  refine ⟨_, A.same W, r0, by rw [sz_set]; exact r1, fun j hj => ?_⟩
  by_cases q : j = i
  · subst q; simp [Cell.setSlot, r1, hj]
  · simp only [if_neg q]; rw [← r2 j hj]; exact Array.getElem?_setIfInBounds_ne (Ne.symm q)
theorem own_aastore (G : ownSt p l e R s m args below meth c Z n0 own bytes mx rt nm T h cells slots) {C : String} {v : Value} (hd : decode bytes pc = .ok (.aastore, 1)) (A : ownRef Z h a C n f) (ix : ¬ j < 0 ∧ j.toNatClampNeg = i ∧ i < n) (hv : v = .null ∨ ∃ y, v = .ref y ∧ Ins Z h y C true) (hfr : n0 ≤ a) (go : ∀ T' h', Wr h h' a i v → ownSt p l e R s m args below meth c Z n0 own bytes mx rt nm T' h' cells slots → ownGo p e m below n0 En Q T' (pc + 1) Ls S) : ownGo p e m below n0 En Q T pc Ls (v :: .int j :: .ref a :: S) := by
  obtain ⟨⟨hx, hZ, hby, hml, hown, hnm, hret, hlk⟩, locs, X, eT, hN⟩ := G
  obtain ⟨cl, A, r0, r1, r2⟩ := A
  have F : Sto Z h a v := by
    rcases hv with rfl | ⟨y, rfl, I⟩
    · exact Or.inl rfl
    · exact Sto.of A r0 I
  obtain ⟨T', h', X', e', W', st⟩ := stR X hx hZ eT A (own_in r1 ix) rfl F (g := mkF m pc Ls (v :: .int j :: .ref a :: S)) rfl rfl (hb hby hd)
  exact ownGo.step (fun t k => st t k) (go T' h' (ix.2.1 ▸ W') ⟨⟨hx, hZ, hby, hml, hown, hnm, hret, hlk⟩, _, X', e', Fr.snoc X' hN hfr⟩)
theorem own_anewarr (G : ownSt p l e R s m args below meth c Z n0 own bytes mx rt nm T h cells slots) {C : String} {index : Nat} {x : Int32} (hd : decode bytes pc = .ok (.anewarray index, 3)) (w1 : (Cond.classLink own index C).before a0 Z = true) (w2 : (Cond.arrayOver (.object C)).before a0 Z = true) (hn : ¬ x < 0) {k cap : Nat} (hk : x.toNatClampNeg = k) (hcap : k ≤ cap) (hb8 : cap * 8 ≤ 536870912) (hc : cells + 1 ≤ R.cells) (hl : slots + cap ≤ R.slots)
    (go : ∀ T' h' a, a = h.size → Ext h h' → ownRef Z h' a C k (fun _ => .null) → ownSt p l e R s m args below meth c Z n0 own bytes mx rt nm T' h' (cells + 1) (slots + cap) → ownGo p e m below n0 En Q T' (pc + 3) Ls (.ref a :: S)) : ownGo p e m below n0 En Q T pc Ls (.int x :: S) := by
  obtain ⟨⟨hx, hZ, hby, hml, hown, hnm, hret, hlk⟩, locs, X, eT, hN⟩ := G
  subst hk
  obtain ⟨T', h', cA, X', e', E', A', O', st⟩ := newR X hx hZ hown w1 w2 eT (g := mkF m pc Ls (.int x :: S)) rfl (hb hby hd) rfl hn hcap hb8 hc hl
  exact ownGo.step (fun t k => st t k) (go T' h' h.size rfl E' ⟨_, A', O', sz_new _ _ _, fun j hj => by simp [newA, hj, defaultValue]⟩ ⟨⟨hx, hZ, hby, hml, hown, hnm, hret, hlk⟩, locs, X', e', hN⟩)
theorem own_callS (G : ownSt p l e R s m args below meth c Z n0 own bytes mx rt nm T h cells slots) {index : Nat} {y : MethodName} {by' : ByteArray} {mx' : Nat} {rt' : Option FieldType} {rm : Room} {as' : Array Value} {Q' : Option Value → Heap → Prop} (hd : decode bytes pc = .ok (.invokestatic index, 3))
    (w1 : (Cond.methodLink own index y).before a0 Z = true) (w2 : (Cond.static y).before a0 Z = true) (w3 : (Cond.initialized y.cls).before a0 Z = true) (w4 : (Cond.code y by' mx' rt').before a0 Z = true) (hy : y.cls ≠ "java/lang/invoke/MethodHandle" ∧ y.cls ≠ "java/lang/invoke/VarHandle")
    {argsL rest : List Value} (hM : ownMet l [] y by' mx' rt' rm Z n0 as' h Q') (has : as' = argsL.toArray) (hst : S = argsL.reverse ++ rest) (hsz : Ls.size = mx) (hlen : ∀ sig, parseMethodDescriptor y.desc = some sig → argsL.length = sig.parameters.length)
    {W : Nat} (hW : (rest.map fun v => v.category).sum ≤ W) (hf : rm.frames + 1 ≤ R.frames) (hl : W + (mx' + 11) + rm.locals ≤ R.locals) (hc : cells + rm.cells ≤ R.cells) (hs : slots + rm.slots ≤ R.slots)
    (go : ∀ v T' h', Q' v h' → ownSt p l e R s m args below meth c Z n0 own bytes mx rt nm T' h' (cells + rm.cells) (slots + rm.slots) → ownGo p e m below n0 En Q T' (pc + 3) Ls (v.toList ++ rest)) : ownGo p e m below n0 En Q T pc Ls S := by
  obtain ⟨⟨hx, hZ, hby, hml, hown, hnm, hret, hlk⟩, locs, X, eT, hN⟩ := G
  subst has hst
  obtain ⟨v, _, ⟨T', L', k', n'⟩, -, X', ⟨Lc, ⟨hQ, hN'⟩, l', y', z'⟩, st⟩ := Jvm.LawKit.callS X hx (y := y) hown (mvT hZ w1) (mvT hZ w2) (mvT hZ w3) (mvT hZ w4) hy (backOf (W := W) (Q := fun v h L => Q' v h ∧ Fr n0 L) hM hZ w4 w3 hf hl) (g := mkF m pc Ls (argsL.reverse ++ rest)) rfl (hsz.trans hml.symm) (argsL := argsL) (rest := rest) hlen rfl (by show 2 * 0 + _ ≤ _; omega) (hb hby hd) (fun _ _ => ⟨rfl, eT, hc, hs⟩)
  dsimp only [Pt.U, Pt.locs, Pt.cells, Pt.slots] at X' l' y' z' st hQ
  subst l' y' z'
  exact ownGo.step (fun t k => st t k) (go v T' T'.heap hQ ⟨⟨hx, hZ, hby, hml, hown, hnm, hret, hlk⟩, _, X', rfl, Fr.app hN hN'⟩)
theorem own_callSUp (G : ownSt p l e R s m args below meth c Z n0 own bytes mx rt nm T h cells slots) {owner : String} {index : Nat} {x : MethodName} {by' : ByteArray} {mx' : Nat} {rt' : Option FieldType} {rm : Room} {as' : Array Value} {Q' : Option Value → Heap → Prop} (hd : decode bytes pc = .ok (.invokestatic index, 3))
    (w1 : (Cond.methodLink own index x).before a0 Z = true) (wm : (Cond.sameMethod x.cls owner x.name x.desc).before a0 Z = true) (w2 : (Cond.static ⟨owner, x.name, x.desc⟩).before a0 Z = true) (w3 : (Cond.initialized owner).before a0 Z = true) (w4 : (Cond.code ⟨owner, x.name, x.desc⟩ by' mx' rt').before a0 Z = true) (hy : owner ≠ "java/lang/invoke/MethodHandle" ∧ owner ≠ "java/lang/invoke/VarHandle")
    {argsL rest : List Value} (hM : ownMet l [] ⟨owner, x.name, x.desc⟩ by' mx' rt' rm Z n0 as' h Q') (has : as' = argsL.toArray) (hst : S = argsL.reverse ++ rest) (hsz : Ls.size = mx) (hlen : ∀ sig, parseMethodDescriptor x.desc = some sig → argsL.length = sig.parameters.length)
    {W : Nat} (hW : (rest.map fun v => v.category).sum ≤ W) (hf : rm.frames + 1 ≤ R.frames) (hl : W + (mx' + 11) + rm.locals ≤ R.locals) (hc : cells + rm.cells ≤ R.cells) (hs : slots + rm.slots ≤ R.slots)
    (go : ∀ v T' h', Q' v h' → ownSt p l e R s m args below meth c Z n0 own bytes mx rt nm T' h' (cells + rm.cells) (slots + rm.slots) → ownGo p e m below n0 En Q T' (pc + 3) Ls (v.toList ++ rest)) : ownGo p e m below n0 En Q T pc Ls S := by
  obtain ⟨⟨hx, hZ, hby, hml, hown, hnm, hret, hlk⟩, locs, X, eT, hN⟩ := G
  subst has hst
  have w4s : (Cond.code ⟨owner, x.name, x.desc⟩ by' mx' rt').before args s = true := mvT hZ w4
  obtain ⟨mk, hnamed⟩ := Cond.code_named w4s
  obtain ⟨methM, cM, hmethM, -, -, -, -, -, -, hsigM⟩ := Cond.code_spec hnamed w4s
  obtain ⟨v, _, ⟨T', L', k', n'⟩, -, X', ⟨Lc, ⟨hQ, hN'⟩, l', y', z'⟩, st⟩ := X.staticBackUp hx (x := x) hown (mvT hZ w1) (mvT hZ wm) (mvT hZ w2) (mvT hZ w3) hnamed hmethM hsigM hy (backOf (W := W) (Q := fun v h L => Q' v h ∧ Fr n0 L) hM hZ w4 w3 hf hl) (g := mkF m pc Ls (argsL.reverse ++ rest)) rfl (hsz.trans hml.symm) (Steps.refl _) (argsL := argsL) (rest := rest) hlen rfl (by show 2 * 0 + _ ≤ _; omega) (hb hby hd) (fun _ _ => ⟨rfl, eT, hc, hs⟩)
  dsimp only [Pt.U, Pt.locs, Pt.cells, Pt.slots] at X' l' y' z' st hQ
  subst l' y' z'
  exact ownGo.step (fun t k => st.trans k) (go v T' T'.heap hQ ⟨⟨hx, hZ, hby, hml, hown, hnm, hret, hlk⟩, _, X', rfl, Fr.app hN hN'⟩)
theorem own_special (G : ownSt p l e R s m args below meth c Z n0 own bytes mx rt nm T h cells slots) {index : Nat} {y : MethodName} {by' : ByteArray} {mx' : Nat} {rm : Room} {as' : Array Value} {Q' : Option Value → Heap → Prop} (hd : decode bytes pc = .ok (.invokespecial index, 3)) (hy1 : y.name = "<init>")
    (w1 : (Cond.methodLink own index y).before a0 Z = true) (w2 : (Cond.instanceMethod y).before a0 Z = true) (w3 : (Cond.initialized y.cls).before a0 Z = true) (w4 : (Cond.code y by' mx' none).before a0 Z = true) (hy : y.cls ≠ "java/lang/invoke/MethodHandle" ∧ y.cls ≠ "java/lang/invoke/VarHandle")
    {argsL rest : List Value} (hM : ownMet l [] y by' mx' none rm Z n0 as' h Q') (has : as' = (.ref a :: argsL).toArray) (hst : S = argsL.reverse ++ .ref a :: rest) (hsz : Ls.size = mx) (hlen : ∀ sig, parseMethodDescriptor y.desc = some sig → argsL.length = sig.parameters.length)
    {W : Nat} (hW : (rest.map fun v => v.category).sum ≤ W) (hf : rm.frames + 1 ≤ R.frames) (hl : W + (mx' + 11) + rm.locals ≤ R.locals) (hc : cells + rm.cells ≤ R.cells) (hs : slots + rm.slots ≤ R.slots)
    (go : ∀ v T' h', Q' v h' → ownSt p l e R s m args below meth c Z n0 own bytes mx rt nm T' h' (cells + rm.cells) (slots + rm.slots) → ownGo p e m below n0 En Q T' (pc + 3) Ls (v.toList ++ rest)) : ownGo p e m below n0 En Q T pc Ls S := by
  obtain ⟨⟨hx, hZ, hby, hml, hown, hnm, hret, hlk⟩, locs, X, eT, hN⟩ := G
  subst has hst
  obtain ⟨v, _, ⟨T', L', k', n'⟩, -, X', ⟨Lc, ⟨hQ, hN'⟩, l', y', z'⟩, st⟩ := X.specialBack hx (y := y) hy1 hown (mvT hZ w1) (mvT hZ w2) (mvT hZ w4) hy (backOf (W := W) (Q := fun v h L => Q' v h ∧ Fr n0 L) hM hZ w4 w3 hf hl) (g := mkF m pc Ls (argsL.reverse ++ .ref a :: rest)) rfl (hsz.trans hml.symm) (Steps.refl _) (a := a) (argsL := argsL) (rest := rest) hlen rfl (by show 2 * 0 + _ ≤ _; omega) (hb hby hd) (fun _ _ => ⟨rfl, eT, hc, hs⟩)
  dsimp only [Pt.U, Pt.locs, Pt.cells, Pt.slots] at X' l' y' z' st hQ
  subst l' y' z'
  exact ownGo.step (fun t k => st.trans k) (go v T' T'.heap hQ ⟨⟨hx, hZ, hby, hml, hown, hnm, hret, hlk⟩, _, X', rfl, Fr.app hN hN'⟩)
theorem own_virtual (G : ownSt p l e R s m args below meth c Z n0 own bytes mx rt nm T h cells slots) {C : String} {index : Nat} {y : MethodName} {by' : ByteArray} {mx' : Nat} {rt' : Option FieldType} {rm : Room} {as' : Array Value} {Q' : Option Value → Heap → Prop} (hd : decode bytes pc = .ok (.invokevirtual index, 3))
    (w1 : (Cond.methodLink own index y).before a0 Z = true) (w2 : (Cond.declares y).before a0 Z = true) (ws : (Cond.selects C y y).before a0 Z = true) (wi : (Cond.instanceMethod y).before a0 Z = true) (w3 : (Cond.initialized y.cls).before a0 Z = true) (w4 : (Cond.code y by' mx' rt').before a0 Z = true) (hy : y.cls ≠ "java/lang/invoke/MethodHandle" ∧ y.cls ≠ "java/lang/invoke/VarHandle")
    {argsL rest : List Value} (E : Exa Z h a C) (hM : ownMet l [] y by' mx' rt' rm Z n0 as' h Q') (has : as' = (.ref a :: argsL).toArray) (hst : S = argsL.reverse ++ .ref a :: rest) (hsz : Ls.size = mx) (hlen : ∀ sig, parseMethodDescriptor y.desc = some sig → argsL.length = sig.parameters.length)
    {W : Nat} (hW : (rest.map fun v => v.category).sum ≤ W) (hf : rm.frames + 1 ≤ R.frames) (hl : W + (mx' + 11) + rm.locals ≤ R.locals) (hc : cells + rm.cells ≤ R.cells) (hs : slots + rm.slots ≤ R.slots)
    (go : ∀ v T' h', Q' v h' → ownSt p l e R s m args below meth c Z n0 own bytes mx rt nm T' h' (cells + rm.cells) (slots + rm.slots) → ownGo p e m below n0 En Q T' (pc + 3) Ls (v.toList ++ rest)) : ownGo p e m below n0 En Q T pc Ls S := by
  obtain ⟨⟨hx, hZ, hby, hml, hown, hnm, hret, hlk⟩, locs, X, eT, hN⟩ := G
  subst has hst
  obtain ⟨cq, kq, qa, qb, qc⟩ := isOf hZ eT E
  obtain ⟨v, _, ⟨T', L', k', n'⟩, -, X', ⟨Lc, ⟨hQ, hN'⟩, l', y', z'⟩, st⟩ := X.virtualBack hx (y := y) (z := y) hown (mvT hZ w1) (mvT hZ w2) (notFace_of_selects (args := #[]) (mvT hZ ws)) (mvT hZ ws) (mvT hZ wi) hy (backOf (W := W) (Q := fun v h L => Q' v h ∧ Fr n0 L) hM hZ w4 w3 hf hl) qa qc (g := mkF m pc Ls (argsL.reverse ++ .ref a :: rest)) rfl (hsz.trans hml.symm) (Steps.refl _) (argsL := argsL) (rest := rest) hlen rfl (by show 2 * 0 + _ ≤ _; omega) (hb hby hd) (fun _ _ => ⟨rfl, eT, hc, hs⟩)
  dsimp only [Pt.U, Pt.locs, Pt.cells, Pt.slots] at X' l' y' z' st hQ
  subst l' y' z'
  exact ownGo.step (fun t k => st.trans k) (go v T' T'.heap hQ ⟨⟨hx, hZ, hby, hml, hown, hnm, hret, hlk⟩, _, X', rfl, Fr.app hN hN'⟩)
theorem own_interface (G : ownSt p l e R s m args below meth c Z n0 own bytes mx rt nm T h cells slots) {C : String} {index count : Nat} {xi y : MethodName} {by' : ByteArray} {mx' : Nat} {rt' : Option FieldType} {rm : Room} {as' : Array Value} {Q' : Option Value → Heap → Prop} (hd : decode bytes pc = .ok (.invokeinterface index count, 5))
    (w1 : (Cond.methodLink own index xi).before a0 Z = true) (w2 : (Cond.declares xi).before a0 Z = true) (wf : (Cond.interfaceMethod xi.cls xi.cls xi.name xi.desc).before a0 Z = true) (ws : (Cond.selects C xi y).before a0 Z = true) (wi : (Cond.instanceMethod y).before a0 Z = true) (wp : (Cond.publicMethod y).before a0 Z = true) (wu : (Cond.unhidden C xi.name xi.desc).before a0 Z = true) (wc : (Cond.castable C xi.cls).before a0 Z = true) (w3 : (Cond.initialized y.cls).before a0 Z = true) (w4 : (Cond.code y by' mx' rt').before a0 Z = true) (hy : xi.cls ≠ "java/lang/invoke/MethodHandle" ∧ xi.cls ≠ "java/lang/invoke/VarHandle")
    {argsL rest : List Value} (E : Exa Z h a C) (hM : ownMet l [] y by' mx' rt' rm Z n0 as' h Q') (has : as' = (.ref a :: argsL).toArray) (hst : S = argsL.reverse ++ .ref a :: rest) (hsz : Ls.size = mx) (hlen : ∀ sig, parseMethodDescriptor xi.desc = some sig → argsL.length = sig.parameters.length)
    {W : Nat} (hW : (rest.map fun v => v.category).sum ≤ W) (hf : rm.frames + 1 ≤ R.frames) (hl : W + (mx' + 11) + rm.locals ≤ R.locals) (hc : cells + rm.cells ≤ R.cells) (hs : slots + rm.slots ≤ R.slots)
    (go : ∀ v T' h', Q' v h' → ownSt p l e R s m args below meth c Z n0 own bytes mx rt nm T' h' (cells + rm.cells) (slots + rm.slots) → ownGo p e m below n0 En Q T' (pc + 5) Ls (v.toList ++ rest)) : ownGo p e m below n0 En Q T pc Ls S := by
  obtain ⟨⟨hx, hZ, hby, hml, hown, hnm, hret, hlk⟩, locs, X, eT, hN⟩ := G
  subst has hst
  obtain ⟨cq, kq, qa, qb, qc⟩ := isOf hZ eT E
  obtain ⟨v, _, ⟨T', L', k', n'⟩, -, X', ⟨Lc, ⟨hQ, hN'⟩, l', y', z'⟩, st⟩ := X.interfaceBack hx (xi := xi) (y := y) hown (mvT hZ w1) (mvT hZ w2) (mvT hZ wf (by simp [Cond.onTables, Cond.keepsFace, Cond.keeps, Cond.steady, Cond.faceAtom, hy])) (mvT hZ ws) (mvT hZ wi) (mvT hZ wp) (mvT hZ wu) (mvT hZ wc) hy (backOf (W := W) (Q := fun v h L => Q' v h ∧ Fr n0 L) hM hZ w4 w3 hf hl) qa qb qc (g := mkF m pc Ls (argsL.reverse ++ .ref a :: rest)) rfl (hsz.trans hml.symm) (Steps.refl _) (argsL := argsL) (rest := rest) hlen rfl (by show 2 * 0 + _ ≤ _; omega) (hb hby hd) (fun _ _ => ⟨rfl, eT, hc, hs⟩)
  dsimp only [Pt.U, Pt.locs, Pt.cells, Pt.slots] at X' l' y' z' st hQ
  subst l' y' z'
  exact ownGo.step (fun t k => st.trans k) (go v T' T'.heap hQ ⟨⟨hx, hZ, hby, hml, hown, hnm, hret, hlk⟩, _, X', rfl, Fr.app hN hN'⟩)
theorem own_private (G : ownSt p l e R s m args below meth c Z n0 own bytes mx rt nm T h cells slots) {index : Nat} {y : MethodName} {by' : ByteArray} {mx' : Nat} {rt' : Option FieldType} {rm : Room} {as' : Array Value} {Q' : Option Value → Heap → Prop} {C : String} (hd : decode bytes pc = .ok (.invokevirtual index, 3))
    (w1 : (Cond.methodLink own index y).before a0 Z = true) (wi : (Cond.instanceMethod y).before a0 Z = true) (ws : (Cond.selects y.cls y y).before a0 Z = true) (wp : (Cond.privateMethod y).before a0 Z = true) (w3 : (Cond.initialized y.cls).before a0 Z = true) (w4 : (Cond.code y by' mx' rt').before a0 Z = true) (hy : y.cls ≠ "java/lang/invoke/MethodHandle" ∧ y.cls ≠ "java/lang/invoke/VarHandle")
    {argsL rest : List Value} (E : Exa Z h a C) (hM : ownMet l [] y by' mx' rt' rm Z n0 as' h Q') (has : as' = (.ref a :: argsL).toArray) (hst : S = argsL.reverse ++ .ref a :: rest) (hsz : Ls.size = mx) (hlen : ∀ sig, parseMethodDescriptor y.desc = some sig → argsL.length = sig.parameters.length)
    {W : Nat} (hW : (rest.map fun v => v.category).sum ≤ W) (hf : rm.frames + 1 ≤ R.frames) (hl : W + (mx' + 11) + rm.locals ≤ R.locals) (hc : cells + rm.cells ≤ R.cells) (hs : slots + rm.slots ≤ R.slots)
    (go : ∀ v T' h', Q' v h' → ownSt p l e R s m args below meth c Z n0 own bytes mx rt nm T' h' (cells + rm.cells) (slots + rm.slots) → ownGo p e m below n0 En Q T' (pc + 3) Ls (v.toList ++ rest)) : ownGo p e m below n0 En Q T pc Ls S := by
  obtain ⟨⟨hx, hZ, hby, hml, hown, hnm, hret, hlk⟩, locs, X, eT, hN⟩ := G
  subst has hst
  obtain ⟨cq, q1, q2⟩ := E.cell
  obtain ⟨v, _, ⟨T', L', k', n'⟩, -, X', ⟨Lc, ⟨hQ, hN'⟩, l', y', z'⟩, st⟩ := X.privateBack hx (y := y) hown (mvT hZ w1) (mvT hZ wi) (mvT hZ ws) (Cond.privateMethod_at (mvP hZ wp (args := #[]))) (mvT hZ w4) hy (backOf (W := W) (Q := fun v h L => Q' v h ∧ Fr n0 L) hM hZ w4 w3 hf hl) (g := mkF m pc Ls (argsL.reverse ++ .ref a :: rest)) rfl (hsz.trans hml.symm) (Steps.refl _) (a := a) (by rw [eT]; exact q1) q2 (argsL := argsL) (rest := rest) hlen rfl (by show 2 * 0 + _ ≤ _; omega) (hb hby hd) (fun _ _ => ⟨rfl, eT, hc, hs⟩)
  dsimp only [Pt.U, Pt.locs, Pt.cells, Pt.slots] at X' l' y' z' st hQ
  subst l' y' z'
  exact ownGo.step (fun t k => st.trans k) (go v T' T'.heap hQ ⟨⟨hx, hZ, hby, hml, hown, hnm, hret, hlk⟩, _, X', rfl, Fr.app hN hN'⟩)
theorem own_more (G : ownSt p l e R s m args below meth c Z n0 own bytes mx rt nm T h cells slots) {k n' : Nat} (hc : cells ≤ k) (hs : slots ≤ n') : ownSt p l e R s m args below meth c Z n0 own bytes mx rt nm T h k n' := by
  obtain ⟨⟨hx, hZ, hby, hml, hown, hnm, hret, hlk⟩, locs, X, eT, hN⟩ := G
  exact ⟨⟨hx, hZ, hby, hml, hown, hnm, hret, hlk⟩, locs, X.more hc hs, eT, hN⟩
end Own
def ownUpd {α : Type} (f : Nat → α) (i : Nat) (v : α) (j : Nat) : α := if j = i then v else f j
theorem ownArr.setL {Z : State} {h h' : Heap} {a : Addr} {n i : Nat} {f : Nat → Int64} {v : Int64} (A : ownArr Z h a .long n (fun j => .long (f j))) (W : Wr h h' a i (.long v)) : ownArr Z h' a .long n (fun j => .long (ownUpd f i v j)) :=
  (A.same W).congr fun j _ => by unfold ownUpd; by_cases q : j = i <;> simp [q]
theorem ownArr.setI {Z : State} {h h' : Heap} {a : Addr} {n i : Nat} {f : Nat → Int32} {v : Int32} (A : ownArr Z h a .int n (fun j => .int (f j))) (W : Wr h h' a i (.int v)) : ownArr Z h' a .int n (fun j => .int (ownUpd f i v j)) :=
  (A.same W).congr fun j _ => by unfold ownUpd; by_cases q : j = i <;> simp [q]
theorem ownArr.setN {Z : State} {h h' : Heap} {a : Addr} {n i : Nat} {f : Nat → Nat} {v : Nat} (A : ownArr Z h a .int n (fun j => .int (Int32.ofNat (f j)))) (W : Wr h h' a i (.int (Int32.ofNat v))) : ownArr Z h' a .int n (fun j => .int (Int32.ofNat (ownUpd f i v j))) :=
  (A.same W).congr fun j _ => by unfold ownUpd; by_cases q : j = i <;> simp [q]
theorem own_neA {a b : Nat} (h : ¬ @Eq Nat a b) : @Ne Addr a b := h
theorem own_n32 {i : Nat} (hi : i < 2147483648) : (Int32.ofNat i).toInt = (i : Int) := by
  rw [Int32.toInt_ofNat_of_lt (by simpa using hi)]
theorem own_ltN {i n : Nat} (hi : i < 2147483648) (hn : n < 2147483648) : Int32.ofNat i < Int32.ofNat n ↔ i < n := by
  rw [Int32.lt_iff_toInt_lt, own_n32 hi, own_n32 hn]; omega
theorem own_injN {i n : Nat} (hi : i < 2147483648) (hn : n < 2147483648) (h : Int32.ofNat i = Int32.ofNat n) : i = n := by
  have q := congrArg Int32.toInt h; rw [own_n32 hi, own_n32 hn] at q; omega
theorem own_clampN {i : Nat} (hi : i < 2147483648) : (Int32.ofNat i).toNatClampNeg = i := by
  show (Int32.ofNat i).toInt.toNat = i; rw [own_n32 hi]; omega
theorem own_nonneg {i : Nat} (hi : i < 2147483648) : ¬ Int32.ofNat i < 0 := by
  rw [Int32.lt_iff_toInt_lt, own_n32 hi]; show ¬ (i : Int) < 0; omega
theorem own_ixN {i n : Nat} (hi : i < n) (hn : n < 2147483648) : ¬ Int32.ofNat i < 0 ∧ (Int32.ofNat i).toNatClampNeg = i ∧ i < n := ⟨own_nonneg (by omega), own_clampN (by omega), hi⟩
theorem own_succN' (i : Nat) : Int32.ofNat i + 1 = Int32.ofNat (i + 1) := (Int32.ofNat_add i 1).symm
theorem own_predN (i : Nat) : Int32.ofNat (i + 1) - 1 = Int32.ofNat i := by
  rw [← own_succN']; exact Int32.add_sub_cancel _ _
theorem own_decN (i : Nat) : Int32.ofNat i + (-1 : Int32) = Int32.ofNat i - 1 := (Int32.sub_eq_add_neg _ _).symm
theorem own_succN (i : Nat) : Int32.ofNat i + 1 = Int32.ofNat (i + 1) := (Int32.ofNat_add i 1).symm
theorem d1_0 : decode method_2_code 0 = .ok (.bipush 10, 2) := by decide +kernel
theorem d1_2 : decode method_2_code 2 = .ok (.newarray .long, 2) := by decide +kernel
theorem d1_4 : decode method_2_code 4 = .ok (.astore 4, 2) := by decide +kernel
theorem d1_6 : decode method_2_code 6 = .ok (.aload 4, 2) := by decide +kernel
theorem d1_8 : decode method_2_code 8 = .ok (.iconst 0, 1) := by decide +kernel
theorem d1_9 : decode method_2_code 9 = .ok (.lload_n 0, 1) := by decide +kernel
theorem d1_10 : decode method_2_code 10 = .ok (.lastore, 1) := by decide +kernel
theorem d1_11 : decode method_2_code 11 = .ok (.aload 4, 2) := by decide +kernel
theorem d1_13 : decode method_2_code 13 = .ok (.iconst 1, 1) := by decide +kernel
theorem d1_14 : decode method_2_code 14 = .ok (.lload_n 0, 1) := by decide +kernel
theorem d1_15 : decode method_2_code 15 = .ok (.lload_n 2, 1) := by decide +kernel
theorem d1_16 : decode method_2_code 16 = .ok (.ladd, 1) := by decide +kernel
theorem d1_17 : decode method_2_code 17 = .ok (.lastore, 1) := by decide +kernel
theorem d1_18 : decode method_2_code 18 = .ok (.aload 4, 2) := by decide +kernel
theorem d1_20 : decode method_2_code 20 = .ok (.iconst 2, 1) := by decide +kernel
theorem d1_21 : decode method_2_code 21 = .ok (.lload_n 0, 1) := by decide +kernel
theorem d1_22 : decode method_2_code 22 = .ok (.ldc2_w 7, 3) := by decide +kernel
theorem d1_25 : decode method_2_code 25 = .ok (.lload_n 2, 1) := by decide +kernel
theorem d1_26 : decode method_2_code 26 = .ok (.lmul, 1) := by decide +kernel
theorem d1_27 : decode method_2_code 27 = .ok (.ladd, 1) := by decide +kernel
theorem d1_28 : decode method_2_code 28 = .ok (.lastore, 1) := by decide +kernel
theorem d1_29 : decode method_2_code 29 = .ok (.aload 4, 2) := by decide +kernel
theorem d1_31 : decode method_2_code 31 = .ok (.iconst 3, 1) := by decide +kernel
theorem d1_32 : decode method_2_code 32 = .ok (.lload_n 0, 1) := by decide +kernel
theorem d1_33 : decode method_2_code 33 = .ok (.ldc2_w 9, 3) := by decide +kernel
theorem d1_36 : decode method_2_code 36 = .ok (.lload_n 2, 1) := by decide +kernel
theorem d1_37 : decode method_2_code 37 = .ok (.lmul, 1) := by decide +kernel
theorem d1_38 : decode method_2_code 38 = .ok (.ladd, 1) := by decide +kernel
theorem d1_39 : decode method_2_code 39 = .ok (.lastore, 1) := by decide +kernel
theorem d1_40 : decode method_2_code 40 = .ok (.aload 4, 2) := by decide +kernel
theorem d1_42 : decode method_2_code 42 = .ok (.iconst 4, 1) := by decide +kernel
theorem d1_43 : decode method_2_code 43 = .ok (.lload_n 0, 1) := by decide +kernel
theorem d1_44 : decode method_2_code 44 = .ok (.ldc2_w 11, 3) := by decide +kernel
theorem d1_47 : decode method_2_code 47 = .ok (.lload_n 2, 1) := by decide +kernel
theorem d1_48 : decode method_2_code 48 = .ok (.lmul, 1) := by decide +kernel
theorem d1_49 : decode method_2_code 49 = .ok (.ladd, 1) := by decide +kernel
theorem d1_50 : decode method_2_code 50 = .ok (.lastore, 1) := by decide +kernel
theorem d1_51 : decode method_2_code 51 = .ok (.aload 4, 2) := by decide +kernel
theorem d1_53 : decode method_2_code 53 = .ok (.iconst 5, 1) := by decide +kernel
theorem d1_54 : decode method_2_code 54 = .ok (.lload_n 0, 1) := by decide +kernel
theorem d1_55 : decode method_2_code 55 = .ok (.ldc2_w 13, 3) := by decide +kernel
theorem d1_58 : decode method_2_code 58 = .ok (.lload_n 2, 1) := by decide +kernel
theorem d1_59 : decode method_2_code 59 = .ok (.lmul, 1) := by decide +kernel
theorem d1_60 : decode method_2_code 60 = .ok (.ladd, 1) := by decide +kernel
theorem d1_61 : decode method_2_code 61 = .ok (.lastore, 1) := by decide +kernel
theorem d1_62 : decode method_2_code 62 = .ok (.aload 4, 2) := by decide +kernel
theorem d1_64 : decode method_2_code 64 = .ok (.bipush 6, 2) := by decide +kernel
theorem d1_66 : decode method_2_code 66 = .ok (.lload_n 0, 1) := by decide +kernel
theorem d1_67 : decode method_2_code 67 = .ok (.ldc2_w 15, 3) := by decide +kernel
theorem d1_70 : decode method_2_code 70 = .ok (.lload_n 2, 1) := by decide +kernel
theorem d1_71 : decode method_2_code 71 = .ok (.lmul, 1) := by decide +kernel
theorem d1_72 : decode method_2_code 72 = .ok (.ladd, 1) := by decide +kernel
theorem d1_73 : decode method_2_code 73 = .ok (.lastore, 1) := by decide +kernel
theorem d1_74 : decode method_2_code 74 = .ok (.aload 4, 2) := by decide +kernel
theorem d1_76 : decode method_2_code 76 = .ok (.bipush 7, 2) := by decide +kernel
theorem d1_78 : decode method_2_code 78 = .ok (.lload_n 0, 1) := by decide +kernel
theorem d1_79 : decode method_2_code 79 = .ok (.ldc2_w 17, 3) := by decide +kernel
theorem d1_82 : decode method_2_code 82 = .ok (.lload_n 2, 1) := by decide +kernel
theorem d1_83 : decode method_2_code 83 = .ok (.lmul, 1) := by decide +kernel
theorem d1_84 : decode method_2_code 84 = .ok (.ladd, 1) := by decide +kernel
theorem d1_85 : decode method_2_code 85 = .ok (.lastore, 1) := by decide +kernel
theorem d1_86 : decode method_2_code 86 = .ok (.aload 4, 2) := by decide +kernel
theorem d1_88 : decode method_2_code 88 = .ok (.bipush 8, 2) := by decide +kernel
theorem d1_90 : decode method_2_code 90 = .ok (.lload_n 0, 1) := by decide +kernel
theorem d1_91 : decode method_2_code 91 = .ok (.ldc2_w 19, 3) := by decide +kernel
theorem d1_94 : decode method_2_code 94 = .ok (.lload_n 2, 1) := by decide +kernel
theorem d1_95 : decode method_2_code 95 = .ok (.lmul, 1) := by decide +kernel
theorem d1_96 : decode method_2_code 96 = .ok (.ladd, 1) := by decide +kernel
theorem d1_97 : decode method_2_code 97 = .ok (.lastore, 1) := by decide +kernel
theorem d1_98 : decode method_2_code 98 = .ok (.aload 4, 2) := by decide +kernel
theorem d1_100 : decode method_2_code 100 = .ok (.bipush 9, 2) := by decide +kernel
theorem d1_102 : decode method_2_code 102 = .ok (.lload_n 0, 1) := by decide +kernel
theorem d1_103 : decode method_2_code 103 = .ok (.ldc2_w 21, 3) := by decide +kernel
theorem d1_106 : decode method_2_code 106 = .ok (.lload_n 2, 1) := by decide +kernel
theorem d1_107 : decode method_2_code 107 = .ok (.lmul, 1) := by decide +kernel
theorem d1_108 : decode method_2_code 108 = .ok (.ladd, 1) := by decide +kernel
theorem d1_109 : decode method_2_code 109 = .ok (.lastore, 1) := by decide +kernel
theorem d1_110 : decode method_2_code 110 = .ok (.aload 4, 2) := by decide +kernel
theorem d1_112 : decode method_2_code 112 = .ok (.areturn, 1) := by decide +kernel
theorem d2_0 : decode prog_110_method_5_code 0 = .ok (.aload_n 0, 1) := by decide +kernel
theorem d2_1 : decode prog_110_method_5_code 1 = .ok (.iconst 0, 1) := by decide +kernel
theorem d2_2 : decode prog_110_method_5_code 2 = .ok (.aload_n 1, 1) := by decide +kernel
theorem d2_3 : decode prog_110_method_5_code 3 = .ok (.iconst 0, 1) := by decide +kernel
theorem d2_4 : decode prog_110_method_5_code 4 = .ok (.laload, 1) := by decide +kernel
theorem d2_5 : decode prog_110_method_5_code 5 = .ok (.aload_n 2, 1) := by decide +kernel
theorem d2_6 : decode prog_110_method_5_code 6 = .ok (.iconst 0, 1) := by decide +kernel
theorem d2_7 : decode prog_110_method_5_code 7 = .ok (.laload, 1) := by decide +kernel
theorem d2_8 : decode prog_110_method_5_code 8 = .ok (.ladd, 1) := by decide +kernel
theorem d2_9 : decode prog_110_method_5_code 9 = .ok (.lastore, 1) := by decide +kernel
theorem d2_10 : decode prog_110_method_5_code 10 = .ok (.aload_n 0, 1) := by decide +kernel
theorem d2_11 : decode prog_110_method_5_code 11 = .ok (.iconst 1, 1) := by decide +kernel
theorem d2_12 : decode prog_110_method_5_code 12 = .ok (.aload_n 1, 1) := by decide +kernel
theorem d2_13 : decode prog_110_method_5_code 13 = .ok (.iconst 1, 1) := by decide +kernel
theorem d2_14 : decode prog_110_method_5_code 14 = .ok (.laload, 1) := by decide +kernel
theorem d2_15 : decode prog_110_method_5_code 15 = .ok (.aload_n 2, 1) := by decide +kernel
theorem d2_16 : decode prog_110_method_5_code 16 = .ok (.iconst 1, 1) := by decide +kernel
theorem d2_17 : decode prog_110_method_5_code 17 = .ok (.laload, 1) := by decide +kernel
theorem d2_18 : decode prog_110_method_5_code 18 = .ok (.ladd, 1) := by decide +kernel
theorem d2_19 : decode prog_110_method_5_code 19 = .ok (.lastore, 1) := by decide +kernel
theorem d2_20 : decode prog_110_method_5_code 20 = .ok (.aload_n 0, 1) := by decide +kernel
theorem d2_21 : decode prog_110_method_5_code 21 = .ok (.iconst 2, 1) := by decide +kernel
theorem d2_22 : decode prog_110_method_5_code 22 = .ok (.aload_n 1, 1) := by decide +kernel
theorem d2_23 : decode prog_110_method_5_code 23 = .ok (.iconst 2, 1) := by decide +kernel
theorem d2_24 : decode prog_110_method_5_code 24 = .ok (.laload, 1) := by decide +kernel
theorem d2_25 : decode prog_110_method_5_code 25 = .ok (.aload_n 2, 1) := by decide +kernel
theorem d2_26 : decode prog_110_method_5_code 26 = .ok (.iconst 2, 1) := by decide +kernel
theorem d2_27 : decode prog_110_method_5_code 27 = .ok (.laload, 1) := by decide +kernel
theorem d2_28 : decode prog_110_method_5_code 28 = .ok (.ladd, 1) := by decide +kernel
theorem d2_29 : decode prog_110_method_5_code 29 = .ok (.lastore, 1) := by decide +kernel
theorem d2_30 : decode prog_110_method_5_code 30 = .ok (.aload_n 0, 1) := by decide +kernel
theorem d2_31 : decode prog_110_method_5_code 31 = .ok (.iconst 3, 1) := by decide +kernel
theorem d2_32 : decode prog_110_method_5_code 32 = .ok (.aload_n 1, 1) := by decide +kernel
theorem d2_33 : decode prog_110_method_5_code 33 = .ok (.iconst 3, 1) := by decide +kernel
theorem d2_34 : decode prog_110_method_5_code 34 = .ok (.laload, 1) := by decide +kernel
theorem d2_35 : decode prog_110_method_5_code 35 = .ok (.aload_n 2, 1) := by decide +kernel
theorem d2_36 : decode prog_110_method_5_code 36 = .ok (.iconst 3, 1) := by decide +kernel
theorem d2_37 : decode prog_110_method_5_code 37 = .ok (.laload, 1) := by decide +kernel
theorem d2_38 : decode prog_110_method_5_code 38 = .ok (.ladd, 1) := by decide +kernel
theorem d2_39 : decode prog_110_method_5_code 39 = .ok (.lastore, 1) := by decide +kernel
theorem d2_40 : decode prog_110_method_5_code 40 = .ok (.aload_n 0, 1) := by decide +kernel
theorem d2_41 : decode prog_110_method_5_code 41 = .ok (.iconst 4, 1) := by decide +kernel
theorem d2_42 : decode prog_110_method_5_code 42 = .ok (.aload_n 1, 1) := by decide +kernel
theorem d2_43 : decode prog_110_method_5_code 43 = .ok (.iconst 4, 1) := by decide +kernel
theorem d2_44 : decode prog_110_method_5_code 44 = .ok (.laload, 1) := by decide +kernel
theorem d2_45 : decode prog_110_method_5_code 45 = .ok (.aload_n 2, 1) := by decide +kernel
theorem d2_46 : decode prog_110_method_5_code 46 = .ok (.iconst 4, 1) := by decide +kernel
theorem d2_47 : decode prog_110_method_5_code 47 = .ok (.laload, 1) := by decide +kernel
theorem d2_48 : decode prog_110_method_5_code 48 = .ok (.ladd, 1) := by decide +kernel
theorem d2_49 : decode prog_110_method_5_code 49 = .ok (.lastore, 1) := by decide +kernel
theorem d2_50 : decode prog_110_method_5_code 50 = .ok (.aload_n 0, 1) := by decide +kernel
theorem d2_51 : decode prog_110_method_5_code 51 = .ok (.iconst 5, 1) := by decide +kernel
theorem d2_52 : decode prog_110_method_5_code 52 = .ok (.aload_n 1, 1) := by decide +kernel
theorem d2_53 : decode prog_110_method_5_code 53 = .ok (.iconst 5, 1) := by decide +kernel
theorem d2_54 : decode prog_110_method_5_code 54 = .ok (.laload, 1) := by decide +kernel
theorem d2_55 : decode prog_110_method_5_code 55 = .ok (.aload_n 2, 1) := by decide +kernel
theorem d2_56 : decode prog_110_method_5_code 56 = .ok (.iconst 5, 1) := by decide +kernel
theorem d2_57 : decode prog_110_method_5_code 57 = .ok (.laload, 1) := by decide +kernel
theorem d2_58 : decode prog_110_method_5_code 58 = .ok (.ladd, 1) := by decide +kernel
theorem d2_59 : decode prog_110_method_5_code 59 = .ok (.lastore, 1) := by decide +kernel
theorem d2_60 : decode prog_110_method_5_code 60 = .ok (.aload_n 0, 1) := by decide +kernel
theorem d2_61 : decode prog_110_method_5_code 61 = .ok (.bipush 6, 2) := by decide +kernel
theorem d2_63 : decode prog_110_method_5_code 63 = .ok (.aload_n 1, 1) := by decide +kernel
theorem d2_64 : decode prog_110_method_5_code 64 = .ok (.bipush 6, 2) := by decide +kernel
theorem d2_66 : decode prog_110_method_5_code 66 = .ok (.laload, 1) := by decide +kernel
theorem d2_67 : decode prog_110_method_5_code 67 = .ok (.aload_n 2, 1) := by decide +kernel
theorem d2_68 : decode prog_110_method_5_code 68 = .ok (.bipush 6, 2) := by decide +kernel
theorem d2_70 : decode prog_110_method_5_code 70 = .ok (.laload, 1) := by decide +kernel
theorem d2_71 : decode prog_110_method_5_code 71 = .ok (.ladd, 1) := by decide +kernel
theorem d2_72 : decode prog_110_method_5_code 72 = .ok (.lastore, 1) := by decide +kernel
theorem d2_73 : decode prog_110_method_5_code 73 = .ok (.aload_n 0, 1) := by decide +kernel
theorem d2_74 : decode prog_110_method_5_code 74 = .ok (.bipush 7, 2) := by decide +kernel
theorem d2_76 : decode prog_110_method_5_code 76 = .ok (.aload_n 1, 1) := by decide +kernel
theorem d2_77 : decode prog_110_method_5_code 77 = .ok (.bipush 7, 2) := by decide +kernel
theorem d2_79 : decode prog_110_method_5_code 79 = .ok (.laload, 1) := by decide +kernel
theorem d2_80 : decode prog_110_method_5_code 80 = .ok (.aload_n 2, 1) := by decide +kernel
theorem d2_81 : decode prog_110_method_5_code 81 = .ok (.bipush 7, 2) := by decide +kernel
theorem d2_83 : decode prog_110_method_5_code 83 = .ok (.laload, 1) := by decide +kernel
theorem d2_84 : decode prog_110_method_5_code 84 = .ok (.ladd, 1) := by decide +kernel
theorem d2_85 : decode prog_110_method_5_code 85 = .ok (.lastore, 1) := by decide +kernel
theorem d2_86 : decode prog_110_method_5_code 86 = .ok (.aload_n 0, 1) := by decide +kernel
theorem d2_87 : decode prog_110_method_5_code 87 = .ok (.bipush 8, 2) := by decide +kernel
theorem d2_89 : decode prog_110_method_5_code 89 = .ok (.aload_n 1, 1) := by decide +kernel
theorem d2_90 : decode prog_110_method_5_code 90 = .ok (.bipush 8, 2) := by decide +kernel
theorem d2_92 : decode prog_110_method_5_code 92 = .ok (.laload, 1) := by decide +kernel
theorem d2_93 : decode prog_110_method_5_code 93 = .ok (.aload_n 2, 1) := by decide +kernel
theorem d2_94 : decode prog_110_method_5_code 94 = .ok (.bipush 8, 2) := by decide +kernel
theorem d2_96 : decode prog_110_method_5_code 96 = .ok (.laload, 1) := by decide +kernel
theorem d2_97 : decode prog_110_method_5_code 97 = .ok (.ladd, 1) := by decide +kernel
theorem d2_98 : decode prog_110_method_5_code 98 = .ok (.lastore, 1) := by decide +kernel
theorem d2_99 : decode prog_110_method_5_code 99 = .ok (.aload_n 0, 1) := by decide +kernel
theorem d2_100 : decode prog_110_method_5_code 100 = .ok (.bipush 9, 2) := by decide +kernel
theorem d2_102 : decode prog_110_method_5_code 102 = .ok (.aload_n 1, 1) := by decide +kernel
theorem d2_103 : decode prog_110_method_5_code 103 = .ok (.bipush 9, 2) := by decide +kernel
theorem d2_105 : decode prog_110_method_5_code 105 = .ok (.laload, 1) := by decide +kernel
theorem d2_106 : decode prog_110_method_5_code 106 = .ok (.aload_n 2, 1) := by decide +kernel
theorem d2_107 : decode prog_110_method_5_code 107 = .ok (.bipush 9, 2) := by decide +kernel
theorem d2_109 : decode prog_110_method_5_code 109 = .ok (.laload, 1) := by decide +kernel
theorem d2_110 : decode prog_110_method_5_code 110 = .ok (.ladd, 1) := by decide +kernel
theorem d2_111 : decode prog_110_method_5_code 111 = .ok (.lastore, 1) := by decide +kernel
theorem d2_112 : decode prog_110_method_5_code 112 = .ok (.return_, 1) := by decide +kernel
theorem d3_0 : decode method_4_code 0 = .ok (.aload_n 0, 1) := by decide +kernel
theorem d3_1 : decode method_4_code 1 = .ok (.iconst 0, 1) := by decide +kernel
theorem d3_2 : decode method_4_code 2 = .ok (.laload, 1) := by decide +kernel
theorem d3_3 : decode method_4_code 3 = .ok (.lload 5, 2) := by decide +kernel
theorem d3_5 : decode method_4_code 5 = .ok (.lsub, 1) := by decide +kernel
theorem d3_6 : decode method_4_code 6 = .ok (.lload_n 1, 1) := by decide +kernel
theorem d3_7 : decode method_4_code 7 = .ok (.lcmp, 1) := by decide +kernel
theorem d3_8 : decode method_4_code 8 = .ok (.ifCond .ne 219, 3) := by decide +kernel
theorem d3_11 : decode method_4_code 11 = .ok (.aload_n 0, 1) := by decide +kernel
theorem d3_12 : decode method_4_code 12 = .ok (.iconst 1, 1) := by decide +kernel
theorem d3_13 : decode method_4_code 13 = .ok (.laload, 1) := by decide +kernel
theorem d3_14 : decode method_4_code 14 = .ok (.lload 5, 2) := by decide +kernel
theorem d3_16 : decode method_4_code 16 = .ok (.lload 7, 2) := by decide +kernel
theorem d3_18 : decode method_4_code 18 = .ok (.ladd, 1) := by decide +kernel
theorem d3_19 : decode method_4_code 19 = .ok (.lsub, 1) := by decide +kernel
theorem d3_20 : decode method_4_code 20 = .ok (.lload_n 1, 1) := by decide +kernel
theorem d3_21 : decode method_4_code 21 = .ok (.lload_n 3, 1) := by decide +kernel
theorem d3_22 : decode method_4_code 22 = .ok (.ladd, 1) := by decide +kernel
theorem d3_23 : decode method_4_code 23 = .ok (.lcmp, 1) := by decide +kernel
theorem d3_24 : decode method_4_code 24 = .ok (.ifCond .ne 203, 3) := by decide +kernel
theorem d3_27 : decode method_4_code 27 = .ok (.aload_n 0, 1) := by decide +kernel
theorem d3_28 : decode method_4_code 28 = .ok (.iconst 2, 1) := by decide +kernel
theorem d3_29 : decode method_4_code 29 = .ok (.laload, 1) := by decide +kernel
theorem d3_30 : decode method_4_code 30 = .ok (.lload 5, 2) := by decide +kernel
theorem d3_32 : decode method_4_code 32 = .ok (.ldc2_w 7, 3) := by decide +kernel
theorem d3_35 : decode method_4_code 35 = .ok (.lload 7, 2) := by decide +kernel
theorem d3_37 : decode method_4_code 37 = .ok (.lmul, 1) := by decide +kernel
theorem d3_38 : decode method_4_code 38 = .ok (.ladd, 1) := by decide +kernel
theorem d3_39 : decode method_4_code 39 = .ok (.lsub, 1) := by decide +kernel
theorem d3_40 : decode method_4_code 40 = .ok (.lload_n 1, 1) := by decide +kernel
theorem d3_41 : decode method_4_code 41 = .ok (.ldc2_w 7, 3) := by decide +kernel
theorem d3_44 : decode method_4_code 44 = .ok (.lload_n 3, 1) := by decide +kernel
theorem d3_45 : decode method_4_code 45 = .ok (.lmul, 1) := by decide +kernel
theorem d3_46 : decode method_4_code 46 = .ok (.ladd, 1) := by decide +kernel
theorem d3_47 : decode method_4_code 47 = .ok (.lcmp, 1) := by decide +kernel
theorem d3_48 : decode method_4_code 48 = .ok (.ifCond .ne 179, 3) := by decide +kernel
theorem d3_51 : decode method_4_code 51 = .ok (.aload_n 0, 1) := by decide +kernel
theorem d3_52 : decode method_4_code 52 = .ok (.iconst 3, 1) := by decide +kernel
theorem d3_53 : decode method_4_code 53 = .ok (.laload, 1) := by decide +kernel
theorem d3_54 : decode method_4_code 54 = .ok (.lload 5, 2) := by decide +kernel
theorem d3_56 : decode method_4_code 56 = .ok (.ldc2_w 9, 3) := by decide +kernel
theorem d3_59 : decode method_4_code 59 = .ok (.lload 7, 2) := by decide +kernel
theorem d3_61 : decode method_4_code 61 = .ok (.lmul, 1) := by decide +kernel
theorem d3_62 : decode method_4_code 62 = .ok (.ladd, 1) := by decide +kernel
theorem d3_63 : decode method_4_code 63 = .ok (.lsub, 1) := by decide +kernel
theorem d3_64 : decode method_4_code 64 = .ok (.lload_n 1, 1) := by decide +kernel
theorem d3_65 : decode method_4_code 65 = .ok (.ldc2_w 9, 3) := by decide +kernel
theorem d3_68 : decode method_4_code 68 = .ok (.lload_n 3, 1) := by decide +kernel
theorem d3_69 : decode method_4_code 69 = .ok (.lmul, 1) := by decide +kernel
theorem d3_70 : decode method_4_code 70 = .ok (.ladd, 1) := by decide +kernel
theorem d3_71 : decode method_4_code 71 = .ok (.lcmp, 1) := by decide +kernel
theorem d3_72 : decode method_4_code 72 = .ok (.ifCond .ne 155, 3) := by decide +kernel
theorem d3_75 : decode method_4_code 75 = .ok (.aload_n 0, 1) := by decide +kernel
theorem d3_76 : decode method_4_code 76 = .ok (.iconst 4, 1) := by decide +kernel
theorem d3_77 : decode method_4_code 77 = .ok (.laload, 1) := by decide +kernel
theorem d3_78 : decode method_4_code 78 = .ok (.lload 5, 2) := by decide +kernel
theorem d3_80 : decode method_4_code 80 = .ok (.ldc2_w 11, 3) := by decide +kernel
theorem d3_83 : decode method_4_code 83 = .ok (.lload 7, 2) := by decide +kernel
theorem d3_85 : decode method_4_code 85 = .ok (.lmul, 1) := by decide +kernel
theorem d3_86 : decode method_4_code 86 = .ok (.ladd, 1) := by decide +kernel
theorem d3_87 : decode method_4_code 87 = .ok (.lsub, 1) := by decide +kernel
theorem d3_88 : decode method_4_code 88 = .ok (.lload_n 1, 1) := by decide +kernel
theorem d3_89 : decode method_4_code 89 = .ok (.ldc2_w 11, 3) := by decide +kernel
theorem d3_92 : decode method_4_code 92 = .ok (.lload_n 3, 1) := by decide +kernel
theorem d3_93 : decode method_4_code 93 = .ok (.lmul, 1) := by decide +kernel
theorem d3_94 : decode method_4_code 94 = .ok (.ladd, 1) := by decide +kernel
theorem d3_95 : decode method_4_code 95 = .ok (.lcmp, 1) := by decide +kernel
theorem d3_96 : decode method_4_code 96 = .ok (.ifCond .ne 131, 3) := by decide +kernel
theorem d3_99 : decode method_4_code 99 = .ok (.aload_n 0, 1) := by decide +kernel
theorem d3_100 : decode method_4_code 100 = .ok (.iconst 5, 1) := by decide +kernel
theorem d3_101 : decode method_4_code 101 = .ok (.laload, 1) := by decide +kernel
theorem d3_102 : decode method_4_code 102 = .ok (.lload 5, 2) := by decide +kernel
theorem d3_104 : decode method_4_code 104 = .ok (.ldc2_w 13, 3) := by decide +kernel
theorem d3_107 : decode method_4_code 107 = .ok (.lload 7, 2) := by decide +kernel
theorem d3_109 : decode method_4_code 109 = .ok (.lmul, 1) := by decide +kernel
theorem d3_110 : decode method_4_code 110 = .ok (.ladd, 1) := by decide +kernel
theorem d3_111 : decode method_4_code 111 = .ok (.lsub, 1) := by decide +kernel
theorem d3_112 : decode method_4_code 112 = .ok (.lload_n 1, 1) := by decide +kernel
theorem d3_113 : decode method_4_code 113 = .ok (.ldc2_w 13, 3) := by decide +kernel
theorem d3_116 : decode method_4_code 116 = .ok (.lload_n 3, 1) := by decide +kernel
theorem d3_117 : decode method_4_code 117 = .ok (.lmul, 1) := by decide +kernel
theorem d3_118 : decode method_4_code 118 = .ok (.ladd, 1) := by decide +kernel
theorem d3_119 : decode method_4_code 119 = .ok (.lcmp, 1) := by decide +kernel
theorem d3_120 : decode method_4_code 120 = .ok (.ifCond .ne 107, 3) := by decide +kernel
theorem d3_123 : decode method_4_code 123 = .ok (.aload_n 0, 1) := by decide +kernel
theorem d3_124 : decode method_4_code 124 = .ok (.bipush 6, 2) := by decide +kernel
theorem d3_126 : decode method_4_code 126 = .ok (.laload, 1) := by decide +kernel
theorem d3_127 : decode method_4_code 127 = .ok (.lload 5, 2) := by decide +kernel
theorem d3_129 : decode method_4_code 129 = .ok (.ldc2_w 15, 3) := by decide +kernel
theorem d3_132 : decode method_4_code 132 = .ok (.lload 7, 2) := by decide +kernel
theorem d3_134 : decode method_4_code 134 = .ok (.lmul, 1) := by decide +kernel
theorem d3_135 : decode method_4_code 135 = .ok (.ladd, 1) := by decide +kernel
theorem d3_136 : decode method_4_code 136 = .ok (.lsub, 1) := by decide +kernel
theorem d3_137 : decode method_4_code 137 = .ok (.lload_n 1, 1) := by decide +kernel
theorem d3_138 : decode method_4_code 138 = .ok (.ldc2_w 15, 3) := by decide +kernel
theorem d3_141 : decode method_4_code 141 = .ok (.lload_n 3, 1) := by decide +kernel
theorem d3_142 : decode method_4_code 142 = .ok (.lmul, 1) := by decide +kernel
theorem d3_143 : decode method_4_code 143 = .ok (.ladd, 1) := by decide +kernel
theorem d3_144 : decode method_4_code 144 = .ok (.lcmp, 1) := by decide +kernel
theorem d3_145 : decode method_4_code 145 = .ok (.ifCond .ne 82, 3) := by decide +kernel
theorem d3_148 : decode method_4_code 148 = .ok (.aload_n 0, 1) := by decide +kernel
theorem d3_149 : decode method_4_code 149 = .ok (.bipush 7, 2) := by decide +kernel
theorem d3_151 : decode method_4_code 151 = .ok (.laload, 1) := by decide +kernel
theorem d3_152 : decode method_4_code 152 = .ok (.lload 5, 2) := by decide +kernel
theorem d3_154 : decode method_4_code 154 = .ok (.ldc2_w 17, 3) := by decide +kernel
theorem d3_157 : decode method_4_code 157 = .ok (.lload 7, 2) := by decide +kernel
theorem d3_159 : decode method_4_code 159 = .ok (.lmul, 1) := by decide +kernel
theorem d3_160 : decode method_4_code 160 = .ok (.ladd, 1) := by decide +kernel
theorem d3_161 : decode method_4_code 161 = .ok (.lsub, 1) := by decide +kernel
theorem d3_162 : decode method_4_code 162 = .ok (.lload_n 1, 1) := by decide +kernel
theorem d3_163 : decode method_4_code 163 = .ok (.ldc2_w 17, 3) := by decide +kernel
theorem d3_166 : decode method_4_code 166 = .ok (.lload_n 3, 1) := by decide +kernel
theorem d3_167 : decode method_4_code 167 = .ok (.lmul, 1) := by decide +kernel
theorem d3_168 : decode method_4_code 168 = .ok (.ladd, 1) := by decide +kernel
theorem d3_169 : decode method_4_code 169 = .ok (.lcmp, 1) := by decide +kernel
theorem d3_170 : decode method_4_code 170 = .ok (.ifCond .ne 57, 3) := by decide +kernel
theorem d3_173 : decode method_4_code 173 = .ok (.aload_n 0, 1) := by decide +kernel
theorem d3_174 : decode method_4_code 174 = .ok (.bipush 8, 2) := by decide +kernel
theorem d3_176 : decode method_4_code 176 = .ok (.laload, 1) := by decide +kernel
theorem d3_177 : decode method_4_code 177 = .ok (.lload 5, 2) := by decide +kernel
theorem d3_179 : decode method_4_code 179 = .ok (.ldc2_w 19, 3) := by decide +kernel
theorem d3_182 : decode method_4_code 182 = .ok (.lload 7, 2) := by decide +kernel
theorem d3_184 : decode method_4_code 184 = .ok (.lmul, 1) := by decide +kernel
theorem d3_185 : decode method_4_code 185 = .ok (.ladd, 1) := by decide +kernel
theorem d3_186 : decode method_4_code 186 = .ok (.lsub, 1) := by decide +kernel
theorem d3_187 : decode method_4_code 187 = .ok (.lload_n 1, 1) := by decide +kernel
theorem d3_188 : decode method_4_code 188 = .ok (.ldc2_w 19, 3) := by decide +kernel
theorem d3_191 : decode method_4_code 191 = .ok (.lload_n 3, 1) := by decide +kernel
theorem d3_192 : decode method_4_code 192 = .ok (.lmul, 1) := by decide +kernel
theorem d3_193 : decode method_4_code 193 = .ok (.ladd, 1) := by decide +kernel
theorem d3_194 : decode method_4_code 194 = .ok (.lcmp, 1) := by decide +kernel
theorem d3_195 : decode method_4_code 195 = .ok (.ifCond .ne 32, 3) := by decide +kernel
theorem d3_198 : decode method_4_code 198 = .ok (.aload_n 0, 1) := by decide +kernel
theorem d3_199 : decode method_4_code 199 = .ok (.bipush 9, 2) := by decide +kernel
theorem d3_201 : decode method_4_code 201 = .ok (.laload, 1) := by decide +kernel
theorem d3_202 : decode method_4_code 202 = .ok (.lload 5, 2) := by decide +kernel
theorem d3_204 : decode method_4_code 204 = .ok (.ldc2_w 21, 3) := by decide +kernel
theorem d3_207 : decode method_4_code 207 = .ok (.lload 7, 2) := by decide +kernel
theorem d3_209 : decode method_4_code 209 = .ok (.lmul, 1) := by decide +kernel
theorem d3_210 : decode method_4_code 210 = .ok (.ladd, 1) := by decide +kernel
theorem d3_211 : decode method_4_code 211 = .ok (.lsub, 1) := by decide +kernel
theorem d3_212 : decode method_4_code 212 = .ok (.lload_n 1, 1) := by decide +kernel
theorem d3_213 : decode method_4_code 213 = .ok (.ldc2_w 21, 3) := by decide +kernel
theorem d3_216 : decode method_4_code 216 = .ok (.lload_n 3, 1) := by decide +kernel
theorem d3_217 : decode method_4_code 217 = .ok (.lmul, 1) := by decide +kernel
theorem d3_218 : decode method_4_code 218 = .ok (.ladd, 1) := by decide +kernel
theorem d3_219 : decode method_4_code 219 = .ok (.lcmp, 1) := by decide +kernel
theorem d3_220 : decode method_4_code 220 = .ok (.ifCond .ne 7, 3) := by decide +kernel
theorem d3_223 : decode method_4_code 223 = .ok (.iconst 1, 1) := by decide +kernel
theorem d3_224 : decode method_4_code 224 = .ok (.goto 4, 3) := by decide +kernel
theorem d3_228 : decode method_4_code 228 = .ok (.ireturn, 1) := by decide +kernel
theorem d4_0 : decode method_3_code 0 = .ok (.aload_n 0, 1) := by decide +kernel
theorem d4_1 : decode method_3_code 1 = .ok (.iconst 0, 1) := by decide +kernel
theorem d4_2 : decode method_3_code 2 = .ok (.laload, 1) := by decide +kernel
theorem d4_3 : decode method_3_code 3 = .ok (.lload_n 1, 1) := by decide +kernel
theorem d4_4 : decode method_3_code 4 = .ok (.lcmp, 1) := by decide +kernel
theorem d4_5 : decode method_3_code 5 = .ok (.ifCond .ne 133, 3) := by decide +kernel
theorem d4_8 : decode method_3_code 8 = .ok (.aload_n 0, 1) := by decide +kernel
theorem d4_9 : decode method_3_code 9 = .ok (.iconst 1, 1) := by decide +kernel
theorem d4_10 : decode method_3_code 10 = .ok (.laload, 1) := by decide +kernel
theorem d4_11 : decode method_3_code 11 = .ok (.lload_n 1, 1) := by decide +kernel
theorem d4_12 : decode method_3_code 12 = .ok (.lload_n 3, 1) := by decide +kernel
theorem d4_13 : decode method_3_code 13 = .ok (.ladd, 1) := by decide +kernel
theorem d4_14 : decode method_3_code 14 = .ok (.lcmp, 1) := by decide +kernel
theorem d4_15 : decode method_3_code 15 = .ok (.ifCond .ne 123, 3) := by decide +kernel
theorem d4_18 : decode method_3_code 18 = .ok (.aload_n 0, 1) := by decide +kernel
theorem d4_19 : decode method_3_code 19 = .ok (.iconst 2, 1) := by decide +kernel
theorem d4_20 : decode method_3_code 20 = .ok (.laload, 1) := by decide +kernel
theorem d4_21 : decode method_3_code 21 = .ok (.lload_n 1, 1) := by decide +kernel
theorem d4_22 : decode method_3_code 22 = .ok (.ldc2_w 7, 3) := by decide +kernel
theorem d4_25 : decode method_3_code 25 = .ok (.lload_n 3, 1) := by decide +kernel
theorem d4_26 : decode method_3_code 26 = .ok (.lmul, 1) := by decide +kernel
theorem d4_27 : decode method_3_code 27 = .ok (.ladd, 1) := by decide +kernel
theorem d4_28 : decode method_3_code 28 = .ok (.lcmp, 1) := by decide +kernel
theorem d4_29 : decode method_3_code 29 = .ok (.ifCond .ne 109, 3) := by decide +kernel
theorem d4_32 : decode method_3_code 32 = .ok (.aload_n 0, 1) := by decide +kernel
theorem d4_33 : decode method_3_code 33 = .ok (.iconst 3, 1) := by decide +kernel
theorem d4_34 : decode method_3_code 34 = .ok (.laload, 1) := by decide +kernel
theorem d4_35 : decode method_3_code 35 = .ok (.lload_n 1, 1) := by decide +kernel
theorem d4_36 : decode method_3_code 36 = .ok (.ldc2_w 9, 3) := by decide +kernel
theorem d4_39 : decode method_3_code 39 = .ok (.lload_n 3, 1) := by decide +kernel
theorem d4_40 : decode method_3_code 40 = .ok (.lmul, 1) := by decide +kernel
theorem d4_41 : decode method_3_code 41 = .ok (.ladd, 1) := by decide +kernel
theorem d4_42 : decode method_3_code 42 = .ok (.lcmp, 1) := by decide +kernel
theorem d4_43 : decode method_3_code 43 = .ok (.ifCond .ne 95, 3) := by decide +kernel
theorem d4_46 : decode method_3_code 46 = .ok (.aload_n 0, 1) := by decide +kernel
theorem d4_47 : decode method_3_code 47 = .ok (.iconst 4, 1) := by decide +kernel
theorem d4_48 : decode method_3_code 48 = .ok (.laload, 1) := by decide +kernel
theorem d4_49 : decode method_3_code 49 = .ok (.lload_n 1, 1) := by decide +kernel
theorem d4_50 : decode method_3_code 50 = .ok (.ldc2_w 11, 3) := by decide +kernel
theorem d4_53 : decode method_3_code 53 = .ok (.lload_n 3, 1) := by decide +kernel
theorem d4_54 : decode method_3_code 54 = .ok (.lmul, 1) := by decide +kernel
theorem d4_55 : decode method_3_code 55 = .ok (.ladd, 1) := by decide +kernel
theorem d4_56 : decode method_3_code 56 = .ok (.lcmp, 1) := by decide +kernel
theorem d4_57 : decode method_3_code 57 = .ok (.ifCond .ne 81, 3) := by decide +kernel
theorem d4_60 : decode method_3_code 60 = .ok (.aload_n 0, 1) := by decide +kernel
theorem d4_61 : decode method_3_code 61 = .ok (.iconst 5, 1) := by decide +kernel
theorem d4_62 : decode method_3_code 62 = .ok (.laload, 1) := by decide +kernel
theorem d4_63 : decode method_3_code 63 = .ok (.lload_n 1, 1) := by decide +kernel
theorem d4_64 : decode method_3_code 64 = .ok (.ldc2_w 13, 3) := by decide +kernel
theorem d4_67 : decode method_3_code 67 = .ok (.lload_n 3, 1) := by decide +kernel
theorem d4_68 : decode method_3_code 68 = .ok (.lmul, 1) := by decide +kernel
theorem d4_69 : decode method_3_code 69 = .ok (.ladd, 1) := by decide +kernel
theorem d4_70 : decode method_3_code 70 = .ok (.lcmp, 1) := by decide +kernel
theorem d4_71 : decode method_3_code 71 = .ok (.ifCond .ne 67, 3) := by decide +kernel
theorem d4_74 : decode method_3_code 74 = .ok (.aload_n 0, 1) := by decide +kernel
theorem d4_75 : decode method_3_code 75 = .ok (.bipush 6, 2) := by decide +kernel
theorem d4_77 : decode method_3_code 77 = .ok (.laload, 1) := by decide +kernel
theorem d4_78 : decode method_3_code 78 = .ok (.lload_n 1, 1) := by decide +kernel
theorem d4_79 : decode method_3_code 79 = .ok (.ldc2_w 15, 3) := by decide +kernel
theorem d4_82 : decode method_3_code 82 = .ok (.lload_n 3, 1) := by decide +kernel
theorem d4_83 : decode method_3_code 83 = .ok (.lmul, 1) := by decide +kernel
theorem d4_84 : decode method_3_code 84 = .ok (.ladd, 1) := by decide +kernel
theorem d4_85 : decode method_3_code 85 = .ok (.lcmp, 1) := by decide +kernel
theorem d4_86 : decode method_3_code 86 = .ok (.ifCond .ne 52, 3) := by decide +kernel
theorem d4_89 : decode method_3_code 89 = .ok (.aload_n 0, 1) := by decide +kernel
theorem d4_90 : decode method_3_code 90 = .ok (.bipush 7, 2) := by decide +kernel
theorem d4_92 : decode method_3_code 92 = .ok (.laload, 1) := by decide +kernel
theorem d4_93 : decode method_3_code 93 = .ok (.lload_n 1, 1) := by decide +kernel
theorem d4_94 : decode method_3_code 94 = .ok (.ldc2_w 17, 3) := by decide +kernel
theorem d4_97 : decode method_3_code 97 = .ok (.lload_n 3, 1) := by decide +kernel
theorem d4_98 : decode method_3_code 98 = .ok (.lmul, 1) := by decide +kernel
theorem d4_99 : decode method_3_code 99 = .ok (.ladd, 1) := by decide +kernel
theorem d4_100 : decode method_3_code 100 = .ok (.lcmp, 1) := by decide +kernel
theorem d4_101 : decode method_3_code 101 = .ok (.ifCond .ne 37, 3) := by decide +kernel
theorem d4_104 : decode method_3_code 104 = .ok (.aload_n 0, 1) := by decide +kernel
theorem d4_105 : decode method_3_code 105 = .ok (.bipush 8, 2) := by decide +kernel
theorem d4_107 : decode method_3_code 107 = .ok (.laload, 1) := by decide +kernel
theorem d4_108 : decode method_3_code 108 = .ok (.lload_n 1, 1) := by decide +kernel
theorem d4_109 : decode method_3_code 109 = .ok (.ldc2_w 19, 3) := by decide +kernel
theorem d4_112 : decode method_3_code 112 = .ok (.lload_n 3, 1) := by decide +kernel
theorem d4_113 : decode method_3_code 113 = .ok (.lmul, 1) := by decide +kernel
theorem d4_114 : decode method_3_code 114 = .ok (.ladd, 1) := by decide +kernel
theorem d4_115 : decode method_3_code 115 = .ok (.lcmp, 1) := by decide +kernel
theorem d4_116 : decode method_3_code 116 = .ok (.ifCond .ne 22, 3) := by decide +kernel
theorem d4_119 : decode method_3_code 119 = .ok (.aload_n 0, 1) := by decide +kernel
theorem d4_120 : decode method_3_code 120 = .ok (.bipush 9, 2) := by decide +kernel
theorem d4_122 : decode method_3_code 122 = .ok (.laload, 1) := by decide +kernel
theorem d4_123 : decode method_3_code 123 = .ok (.lload_n 1, 1) := by decide +kernel
theorem d4_124 : decode method_3_code 124 = .ok (.ldc2_w 21, 3) := by decide +kernel
theorem d4_127 : decode method_3_code 127 = .ok (.lload_n 3, 1) := by decide +kernel
theorem d4_128 : decode method_3_code 128 = .ok (.lmul, 1) := by decide +kernel
theorem d4_129 : decode method_3_code 129 = .ok (.ladd, 1) := by decide +kernel
theorem d4_130 : decode method_3_code 130 = .ok (.lcmp, 1) := by decide +kernel
theorem d4_131 : decode method_3_code 131 = .ok (.ifCond .ne 7, 3) := by decide +kernel
theorem d4_134 : decode method_3_code 134 = .ok (.iconst 1, 1) := by decide +kernel
theorem d4_135 : decode method_3_code 135 = .ok (.goto 4, 3) := by decide +kernel
theorem d4_139 : decode method_3_code 139 = .ok (.ireturn, 1) := by decide +kernel
theorem pd_0 : parseMethodDescriptor "(JJ)[J" = some ⟨[.long, .long], some (.array .long)⟩ := by decide +kernel
theorem pd_1 : parseMethodDescriptor "([J[J[J)V" = some ⟨[(.array .long), (.array .long), (.array .long)], none⟩ := by decide +kernel
theorem pd_2 : parseMethodDescriptor "([JJJJJ)Z" = some ⟨[(.array .long), .long, .long, .long, .long], some .boolean⟩ := by decide +kernel
theorem pd_3 : parseMethodDescriptor "([JJJ)Z" = some ⟨[(.array .long), .long, .long], some .boolean⟩ := by decide +kernel
def ownSeq (a b : Int64) : Nat → Int64
  | 0 => a
  | 1 => a + b
  | n + 2 => a + Int64.ofNat (n + 2) * b
def ownStage (ah b : Addr) (X F G : Nat → Int64) (i j : Nat) : Value := if b = ah ∧ j < i then .long (F j + G j) else .long (X j)
theorem ownStage_read (ah b : Addr) (X F G : Nat → Int64) (i : Nat) : ownStage ah b X F G i i = .long (X i) := by
  unfold ownStage; rw [if_neg]; omega
theorem ownStage_next {Z : State} {h h' : Heap} {ah b : Addr} {X F G : Nat → Int64} {i : Nat} (A : ownArr Z h b .long 10 (ownStage ah b X F G i)) (W : Wr h h' ah i (.long (F i + G i))) : ownArr Z h' b .long 10 (ownStage ah b X F G (i + 1)) :=
  (A.wr W).congr fun j _ => by
    unfold ownStage
    by_cases q : b = ah
    · by_cases r : j = i
      · subst r; simp [q]
      · by_cases u : j < i
        · have : j < i + 1 := by omega
          simp [q, r, u, this]
        · have : ¬ j < i + 1 := by omega
          simp [q, r, u, this]
    · simp [q]
theorem own_ten {P : Nat → Prop} (p0 : P 0) (p1 : P 1) (p2 : P 2) (p3 : P 3) (p4 : P 4) (p5 : P 5) (p6 : P 6) (p7 : P 7) (p8 : P 8) (p9 : P 9) : ∀ j, j < 10 → P j := by
  intro j hj
  rcases j with _ | _ | _ | _ | _ | _ | _ | _ | _ | _ | j
  all_goals first | assumption | omega
theorem pn_rmSeq : plainFor (⟨"io/quorumfold/crypto/Field25519AddPinLaw", "seq", "(JJ)[J"⟩ : MethodName) = true := plainFor_of_name (by first | (simp [plainName, overriddenIn]; done) | decide +kernel)
theorem ef_rmSeq (m : MethodId) (q1 : Int64) (q2 : Int64) : entryFrame m #[(.long q1), (.long q2)] 5 = mkF m 0 #[.val (.long q1), .second, .val (.long q2), .second, .unset] [] := by first | (simp [entryFrame, mkF, argsToLocals, Value.category]; done) | rfl
set_option maxRecDepth 65536 in
set_option maxHeartbeats 40000000 in
theorem rmSeq (l : Launch) (Z : State) (a0 : Array Value) (hw : ∀ d ∈ tables_1, d.before a0 Z = true) (q1 q2 : Int64) (h0 : Heap) (n0 : Nat) (Z0 : n0 ≤ h0.size) :
    ownMet l [] (⟨"io/quorumfold/crypto/Field25519AddPinLaw", "seq", "(JJ)[J"⟩ : MethodName) method_2_code 5 (some (.array .long)) ({ frames := 0, cells := 1, slots := 10, locals := 0 } : Room) Z n0 #[(.long q1), (.long q2)] h0 (fun v h => ∃ b, v = some (.ref b) ∧ h0.size ≤ b ∧ Keep h0 h [] ∧ ownArr Z h b .long 10 (fun j => .long (ownSeq q1 q2 j))) := by
  refine own_body (own := "io/quorumfold/crypto/Field25519AddPinLaw") (nm := "seq") pn_rmSeq (fun m => ef_rmSeq m q1 q2) rfl rfl ?_
  intro p e s m below meth c T0 G0
  show ownGo _ _ _ _ _ _ _ T0 0 #[.val (.long q1), .second, .val (.long q2), .second, .unset] []
  refine own_bipush G0 d1_0 ?_
  show ownGo _ _ _ _ _ _ _ T0 2 #[.val (.long q1), .second, .val (.long q2), .second, .unset] [(.int (10 : Int32))]
  refine own_newarr G0 d1_2 (hw _ (List.mem_of_getElem? (i := 4) rfl)) (by decide) (k := 10) (cap := 10) (by decide) (by decide) (by decide) (by decide) (by decide) ?_
  intro T1 h1 b1 g1 E1 A1 G1
  replace A1 : ownArr Z h1 b1 .long 10 (fun _ => .long 0) := A1
  show ownGo _ _ _ _ _ _ _ T1 4 #[.val (.long q1), .second, .val (.long q2), .second, .unset] [(.ref b1)]
  have fr : n0 ≤ b1 := Nat.le_trans Z0 (Nat.le_of_eq g1.symm)
  have sz : h0.size ≤ b1 := Nat.le_of_eq g1.symm
  have K : Keep h0 h1 [] := (Keep.refl h0 []).ext E1
  refine own_astore G1 d1_4 (L' := #[.val (.long q1), .second, .val (.long q2), .second, .val (.ref b1)]) rfl rfl ?_
  show ownGo _ _ _ _ _ _ _ T1 6 #[.val (.long q1), .second, .val (.long q2), .second, .val (.ref b1)] []
  refine own_aload G1 d1_6 rfl rfl ?_
  show ownGo _ _ _ _ _ _ _ T1 8 #[.val (.long q1), .second, .val (.long q2), .second, .val (.ref b1)] [(.ref b1)]
  refine own_iconst G1 d1_8 ?_
  show ownGo _ _ _ _ _ _ _ T1 9 #[.val (.long q1), .second, .val (.long q2), .second, .val (.ref b1)] [(.int (0 : Int32)), (.ref b1)]
  refine own_lloadN G1 d1_9 rfl ?_
  show ownGo _ _ _ _ _ _ _ T1 10 #[.val (.long q1), .second, .val (.long q2), .second, .val (.ref b1)] [(.long q1), (.int (0 : Int32)), (.ref b1)]
  refine own_lastore G1 d1_10 A1 (i := 0) (by decide) fr ?_
  intro T2 h2 W2 G2
  show ownGo _ _ _ _ _ _ _ T2 11 #[.val (.long q1), .second, .val (.long q2), .second, .val (.ref b1)] []
  replace A1 := A1.same W2
  replace K := K.wr W2 (Or.inr sz)
  refine own_aload G2 d1_11 rfl rfl ?_
  show ownGo _ _ _ _ _ _ _ T2 13 #[.val (.long q1), .second, .val (.long q2), .second, .val (.ref b1)] [(.ref b1)]
  refine own_iconst G2 d1_13 ?_
  show ownGo _ _ _ _ _ _ _ T2 14 #[.val (.long q1), .second, .val (.long q2), .second, .val (.ref b1)] [(.int (1 : Int32)), (.ref b1)]
  refine own_lloadN G2 d1_14 rfl ?_
  show ownGo _ _ _ _ _ _ _ T2 15 #[.val (.long q1), .second, .val (.long q2), .second, .val (.ref b1)] [(.long q1), (.int (1 : Int32)), (.ref b1)]
  refine own_lloadN G2 d1_15 rfl ?_
  show ownGo _ _ _ _ _ _ _ T2 16 #[.val (.long q1), .second, .val (.long q2), .second, .val (.ref b1)] [(.long q2), (.long q1), (.int (1 : Int32)), (.ref b1)]
  refine own_ladd G2 d1_16 ?_
  show ownGo _ _ _ _ _ _ _ T2 17 #[.val (.long q1), .second, .val (.long q2), .second, .val (.ref b1)] [(.long (q1 + q2)), (.int (1 : Int32)), (.ref b1)]
  refine own_lastore G2 d1_17 A1 (i := 1) (by decide) fr ?_
  intro T3 h3 W3 G3
  show ownGo _ _ _ _ _ _ _ T3 18 #[.val (.long q1), .second, .val (.long q2), .second, .val (.ref b1)] []
  replace A1 := A1.same W3
  replace K := K.wr W3 (Or.inr sz)
  refine own_aload G3 d1_18 rfl rfl ?_
  show ownGo _ _ _ _ _ _ _ T3 20 #[.val (.long q1), .second, .val (.long q2), .second, .val (.ref b1)] [(.ref b1)]
  refine own_iconst G3 d1_20 ?_
  show ownGo _ _ _ _ _ _ _ T3 21 #[.val (.long q1), .second, .val (.long q2), .second, .val (.ref b1)] [(.int (2 : Int32)), (.ref b1)]
  refine own_lloadN G3 d1_21 rfl ?_
  show ownGo _ _ _ _ _ _ _ T3 22 #[.val (.long q1), .second, .val (.long q2), .second, .val (.ref b1)] [(.long q1), (.int (2 : Int32)), (.ref b1)]
  refine own_ldc2 G3 d1_22 (hw _ (List.mem_of_getElem? (i := 5) rfl)) ?_
  show ownGo _ _ _ _ _ _ _ T3 25 #[.val (.long q1), .second, .val (.long q2), .second, .val (.ref b1)] [(.long (2 : Int64)), (.long q1), (.int (2 : Int32)), (.ref b1)]
  refine own_lloadN G3 d1_25 rfl ?_
  show ownGo _ _ _ _ _ _ _ T3 26 #[.val (.long q1), .second, .val (.long q2), .second, .val (.ref b1)] [(.long q2), (.long (2 : Int64)), (.long q1), (.int (2 : Int32)), (.ref b1)]
  refine own_lmul G3 d1_26 ?_
  show ownGo _ _ _ _ _ _ _ T3 27 #[.val (.long q1), .second, .val (.long q2), .second, .val (.ref b1)] [(.long ((2 : Int64) * q2)), (.long q1), (.int (2 : Int32)), (.ref b1)]
  refine own_ladd G3 d1_27 ?_
  show ownGo _ _ _ _ _ _ _ T3 28 #[.val (.long q1), .second, .val (.long q2), .second, .val (.ref b1)] [(.long (q1 + ((2 : Int64) * q2))), (.int (2 : Int32)), (.ref b1)]
  refine own_lastore G3 d1_28 A1 (i := 2) (by decide) fr ?_
  intro T4 h4 W4 G4
  show ownGo _ _ _ _ _ _ _ T4 29 #[.val (.long q1), .second, .val (.long q2), .second, .val (.ref b1)] []
  replace A1 := A1.same W4
  replace K := K.wr W4 (Or.inr sz)
  refine own_aload G4 d1_29 rfl rfl ?_
  show ownGo _ _ _ _ _ _ _ T4 31 #[.val (.long q1), .second, .val (.long q2), .second, .val (.ref b1)] [(.ref b1)]
  refine own_iconst G4 d1_31 ?_
  show ownGo _ _ _ _ _ _ _ T4 32 #[.val (.long q1), .second, .val (.long q2), .second, .val (.ref b1)] [(.int (3 : Int32)), (.ref b1)]
  refine own_lloadN G4 d1_32 rfl ?_
  show ownGo _ _ _ _ _ _ _ T4 33 #[.val (.long q1), .second, .val (.long q2), .second, .val (.ref b1)] [(.long q1), (.int (3 : Int32)), (.ref b1)]
  refine own_ldc2 G4 d1_33 (hw _ (List.mem_of_getElem? (i := 6) rfl)) ?_
  show ownGo _ _ _ _ _ _ _ T4 36 #[.val (.long q1), .second, .val (.long q2), .second, .val (.ref b1)] [(.long (3 : Int64)), (.long q1), (.int (3 : Int32)), (.ref b1)]
  refine own_lloadN G4 d1_36 rfl ?_
  show ownGo _ _ _ _ _ _ _ T4 37 #[.val (.long q1), .second, .val (.long q2), .second, .val (.ref b1)] [(.long q2), (.long (3 : Int64)), (.long q1), (.int (3 : Int32)), (.ref b1)]
  refine own_lmul G4 d1_37 ?_
  show ownGo _ _ _ _ _ _ _ T4 38 #[.val (.long q1), .second, .val (.long q2), .second, .val (.ref b1)] [(.long ((3 : Int64) * q2)), (.long q1), (.int (3 : Int32)), (.ref b1)]
  refine own_ladd G4 d1_38 ?_
  show ownGo _ _ _ _ _ _ _ T4 39 #[.val (.long q1), .second, .val (.long q2), .second, .val (.ref b1)] [(.long (q1 + ((3 : Int64) * q2))), (.int (3 : Int32)), (.ref b1)]
  refine own_lastore G4 d1_39 A1 (i := 3) (by decide) fr ?_
  intro T5 h5 W5 G5
  show ownGo _ _ _ _ _ _ _ T5 40 #[.val (.long q1), .second, .val (.long q2), .second, .val (.ref b1)] []
  replace A1 := A1.same W5
  replace K := K.wr W5 (Or.inr sz)
  refine own_aload G5 d1_40 rfl rfl ?_
  show ownGo _ _ _ _ _ _ _ T5 42 #[.val (.long q1), .second, .val (.long q2), .second, .val (.ref b1)] [(.ref b1)]
  refine own_iconst G5 d1_42 ?_
  show ownGo _ _ _ _ _ _ _ T5 43 #[.val (.long q1), .second, .val (.long q2), .second, .val (.ref b1)] [(.int (4 : Int32)), (.ref b1)]
  refine own_lloadN G5 d1_43 rfl ?_
  show ownGo _ _ _ _ _ _ _ T5 44 #[.val (.long q1), .second, .val (.long q2), .second, .val (.ref b1)] [(.long q1), (.int (4 : Int32)), (.ref b1)]
  refine own_ldc2 G5 d1_44 (hw _ (List.mem_of_getElem? (i := 7) rfl)) ?_
  show ownGo _ _ _ _ _ _ _ T5 47 #[.val (.long q1), .second, .val (.long q2), .second, .val (.ref b1)] [(.long (4 : Int64)), (.long q1), (.int (4 : Int32)), (.ref b1)]
  refine own_lloadN G5 d1_47 rfl ?_
  show ownGo _ _ _ _ _ _ _ T5 48 #[.val (.long q1), .second, .val (.long q2), .second, .val (.ref b1)] [(.long q2), (.long (4 : Int64)), (.long q1), (.int (4 : Int32)), (.ref b1)]
  refine own_lmul G5 d1_48 ?_
  show ownGo _ _ _ _ _ _ _ T5 49 #[.val (.long q1), .second, .val (.long q2), .second, .val (.ref b1)] [(.long ((4 : Int64) * q2)), (.long q1), (.int (4 : Int32)), (.ref b1)]
  refine own_ladd G5 d1_49 ?_
  show ownGo _ _ _ _ _ _ _ T5 50 #[.val (.long q1), .second, .val (.long q2), .second, .val (.ref b1)] [(.long (q1 + ((4 : Int64) * q2))), (.int (4 : Int32)), (.ref b1)]
  refine own_lastore G5 d1_50 A1 (i := 4) (by decide) fr ?_
  intro T6 h6 W6 G6
  show ownGo _ _ _ _ _ _ _ T6 51 #[.val (.long q1), .second, .val (.long q2), .second, .val (.ref b1)] []
  replace A1 := A1.same W6
  replace K := K.wr W6 (Or.inr sz)
  refine own_aload G6 d1_51 rfl rfl ?_
  show ownGo _ _ _ _ _ _ _ T6 53 #[.val (.long q1), .second, .val (.long q2), .second, .val (.ref b1)] [(.ref b1)]
  refine own_iconst G6 d1_53 ?_
  show ownGo _ _ _ _ _ _ _ T6 54 #[.val (.long q1), .second, .val (.long q2), .second, .val (.ref b1)] [(.int (5 : Int32)), (.ref b1)]
  refine own_lloadN G6 d1_54 rfl ?_
  show ownGo _ _ _ _ _ _ _ T6 55 #[.val (.long q1), .second, .val (.long q2), .second, .val (.ref b1)] [(.long q1), (.int (5 : Int32)), (.ref b1)]
  refine own_ldc2 G6 d1_55 (hw _ (List.mem_of_getElem? (i := 8) rfl)) ?_
  show ownGo _ _ _ _ _ _ _ T6 58 #[.val (.long q1), .second, .val (.long q2), .second, .val (.ref b1)] [(.long (5 : Int64)), (.long q1), (.int (5 : Int32)), (.ref b1)]
  refine own_lloadN G6 d1_58 rfl ?_
  show ownGo _ _ _ _ _ _ _ T6 59 #[.val (.long q1), .second, .val (.long q2), .second, .val (.ref b1)] [(.long q2), (.long (5 : Int64)), (.long q1), (.int (5 : Int32)), (.ref b1)]
  refine own_lmul G6 d1_59 ?_
  show ownGo _ _ _ _ _ _ _ T6 60 #[.val (.long q1), .second, .val (.long q2), .second, .val (.ref b1)] [(.long ((5 : Int64) * q2)), (.long q1), (.int (5 : Int32)), (.ref b1)]
  refine own_ladd G6 d1_60 ?_
  show ownGo _ _ _ _ _ _ _ T6 61 #[.val (.long q1), .second, .val (.long q2), .second, .val (.ref b1)] [(.long (q1 + ((5 : Int64) * q2))), (.int (5 : Int32)), (.ref b1)]
  refine own_lastore G6 d1_61 A1 (i := 5) (by decide) fr ?_
  intro T7 h7 W7 G7
  show ownGo _ _ _ _ _ _ _ T7 62 #[.val (.long q1), .second, .val (.long q2), .second, .val (.ref b1)] []
  replace A1 := A1.same W7
  replace K := K.wr W7 (Or.inr sz)
  refine own_aload G7 d1_62 rfl rfl ?_
  show ownGo _ _ _ _ _ _ _ T7 64 #[.val (.long q1), .second, .val (.long q2), .second, .val (.ref b1)] [(.ref b1)]
  refine own_bipush G7 d1_64 ?_
  show ownGo _ _ _ _ _ _ _ T7 66 #[.val (.long q1), .second, .val (.long q2), .second, .val (.ref b1)] [(.int (6 : Int32)), (.ref b1)]
  refine own_lloadN G7 d1_66 rfl ?_
  show ownGo _ _ _ _ _ _ _ T7 67 #[.val (.long q1), .second, .val (.long q2), .second, .val (.ref b1)] [(.long q1), (.int (6 : Int32)), (.ref b1)]
  refine own_ldc2 G7 d1_67 (hw _ (List.mem_of_getElem? (i := 9) rfl)) ?_
  show ownGo _ _ _ _ _ _ _ T7 70 #[.val (.long q1), .second, .val (.long q2), .second, .val (.ref b1)] [(.long (6 : Int64)), (.long q1), (.int (6 : Int32)), (.ref b1)]
  refine own_lloadN G7 d1_70 rfl ?_
  show ownGo _ _ _ _ _ _ _ T7 71 #[.val (.long q1), .second, .val (.long q2), .second, .val (.ref b1)] [(.long q2), (.long (6 : Int64)), (.long q1), (.int (6 : Int32)), (.ref b1)]
  refine own_lmul G7 d1_71 ?_
  show ownGo _ _ _ _ _ _ _ T7 72 #[.val (.long q1), .second, .val (.long q2), .second, .val (.ref b1)] [(.long ((6 : Int64) * q2)), (.long q1), (.int (6 : Int32)), (.ref b1)]
  refine own_ladd G7 d1_72 ?_
  show ownGo _ _ _ _ _ _ _ T7 73 #[.val (.long q1), .second, .val (.long q2), .second, .val (.ref b1)] [(.long (q1 + ((6 : Int64) * q2))), (.int (6 : Int32)), (.ref b1)]
  refine own_lastore G7 d1_73 A1 (i := 6) (by decide) fr ?_
  intro T8 h8 W8 G8
  show ownGo _ _ _ _ _ _ _ T8 74 #[.val (.long q1), .second, .val (.long q2), .second, .val (.ref b1)] []
  replace A1 := A1.same W8
  replace K := K.wr W8 (Or.inr sz)
  refine own_aload G8 d1_74 rfl rfl ?_
  show ownGo _ _ _ _ _ _ _ T8 76 #[.val (.long q1), .second, .val (.long q2), .second, .val (.ref b1)] [(.ref b1)]
  refine own_bipush G8 d1_76 ?_
  show ownGo _ _ _ _ _ _ _ T8 78 #[.val (.long q1), .second, .val (.long q2), .second, .val (.ref b1)] [(.int (7 : Int32)), (.ref b1)]
  refine own_lloadN G8 d1_78 rfl ?_
  show ownGo _ _ _ _ _ _ _ T8 79 #[.val (.long q1), .second, .val (.long q2), .second, .val (.ref b1)] [(.long q1), (.int (7 : Int32)), (.ref b1)]
  refine own_ldc2 G8 d1_79 (hw _ (List.mem_of_getElem? (i := 10) rfl)) ?_
  show ownGo _ _ _ _ _ _ _ T8 82 #[.val (.long q1), .second, .val (.long q2), .second, .val (.ref b1)] [(.long (7 : Int64)), (.long q1), (.int (7 : Int32)), (.ref b1)]
  refine own_lloadN G8 d1_82 rfl ?_
  show ownGo _ _ _ _ _ _ _ T8 83 #[.val (.long q1), .second, .val (.long q2), .second, .val (.ref b1)] [(.long q2), (.long (7 : Int64)), (.long q1), (.int (7 : Int32)), (.ref b1)]
  refine own_lmul G8 d1_83 ?_
  show ownGo _ _ _ _ _ _ _ T8 84 #[.val (.long q1), .second, .val (.long q2), .second, .val (.ref b1)] [(.long ((7 : Int64) * q2)), (.long q1), (.int (7 : Int32)), (.ref b1)]
  refine own_ladd G8 d1_84 ?_
  show ownGo _ _ _ _ _ _ _ T8 85 #[.val (.long q1), .second, .val (.long q2), .second, .val (.ref b1)] [(.long (q1 + ((7 : Int64) * q2))), (.int (7 : Int32)), (.ref b1)]
  refine own_lastore G8 d1_85 A1 (i := 7) (by decide) fr ?_
  intro T9 h9 W9 G9
  show ownGo _ _ _ _ _ _ _ T9 86 #[.val (.long q1), .second, .val (.long q2), .second, .val (.ref b1)] []
  replace A1 := A1.same W9
  replace K := K.wr W9 (Or.inr sz)
  refine own_aload G9 d1_86 rfl rfl ?_
  show ownGo _ _ _ _ _ _ _ T9 88 #[.val (.long q1), .second, .val (.long q2), .second, .val (.ref b1)] [(.ref b1)]
  refine own_bipush G9 d1_88 ?_
  show ownGo _ _ _ _ _ _ _ T9 90 #[.val (.long q1), .second, .val (.long q2), .second, .val (.ref b1)] [(.int (8 : Int32)), (.ref b1)]
  refine own_lloadN G9 d1_90 rfl ?_
  show ownGo _ _ _ _ _ _ _ T9 91 #[.val (.long q1), .second, .val (.long q2), .second, .val (.ref b1)] [(.long q1), (.int (8 : Int32)), (.ref b1)]
  refine own_ldc2 G9 d1_91 (hw _ (List.mem_of_getElem? (i := 11) rfl)) ?_
  show ownGo _ _ _ _ _ _ _ T9 94 #[.val (.long q1), .second, .val (.long q2), .second, .val (.ref b1)] [(.long (8 : Int64)), (.long q1), (.int (8 : Int32)), (.ref b1)]
  refine own_lloadN G9 d1_94 rfl ?_
  show ownGo _ _ _ _ _ _ _ T9 95 #[.val (.long q1), .second, .val (.long q2), .second, .val (.ref b1)] [(.long q2), (.long (8 : Int64)), (.long q1), (.int (8 : Int32)), (.ref b1)]
  refine own_lmul G9 d1_95 ?_
  show ownGo _ _ _ _ _ _ _ T9 96 #[.val (.long q1), .second, .val (.long q2), .second, .val (.ref b1)] [(.long ((8 : Int64) * q2)), (.long q1), (.int (8 : Int32)), (.ref b1)]
  refine own_ladd G9 d1_96 ?_
  show ownGo _ _ _ _ _ _ _ T9 97 #[.val (.long q1), .second, .val (.long q2), .second, .val (.ref b1)] [(.long (q1 + ((8 : Int64) * q2))), (.int (8 : Int32)), (.ref b1)]
  refine own_lastore G9 d1_97 A1 (i := 8) (by decide) fr ?_
  intro T10 h10 W10 G10
  show ownGo _ _ _ _ _ _ _ T10 98 #[.val (.long q1), .second, .val (.long q2), .second, .val (.ref b1)] []
  replace A1 := A1.same W10
  replace K := K.wr W10 (Or.inr sz)
  refine own_aload G10 d1_98 rfl rfl ?_
  show ownGo _ _ _ _ _ _ _ T10 100 #[.val (.long q1), .second, .val (.long q2), .second, .val (.ref b1)] [(.ref b1)]
  refine own_bipush G10 d1_100 ?_
  show ownGo _ _ _ _ _ _ _ T10 102 #[.val (.long q1), .second, .val (.long q2), .second, .val (.ref b1)] [(.int (9 : Int32)), (.ref b1)]
  refine own_lloadN G10 d1_102 rfl ?_
  show ownGo _ _ _ _ _ _ _ T10 103 #[.val (.long q1), .second, .val (.long q2), .second, .val (.ref b1)] [(.long q1), (.int (9 : Int32)), (.ref b1)]
  refine own_ldc2 G10 d1_103 (hw _ (List.mem_of_getElem? (i := 12) rfl)) ?_
  show ownGo _ _ _ _ _ _ _ T10 106 #[.val (.long q1), .second, .val (.long q2), .second, .val (.ref b1)] [(.long (9 : Int64)), (.long q1), (.int (9 : Int32)), (.ref b1)]
  refine own_lloadN G10 d1_106 rfl ?_
  show ownGo _ _ _ _ _ _ _ T10 107 #[.val (.long q1), .second, .val (.long q2), .second, .val (.ref b1)] [(.long q2), (.long (9 : Int64)), (.long q1), (.int (9 : Int32)), (.ref b1)]
  refine own_lmul G10 d1_107 ?_
  show ownGo _ _ _ _ _ _ _ T10 108 #[.val (.long q1), .second, .val (.long q2), .second, .val (.ref b1)] [(.long ((9 : Int64) * q2)), (.long q1), (.int (9 : Int32)), (.ref b1)]
  refine own_ladd G10 d1_108 ?_
  show ownGo _ _ _ _ _ _ _ T10 109 #[.val (.long q1), .second, .val (.long q2), .second, .val (.ref b1)] [(.long (q1 + ((9 : Int64) * q2))), (.int (9 : Int32)), (.ref b1)]
  refine own_lastore G10 d1_109 A1 (i := 9) (by decide) fr ?_
  intro T11 h11 W11 G11
  show ownGo _ _ _ _ _ _ _ T11 110 #[.val (.long q1), .second, .val (.long q2), .second, .val (.ref b1)] []
  replace A1 := A1.same W11
  replace K := K.wr W11 (Or.inr sz)
  refine own_aload G11 d1_110 rfl rfl ?_
  show ownGo _ _ _ _ _ _ _ T11 112 #[.val (.long q1), .second, .val (.long q2), .second, .val (.ref b1)] [(.ref b1)]
  exact own_areturn G11 d1_112 rfl rfl rfl rfl (by decide) (by decide) ⟨b1, rfl, sz, K, A1.congr (own_ten rfl rfl rfl rfl rfl rfl rfl rfl rfl rfl)⟩
theorem pn_rmAdd : plainFor (⟨"io/quorumfold/crypto/Field25519", "add", "([J[J[J)V"⟩ : MethodName) = true := plainFor_of_name (by first | (simp [plainName, overriddenIn]; done) | decide +kernel)
theorem ef_rmAdd (m : MethodId) (a1 : Addr) (a2 : Addr) (a3 : Addr) : entryFrame m #[(.ref a1), (.ref a2), (.ref a3)] 3 = mkF m 0 #[.val (.ref a1), .val (.ref a2), .val (.ref a3)] [] := by first | (simp [entryFrame, mkF, argsToLocals, Value.category]; done) | rfl
set_option maxRecDepth 65536 in
set_option maxHeartbeats 40000000 in
theorem rmAdd (l : Launch) (Z : State) (a0 : Array Value) (hw : ∀ d ∈ tables_1, d.before a0 Z = true) (a1 a2 a3 : Addr) (X F G : Nat → Int64) (h0 : Heap) (n0 : Nat) (Z0 : n0 ≤ h0.size) (A1 : ownArr Z h0 a1 .long 10 (fun j => .long (X j))) (A2 : ownArr Z h0 a2 .long 10 (fun j => .long (F j))) (A3 : ownArr Z h0 a3 .long 10 (fun j => .long (G j))) (fr : n0 ≤ a1) :
    ownMet l [] (⟨"io/quorumfold/crypto/Field25519", "add", "([J[J[J)V"⟩ : MethodName) prog_110_method_5_code 3 none ({ frames := 0, cells := 0, slots := 0, locals := 0 } : Room) Z n0 #[(.ref a1), (.ref a2), (.ref a3)] h0 (fun v h => v = none ∧ Keep h0 h [a1] ∧ ownArr Z h a1 .long 10 (fun j => .long (F j + G j))) := by
  refine own_body (own := "io/quorumfold/crypto/Field25519") (nm := "add") pn_rmAdd (fun m => ef_rmAdd m a1 a2 a3) rfl rfl ?_
  intro p e s m below meth c T0 G0
  show ownGo _ _ _ _ _ _ _ T0 0 #[.val (.ref a1), .val (.ref a2), .val (.ref a3)] []
  replace A1 : ownArr Z h0 a1 .long 10 (ownStage a1 a1 X F G 0) := A1.congr fun j _ => by unfold ownStage; simp
  replace A2 : ownArr Z h0 a2 .long 10 (ownStage a1 a2 F F G 0) := A2.congr fun j _ => by unfold ownStage; simp
  replace A3 : ownArr Z h0 a3 .long 10 (ownStage a1 a3 G F G 0) := A3.congr fun j _ => by unfold ownStage; simp
  have K : Keep h0 h0 [a1] := Keep.refl h0 [a1]
  refine own_aloadN G0 d2_0 rfl rfl ?_
  show ownGo _ _ _ _ _ _ _ T0 1 #[.val (.ref a1), .val (.ref a2), .val (.ref a3)] [(.ref a1)]
  refine own_iconst G0 d2_1 ?_
  show ownGo _ _ _ _ _ _ _ T0 2 #[.val (.ref a1), .val (.ref a2), .val (.ref a3)] [(.int (0 : Int32)), (.ref a1)]
  refine own_aloadN G0 d2_2 rfl rfl ?_
  show ownGo _ _ _ _ _ _ _ T0 3 #[.val (.ref a1), .val (.ref a2), .val (.ref a3)] [(.ref a2), (.int (0 : Int32)), (.ref a1)]
  refine own_iconst G0 d2_3 ?_
  show ownGo _ _ _ _ _ _ _ T0 4 #[.val (.ref a1), .val (.ref a2), .val (.ref a3)] [(.int (0 : Int32)), (.ref a2), (.int (0 : Int32)), (.ref a1)]
  refine own_laload G0 d2_4 (v := (.long (F 0))) A2 (i := 0) (by decide) (ownStage_read _ _ _ _ _ _) ?_
  show ownGo _ _ _ _ _ _ _ T0 5 #[.val (.ref a1), .val (.ref a2), .val (.ref a3)] [(.long (F 0)), (.int (0 : Int32)), (.ref a1)]
  refine own_aloadN G0 d2_5 rfl rfl ?_
  show ownGo _ _ _ _ _ _ _ T0 6 #[.val (.ref a1), .val (.ref a2), .val (.ref a3)] [(.ref a3), (.long (F 0)), (.int (0 : Int32)), (.ref a1)]
  refine own_iconst G0 d2_6 ?_
  show ownGo _ _ _ _ _ _ _ T0 7 #[.val (.ref a1), .val (.ref a2), .val (.ref a3)] [(.int (0 : Int32)), (.ref a3), (.long (F 0)), (.int (0 : Int32)), (.ref a1)]
  refine own_laload G0 d2_7 (v := (.long (G 0))) A3 (i := 0) (by decide) (ownStage_read _ _ _ _ _ _) ?_
  show ownGo _ _ _ _ _ _ _ T0 8 #[.val (.ref a1), .val (.ref a2), .val (.ref a3)] [(.long (G 0)), (.long (F 0)), (.int (0 : Int32)), (.ref a1)]
  refine own_ladd G0 d2_8 ?_
  show ownGo _ _ _ _ _ _ _ T0 9 #[.val (.ref a1), .val (.ref a2), .val (.ref a3)] [(.long ((F 0) + (G 0))), (.int (0 : Int32)), (.ref a1)]
  refine own_lastore G0 d2_9 A1 (i := 0) (by decide) fr ?_
  intro T12 h12 W12 G12
  show ownGo _ _ _ _ _ _ _ T12 10 #[.val (.ref a1), .val (.ref a2), .val (.ref a3)] []
  replace A1 := ownStage_next A1 W12
  replace A2 := ownStage_next A2 W12
  replace A3 := ownStage_next A3 W12
  replace K := K.wr W12 (Or.inl (List.mem_singleton.mpr rfl))
  refine own_aloadN G12 d2_10 rfl rfl ?_
  show ownGo _ _ _ _ _ _ _ T12 11 #[.val (.ref a1), .val (.ref a2), .val (.ref a3)] [(.ref a1)]
  refine own_iconst G12 d2_11 ?_
  show ownGo _ _ _ _ _ _ _ T12 12 #[.val (.ref a1), .val (.ref a2), .val (.ref a3)] [(.int (1 : Int32)), (.ref a1)]
  refine own_aloadN G12 d2_12 rfl rfl ?_
  show ownGo _ _ _ _ _ _ _ T12 13 #[.val (.ref a1), .val (.ref a2), .val (.ref a3)] [(.ref a2), (.int (1 : Int32)), (.ref a1)]
  refine own_iconst G12 d2_13 ?_
  show ownGo _ _ _ _ _ _ _ T12 14 #[.val (.ref a1), .val (.ref a2), .val (.ref a3)] [(.int (1 : Int32)), (.ref a2), (.int (1 : Int32)), (.ref a1)]
  refine own_laload G12 d2_14 (v := (.long (F 1))) A2 (i := 1) (by decide) (ownStage_read _ _ _ _ _ _) ?_
  show ownGo _ _ _ _ _ _ _ T12 15 #[.val (.ref a1), .val (.ref a2), .val (.ref a3)] [(.long (F 1)), (.int (1 : Int32)), (.ref a1)]
  refine own_aloadN G12 d2_15 rfl rfl ?_
  show ownGo _ _ _ _ _ _ _ T12 16 #[.val (.ref a1), .val (.ref a2), .val (.ref a3)] [(.ref a3), (.long (F 1)), (.int (1 : Int32)), (.ref a1)]
  refine own_iconst G12 d2_16 ?_
  show ownGo _ _ _ _ _ _ _ T12 17 #[.val (.ref a1), .val (.ref a2), .val (.ref a3)] [(.int (1 : Int32)), (.ref a3), (.long (F 1)), (.int (1 : Int32)), (.ref a1)]
  refine own_laload G12 d2_17 (v := (.long (G 1))) A3 (i := 1) (by decide) (ownStage_read _ _ _ _ _ _) ?_
  show ownGo _ _ _ _ _ _ _ T12 18 #[.val (.ref a1), .val (.ref a2), .val (.ref a3)] [(.long (G 1)), (.long (F 1)), (.int (1 : Int32)), (.ref a1)]
  refine own_ladd G12 d2_18 ?_
  show ownGo _ _ _ _ _ _ _ T12 19 #[.val (.ref a1), .val (.ref a2), .val (.ref a3)] [(.long ((F 1) + (G 1))), (.int (1 : Int32)), (.ref a1)]
  refine own_lastore G12 d2_19 A1 (i := 1) (by decide) fr ?_
  intro T13 h13 W13 G13
  show ownGo _ _ _ _ _ _ _ T13 20 #[.val (.ref a1), .val (.ref a2), .val (.ref a3)] []
  replace A1 := ownStage_next A1 W13
  replace A2 := ownStage_next A2 W13
  replace A3 := ownStage_next A3 W13
  replace K := K.wr W13 (Or.inl (List.mem_singleton.mpr rfl))
  refine own_aloadN G13 d2_20 rfl rfl ?_
  show ownGo _ _ _ _ _ _ _ T13 21 #[.val (.ref a1), .val (.ref a2), .val (.ref a3)] [(.ref a1)]
  refine own_iconst G13 d2_21 ?_
  show ownGo _ _ _ _ _ _ _ T13 22 #[.val (.ref a1), .val (.ref a2), .val (.ref a3)] [(.int (2 : Int32)), (.ref a1)]
  refine own_aloadN G13 d2_22 rfl rfl ?_
  show ownGo _ _ _ _ _ _ _ T13 23 #[.val (.ref a1), .val (.ref a2), .val (.ref a3)] [(.ref a2), (.int (2 : Int32)), (.ref a1)]
  refine own_iconst G13 d2_23 ?_
  show ownGo _ _ _ _ _ _ _ T13 24 #[.val (.ref a1), .val (.ref a2), .val (.ref a3)] [(.int (2 : Int32)), (.ref a2), (.int (2 : Int32)), (.ref a1)]
  refine own_laload G13 d2_24 (v := (.long (F 2))) A2 (i := 2) (by decide) (ownStage_read _ _ _ _ _ _) ?_
  show ownGo _ _ _ _ _ _ _ T13 25 #[.val (.ref a1), .val (.ref a2), .val (.ref a3)] [(.long (F 2)), (.int (2 : Int32)), (.ref a1)]
  refine own_aloadN G13 d2_25 rfl rfl ?_
  show ownGo _ _ _ _ _ _ _ T13 26 #[.val (.ref a1), .val (.ref a2), .val (.ref a3)] [(.ref a3), (.long (F 2)), (.int (2 : Int32)), (.ref a1)]
  refine own_iconst G13 d2_26 ?_
  show ownGo _ _ _ _ _ _ _ T13 27 #[.val (.ref a1), .val (.ref a2), .val (.ref a3)] [(.int (2 : Int32)), (.ref a3), (.long (F 2)), (.int (2 : Int32)), (.ref a1)]
  refine own_laload G13 d2_27 (v := (.long (G 2))) A3 (i := 2) (by decide) (ownStage_read _ _ _ _ _ _) ?_
  show ownGo _ _ _ _ _ _ _ T13 28 #[.val (.ref a1), .val (.ref a2), .val (.ref a3)] [(.long (G 2)), (.long (F 2)), (.int (2 : Int32)), (.ref a1)]
  refine own_ladd G13 d2_28 ?_
  show ownGo _ _ _ _ _ _ _ T13 29 #[.val (.ref a1), .val (.ref a2), .val (.ref a3)] [(.long ((F 2) + (G 2))), (.int (2 : Int32)), (.ref a1)]
  refine own_lastore G13 d2_29 A1 (i := 2) (by decide) fr ?_
  intro T14 h14 W14 G14
  show ownGo _ _ _ _ _ _ _ T14 30 #[.val (.ref a1), .val (.ref a2), .val (.ref a3)] []
  replace A1 := ownStage_next A1 W14
  replace A2 := ownStage_next A2 W14
  replace A3 := ownStage_next A3 W14
  replace K := K.wr W14 (Or.inl (List.mem_singleton.mpr rfl))
  refine own_aloadN G14 d2_30 rfl rfl ?_
  show ownGo _ _ _ _ _ _ _ T14 31 #[.val (.ref a1), .val (.ref a2), .val (.ref a3)] [(.ref a1)]
  refine own_iconst G14 d2_31 ?_
  show ownGo _ _ _ _ _ _ _ T14 32 #[.val (.ref a1), .val (.ref a2), .val (.ref a3)] [(.int (3 : Int32)), (.ref a1)]
  refine own_aloadN G14 d2_32 rfl rfl ?_
  show ownGo _ _ _ _ _ _ _ T14 33 #[.val (.ref a1), .val (.ref a2), .val (.ref a3)] [(.ref a2), (.int (3 : Int32)), (.ref a1)]
  refine own_iconst G14 d2_33 ?_
  show ownGo _ _ _ _ _ _ _ T14 34 #[.val (.ref a1), .val (.ref a2), .val (.ref a3)] [(.int (3 : Int32)), (.ref a2), (.int (3 : Int32)), (.ref a1)]
  refine own_laload G14 d2_34 (v := (.long (F 3))) A2 (i := 3) (by decide) (ownStage_read _ _ _ _ _ _) ?_
  show ownGo _ _ _ _ _ _ _ T14 35 #[.val (.ref a1), .val (.ref a2), .val (.ref a3)] [(.long (F 3)), (.int (3 : Int32)), (.ref a1)]
  refine own_aloadN G14 d2_35 rfl rfl ?_
  show ownGo _ _ _ _ _ _ _ T14 36 #[.val (.ref a1), .val (.ref a2), .val (.ref a3)] [(.ref a3), (.long (F 3)), (.int (3 : Int32)), (.ref a1)]
  refine own_iconst G14 d2_36 ?_
  show ownGo _ _ _ _ _ _ _ T14 37 #[.val (.ref a1), .val (.ref a2), .val (.ref a3)] [(.int (3 : Int32)), (.ref a3), (.long (F 3)), (.int (3 : Int32)), (.ref a1)]
  refine own_laload G14 d2_37 (v := (.long (G 3))) A3 (i := 3) (by decide) (ownStage_read _ _ _ _ _ _) ?_
  show ownGo _ _ _ _ _ _ _ T14 38 #[.val (.ref a1), .val (.ref a2), .val (.ref a3)] [(.long (G 3)), (.long (F 3)), (.int (3 : Int32)), (.ref a1)]
  refine own_ladd G14 d2_38 ?_
  show ownGo _ _ _ _ _ _ _ T14 39 #[.val (.ref a1), .val (.ref a2), .val (.ref a3)] [(.long ((F 3) + (G 3))), (.int (3 : Int32)), (.ref a1)]
  refine own_lastore G14 d2_39 A1 (i := 3) (by decide) fr ?_
  intro T15 h15 W15 G15
  show ownGo _ _ _ _ _ _ _ T15 40 #[.val (.ref a1), .val (.ref a2), .val (.ref a3)] []
  replace A1 := ownStage_next A1 W15
  replace A2 := ownStage_next A2 W15
  replace A3 := ownStage_next A3 W15
  replace K := K.wr W15 (Or.inl (List.mem_singleton.mpr rfl))
  refine own_aloadN G15 d2_40 rfl rfl ?_
  show ownGo _ _ _ _ _ _ _ T15 41 #[.val (.ref a1), .val (.ref a2), .val (.ref a3)] [(.ref a1)]
  refine own_iconst G15 d2_41 ?_
  show ownGo _ _ _ _ _ _ _ T15 42 #[.val (.ref a1), .val (.ref a2), .val (.ref a3)] [(.int (4 : Int32)), (.ref a1)]
  refine own_aloadN G15 d2_42 rfl rfl ?_
  show ownGo _ _ _ _ _ _ _ T15 43 #[.val (.ref a1), .val (.ref a2), .val (.ref a3)] [(.ref a2), (.int (4 : Int32)), (.ref a1)]
  refine own_iconst G15 d2_43 ?_
  show ownGo _ _ _ _ _ _ _ T15 44 #[.val (.ref a1), .val (.ref a2), .val (.ref a3)] [(.int (4 : Int32)), (.ref a2), (.int (4 : Int32)), (.ref a1)]
  refine own_laload G15 d2_44 (v := (.long (F 4))) A2 (i := 4) (by decide) (ownStage_read _ _ _ _ _ _) ?_
  show ownGo _ _ _ _ _ _ _ T15 45 #[.val (.ref a1), .val (.ref a2), .val (.ref a3)] [(.long (F 4)), (.int (4 : Int32)), (.ref a1)]
  refine own_aloadN G15 d2_45 rfl rfl ?_
  show ownGo _ _ _ _ _ _ _ T15 46 #[.val (.ref a1), .val (.ref a2), .val (.ref a3)] [(.ref a3), (.long (F 4)), (.int (4 : Int32)), (.ref a1)]
  refine own_iconst G15 d2_46 ?_
  show ownGo _ _ _ _ _ _ _ T15 47 #[.val (.ref a1), .val (.ref a2), .val (.ref a3)] [(.int (4 : Int32)), (.ref a3), (.long (F 4)), (.int (4 : Int32)), (.ref a1)]
  refine own_laload G15 d2_47 (v := (.long (G 4))) A3 (i := 4) (by decide) (ownStage_read _ _ _ _ _ _) ?_
  show ownGo _ _ _ _ _ _ _ T15 48 #[.val (.ref a1), .val (.ref a2), .val (.ref a3)] [(.long (G 4)), (.long (F 4)), (.int (4 : Int32)), (.ref a1)]
  refine own_ladd G15 d2_48 ?_
  show ownGo _ _ _ _ _ _ _ T15 49 #[.val (.ref a1), .val (.ref a2), .val (.ref a3)] [(.long ((F 4) + (G 4))), (.int (4 : Int32)), (.ref a1)]
  refine own_lastore G15 d2_49 A1 (i := 4) (by decide) fr ?_
  intro T16 h16 W16 G16
  show ownGo _ _ _ _ _ _ _ T16 50 #[.val (.ref a1), .val (.ref a2), .val (.ref a3)] []
  replace A1 := ownStage_next A1 W16
  replace A2 := ownStage_next A2 W16
  replace A3 := ownStage_next A3 W16
  replace K := K.wr W16 (Or.inl (List.mem_singleton.mpr rfl))
  refine own_aloadN G16 d2_50 rfl rfl ?_
  show ownGo _ _ _ _ _ _ _ T16 51 #[.val (.ref a1), .val (.ref a2), .val (.ref a3)] [(.ref a1)]
  refine own_iconst G16 d2_51 ?_
  show ownGo _ _ _ _ _ _ _ T16 52 #[.val (.ref a1), .val (.ref a2), .val (.ref a3)] [(.int (5 : Int32)), (.ref a1)]
  refine own_aloadN G16 d2_52 rfl rfl ?_
  show ownGo _ _ _ _ _ _ _ T16 53 #[.val (.ref a1), .val (.ref a2), .val (.ref a3)] [(.ref a2), (.int (5 : Int32)), (.ref a1)]
  refine own_iconst G16 d2_53 ?_
  show ownGo _ _ _ _ _ _ _ T16 54 #[.val (.ref a1), .val (.ref a2), .val (.ref a3)] [(.int (5 : Int32)), (.ref a2), (.int (5 : Int32)), (.ref a1)]
  refine own_laload G16 d2_54 (v := (.long (F 5))) A2 (i := 5) (by decide) (ownStage_read _ _ _ _ _ _) ?_
  show ownGo _ _ _ _ _ _ _ T16 55 #[.val (.ref a1), .val (.ref a2), .val (.ref a3)] [(.long (F 5)), (.int (5 : Int32)), (.ref a1)]
  refine own_aloadN G16 d2_55 rfl rfl ?_
  show ownGo _ _ _ _ _ _ _ T16 56 #[.val (.ref a1), .val (.ref a2), .val (.ref a3)] [(.ref a3), (.long (F 5)), (.int (5 : Int32)), (.ref a1)]
  refine own_iconst G16 d2_56 ?_
  show ownGo _ _ _ _ _ _ _ T16 57 #[.val (.ref a1), .val (.ref a2), .val (.ref a3)] [(.int (5 : Int32)), (.ref a3), (.long (F 5)), (.int (5 : Int32)), (.ref a1)]
  refine own_laload G16 d2_57 (v := (.long (G 5))) A3 (i := 5) (by decide) (ownStage_read _ _ _ _ _ _) ?_
  show ownGo _ _ _ _ _ _ _ T16 58 #[.val (.ref a1), .val (.ref a2), .val (.ref a3)] [(.long (G 5)), (.long (F 5)), (.int (5 : Int32)), (.ref a1)]
  refine own_ladd G16 d2_58 ?_
  show ownGo _ _ _ _ _ _ _ T16 59 #[.val (.ref a1), .val (.ref a2), .val (.ref a3)] [(.long ((F 5) + (G 5))), (.int (5 : Int32)), (.ref a1)]
  refine own_lastore G16 d2_59 A1 (i := 5) (by decide) fr ?_
  intro T17 h17 W17 G17
  show ownGo _ _ _ _ _ _ _ T17 60 #[.val (.ref a1), .val (.ref a2), .val (.ref a3)] []
  replace A1 := ownStage_next A1 W17
  replace A2 := ownStage_next A2 W17
  replace A3 := ownStage_next A3 W17
  replace K := K.wr W17 (Or.inl (List.mem_singleton.mpr rfl))
  refine own_aloadN G17 d2_60 rfl rfl ?_
  show ownGo _ _ _ _ _ _ _ T17 61 #[.val (.ref a1), .val (.ref a2), .val (.ref a3)] [(.ref a1)]
  refine own_bipush G17 d2_61 ?_
  show ownGo _ _ _ _ _ _ _ T17 63 #[.val (.ref a1), .val (.ref a2), .val (.ref a3)] [(.int (6 : Int32)), (.ref a1)]
  refine own_aloadN G17 d2_63 rfl rfl ?_
  show ownGo _ _ _ _ _ _ _ T17 64 #[.val (.ref a1), .val (.ref a2), .val (.ref a3)] [(.ref a2), (.int (6 : Int32)), (.ref a1)]
  refine own_bipush G17 d2_64 ?_
  show ownGo _ _ _ _ _ _ _ T17 66 #[.val (.ref a1), .val (.ref a2), .val (.ref a3)] [(.int (6 : Int32)), (.ref a2), (.int (6 : Int32)), (.ref a1)]
  refine own_laload G17 d2_66 (v := (.long (F 6))) A2 (i := 6) (by decide) (ownStage_read _ _ _ _ _ _) ?_
  show ownGo _ _ _ _ _ _ _ T17 67 #[.val (.ref a1), .val (.ref a2), .val (.ref a3)] [(.long (F 6)), (.int (6 : Int32)), (.ref a1)]
  refine own_aloadN G17 d2_67 rfl rfl ?_
  show ownGo _ _ _ _ _ _ _ T17 68 #[.val (.ref a1), .val (.ref a2), .val (.ref a3)] [(.ref a3), (.long (F 6)), (.int (6 : Int32)), (.ref a1)]
  refine own_bipush G17 d2_68 ?_
  show ownGo _ _ _ _ _ _ _ T17 70 #[.val (.ref a1), .val (.ref a2), .val (.ref a3)] [(.int (6 : Int32)), (.ref a3), (.long (F 6)), (.int (6 : Int32)), (.ref a1)]
  refine own_laload G17 d2_70 (v := (.long (G 6))) A3 (i := 6) (by decide) (ownStage_read _ _ _ _ _ _) ?_
  show ownGo _ _ _ _ _ _ _ T17 71 #[.val (.ref a1), .val (.ref a2), .val (.ref a3)] [(.long (G 6)), (.long (F 6)), (.int (6 : Int32)), (.ref a1)]
  refine own_ladd G17 d2_71 ?_
  show ownGo _ _ _ _ _ _ _ T17 72 #[.val (.ref a1), .val (.ref a2), .val (.ref a3)] [(.long ((F 6) + (G 6))), (.int (6 : Int32)), (.ref a1)]
  refine own_lastore G17 d2_72 A1 (i := 6) (by decide) fr ?_
  intro T18 h18 W18 G18
  show ownGo _ _ _ _ _ _ _ T18 73 #[.val (.ref a1), .val (.ref a2), .val (.ref a3)] []
  replace A1 := ownStage_next A1 W18
  replace A2 := ownStage_next A2 W18
  replace A3 := ownStage_next A3 W18
  replace K := K.wr W18 (Or.inl (List.mem_singleton.mpr rfl))
  refine own_aloadN G18 d2_73 rfl rfl ?_
  show ownGo _ _ _ _ _ _ _ T18 74 #[.val (.ref a1), .val (.ref a2), .val (.ref a3)] [(.ref a1)]
  refine own_bipush G18 d2_74 ?_
  show ownGo _ _ _ _ _ _ _ T18 76 #[.val (.ref a1), .val (.ref a2), .val (.ref a3)] [(.int (7 : Int32)), (.ref a1)]
  refine own_aloadN G18 d2_76 rfl rfl ?_
  show ownGo _ _ _ _ _ _ _ T18 77 #[.val (.ref a1), .val (.ref a2), .val (.ref a3)] [(.ref a2), (.int (7 : Int32)), (.ref a1)]
  refine own_bipush G18 d2_77 ?_
  show ownGo _ _ _ _ _ _ _ T18 79 #[.val (.ref a1), .val (.ref a2), .val (.ref a3)] [(.int (7 : Int32)), (.ref a2), (.int (7 : Int32)), (.ref a1)]
  refine own_laload G18 d2_79 (v := (.long (F 7))) A2 (i := 7) (by decide) (ownStage_read _ _ _ _ _ _) ?_
  show ownGo _ _ _ _ _ _ _ T18 80 #[.val (.ref a1), .val (.ref a2), .val (.ref a3)] [(.long (F 7)), (.int (7 : Int32)), (.ref a1)]
  refine own_aloadN G18 d2_80 rfl rfl ?_
  show ownGo _ _ _ _ _ _ _ T18 81 #[.val (.ref a1), .val (.ref a2), .val (.ref a3)] [(.ref a3), (.long (F 7)), (.int (7 : Int32)), (.ref a1)]
  refine own_bipush G18 d2_81 ?_
  show ownGo _ _ _ _ _ _ _ T18 83 #[.val (.ref a1), .val (.ref a2), .val (.ref a3)] [(.int (7 : Int32)), (.ref a3), (.long (F 7)), (.int (7 : Int32)), (.ref a1)]
  refine own_laload G18 d2_83 (v := (.long (G 7))) A3 (i := 7) (by decide) (ownStage_read _ _ _ _ _ _) ?_
  show ownGo _ _ _ _ _ _ _ T18 84 #[.val (.ref a1), .val (.ref a2), .val (.ref a3)] [(.long (G 7)), (.long (F 7)), (.int (7 : Int32)), (.ref a1)]
  refine own_ladd G18 d2_84 ?_
  show ownGo _ _ _ _ _ _ _ T18 85 #[.val (.ref a1), .val (.ref a2), .val (.ref a3)] [(.long ((F 7) + (G 7))), (.int (7 : Int32)), (.ref a1)]
  refine own_lastore G18 d2_85 A1 (i := 7) (by decide) fr ?_
  intro T19 h19 W19 G19
  show ownGo _ _ _ _ _ _ _ T19 86 #[.val (.ref a1), .val (.ref a2), .val (.ref a3)] []
  replace A1 := ownStage_next A1 W19
  replace A2 := ownStage_next A2 W19
  replace A3 := ownStage_next A3 W19
  replace K := K.wr W19 (Or.inl (List.mem_singleton.mpr rfl))
  refine own_aloadN G19 d2_86 rfl rfl ?_
  show ownGo _ _ _ _ _ _ _ T19 87 #[.val (.ref a1), .val (.ref a2), .val (.ref a3)] [(.ref a1)]
  refine own_bipush G19 d2_87 ?_
  show ownGo _ _ _ _ _ _ _ T19 89 #[.val (.ref a1), .val (.ref a2), .val (.ref a3)] [(.int (8 : Int32)), (.ref a1)]
  refine own_aloadN G19 d2_89 rfl rfl ?_
  show ownGo _ _ _ _ _ _ _ T19 90 #[.val (.ref a1), .val (.ref a2), .val (.ref a3)] [(.ref a2), (.int (8 : Int32)), (.ref a1)]
  refine own_bipush G19 d2_90 ?_
  show ownGo _ _ _ _ _ _ _ T19 92 #[.val (.ref a1), .val (.ref a2), .val (.ref a3)] [(.int (8 : Int32)), (.ref a2), (.int (8 : Int32)), (.ref a1)]
  refine own_laload G19 d2_92 (v := (.long (F 8))) A2 (i := 8) (by decide) (ownStage_read _ _ _ _ _ _) ?_
  show ownGo _ _ _ _ _ _ _ T19 93 #[.val (.ref a1), .val (.ref a2), .val (.ref a3)] [(.long (F 8)), (.int (8 : Int32)), (.ref a1)]
  refine own_aloadN G19 d2_93 rfl rfl ?_
  show ownGo _ _ _ _ _ _ _ T19 94 #[.val (.ref a1), .val (.ref a2), .val (.ref a3)] [(.ref a3), (.long (F 8)), (.int (8 : Int32)), (.ref a1)]
  refine own_bipush G19 d2_94 ?_
  show ownGo _ _ _ _ _ _ _ T19 96 #[.val (.ref a1), .val (.ref a2), .val (.ref a3)] [(.int (8 : Int32)), (.ref a3), (.long (F 8)), (.int (8 : Int32)), (.ref a1)]
  refine own_laload G19 d2_96 (v := (.long (G 8))) A3 (i := 8) (by decide) (ownStage_read _ _ _ _ _ _) ?_
  show ownGo _ _ _ _ _ _ _ T19 97 #[.val (.ref a1), .val (.ref a2), .val (.ref a3)] [(.long (G 8)), (.long (F 8)), (.int (8 : Int32)), (.ref a1)]
  refine own_ladd G19 d2_97 ?_
  show ownGo _ _ _ _ _ _ _ T19 98 #[.val (.ref a1), .val (.ref a2), .val (.ref a3)] [(.long ((F 8) + (G 8))), (.int (8 : Int32)), (.ref a1)]
  refine own_lastore G19 d2_98 A1 (i := 8) (by decide) fr ?_
  intro T20 h20 W20 G20
  show ownGo _ _ _ _ _ _ _ T20 99 #[.val (.ref a1), .val (.ref a2), .val (.ref a3)] []
  replace A1 := ownStage_next A1 W20
  replace A2 := ownStage_next A2 W20
  replace A3 := ownStage_next A3 W20
  replace K := K.wr W20 (Or.inl (List.mem_singleton.mpr rfl))
  refine own_aloadN G20 d2_99 rfl rfl ?_
  show ownGo _ _ _ _ _ _ _ T20 100 #[.val (.ref a1), .val (.ref a2), .val (.ref a3)] [(.ref a1)]
  refine own_bipush G20 d2_100 ?_
  show ownGo _ _ _ _ _ _ _ T20 102 #[.val (.ref a1), .val (.ref a2), .val (.ref a3)] [(.int (9 : Int32)), (.ref a1)]
  refine own_aloadN G20 d2_102 rfl rfl ?_
  show ownGo _ _ _ _ _ _ _ T20 103 #[.val (.ref a1), .val (.ref a2), .val (.ref a3)] [(.ref a2), (.int (9 : Int32)), (.ref a1)]
  refine own_bipush G20 d2_103 ?_
  show ownGo _ _ _ _ _ _ _ T20 105 #[.val (.ref a1), .val (.ref a2), .val (.ref a3)] [(.int (9 : Int32)), (.ref a2), (.int (9 : Int32)), (.ref a1)]
  refine own_laload G20 d2_105 (v := (.long (F 9))) A2 (i := 9) (by decide) (ownStage_read _ _ _ _ _ _) ?_
  show ownGo _ _ _ _ _ _ _ T20 106 #[.val (.ref a1), .val (.ref a2), .val (.ref a3)] [(.long (F 9)), (.int (9 : Int32)), (.ref a1)]
  refine own_aloadN G20 d2_106 rfl rfl ?_
  show ownGo _ _ _ _ _ _ _ T20 107 #[.val (.ref a1), .val (.ref a2), .val (.ref a3)] [(.ref a3), (.long (F 9)), (.int (9 : Int32)), (.ref a1)]
  refine own_bipush G20 d2_107 ?_
  show ownGo _ _ _ _ _ _ _ T20 109 #[.val (.ref a1), .val (.ref a2), .val (.ref a3)] [(.int (9 : Int32)), (.ref a3), (.long (F 9)), (.int (9 : Int32)), (.ref a1)]
  refine own_laload G20 d2_109 (v := (.long (G 9))) A3 (i := 9) (by decide) (ownStage_read _ _ _ _ _ _) ?_
  show ownGo _ _ _ _ _ _ _ T20 110 #[.val (.ref a1), .val (.ref a2), .val (.ref a3)] [(.long (G 9)), (.long (F 9)), (.int (9 : Int32)), (.ref a1)]
  refine own_ladd G20 d2_110 ?_
  show ownGo _ _ _ _ _ _ _ T20 111 #[.val (.ref a1), .val (.ref a2), .val (.ref a3)] [(.long ((F 9) + (G 9))), (.int (9 : Int32)), (.ref a1)]
  refine own_lastore G20 d2_111 A1 (i := 9) (by decide) fr ?_
  intro T21 h21 W21 G21
  show ownGo _ _ _ _ _ _ _ T21 112 #[.val (.ref a1), .val (.ref a2), .val (.ref a3)] []
  replace A1 := ownStage_next A1 W21
  replace A2 := ownStage_next A2 W21
  replace A3 := ownStage_next A3 W21
  replace K := K.wr W21 (Or.inl (List.mem_singleton.mpr rfl))
  exact own_ret G21 d2_112 rfl (by decide) (by decide) ⟨rfl, K, A1.congr fun j hj => by unfold ownStage; simp [hj]⟩
theorem pn_rmSum : plainFor (⟨"io/quorumfold/crypto/Field25519AddPinLaw", "isSum", "([JJJJJ)Z"⟩ : MethodName) = true := plainFor_of_name (by first | (simp [plainName, overriddenIn]; done) | decide +kernel)
theorem ef_rmSum (m : MethodId) (a1 : Addr) (q1 : Int64) (q2 : Int64) (q3 : Int64) (q4 : Int64) : entryFrame m #[(.ref a1), (.long q1), (.long q2), (.long q3), (.long q4)] 9 = mkF m 0 #[.val (.ref a1), .val (.long q1), .second, .val (.long q2), .second, .val (.long q3), .second, .val (.long q4), .second] [] := by first | (simp [entryFrame, mkF, argsToLocals, Value.category]; done) | rfl
set_option maxRecDepth 65536 in
set_option maxHeartbeats 40000000 in
theorem rmSum (l : Launch) (Z : State) (a0 : Array Value) (hw : ∀ d ∈ tables_1, d.before a0 Z = true) (a1 : Addr) (q1 q2 q3 q4 : Int64) (h0 : Heap) (n0 : Nat) (Z0 : n0 ≤ h0.size) (A1 : ownArr Z h0 a1 .long 10 (fun j => .long (ownSeq q1 q2 j + ownSeq q3 q4 j))) :
    ownMet l [] (⟨"io/quorumfold/crypto/Field25519AddPinLaw", "isSum", "([JJJJJ)Z"⟩ : MethodName) method_4_code 9 (some .boolean) ({ frames := 0, cells := 0, slots := 0, locals := 0 } : Room) Z n0 #[(.ref a1), (.long q1), (.long q2), (.long q3), (.long q4)] h0 (fun v h => v = some (.int 1) ∧ h0 = h) := by
  refine own_body (own := "io/quorumfold/crypto/Field25519AddPinLaw") (nm := "isSum") pn_rmSum (fun m => ef_rmSum m a1 q1 q2 q3 q4) rfl rfl ?_
  intro p e s m below meth c T0 G0
  show ownGo _ _ _ _ _ _ _ T0 0 #[.val (.ref a1), .val (.long q1), .second, .val (.long q2), .second, .val (.long q3), .second, .val (.long q4), .second] []
  refine own_aloadN G0 d3_0 rfl rfl ?_
  show ownGo _ _ _ _ _ _ _ T0 1 #[.val (.ref a1), .val (.long q1), .second, .val (.long q2), .second, .val (.long q3), .second, .val (.long q4), .second] [(.ref a1)]
  refine own_iconst G0 d3_1 ?_
  show ownGo _ _ _ _ _ _ _ T0 2 #[.val (.ref a1), .val (.long q1), .second, .val (.long q2), .second, .val (.long q3), .second, .val (.long q4), .second] [(.int (0 : Int32)), (.ref a1)]
  refine own_laload G0 d3_2 (v := (.long (q1 + q3))) A1 (i := 0) (by decide) rfl ?_
  show ownGo _ _ _ _ _ _ _ T0 3 #[.val (.ref a1), .val (.long q1), .second, .val (.long q2), .second, .val (.long q3), .second, .val (.long q4), .second] [(.long (q1 + q3))]
  refine own_lload G0 d3_3 rfl ?_
  show ownGo _ _ _ _ _ _ _ T0 5 #[.val (.ref a1), .val (.long q1), .second, .val (.long q2), .second, .val (.long q3), .second, .val (.long q4), .second] [(.long q3), (.long (q1 + q3))]
  refine own_lsub G0 d3_5 ?_
  show ownGo _ _ _ _ _ _ _ T0 6 #[.val (.ref a1), .val (.long q1), .second, .val (.long q2), .second, .val (.long q3), .second, .val (.long q4), .second] [(.long ((q1 + q3) - q3))]
  refine own_lloadN G0 d3_6 rfl ?_
  show ownGo _ _ _ _ _ _ _ T0 7 #[.val (.ref a1), .val (.long q1), .second, .val (.long q2), .second, .val (.long q3), .second, .val (.long q4), .second] [(.long q1), (.long ((q1 + q3) - q3))]
  refine own_lcif_ne G0 d3_7 d3_8 (pc' := 227) (by decide) (by decide) (fun hc => False.elim (hc (Int64.add_sub_cancel _ _))) (fun hc => ?_)
  show ownGo _ _ _ _ _ _ _ T0 11 #[.val (.ref a1), .val (.long q1), .second, .val (.long q2), .second, .val (.long q3), .second, .val (.long q4), .second] []
  refine own_aloadN G0 d3_11 rfl rfl ?_
  show ownGo _ _ _ _ _ _ _ T0 12 #[.val (.ref a1), .val (.long q1), .second, .val (.long q2), .second, .val (.long q3), .second, .val (.long q4), .second] [(.ref a1)]
  refine own_iconst G0 d3_12 ?_
  show ownGo _ _ _ _ _ _ _ T0 13 #[.val (.ref a1), .val (.long q1), .second, .val (.long q2), .second, .val (.long q3), .second, .val (.long q4), .second] [(.int (1 : Int32)), (.ref a1)]
  refine own_laload G0 d3_13 (v := (.long ((q1 + q2) + (q3 + q4)))) A1 (i := 1) (by decide) rfl ?_
  show ownGo _ _ _ _ _ _ _ T0 14 #[.val (.ref a1), .val (.long q1), .second, .val (.long q2), .second, .val (.long q3), .second, .val (.long q4), .second] [(.long ((q1 + q2) + (q3 + q4)))]
  refine own_lload G0 d3_14 rfl ?_
  show ownGo _ _ _ _ _ _ _ T0 16 #[.val (.ref a1), .val (.long q1), .second, .val (.long q2), .second, .val (.long q3), .second, .val (.long q4), .second] [(.long q3), (.long ((q1 + q2) + (q3 + q4)))]
  refine own_lload G0 d3_16 rfl ?_
  show ownGo _ _ _ _ _ _ _ T0 18 #[.val (.ref a1), .val (.long q1), .second, .val (.long q2), .second, .val (.long q3), .second, .val (.long q4), .second] [(.long q4), (.long q3), (.long ((q1 + q2) + (q3 + q4)))]
  refine own_ladd G0 d3_18 ?_
  show ownGo _ _ _ _ _ _ _ T0 19 #[.val (.ref a1), .val (.long q1), .second, .val (.long q2), .second, .val (.long q3), .second, .val (.long q4), .second] [(.long (q3 + q4)), (.long ((q1 + q2) + (q3 + q4)))]
  refine own_lsub G0 d3_19 ?_
  show ownGo _ _ _ _ _ _ _ T0 20 #[.val (.ref a1), .val (.long q1), .second, .val (.long q2), .second, .val (.long q3), .second, .val (.long q4), .second] [(.long (((q1 + q2) + (q3 + q4)) - (q3 + q4)))]
  refine own_lloadN G0 d3_20 rfl ?_
  show ownGo _ _ _ _ _ _ _ T0 21 #[.val (.ref a1), .val (.long q1), .second, .val (.long q2), .second, .val (.long q3), .second, .val (.long q4), .second] [(.long q1), (.long (((q1 + q2) + (q3 + q4)) - (q3 + q4)))]
  refine own_lloadN G0 d3_21 rfl ?_
  show ownGo _ _ _ _ _ _ _ T0 22 #[.val (.ref a1), .val (.long q1), .second, .val (.long q2), .second, .val (.long q3), .second, .val (.long q4), .second] [(.long q2), (.long q1), (.long (((q1 + q2) + (q3 + q4)) - (q3 + q4)))]
  refine own_ladd G0 d3_22 ?_
  show ownGo _ _ _ _ _ _ _ T0 23 #[.val (.ref a1), .val (.long q1), .second, .val (.long q2), .second, .val (.long q3), .second, .val (.long q4), .second] [(.long (q1 + q2)), (.long (((q1 + q2) + (q3 + q4)) - (q3 + q4)))]
  refine own_lcif_ne G0 d3_23 d3_24 (pc' := 227) (by decide) (by decide) (fun hc => False.elim (hc (Int64.add_sub_cancel _ _))) (fun hc => ?_)
  show ownGo _ _ _ _ _ _ _ T0 27 #[.val (.ref a1), .val (.long q1), .second, .val (.long q2), .second, .val (.long q3), .second, .val (.long q4), .second] []
  refine own_aloadN G0 d3_27 rfl rfl ?_
  show ownGo _ _ _ _ _ _ _ T0 28 #[.val (.ref a1), .val (.long q1), .second, .val (.long q2), .second, .val (.long q3), .second, .val (.long q4), .second] [(.ref a1)]
  refine own_iconst G0 d3_28 ?_
  show ownGo _ _ _ _ _ _ _ T0 29 #[.val (.ref a1), .val (.long q1), .second, .val (.long q2), .second, .val (.long q3), .second, .val (.long q4), .second] [(.int (2 : Int32)), (.ref a1)]
  refine own_laload G0 d3_29 (v := (.long ((q1 + ((2 : Int64) * q2)) + (q3 + ((2 : Int64) * q4))))) A1 (i := 2) (by decide) rfl ?_
  show ownGo _ _ _ _ _ _ _ T0 30 #[.val (.ref a1), .val (.long q1), .second, .val (.long q2), .second, .val (.long q3), .second, .val (.long q4), .second] [(.long ((q1 + ((2 : Int64) * q2)) + (q3 + ((2 : Int64) * q4))))]
  refine own_lload G0 d3_30 rfl ?_
  show ownGo _ _ _ _ _ _ _ T0 32 #[.val (.ref a1), .val (.long q1), .second, .val (.long q2), .second, .val (.long q3), .second, .val (.long q4), .second] [(.long q3), (.long ((q1 + ((2 : Int64) * q2)) + (q3 + ((2 : Int64) * q4))))]
  refine own_ldc2 G0 d3_32 (hw _ (List.mem_of_getElem? (i := 5) rfl)) ?_
  show ownGo _ _ _ _ _ _ _ T0 35 #[.val (.ref a1), .val (.long q1), .second, .val (.long q2), .second, .val (.long q3), .second, .val (.long q4), .second] [(.long (2 : Int64)), (.long q3), (.long ((q1 + ((2 : Int64) * q2)) + (q3 + ((2 : Int64) * q4))))]
  refine own_lload G0 d3_35 rfl ?_
  show ownGo _ _ _ _ _ _ _ T0 37 #[.val (.ref a1), .val (.long q1), .second, .val (.long q2), .second, .val (.long q3), .second, .val (.long q4), .second] [(.long q4), (.long (2 : Int64)), (.long q3), (.long ((q1 + ((2 : Int64) * q2)) + (q3 + ((2 : Int64) * q4))))]
  refine own_lmul G0 d3_37 ?_
  show ownGo _ _ _ _ _ _ _ T0 38 #[.val (.ref a1), .val (.long q1), .second, .val (.long q2), .second, .val (.long q3), .second, .val (.long q4), .second] [(.long ((2 : Int64) * q4)), (.long q3), (.long ((q1 + ((2 : Int64) * q2)) + (q3 + ((2 : Int64) * q4))))]
  refine own_ladd G0 d3_38 ?_
  show ownGo _ _ _ _ _ _ _ T0 39 #[.val (.ref a1), .val (.long q1), .second, .val (.long q2), .second, .val (.long q3), .second, .val (.long q4), .second] [(.long (q3 + ((2 : Int64) * q4))), (.long ((q1 + ((2 : Int64) * q2)) + (q3 + ((2 : Int64) * q4))))]
  refine own_lsub G0 d3_39 ?_
  show ownGo _ _ _ _ _ _ _ T0 40 #[.val (.ref a1), .val (.long q1), .second, .val (.long q2), .second, .val (.long q3), .second, .val (.long q4), .second] [(.long (((q1 + ((2 : Int64) * q2)) + (q3 + ((2 : Int64) * q4))) - (q3 + ((2 : Int64) * q4))))]
  refine own_lloadN G0 d3_40 rfl ?_
  show ownGo _ _ _ _ _ _ _ T0 41 #[.val (.ref a1), .val (.long q1), .second, .val (.long q2), .second, .val (.long q3), .second, .val (.long q4), .second] [(.long q1), (.long (((q1 + ((2 : Int64) * q2)) + (q3 + ((2 : Int64) * q4))) - (q3 + ((2 : Int64) * q4))))]
  refine own_ldc2 G0 d3_41 (hw _ (List.mem_of_getElem? (i := 5) rfl)) ?_
  show ownGo _ _ _ _ _ _ _ T0 44 #[.val (.ref a1), .val (.long q1), .second, .val (.long q2), .second, .val (.long q3), .second, .val (.long q4), .second] [(.long (2 : Int64)), (.long q1), (.long (((q1 + ((2 : Int64) * q2)) + (q3 + ((2 : Int64) * q4))) - (q3 + ((2 : Int64) * q4))))]
  refine own_lloadN G0 d3_44 rfl ?_
  show ownGo _ _ _ _ _ _ _ T0 45 #[.val (.ref a1), .val (.long q1), .second, .val (.long q2), .second, .val (.long q3), .second, .val (.long q4), .second] [(.long q2), (.long (2 : Int64)), (.long q1), (.long (((q1 + ((2 : Int64) * q2)) + (q3 + ((2 : Int64) * q4))) - (q3 + ((2 : Int64) * q4))))]
  refine own_lmul G0 d3_45 ?_
  show ownGo _ _ _ _ _ _ _ T0 46 #[.val (.ref a1), .val (.long q1), .second, .val (.long q2), .second, .val (.long q3), .second, .val (.long q4), .second] [(.long ((2 : Int64) * q2)), (.long q1), (.long (((q1 + ((2 : Int64) * q2)) + (q3 + ((2 : Int64) * q4))) - (q3 + ((2 : Int64) * q4))))]
  refine own_ladd G0 d3_46 ?_
  show ownGo _ _ _ _ _ _ _ T0 47 #[.val (.ref a1), .val (.long q1), .second, .val (.long q2), .second, .val (.long q3), .second, .val (.long q4), .second] [(.long (q1 + ((2 : Int64) * q2))), (.long (((q1 + ((2 : Int64) * q2)) + (q3 + ((2 : Int64) * q4))) - (q3 + ((2 : Int64) * q4))))]
  refine own_lcif_ne G0 d3_47 d3_48 (pc' := 227) (by decide) (by decide) (fun hc => False.elim (hc (Int64.add_sub_cancel _ _))) (fun hc => ?_)
  show ownGo _ _ _ _ _ _ _ T0 51 #[.val (.ref a1), .val (.long q1), .second, .val (.long q2), .second, .val (.long q3), .second, .val (.long q4), .second] []
  refine own_aloadN G0 d3_51 rfl rfl ?_
  show ownGo _ _ _ _ _ _ _ T0 52 #[.val (.ref a1), .val (.long q1), .second, .val (.long q2), .second, .val (.long q3), .second, .val (.long q4), .second] [(.ref a1)]
  refine own_iconst G0 d3_52 ?_
  show ownGo _ _ _ _ _ _ _ T0 53 #[.val (.ref a1), .val (.long q1), .second, .val (.long q2), .second, .val (.long q3), .second, .val (.long q4), .second] [(.int (3 : Int32)), (.ref a1)]
  refine own_laload G0 d3_53 (v := (.long ((q1 + ((3 : Int64) * q2)) + (q3 + ((3 : Int64) * q4))))) A1 (i := 3) (by decide) rfl ?_
  show ownGo _ _ _ _ _ _ _ T0 54 #[.val (.ref a1), .val (.long q1), .second, .val (.long q2), .second, .val (.long q3), .second, .val (.long q4), .second] [(.long ((q1 + ((3 : Int64) * q2)) + (q3 + ((3 : Int64) * q4))))]
  refine own_lload G0 d3_54 rfl ?_
  show ownGo _ _ _ _ _ _ _ T0 56 #[.val (.ref a1), .val (.long q1), .second, .val (.long q2), .second, .val (.long q3), .second, .val (.long q4), .second] [(.long q3), (.long ((q1 + ((3 : Int64) * q2)) + (q3 + ((3 : Int64) * q4))))]
  refine own_ldc2 G0 d3_56 (hw _ (List.mem_of_getElem? (i := 6) rfl)) ?_
  show ownGo _ _ _ _ _ _ _ T0 59 #[.val (.ref a1), .val (.long q1), .second, .val (.long q2), .second, .val (.long q3), .second, .val (.long q4), .second] [(.long (3 : Int64)), (.long q3), (.long ((q1 + ((3 : Int64) * q2)) + (q3 + ((3 : Int64) * q4))))]
  refine own_lload G0 d3_59 rfl ?_
  show ownGo _ _ _ _ _ _ _ T0 61 #[.val (.ref a1), .val (.long q1), .second, .val (.long q2), .second, .val (.long q3), .second, .val (.long q4), .second] [(.long q4), (.long (3 : Int64)), (.long q3), (.long ((q1 + ((3 : Int64) * q2)) + (q3 + ((3 : Int64) * q4))))]
  refine own_lmul G0 d3_61 ?_
  show ownGo _ _ _ _ _ _ _ T0 62 #[.val (.ref a1), .val (.long q1), .second, .val (.long q2), .second, .val (.long q3), .second, .val (.long q4), .second] [(.long ((3 : Int64) * q4)), (.long q3), (.long ((q1 + ((3 : Int64) * q2)) + (q3 + ((3 : Int64) * q4))))]
  refine own_ladd G0 d3_62 ?_
  show ownGo _ _ _ _ _ _ _ T0 63 #[.val (.ref a1), .val (.long q1), .second, .val (.long q2), .second, .val (.long q3), .second, .val (.long q4), .second] [(.long (q3 + ((3 : Int64) * q4))), (.long ((q1 + ((3 : Int64) * q2)) + (q3 + ((3 : Int64) * q4))))]
  refine own_lsub G0 d3_63 ?_
  show ownGo _ _ _ _ _ _ _ T0 64 #[.val (.ref a1), .val (.long q1), .second, .val (.long q2), .second, .val (.long q3), .second, .val (.long q4), .second] [(.long (((q1 + ((3 : Int64) * q2)) + (q3 + ((3 : Int64) * q4))) - (q3 + ((3 : Int64) * q4))))]
  refine own_lloadN G0 d3_64 rfl ?_
  show ownGo _ _ _ _ _ _ _ T0 65 #[.val (.ref a1), .val (.long q1), .second, .val (.long q2), .second, .val (.long q3), .second, .val (.long q4), .second] [(.long q1), (.long (((q1 + ((3 : Int64) * q2)) + (q3 + ((3 : Int64) * q4))) - (q3 + ((3 : Int64) * q4))))]
  refine own_ldc2 G0 d3_65 (hw _ (List.mem_of_getElem? (i := 6) rfl)) ?_
  show ownGo _ _ _ _ _ _ _ T0 68 #[.val (.ref a1), .val (.long q1), .second, .val (.long q2), .second, .val (.long q3), .second, .val (.long q4), .second] [(.long (3 : Int64)), (.long q1), (.long (((q1 + ((3 : Int64) * q2)) + (q3 + ((3 : Int64) * q4))) - (q3 + ((3 : Int64) * q4))))]
  refine own_lloadN G0 d3_68 rfl ?_
  show ownGo _ _ _ _ _ _ _ T0 69 #[.val (.ref a1), .val (.long q1), .second, .val (.long q2), .second, .val (.long q3), .second, .val (.long q4), .second] [(.long q2), (.long (3 : Int64)), (.long q1), (.long (((q1 + ((3 : Int64) * q2)) + (q3 + ((3 : Int64) * q4))) - (q3 + ((3 : Int64) * q4))))]
  refine own_lmul G0 d3_69 ?_
  show ownGo _ _ _ _ _ _ _ T0 70 #[.val (.ref a1), .val (.long q1), .second, .val (.long q2), .second, .val (.long q3), .second, .val (.long q4), .second] [(.long ((3 : Int64) * q2)), (.long q1), (.long (((q1 + ((3 : Int64) * q2)) + (q3 + ((3 : Int64) * q4))) - (q3 + ((3 : Int64) * q4))))]
  refine own_ladd G0 d3_70 ?_
  show ownGo _ _ _ _ _ _ _ T0 71 #[.val (.ref a1), .val (.long q1), .second, .val (.long q2), .second, .val (.long q3), .second, .val (.long q4), .second] [(.long (q1 + ((3 : Int64) * q2))), (.long (((q1 + ((3 : Int64) * q2)) + (q3 + ((3 : Int64) * q4))) - (q3 + ((3 : Int64) * q4))))]
  refine own_lcif_ne G0 d3_71 d3_72 (pc' := 227) (by decide) (by decide) (fun hc => False.elim (hc (Int64.add_sub_cancel _ _))) (fun hc => ?_)
  show ownGo _ _ _ _ _ _ _ T0 75 #[.val (.ref a1), .val (.long q1), .second, .val (.long q2), .second, .val (.long q3), .second, .val (.long q4), .second] []
  refine own_aloadN G0 d3_75 rfl rfl ?_
  show ownGo _ _ _ _ _ _ _ T0 76 #[.val (.ref a1), .val (.long q1), .second, .val (.long q2), .second, .val (.long q3), .second, .val (.long q4), .second] [(.ref a1)]
  refine own_iconst G0 d3_76 ?_
  show ownGo _ _ _ _ _ _ _ T0 77 #[.val (.ref a1), .val (.long q1), .second, .val (.long q2), .second, .val (.long q3), .second, .val (.long q4), .second] [(.int (4 : Int32)), (.ref a1)]
  refine own_laload G0 d3_77 (v := (.long ((q1 + ((4 : Int64) * q2)) + (q3 + ((4 : Int64) * q4))))) A1 (i := 4) (by decide) rfl ?_
  show ownGo _ _ _ _ _ _ _ T0 78 #[.val (.ref a1), .val (.long q1), .second, .val (.long q2), .second, .val (.long q3), .second, .val (.long q4), .second] [(.long ((q1 + ((4 : Int64) * q2)) + (q3 + ((4 : Int64) * q4))))]
  refine own_lload G0 d3_78 rfl ?_
  show ownGo _ _ _ _ _ _ _ T0 80 #[.val (.ref a1), .val (.long q1), .second, .val (.long q2), .second, .val (.long q3), .second, .val (.long q4), .second] [(.long q3), (.long ((q1 + ((4 : Int64) * q2)) + (q3 + ((4 : Int64) * q4))))]
  refine own_ldc2 G0 d3_80 (hw _ (List.mem_of_getElem? (i := 7) rfl)) ?_
  show ownGo _ _ _ _ _ _ _ T0 83 #[.val (.ref a1), .val (.long q1), .second, .val (.long q2), .second, .val (.long q3), .second, .val (.long q4), .second] [(.long (4 : Int64)), (.long q3), (.long ((q1 + ((4 : Int64) * q2)) + (q3 + ((4 : Int64) * q4))))]
  refine own_lload G0 d3_83 rfl ?_
  show ownGo _ _ _ _ _ _ _ T0 85 #[.val (.ref a1), .val (.long q1), .second, .val (.long q2), .second, .val (.long q3), .second, .val (.long q4), .second] [(.long q4), (.long (4 : Int64)), (.long q3), (.long ((q1 + ((4 : Int64) * q2)) + (q3 + ((4 : Int64) * q4))))]
  refine own_lmul G0 d3_85 ?_
  show ownGo _ _ _ _ _ _ _ T0 86 #[.val (.ref a1), .val (.long q1), .second, .val (.long q2), .second, .val (.long q3), .second, .val (.long q4), .second] [(.long ((4 : Int64) * q4)), (.long q3), (.long ((q1 + ((4 : Int64) * q2)) + (q3 + ((4 : Int64) * q4))))]
  refine own_ladd G0 d3_86 ?_
  show ownGo _ _ _ _ _ _ _ T0 87 #[.val (.ref a1), .val (.long q1), .second, .val (.long q2), .second, .val (.long q3), .second, .val (.long q4), .second] [(.long (q3 + ((4 : Int64) * q4))), (.long ((q1 + ((4 : Int64) * q2)) + (q3 + ((4 : Int64) * q4))))]
  refine own_lsub G0 d3_87 ?_
  show ownGo _ _ _ _ _ _ _ T0 88 #[.val (.ref a1), .val (.long q1), .second, .val (.long q2), .second, .val (.long q3), .second, .val (.long q4), .second] [(.long (((q1 + ((4 : Int64) * q2)) + (q3 + ((4 : Int64) * q4))) - (q3 + ((4 : Int64) * q4))))]
  refine own_lloadN G0 d3_88 rfl ?_
  show ownGo _ _ _ _ _ _ _ T0 89 #[.val (.ref a1), .val (.long q1), .second, .val (.long q2), .second, .val (.long q3), .second, .val (.long q4), .second] [(.long q1), (.long (((q1 + ((4 : Int64) * q2)) + (q3 + ((4 : Int64) * q4))) - (q3 + ((4 : Int64) * q4))))]
  refine own_ldc2 G0 d3_89 (hw _ (List.mem_of_getElem? (i := 7) rfl)) ?_
  show ownGo _ _ _ _ _ _ _ T0 92 #[.val (.ref a1), .val (.long q1), .second, .val (.long q2), .second, .val (.long q3), .second, .val (.long q4), .second] [(.long (4 : Int64)), (.long q1), (.long (((q1 + ((4 : Int64) * q2)) + (q3 + ((4 : Int64) * q4))) - (q3 + ((4 : Int64) * q4))))]
  refine own_lloadN G0 d3_92 rfl ?_
  show ownGo _ _ _ _ _ _ _ T0 93 #[.val (.ref a1), .val (.long q1), .second, .val (.long q2), .second, .val (.long q3), .second, .val (.long q4), .second] [(.long q2), (.long (4 : Int64)), (.long q1), (.long (((q1 + ((4 : Int64) * q2)) + (q3 + ((4 : Int64) * q4))) - (q3 + ((4 : Int64) * q4))))]
  refine own_lmul G0 d3_93 ?_
  show ownGo _ _ _ _ _ _ _ T0 94 #[.val (.ref a1), .val (.long q1), .second, .val (.long q2), .second, .val (.long q3), .second, .val (.long q4), .second] [(.long ((4 : Int64) * q2)), (.long q1), (.long (((q1 + ((4 : Int64) * q2)) + (q3 + ((4 : Int64) * q4))) - (q3 + ((4 : Int64) * q4))))]
  refine own_ladd G0 d3_94 ?_
  show ownGo _ _ _ _ _ _ _ T0 95 #[.val (.ref a1), .val (.long q1), .second, .val (.long q2), .second, .val (.long q3), .second, .val (.long q4), .second] [(.long (q1 + ((4 : Int64) * q2))), (.long (((q1 + ((4 : Int64) * q2)) + (q3 + ((4 : Int64) * q4))) - (q3 + ((4 : Int64) * q4))))]
  refine own_lcif_ne G0 d3_95 d3_96 (pc' := 227) (by decide) (by decide) (fun hc => False.elim (hc (Int64.add_sub_cancel _ _))) (fun hc => ?_)
  show ownGo _ _ _ _ _ _ _ T0 99 #[.val (.ref a1), .val (.long q1), .second, .val (.long q2), .second, .val (.long q3), .second, .val (.long q4), .second] []
  refine own_aloadN G0 d3_99 rfl rfl ?_
  show ownGo _ _ _ _ _ _ _ T0 100 #[.val (.ref a1), .val (.long q1), .second, .val (.long q2), .second, .val (.long q3), .second, .val (.long q4), .second] [(.ref a1)]
  refine own_iconst G0 d3_100 ?_
  show ownGo _ _ _ _ _ _ _ T0 101 #[.val (.ref a1), .val (.long q1), .second, .val (.long q2), .second, .val (.long q3), .second, .val (.long q4), .second] [(.int (5 : Int32)), (.ref a1)]
  refine own_laload G0 d3_101 (v := (.long ((q1 + ((5 : Int64) * q2)) + (q3 + ((5 : Int64) * q4))))) A1 (i := 5) (by decide) rfl ?_
  show ownGo _ _ _ _ _ _ _ T0 102 #[.val (.ref a1), .val (.long q1), .second, .val (.long q2), .second, .val (.long q3), .second, .val (.long q4), .second] [(.long ((q1 + ((5 : Int64) * q2)) + (q3 + ((5 : Int64) * q4))))]
  refine own_lload G0 d3_102 rfl ?_
  show ownGo _ _ _ _ _ _ _ T0 104 #[.val (.ref a1), .val (.long q1), .second, .val (.long q2), .second, .val (.long q3), .second, .val (.long q4), .second] [(.long q3), (.long ((q1 + ((5 : Int64) * q2)) + (q3 + ((5 : Int64) * q4))))]
  refine own_ldc2 G0 d3_104 (hw _ (List.mem_of_getElem? (i := 8) rfl)) ?_
  show ownGo _ _ _ _ _ _ _ T0 107 #[.val (.ref a1), .val (.long q1), .second, .val (.long q2), .second, .val (.long q3), .second, .val (.long q4), .second] [(.long (5 : Int64)), (.long q3), (.long ((q1 + ((5 : Int64) * q2)) + (q3 + ((5 : Int64) * q4))))]
  refine own_lload G0 d3_107 rfl ?_
  show ownGo _ _ _ _ _ _ _ T0 109 #[.val (.ref a1), .val (.long q1), .second, .val (.long q2), .second, .val (.long q3), .second, .val (.long q4), .second] [(.long q4), (.long (5 : Int64)), (.long q3), (.long ((q1 + ((5 : Int64) * q2)) + (q3 + ((5 : Int64) * q4))))]
  refine own_lmul G0 d3_109 ?_
  show ownGo _ _ _ _ _ _ _ T0 110 #[.val (.ref a1), .val (.long q1), .second, .val (.long q2), .second, .val (.long q3), .second, .val (.long q4), .second] [(.long ((5 : Int64) * q4)), (.long q3), (.long ((q1 + ((5 : Int64) * q2)) + (q3 + ((5 : Int64) * q4))))]
  refine own_ladd G0 d3_110 ?_
  show ownGo _ _ _ _ _ _ _ T0 111 #[.val (.ref a1), .val (.long q1), .second, .val (.long q2), .second, .val (.long q3), .second, .val (.long q4), .second] [(.long (q3 + ((5 : Int64) * q4))), (.long ((q1 + ((5 : Int64) * q2)) + (q3 + ((5 : Int64) * q4))))]
  refine own_lsub G0 d3_111 ?_
  show ownGo _ _ _ _ _ _ _ T0 112 #[.val (.ref a1), .val (.long q1), .second, .val (.long q2), .second, .val (.long q3), .second, .val (.long q4), .second] [(.long (((q1 + ((5 : Int64) * q2)) + (q3 + ((5 : Int64) * q4))) - (q3 + ((5 : Int64) * q4))))]
  refine own_lloadN G0 d3_112 rfl ?_
  show ownGo _ _ _ _ _ _ _ T0 113 #[.val (.ref a1), .val (.long q1), .second, .val (.long q2), .second, .val (.long q3), .second, .val (.long q4), .second] [(.long q1), (.long (((q1 + ((5 : Int64) * q2)) + (q3 + ((5 : Int64) * q4))) - (q3 + ((5 : Int64) * q4))))]
  refine own_ldc2 G0 d3_113 (hw _ (List.mem_of_getElem? (i := 8) rfl)) ?_
  show ownGo _ _ _ _ _ _ _ T0 116 #[.val (.ref a1), .val (.long q1), .second, .val (.long q2), .second, .val (.long q3), .second, .val (.long q4), .second] [(.long (5 : Int64)), (.long q1), (.long (((q1 + ((5 : Int64) * q2)) + (q3 + ((5 : Int64) * q4))) - (q3 + ((5 : Int64) * q4))))]
  refine own_lloadN G0 d3_116 rfl ?_
  show ownGo _ _ _ _ _ _ _ T0 117 #[.val (.ref a1), .val (.long q1), .second, .val (.long q2), .second, .val (.long q3), .second, .val (.long q4), .second] [(.long q2), (.long (5 : Int64)), (.long q1), (.long (((q1 + ((5 : Int64) * q2)) + (q3 + ((5 : Int64) * q4))) - (q3 + ((5 : Int64) * q4))))]
  refine own_lmul G0 d3_117 ?_
  show ownGo _ _ _ _ _ _ _ T0 118 #[.val (.ref a1), .val (.long q1), .second, .val (.long q2), .second, .val (.long q3), .second, .val (.long q4), .second] [(.long ((5 : Int64) * q2)), (.long q1), (.long (((q1 + ((5 : Int64) * q2)) + (q3 + ((5 : Int64) * q4))) - (q3 + ((5 : Int64) * q4))))]
  refine own_ladd G0 d3_118 ?_
  show ownGo _ _ _ _ _ _ _ T0 119 #[.val (.ref a1), .val (.long q1), .second, .val (.long q2), .second, .val (.long q3), .second, .val (.long q4), .second] [(.long (q1 + ((5 : Int64) * q2))), (.long (((q1 + ((5 : Int64) * q2)) + (q3 + ((5 : Int64) * q4))) - (q3 + ((5 : Int64) * q4))))]
  refine own_lcif_ne G0 d3_119 d3_120 (pc' := 227) (by decide) (by decide) (fun hc => False.elim (hc (Int64.add_sub_cancel _ _))) (fun hc => ?_)
  show ownGo _ _ _ _ _ _ _ T0 123 #[.val (.ref a1), .val (.long q1), .second, .val (.long q2), .second, .val (.long q3), .second, .val (.long q4), .second] []
  refine own_aloadN G0 d3_123 rfl rfl ?_
  show ownGo _ _ _ _ _ _ _ T0 124 #[.val (.ref a1), .val (.long q1), .second, .val (.long q2), .second, .val (.long q3), .second, .val (.long q4), .second] [(.ref a1)]
  refine own_bipush G0 d3_124 ?_
  show ownGo _ _ _ _ _ _ _ T0 126 #[.val (.ref a1), .val (.long q1), .second, .val (.long q2), .second, .val (.long q3), .second, .val (.long q4), .second] [(.int (6 : Int32)), (.ref a1)]
  refine own_laload G0 d3_126 (v := (.long ((q1 + ((6 : Int64) * q2)) + (q3 + ((6 : Int64) * q4))))) A1 (i := 6) (by decide) rfl ?_
  show ownGo _ _ _ _ _ _ _ T0 127 #[.val (.ref a1), .val (.long q1), .second, .val (.long q2), .second, .val (.long q3), .second, .val (.long q4), .second] [(.long ((q1 + ((6 : Int64) * q2)) + (q3 + ((6 : Int64) * q4))))]
  refine own_lload G0 d3_127 rfl ?_
  show ownGo _ _ _ _ _ _ _ T0 129 #[.val (.ref a1), .val (.long q1), .second, .val (.long q2), .second, .val (.long q3), .second, .val (.long q4), .second] [(.long q3), (.long ((q1 + ((6 : Int64) * q2)) + (q3 + ((6 : Int64) * q4))))]
  refine own_ldc2 G0 d3_129 (hw _ (List.mem_of_getElem? (i := 9) rfl)) ?_
  show ownGo _ _ _ _ _ _ _ T0 132 #[.val (.ref a1), .val (.long q1), .second, .val (.long q2), .second, .val (.long q3), .second, .val (.long q4), .second] [(.long (6 : Int64)), (.long q3), (.long ((q1 + ((6 : Int64) * q2)) + (q3 + ((6 : Int64) * q4))))]
  refine own_lload G0 d3_132 rfl ?_
  show ownGo _ _ _ _ _ _ _ T0 134 #[.val (.ref a1), .val (.long q1), .second, .val (.long q2), .second, .val (.long q3), .second, .val (.long q4), .second] [(.long q4), (.long (6 : Int64)), (.long q3), (.long ((q1 + ((6 : Int64) * q2)) + (q3 + ((6 : Int64) * q4))))]
  refine own_lmul G0 d3_134 ?_
  show ownGo _ _ _ _ _ _ _ T0 135 #[.val (.ref a1), .val (.long q1), .second, .val (.long q2), .second, .val (.long q3), .second, .val (.long q4), .second] [(.long ((6 : Int64) * q4)), (.long q3), (.long ((q1 + ((6 : Int64) * q2)) + (q3 + ((6 : Int64) * q4))))]
  refine own_ladd G0 d3_135 ?_
  show ownGo _ _ _ _ _ _ _ T0 136 #[.val (.ref a1), .val (.long q1), .second, .val (.long q2), .second, .val (.long q3), .second, .val (.long q4), .second] [(.long (q3 + ((6 : Int64) * q4))), (.long ((q1 + ((6 : Int64) * q2)) + (q3 + ((6 : Int64) * q4))))]
  refine own_lsub G0 d3_136 ?_
  show ownGo _ _ _ _ _ _ _ T0 137 #[.val (.ref a1), .val (.long q1), .second, .val (.long q2), .second, .val (.long q3), .second, .val (.long q4), .second] [(.long (((q1 + ((6 : Int64) * q2)) + (q3 + ((6 : Int64) * q4))) - (q3 + ((6 : Int64) * q4))))]
  refine own_lloadN G0 d3_137 rfl ?_
  show ownGo _ _ _ _ _ _ _ T0 138 #[.val (.ref a1), .val (.long q1), .second, .val (.long q2), .second, .val (.long q3), .second, .val (.long q4), .second] [(.long q1), (.long (((q1 + ((6 : Int64) * q2)) + (q3 + ((6 : Int64) * q4))) - (q3 + ((6 : Int64) * q4))))]
  refine own_ldc2 G0 d3_138 (hw _ (List.mem_of_getElem? (i := 9) rfl)) ?_
  show ownGo _ _ _ _ _ _ _ T0 141 #[.val (.ref a1), .val (.long q1), .second, .val (.long q2), .second, .val (.long q3), .second, .val (.long q4), .second] [(.long (6 : Int64)), (.long q1), (.long (((q1 + ((6 : Int64) * q2)) + (q3 + ((6 : Int64) * q4))) - (q3 + ((6 : Int64) * q4))))]
  refine own_lloadN G0 d3_141 rfl ?_
  show ownGo _ _ _ _ _ _ _ T0 142 #[.val (.ref a1), .val (.long q1), .second, .val (.long q2), .second, .val (.long q3), .second, .val (.long q4), .second] [(.long q2), (.long (6 : Int64)), (.long q1), (.long (((q1 + ((6 : Int64) * q2)) + (q3 + ((6 : Int64) * q4))) - (q3 + ((6 : Int64) * q4))))]
  refine own_lmul G0 d3_142 ?_
  show ownGo _ _ _ _ _ _ _ T0 143 #[.val (.ref a1), .val (.long q1), .second, .val (.long q2), .second, .val (.long q3), .second, .val (.long q4), .second] [(.long ((6 : Int64) * q2)), (.long q1), (.long (((q1 + ((6 : Int64) * q2)) + (q3 + ((6 : Int64) * q4))) - (q3 + ((6 : Int64) * q4))))]
  refine own_ladd G0 d3_143 ?_
  show ownGo _ _ _ _ _ _ _ T0 144 #[.val (.ref a1), .val (.long q1), .second, .val (.long q2), .second, .val (.long q3), .second, .val (.long q4), .second] [(.long (q1 + ((6 : Int64) * q2))), (.long (((q1 + ((6 : Int64) * q2)) + (q3 + ((6 : Int64) * q4))) - (q3 + ((6 : Int64) * q4))))]
  refine own_lcif_ne G0 d3_144 d3_145 (pc' := 227) (by decide) (by decide) (fun hc => False.elim (hc (Int64.add_sub_cancel _ _))) (fun hc => ?_)
  show ownGo _ _ _ _ _ _ _ T0 148 #[.val (.ref a1), .val (.long q1), .second, .val (.long q2), .second, .val (.long q3), .second, .val (.long q4), .second] []
  refine own_aloadN G0 d3_148 rfl rfl ?_
  show ownGo _ _ _ _ _ _ _ T0 149 #[.val (.ref a1), .val (.long q1), .second, .val (.long q2), .second, .val (.long q3), .second, .val (.long q4), .second] [(.ref a1)]
  refine own_bipush G0 d3_149 ?_
  show ownGo _ _ _ _ _ _ _ T0 151 #[.val (.ref a1), .val (.long q1), .second, .val (.long q2), .second, .val (.long q3), .second, .val (.long q4), .second] [(.int (7 : Int32)), (.ref a1)]
  refine own_laload G0 d3_151 (v := (.long ((q1 + ((7 : Int64) * q2)) + (q3 + ((7 : Int64) * q4))))) A1 (i := 7) (by decide) rfl ?_
  show ownGo _ _ _ _ _ _ _ T0 152 #[.val (.ref a1), .val (.long q1), .second, .val (.long q2), .second, .val (.long q3), .second, .val (.long q4), .second] [(.long ((q1 + ((7 : Int64) * q2)) + (q3 + ((7 : Int64) * q4))))]
  refine own_lload G0 d3_152 rfl ?_
  show ownGo _ _ _ _ _ _ _ T0 154 #[.val (.ref a1), .val (.long q1), .second, .val (.long q2), .second, .val (.long q3), .second, .val (.long q4), .second] [(.long q3), (.long ((q1 + ((7 : Int64) * q2)) + (q3 + ((7 : Int64) * q4))))]
  refine own_ldc2 G0 d3_154 (hw _ (List.mem_of_getElem? (i := 10) rfl)) ?_
  show ownGo _ _ _ _ _ _ _ T0 157 #[.val (.ref a1), .val (.long q1), .second, .val (.long q2), .second, .val (.long q3), .second, .val (.long q4), .second] [(.long (7 : Int64)), (.long q3), (.long ((q1 + ((7 : Int64) * q2)) + (q3 + ((7 : Int64) * q4))))]
  refine own_lload G0 d3_157 rfl ?_
  show ownGo _ _ _ _ _ _ _ T0 159 #[.val (.ref a1), .val (.long q1), .second, .val (.long q2), .second, .val (.long q3), .second, .val (.long q4), .second] [(.long q4), (.long (7 : Int64)), (.long q3), (.long ((q1 + ((7 : Int64) * q2)) + (q3 + ((7 : Int64) * q4))))]
  refine own_lmul G0 d3_159 ?_
  show ownGo _ _ _ _ _ _ _ T0 160 #[.val (.ref a1), .val (.long q1), .second, .val (.long q2), .second, .val (.long q3), .second, .val (.long q4), .second] [(.long ((7 : Int64) * q4)), (.long q3), (.long ((q1 + ((7 : Int64) * q2)) + (q3 + ((7 : Int64) * q4))))]
  refine own_ladd G0 d3_160 ?_
  show ownGo _ _ _ _ _ _ _ T0 161 #[.val (.ref a1), .val (.long q1), .second, .val (.long q2), .second, .val (.long q3), .second, .val (.long q4), .second] [(.long (q3 + ((7 : Int64) * q4))), (.long ((q1 + ((7 : Int64) * q2)) + (q3 + ((7 : Int64) * q4))))]
  refine own_lsub G0 d3_161 ?_
  show ownGo _ _ _ _ _ _ _ T0 162 #[.val (.ref a1), .val (.long q1), .second, .val (.long q2), .second, .val (.long q3), .second, .val (.long q4), .second] [(.long (((q1 + ((7 : Int64) * q2)) + (q3 + ((7 : Int64) * q4))) - (q3 + ((7 : Int64) * q4))))]
  refine own_lloadN G0 d3_162 rfl ?_
  show ownGo _ _ _ _ _ _ _ T0 163 #[.val (.ref a1), .val (.long q1), .second, .val (.long q2), .second, .val (.long q3), .second, .val (.long q4), .second] [(.long q1), (.long (((q1 + ((7 : Int64) * q2)) + (q3 + ((7 : Int64) * q4))) - (q3 + ((7 : Int64) * q4))))]
  refine own_ldc2 G0 d3_163 (hw _ (List.mem_of_getElem? (i := 10) rfl)) ?_
  show ownGo _ _ _ _ _ _ _ T0 166 #[.val (.ref a1), .val (.long q1), .second, .val (.long q2), .second, .val (.long q3), .second, .val (.long q4), .second] [(.long (7 : Int64)), (.long q1), (.long (((q1 + ((7 : Int64) * q2)) + (q3 + ((7 : Int64) * q4))) - (q3 + ((7 : Int64) * q4))))]
  refine own_lloadN G0 d3_166 rfl ?_
  show ownGo _ _ _ _ _ _ _ T0 167 #[.val (.ref a1), .val (.long q1), .second, .val (.long q2), .second, .val (.long q3), .second, .val (.long q4), .second] [(.long q2), (.long (7 : Int64)), (.long q1), (.long (((q1 + ((7 : Int64) * q2)) + (q3 + ((7 : Int64) * q4))) - (q3 + ((7 : Int64) * q4))))]
  refine own_lmul G0 d3_167 ?_
  show ownGo _ _ _ _ _ _ _ T0 168 #[.val (.ref a1), .val (.long q1), .second, .val (.long q2), .second, .val (.long q3), .second, .val (.long q4), .second] [(.long ((7 : Int64) * q2)), (.long q1), (.long (((q1 + ((7 : Int64) * q2)) + (q3 + ((7 : Int64) * q4))) - (q3 + ((7 : Int64) * q4))))]
  refine own_ladd G0 d3_168 ?_
  show ownGo _ _ _ _ _ _ _ T0 169 #[.val (.ref a1), .val (.long q1), .second, .val (.long q2), .second, .val (.long q3), .second, .val (.long q4), .second] [(.long (q1 + ((7 : Int64) * q2))), (.long (((q1 + ((7 : Int64) * q2)) + (q3 + ((7 : Int64) * q4))) - (q3 + ((7 : Int64) * q4))))]
  refine own_lcif_ne G0 d3_169 d3_170 (pc' := 227) (by decide) (by decide) (fun hc => False.elim (hc (Int64.add_sub_cancel _ _))) (fun hc => ?_)
  show ownGo _ _ _ _ _ _ _ T0 173 #[.val (.ref a1), .val (.long q1), .second, .val (.long q2), .second, .val (.long q3), .second, .val (.long q4), .second] []
  refine own_aloadN G0 d3_173 rfl rfl ?_
  show ownGo _ _ _ _ _ _ _ T0 174 #[.val (.ref a1), .val (.long q1), .second, .val (.long q2), .second, .val (.long q3), .second, .val (.long q4), .second] [(.ref a1)]
  refine own_bipush G0 d3_174 ?_
  show ownGo _ _ _ _ _ _ _ T0 176 #[.val (.ref a1), .val (.long q1), .second, .val (.long q2), .second, .val (.long q3), .second, .val (.long q4), .second] [(.int (8 : Int32)), (.ref a1)]
  refine own_laload G0 d3_176 (v := (.long ((q1 + ((8 : Int64) * q2)) + (q3 + ((8 : Int64) * q4))))) A1 (i := 8) (by decide) rfl ?_
  show ownGo _ _ _ _ _ _ _ T0 177 #[.val (.ref a1), .val (.long q1), .second, .val (.long q2), .second, .val (.long q3), .second, .val (.long q4), .second] [(.long ((q1 + ((8 : Int64) * q2)) + (q3 + ((8 : Int64) * q4))))]
  refine own_lload G0 d3_177 rfl ?_
  show ownGo _ _ _ _ _ _ _ T0 179 #[.val (.ref a1), .val (.long q1), .second, .val (.long q2), .second, .val (.long q3), .second, .val (.long q4), .second] [(.long q3), (.long ((q1 + ((8 : Int64) * q2)) + (q3 + ((8 : Int64) * q4))))]
  refine own_ldc2 G0 d3_179 (hw _ (List.mem_of_getElem? (i := 11) rfl)) ?_
  show ownGo _ _ _ _ _ _ _ T0 182 #[.val (.ref a1), .val (.long q1), .second, .val (.long q2), .second, .val (.long q3), .second, .val (.long q4), .second] [(.long (8 : Int64)), (.long q3), (.long ((q1 + ((8 : Int64) * q2)) + (q3 + ((8 : Int64) * q4))))]
  refine own_lload G0 d3_182 rfl ?_
  show ownGo _ _ _ _ _ _ _ T0 184 #[.val (.ref a1), .val (.long q1), .second, .val (.long q2), .second, .val (.long q3), .second, .val (.long q4), .second] [(.long q4), (.long (8 : Int64)), (.long q3), (.long ((q1 + ((8 : Int64) * q2)) + (q3 + ((8 : Int64) * q4))))]
  refine own_lmul G0 d3_184 ?_
  show ownGo _ _ _ _ _ _ _ T0 185 #[.val (.ref a1), .val (.long q1), .second, .val (.long q2), .second, .val (.long q3), .second, .val (.long q4), .second] [(.long ((8 : Int64) * q4)), (.long q3), (.long ((q1 + ((8 : Int64) * q2)) + (q3 + ((8 : Int64) * q4))))]
  refine own_ladd G0 d3_185 ?_
  show ownGo _ _ _ _ _ _ _ T0 186 #[.val (.ref a1), .val (.long q1), .second, .val (.long q2), .second, .val (.long q3), .second, .val (.long q4), .second] [(.long (q3 + ((8 : Int64) * q4))), (.long ((q1 + ((8 : Int64) * q2)) + (q3 + ((8 : Int64) * q4))))]
  refine own_lsub G0 d3_186 ?_
  show ownGo _ _ _ _ _ _ _ T0 187 #[.val (.ref a1), .val (.long q1), .second, .val (.long q2), .second, .val (.long q3), .second, .val (.long q4), .second] [(.long (((q1 + ((8 : Int64) * q2)) + (q3 + ((8 : Int64) * q4))) - (q3 + ((8 : Int64) * q4))))]
  refine own_lloadN G0 d3_187 rfl ?_
  show ownGo _ _ _ _ _ _ _ T0 188 #[.val (.ref a1), .val (.long q1), .second, .val (.long q2), .second, .val (.long q3), .second, .val (.long q4), .second] [(.long q1), (.long (((q1 + ((8 : Int64) * q2)) + (q3 + ((8 : Int64) * q4))) - (q3 + ((8 : Int64) * q4))))]
  refine own_ldc2 G0 d3_188 (hw _ (List.mem_of_getElem? (i := 11) rfl)) ?_
  show ownGo _ _ _ _ _ _ _ T0 191 #[.val (.ref a1), .val (.long q1), .second, .val (.long q2), .second, .val (.long q3), .second, .val (.long q4), .second] [(.long (8 : Int64)), (.long q1), (.long (((q1 + ((8 : Int64) * q2)) + (q3 + ((8 : Int64) * q4))) - (q3 + ((8 : Int64) * q4))))]
  refine own_lloadN G0 d3_191 rfl ?_
  show ownGo _ _ _ _ _ _ _ T0 192 #[.val (.ref a1), .val (.long q1), .second, .val (.long q2), .second, .val (.long q3), .second, .val (.long q4), .second] [(.long q2), (.long (8 : Int64)), (.long q1), (.long (((q1 + ((8 : Int64) * q2)) + (q3 + ((8 : Int64) * q4))) - (q3 + ((8 : Int64) * q4))))]
  refine own_lmul G0 d3_192 ?_
  show ownGo _ _ _ _ _ _ _ T0 193 #[.val (.ref a1), .val (.long q1), .second, .val (.long q2), .second, .val (.long q3), .second, .val (.long q4), .second] [(.long ((8 : Int64) * q2)), (.long q1), (.long (((q1 + ((8 : Int64) * q2)) + (q3 + ((8 : Int64) * q4))) - (q3 + ((8 : Int64) * q4))))]
  refine own_ladd G0 d3_193 ?_
  show ownGo _ _ _ _ _ _ _ T0 194 #[.val (.ref a1), .val (.long q1), .second, .val (.long q2), .second, .val (.long q3), .second, .val (.long q4), .second] [(.long (q1 + ((8 : Int64) * q2))), (.long (((q1 + ((8 : Int64) * q2)) + (q3 + ((8 : Int64) * q4))) - (q3 + ((8 : Int64) * q4))))]
  refine own_lcif_ne G0 d3_194 d3_195 (pc' := 227) (by decide) (by decide) (fun hc => False.elim (hc (Int64.add_sub_cancel _ _))) (fun hc => ?_)
  show ownGo _ _ _ _ _ _ _ T0 198 #[.val (.ref a1), .val (.long q1), .second, .val (.long q2), .second, .val (.long q3), .second, .val (.long q4), .second] []
  refine own_aloadN G0 d3_198 rfl rfl ?_
  show ownGo _ _ _ _ _ _ _ T0 199 #[.val (.ref a1), .val (.long q1), .second, .val (.long q2), .second, .val (.long q3), .second, .val (.long q4), .second] [(.ref a1)]
  refine own_bipush G0 d3_199 ?_
  show ownGo _ _ _ _ _ _ _ T0 201 #[.val (.ref a1), .val (.long q1), .second, .val (.long q2), .second, .val (.long q3), .second, .val (.long q4), .second] [(.int (9 : Int32)), (.ref a1)]
  refine own_laload G0 d3_201 (v := (.long ((q1 + ((9 : Int64) * q2)) + (q3 + ((9 : Int64) * q4))))) A1 (i := 9) (by decide) rfl ?_
  show ownGo _ _ _ _ _ _ _ T0 202 #[.val (.ref a1), .val (.long q1), .second, .val (.long q2), .second, .val (.long q3), .second, .val (.long q4), .second] [(.long ((q1 + ((9 : Int64) * q2)) + (q3 + ((9 : Int64) * q4))))]
  refine own_lload G0 d3_202 rfl ?_
  show ownGo _ _ _ _ _ _ _ T0 204 #[.val (.ref a1), .val (.long q1), .second, .val (.long q2), .second, .val (.long q3), .second, .val (.long q4), .second] [(.long q3), (.long ((q1 + ((9 : Int64) * q2)) + (q3 + ((9 : Int64) * q4))))]
  refine own_ldc2 G0 d3_204 (hw _ (List.mem_of_getElem? (i := 12) rfl)) ?_
  show ownGo _ _ _ _ _ _ _ T0 207 #[.val (.ref a1), .val (.long q1), .second, .val (.long q2), .second, .val (.long q3), .second, .val (.long q4), .second] [(.long (9 : Int64)), (.long q3), (.long ((q1 + ((9 : Int64) * q2)) + (q3 + ((9 : Int64) * q4))))]
  refine own_lload G0 d3_207 rfl ?_
  show ownGo _ _ _ _ _ _ _ T0 209 #[.val (.ref a1), .val (.long q1), .second, .val (.long q2), .second, .val (.long q3), .second, .val (.long q4), .second] [(.long q4), (.long (9 : Int64)), (.long q3), (.long ((q1 + ((9 : Int64) * q2)) + (q3 + ((9 : Int64) * q4))))]
  refine own_lmul G0 d3_209 ?_
  show ownGo _ _ _ _ _ _ _ T0 210 #[.val (.ref a1), .val (.long q1), .second, .val (.long q2), .second, .val (.long q3), .second, .val (.long q4), .second] [(.long ((9 : Int64) * q4)), (.long q3), (.long ((q1 + ((9 : Int64) * q2)) + (q3 + ((9 : Int64) * q4))))]
  refine own_ladd G0 d3_210 ?_
  show ownGo _ _ _ _ _ _ _ T0 211 #[.val (.ref a1), .val (.long q1), .second, .val (.long q2), .second, .val (.long q3), .second, .val (.long q4), .second] [(.long (q3 + ((9 : Int64) * q4))), (.long ((q1 + ((9 : Int64) * q2)) + (q3 + ((9 : Int64) * q4))))]
  refine own_lsub G0 d3_211 ?_
  show ownGo _ _ _ _ _ _ _ T0 212 #[.val (.ref a1), .val (.long q1), .second, .val (.long q2), .second, .val (.long q3), .second, .val (.long q4), .second] [(.long (((q1 + ((9 : Int64) * q2)) + (q3 + ((9 : Int64) * q4))) - (q3 + ((9 : Int64) * q4))))]
  refine own_lloadN G0 d3_212 rfl ?_
  show ownGo _ _ _ _ _ _ _ T0 213 #[.val (.ref a1), .val (.long q1), .second, .val (.long q2), .second, .val (.long q3), .second, .val (.long q4), .second] [(.long q1), (.long (((q1 + ((9 : Int64) * q2)) + (q3 + ((9 : Int64) * q4))) - (q3 + ((9 : Int64) * q4))))]
  refine own_ldc2 G0 d3_213 (hw _ (List.mem_of_getElem? (i := 12) rfl)) ?_
  show ownGo _ _ _ _ _ _ _ T0 216 #[.val (.ref a1), .val (.long q1), .second, .val (.long q2), .second, .val (.long q3), .second, .val (.long q4), .second] [(.long (9 : Int64)), (.long q1), (.long (((q1 + ((9 : Int64) * q2)) + (q3 + ((9 : Int64) * q4))) - (q3 + ((9 : Int64) * q4))))]
  refine own_lloadN G0 d3_216 rfl ?_
  show ownGo _ _ _ _ _ _ _ T0 217 #[.val (.ref a1), .val (.long q1), .second, .val (.long q2), .second, .val (.long q3), .second, .val (.long q4), .second] [(.long q2), (.long (9 : Int64)), (.long q1), (.long (((q1 + ((9 : Int64) * q2)) + (q3 + ((9 : Int64) * q4))) - (q3 + ((9 : Int64) * q4))))]
  refine own_lmul G0 d3_217 ?_
  show ownGo _ _ _ _ _ _ _ T0 218 #[.val (.ref a1), .val (.long q1), .second, .val (.long q2), .second, .val (.long q3), .second, .val (.long q4), .second] [(.long ((9 : Int64) * q2)), (.long q1), (.long (((q1 + ((9 : Int64) * q2)) + (q3 + ((9 : Int64) * q4))) - (q3 + ((9 : Int64) * q4))))]
  refine own_ladd G0 d3_218 ?_
  show ownGo _ _ _ _ _ _ _ T0 219 #[.val (.ref a1), .val (.long q1), .second, .val (.long q2), .second, .val (.long q3), .second, .val (.long q4), .second] [(.long (q1 + ((9 : Int64) * q2))), (.long (((q1 + ((9 : Int64) * q2)) + (q3 + ((9 : Int64) * q4))) - (q3 + ((9 : Int64) * q4))))]
  refine own_lcif_ne G0 d3_219 d3_220 (pc' := 227) (by decide) (by decide) (fun hc => False.elim (hc (Int64.add_sub_cancel _ _))) (fun hc => ?_)
  show ownGo _ _ _ _ _ _ _ T0 223 #[.val (.ref a1), .val (.long q1), .second, .val (.long q2), .second, .val (.long q3), .second, .val (.long q4), .second] []
  refine own_iconst G0 d3_223 ?_
  show ownGo _ _ _ _ _ _ _ T0 224 #[.val (.ref a1), .val (.long q1), .second, .val (.long q2), .second, .val (.long q3), .second, .val (.long q4), .second] [(.int (1 : Int32))]
  refine own_goto G0 d3_224 (pc' := 228) (by decide) (by decide) ?_
  show ownGo _ _ _ _ _ _ _ T0 228 #[.val (.ref a1), .val (.long q1), .second, .val (.long q2), .second, .val (.long q3), .second, .val (.long q4), .second] [(.int (1 : Int32))]
  exact own_zreturn G0 d3_228 rfl (by decide) (by decide) ⟨rfl, rfl⟩
theorem pn_rmIs : plainFor (⟨"io/quorumfold/crypto/Field25519AddPinLaw", "isSeq", "([JJJ)Z"⟩ : MethodName) = true := plainFor_of_name (by first | (simp [plainName, overriddenIn]; done) | decide +kernel)
theorem ef_rmIs (m : MethodId) (a1 : Addr) (q1 : Int64) (q2 : Int64) : entryFrame m #[(.ref a1), (.long q1), (.long q2)] 5 = mkF m 0 #[.val (.ref a1), .val (.long q1), .second, .val (.long q2), .second] [] := by first | (simp [entryFrame, mkF, argsToLocals, Value.category]; done) | rfl
set_option maxRecDepth 65536 in
set_option maxHeartbeats 40000000 in
theorem rmIs (l : Launch) (Z : State) (a0 : Array Value) (hw : ∀ d ∈ tables_1, d.before a0 Z = true) (a1 : Addr) (q1 q2 : Int64) (h0 : Heap) (n0 : Nat) (Z0 : n0 ≤ h0.size) (A1 : ownArr Z h0 a1 .long 10 (fun j => .long (ownSeq q1 q2 j))) :
    ownMet l [] (⟨"io/quorumfold/crypto/Field25519AddPinLaw", "isSeq", "([JJJ)Z"⟩ : MethodName) method_3_code 5 (some .boolean) ({ frames := 0, cells := 0, slots := 0, locals := 0 } : Room) Z n0 #[(.ref a1), (.long q1), (.long q2)] h0 (fun v h => v = some (.int 1) ∧ h0 = h) := by
  refine own_body (own := "io/quorumfold/crypto/Field25519AddPinLaw") (nm := "isSeq") pn_rmIs (fun m => ef_rmIs m a1 q1 q2) rfl rfl ?_
  intro p e s m below meth c T0 G0
  show ownGo _ _ _ _ _ _ _ T0 0 #[.val (.ref a1), .val (.long q1), .second, .val (.long q2), .second] []
  refine own_aloadN G0 d4_0 rfl rfl ?_
  show ownGo _ _ _ _ _ _ _ T0 1 #[.val (.ref a1), .val (.long q1), .second, .val (.long q2), .second] [(.ref a1)]
  refine own_iconst G0 d4_1 ?_
  show ownGo _ _ _ _ _ _ _ T0 2 #[.val (.ref a1), .val (.long q1), .second, .val (.long q2), .second] [(.int (0 : Int32)), (.ref a1)]
  refine own_laload G0 d4_2 (v := (.long q1)) A1 (i := 0) (by decide) rfl ?_
  show ownGo _ _ _ _ _ _ _ T0 3 #[.val (.ref a1), .val (.long q1), .second, .val (.long q2), .second] [(.long q1)]
  refine own_lloadN G0 d4_3 rfl ?_
  show ownGo _ _ _ _ _ _ _ T0 4 #[.val (.ref a1), .val (.long q1), .second, .val (.long q2), .second] [(.long q1), (.long q1)]
  refine own_lcif_ne G0 d4_4 d4_5 (pc' := 138) (by decide) (by decide) (fun hc => False.elim (hc rfl)) (fun hc => ?_)
  show ownGo _ _ _ _ _ _ _ T0 8 #[.val (.ref a1), .val (.long q1), .second, .val (.long q2), .second] []
  refine own_aloadN G0 d4_8 rfl rfl ?_
  show ownGo _ _ _ _ _ _ _ T0 9 #[.val (.ref a1), .val (.long q1), .second, .val (.long q2), .second] [(.ref a1)]
  refine own_iconst G0 d4_9 ?_
  show ownGo _ _ _ _ _ _ _ T0 10 #[.val (.ref a1), .val (.long q1), .second, .val (.long q2), .second] [(.int (1 : Int32)), (.ref a1)]
  refine own_laload G0 d4_10 (v := (.long (q1 + q2))) A1 (i := 1) (by decide) rfl ?_
  show ownGo _ _ _ _ _ _ _ T0 11 #[.val (.ref a1), .val (.long q1), .second, .val (.long q2), .second] [(.long (q1 + q2))]
  refine own_lloadN G0 d4_11 rfl ?_
  show ownGo _ _ _ _ _ _ _ T0 12 #[.val (.ref a1), .val (.long q1), .second, .val (.long q2), .second] [(.long q1), (.long (q1 + q2))]
  refine own_lloadN G0 d4_12 rfl ?_
  show ownGo _ _ _ _ _ _ _ T0 13 #[.val (.ref a1), .val (.long q1), .second, .val (.long q2), .second] [(.long q2), (.long q1), (.long (q1 + q2))]
  refine own_ladd G0 d4_13 ?_
  show ownGo _ _ _ _ _ _ _ T0 14 #[.val (.ref a1), .val (.long q1), .second, .val (.long q2), .second] [(.long (q1 + q2)), (.long (q1 + q2))]
  refine own_lcif_ne G0 d4_14 d4_15 (pc' := 138) (by decide) (by decide) (fun hc => False.elim (hc rfl)) (fun hc => ?_)
  show ownGo _ _ _ _ _ _ _ T0 18 #[.val (.ref a1), .val (.long q1), .second, .val (.long q2), .second] []
  refine own_aloadN G0 d4_18 rfl rfl ?_
  show ownGo _ _ _ _ _ _ _ T0 19 #[.val (.ref a1), .val (.long q1), .second, .val (.long q2), .second] [(.ref a1)]
  refine own_iconst G0 d4_19 ?_
  show ownGo _ _ _ _ _ _ _ T0 20 #[.val (.ref a1), .val (.long q1), .second, .val (.long q2), .second] [(.int (2 : Int32)), (.ref a1)]
  refine own_laload G0 d4_20 (v := (.long (q1 + ((2 : Int64) * q2)))) A1 (i := 2) (by decide) rfl ?_
  show ownGo _ _ _ _ _ _ _ T0 21 #[.val (.ref a1), .val (.long q1), .second, .val (.long q2), .second] [(.long (q1 + ((2 : Int64) * q2)))]
  refine own_lloadN G0 d4_21 rfl ?_
  show ownGo _ _ _ _ _ _ _ T0 22 #[.val (.ref a1), .val (.long q1), .second, .val (.long q2), .second] [(.long q1), (.long (q1 + ((2 : Int64) * q2)))]
  refine own_ldc2 G0 d4_22 (hw _ (List.mem_of_getElem? (i := 5) rfl)) ?_
  show ownGo _ _ _ _ _ _ _ T0 25 #[.val (.ref a1), .val (.long q1), .second, .val (.long q2), .second] [(.long (2 : Int64)), (.long q1), (.long (q1 + ((2 : Int64) * q2)))]
  refine own_lloadN G0 d4_25 rfl ?_
  show ownGo _ _ _ _ _ _ _ T0 26 #[.val (.ref a1), .val (.long q1), .second, .val (.long q2), .second] [(.long q2), (.long (2 : Int64)), (.long q1), (.long (q1 + ((2 : Int64) * q2)))]
  refine own_lmul G0 d4_26 ?_
  show ownGo _ _ _ _ _ _ _ T0 27 #[.val (.ref a1), .val (.long q1), .second, .val (.long q2), .second] [(.long ((2 : Int64) * q2)), (.long q1), (.long (q1 + ((2 : Int64) * q2)))]
  refine own_ladd G0 d4_27 ?_
  show ownGo _ _ _ _ _ _ _ T0 28 #[.val (.ref a1), .val (.long q1), .second, .val (.long q2), .second] [(.long (q1 + ((2 : Int64) * q2))), (.long (q1 + ((2 : Int64) * q2)))]
  refine own_lcif_ne G0 d4_28 d4_29 (pc' := 138) (by decide) (by decide) (fun hc => False.elim (hc rfl)) (fun hc => ?_)
  show ownGo _ _ _ _ _ _ _ T0 32 #[.val (.ref a1), .val (.long q1), .second, .val (.long q2), .second] []
  refine own_aloadN G0 d4_32 rfl rfl ?_
  show ownGo _ _ _ _ _ _ _ T0 33 #[.val (.ref a1), .val (.long q1), .second, .val (.long q2), .second] [(.ref a1)]
  refine own_iconst G0 d4_33 ?_
  show ownGo _ _ _ _ _ _ _ T0 34 #[.val (.ref a1), .val (.long q1), .second, .val (.long q2), .second] [(.int (3 : Int32)), (.ref a1)]
  refine own_laload G0 d4_34 (v := (.long (q1 + ((3 : Int64) * q2)))) A1 (i := 3) (by decide) rfl ?_
  show ownGo _ _ _ _ _ _ _ T0 35 #[.val (.ref a1), .val (.long q1), .second, .val (.long q2), .second] [(.long (q1 + ((3 : Int64) * q2)))]
  refine own_lloadN G0 d4_35 rfl ?_
  show ownGo _ _ _ _ _ _ _ T0 36 #[.val (.ref a1), .val (.long q1), .second, .val (.long q2), .second] [(.long q1), (.long (q1 + ((3 : Int64) * q2)))]
  refine own_ldc2 G0 d4_36 (hw _ (List.mem_of_getElem? (i := 6) rfl)) ?_
  show ownGo _ _ _ _ _ _ _ T0 39 #[.val (.ref a1), .val (.long q1), .second, .val (.long q2), .second] [(.long (3 : Int64)), (.long q1), (.long (q1 + ((3 : Int64) * q2)))]
  refine own_lloadN G0 d4_39 rfl ?_
  show ownGo _ _ _ _ _ _ _ T0 40 #[.val (.ref a1), .val (.long q1), .second, .val (.long q2), .second] [(.long q2), (.long (3 : Int64)), (.long q1), (.long (q1 + ((3 : Int64) * q2)))]
  refine own_lmul G0 d4_40 ?_
  show ownGo _ _ _ _ _ _ _ T0 41 #[.val (.ref a1), .val (.long q1), .second, .val (.long q2), .second] [(.long ((3 : Int64) * q2)), (.long q1), (.long (q1 + ((3 : Int64) * q2)))]
  refine own_ladd G0 d4_41 ?_
  show ownGo _ _ _ _ _ _ _ T0 42 #[.val (.ref a1), .val (.long q1), .second, .val (.long q2), .second] [(.long (q1 + ((3 : Int64) * q2))), (.long (q1 + ((3 : Int64) * q2)))]
  refine own_lcif_ne G0 d4_42 d4_43 (pc' := 138) (by decide) (by decide) (fun hc => False.elim (hc rfl)) (fun hc => ?_)
  show ownGo _ _ _ _ _ _ _ T0 46 #[.val (.ref a1), .val (.long q1), .second, .val (.long q2), .second] []
  refine own_aloadN G0 d4_46 rfl rfl ?_
  show ownGo _ _ _ _ _ _ _ T0 47 #[.val (.ref a1), .val (.long q1), .second, .val (.long q2), .second] [(.ref a1)]
  refine own_iconst G0 d4_47 ?_
  show ownGo _ _ _ _ _ _ _ T0 48 #[.val (.ref a1), .val (.long q1), .second, .val (.long q2), .second] [(.int (4 : Int32)), (.ref a1)]
  refine own_laload G0 d4_48 (v := (.long (q1 + ((4 : Int64) * q2)))) A1 (i := 4) (by decide) rfl ?_
  show ownGo _ _ _ _ _ _ _ T0 49 #[.val (.ref a1), .val (.long q1), .second, .val (.long q2), .second] [(.long (q1 + ((4 : Int64) * q2)))]
  refine own_lloadN G0 d4_49 rfl ?_
  show ownGo _ _ _ _ _ _ _ T0 50 #[.val (.ref a1), .val (.long q1), .second, .val (.long q2), .second] [(.long q1), (.long (q1 + ((4 : Int64) * q2)))]
  refine own_ldc2 G0 d4_50 (hw _ (List.mem_of_getElem? (i := 7) rfl)) ?_
  show ownGo _ _ _ _ _ _ _ T0 53 #[.val (.ref a1), .val (.long q1), .second, .val (.long q2), .second] [(.long (4 : Int64)), (.long q1), (.long (q1 + ((4 : Int64) * q2)))]
  refine own_lloadN G0 d4_53 rfl ?_
  show ownGo _ _ _ _ _ _ _ T0 54 #[.val (.ref a1), .val (.long q1), .second, .val (.long q2), .second] [(.long q2), (.long (4 : Int64)), (.long q1), (.long (q1 + ((4 : Int64) * q2)))]
  refine own_lmul G0 d4_54 ?_
  show ownGo _ _ _ _ _ _ _ T0 55 #[.val (.ref a1), .val (.long q1), .second, .val (.long q2), .second] [(.long ((4 : Int64) * q2)), (.long q1), (.long (q1 + ((4 : Int64) * q2)))]
  refine own_ladd G0 d4_55 ?_
  show ownGo _ _ _ _ _ _ _ T0 56 #[.val (.ref a1), .val (.long q1), .second, .val (.long q2), .second] [(.long (q1 + ((4 : Int64) * q2))), (.long (q1 + ((4 : Int64) * q2)))]
  refine own_lcif_ne G0 d4_56 d4_57 (pc' := 138) (by decide) (by decide) (fun hc => False.elim (hc rfl)) (fun hc => ?_)
  show ownGo _ _ _ _ _ _ _ T0 60 #[.val (.ref a1), .val (.long q1), .second, .val (.long q2), .second] []
  refine own_aloadN G0 d4_60 rfl rfl ?_
  show ownGo _ _ _ _ _ _ _ T0 61 #[.val (.ref a1), .val (.long q1), .second, .val (.long q2), .second] [(.ref a1)]
  refine own_iconst G0 d4_61 ?_
  show ownGo _ _ _ _ _ _ _ T0 62 #[.val (.ref a1), .val (.long q1), .second, .val (.long q2), .second] [(.int (5 : Int32)), (.ref a1)]
  refine own_laload G0 d4_62 (v := (.long (q1 + ((5 : Int64) * q2)))) A1 (i := 5) (by decide) rfl ?_
  show ownGo _ _ _ _ _ _ _ T0 63 #[.val (.ref a1), .val (.long q1), .second, .val (.long q2), .second] [(.long (q1 + ((5 : Int64) * q2)))]
  refine own_lloadN G0 d4_63 rfl ?_
  show ownGo _ _ _ _ _ _ _ T0 64 #[.val (.ref a1), .val (.long q1), .second, .val (.long q2), .second] [(.long q1), (.long (q1 + ((5 : Int64) * q2)))]
  refine own_ldc2 G0 d4_64 (hw _ (List.mem_of_getElem? (i := 8) rfl)) ?_
  show ownGo _ _ _ _ _ _ _ T0 67 #[.val (.ref a1), .val (.long q1), .second, .val (.long q2), .second] [(.long (5 : Int64)), (.long q1), (.long (q1 + ((5 : Int64) * q2)))]
  refine own_lloadN G0 d4_67 rfl ?_
  show ownGo _ _ _ _ _ _ _ T0 68 #[.val (.ref a1), .val (.long q1), .second, .val (.long q2), .second] [(.long q2), (.long (5 : Int64)), (.long q1), (.long (q1 + ((5 : Int64) * q2)))]
  refine own_lmul G0 d4_68 ?_
  show ownGo _ _ _ _ _ _ _ T0 69 #[.val (.ref a1), .val (.long q1), .second, .val (.long q2), .second] [(.long ((5 : Int64) * q2)), (.long q1), (.long (q1 + ((5 : Int64) * q2)))]
  refine own_ladd G0 d4_69 ?_
  show ownGo _ _ _ _ _ _ _ T0 70 #[.val (.ref a1), .val (.long q1), .second, .val (.long q2), .second] [(.long (q1 + ((5 : Int64) * q2))), (.long (q1 + ((5 : Int64) * q2)))]
  refine own_lcif_ne G0 d4_70 d4_71 (pc' := 138) (by decide) (by decide) (fun hc => False.elim (hc rfl)) (fun hc => ?_)
  show ownGo _ _ _ _ _ _ _ T0 74 #[.val (.ref a1), .val (.long q1), .second, .val (.long q2), .second] []
  refine own_aloadN G0 d4_74 rfl rfl ?_
  show ownGo _ _ _ _ _ _ _ T0 75 #[.val (.ref a1), .val (.long q1), .second, .val (.long q2), .second] [(.ref a1)]
  refine own_bipush G0 d4_75 ?_
  show ownGo _ _ _ _ _ _ _ T0 77 #[.val (.ref a1), .val (.long q1), .second, .val (.long q2), .second] [(.int (6 : Int32)), (.ref a1)]
  refine own_laload G0 d4_77 (v := (.long (q1 + ((6 : Int64) * q2)))) A1 (i := 6) (by decide) rfl ?_
  show ownGo _ _ _ _ _ _ _ T0 78 #[.val (.ref a1), .val (.long q1), .second, .val (.long q2), .second] [(.long (q1 + ((6 : Int64) * q2)))]
  refine own_lloadN G0 d4_78 rfl ?_
  show ownGo _ _ _ _ _ _ _ T0 79 #[.val (.ref a1), .val (.long q1), .second, .val (.long q2), .second] [(.long q1), (.long (q1 + ((6 : Int64) * q2)))]
  refine own_ldc2 G0 d4_79 (hw _ (List.mem_of_getElem? (i := 9) rfl)) ?_
  show ownGo _ _ _ _ _ _ _ T0 82 #[.val (.ref a1), .val (.long q1), .second, .val (.long q2), .second] [(.long (6 : Int64)), (.long q1), (.long (q1 + ((6 : Int64) * q2)))]
  refine own_lloadN G0 d4_82 rfl ?_
  show ownGo _ _ _ _ _ _ _ T0 83 #[.val (.ref a1), .val (.long q1), .second, .val (.long q2), .second] [(.long q2), (.long (6 : Int64)), (.long q1), (.long (q1 + ((6 : Int64) * q2)))]
  refine own_lmul G0 d4_83 ?_
  show ownGo _ _ _ _ _ _ _ T0 84 #[.val (.ref a1), .val (.long q1), .second, .val (.long q2), .second] [(.long ((6 : Int64) * q2)), (.long q1), (.long (q1 + ((6 : Int64) * q2)))]
  refine own_ladd G0 d4_84 ?_
  show ownGo _ _ _ _ _ _ _ T0 85 #[.val (.ref a1), .val (.long q1), .second, .val (.long q2), .second] [(.long (q1 + ((6 : Int64) * q2))), (.long (q1 + ((6 : Int64) * q2)))]
  refine own_lcif_ne G0 d4_85 d4_86 (pc' := 138) (by decide) (by decide) (fun hc => False.elim (hc rfl)) (fun hc => ?_)
  show ownGo _ _ _ _ _ _ _ T0 89 #[.val (.ref a1), .val (.long q1), .second, .val (.long q2), .second] []
  refine own_aloadN G0 d4_89 rfl rfl ?_
  show ownGo _ _ _ _ _ _ _ T0 90 #[.val (.ref a1), .val (.long q1), .second, .val (.long q2), .second] [(.ref a1)]
  refine own_bipush G0 d4_90 ?_
  show ownGo _ _ _ _ _ _ _ T0 92 #[.val (.ref a1), .val (.long q1), .second, .val (.long q2), .second] [(.int (7 : Int32)), (.ref a1)]
  refine own_laload G0 d4_92 (v := (.long (q1 + ((7 : Int64) * q2)))) A1 (i := 7) (by decide) rfl ?_
  show ownGo _ _ _ _ _ _ _ T0 93 #[.val (.ref a1), .val (.long q1), .second, .val (.long q2), .second] [(.long (q1 + ((7 : Int64) * q2)))]
  refine own_lloadN G0 d4_93 rfl ?_
  show ownGo _ _ _ _ _ _ _ T0 94 #[.val (.ref a1), .val (.long q1), .second, .val (.long q2), .second] [(.long q1), (.long (q1 + ((7 : Int64) * q2)))]
  refine own_ldc2 G0 d4_94 (hw _ (List.mem_of_getElem? (i := 10) rfl)) ?_
  show ownGo _ _ _ _ _ _ _ T0 97 #[.val (.ref a1), .val (.long q1), .second, .val (.long q2), .second] [(.long (7 : Int64)), (.long q1), (.long (q1 + ((7 : Int64) * q2)))]
  refine own_lloadN G0 d4_97 rfl ?_
  show ownGo _ _ _ _ _ _ _ T0 98 #[.val (.ref a1), .val (.long q1), .second, .val (.long q2), .second] [(.long q2), (.long (7 : Int64)), (.long q1), (.long (q1 + ((7 : Int64) * q2)))]
  refine own_lmul G0 d4_98 ?_
  show ownGo _ _ _ _ _ _ _ T0 99 #[.val (.ref a1), .val (.long q1), .second, .val (.long q2), .second] [(.long ((7 : Int64) * q2)), (.long q1), (.long (q1 + ((7 : Int64) * q2)))]
  refine own_ladd G0 d4_99 ?_
  show ownGo _ _ _ _ _ _ _ T0 100 #[.val (.ref a1), .val (.long q1), .second, .val (.long q2), .second] [(.long (q1 + ((7 : Int64) * q2))), (.long (q1 + ((7 : Int64) * q2)))]
  refine own_lcif_ne G0 d4_100 d4_101 (pc' := 138) (by decide) (by decide) (fun hc => False.elim (hc rfl)) (fun hc => ?_)
  show ownGo _ _ _ _ _ _ _ T0 104 #[.val (.ref a1), .val (.long q1), .second, .val (.long q2), .second] []
  refine own_aloadN G0 d4_104 rfl rfl ?_
  show ownGo _ _ _ _ _ _ _ T0 105 #[.val (.ref a1), .val (.long q1), .second, .val (.long q2), .second] [(.ref a1)]
  refine own_bipush G0 d4_105 ?_
  show ownGo _ _ _ _ _ _ _ T0 107 #[.val (.ref a1), .val (.long q1), .second, .val (.long q2), .second] [(.int (8 : Int32)), (.ref a1)]
  refine own_laload G0 d4_107 (v := (.long (q1 + ((8 : Int64) * q2)))) A1 (i := 8) (by decide) rfl ?_
  show ownGo _ _ _ _ _ _ _ T0 108 #[.val (.ref a1), .val (.long q1), .second, .val (.long q2), .second] [(.long (q1 + ((8 : Int64) * q2)))]
  refine own_lloadN G0 d4_108 rfl ?_
  show ownGo _ _ _ _ _ _ _ T0 109 #[.val (.ref a1), .val (.long q1), .second, .val (.long q2), .second] [(.long q1), (.long (q1 + ((8 : Int64) * q2)))]
  refine own_ldc2 G0 d4_109 (hw _ (List.mem_of_getElem? (i := 11) rfl)) ?_
  show ownGo _ _ _ _ _ _ _ T0 112 #[.val (.ref a1), .val (.long q1), .second, .val (.long q2), .second] [(.long (8 : Int64)), (.long q1), (.long (q1 + ((8 : Int64) * q2)))]
  refine own_lloadN G0 d4_112 rfl ?_
  show ownGo _ _ _ _ _ _ _ T0 113 #[.val (.ref a1), .val (.long q1), .second, .val (.long q2), .second] [(.long q2), (.long (8 : Int64)), (.long q1), (.long (q1 + ((8 : Int64) * q2)))]
  refine own_lmul G0 d4_113 ?_
  show ownGo _ _ _ _ _ _ _ T0 114 #[.val (.ref a1), .val (.long q1), .second, .val (.long q2), .second] [(.long ((8 : Int64) * q2)), (.long q1), (.long (q1 + ((8 : Int64) * q2)))]
  refine own_ladd G0 d4_114 ?_
  show ownGo _ _ _ _ _ _ _ T0 115 #[.val (.ref a1), .val (.long q1), .second, .val (.long q2), .second] [(.long (q1 + ((8 : Int64) * q2))), (.long (q1 + ((8 : Int64) * q2)))]
  refine own_lcif_ne G0 d4_115 d4_116 (pc' := 138) (by decide) (by decide) (fun hc => False.elim (hc rfl)) (fun hc => ?_)
  show ownGo _ _ _ _ _ _ _ T0 119 #[.val (.ref a1), .val (.long q1), .second, .val (.long q2), .second] []
  refine own_aloadN G0 d4_119 rfl rfl ?_
  show ownGo _ _ _ _ _ _ _ T0 120 #[.val (.ref a1), .val (.long q1), .second, .val (.long q2), .second] [(.ref a1)]
  refine own_bipush G0 d4_120 ?_
  show ownGo _ _ _ _ _ _ _ T0 122 #[.val (.ref a1), .val (.long q1), .second, .val (.long q2), .second] [(.int (9 : Int32)), (.ref a1)]
  refine own_laload G0 d4_122 (v := (.long (q1 + ((9 : Int64) * q2)))) A1 (i := 9) (by decide) rfl ?_
  show ownGo _ _ _ _ _ _ _ T0 123 #[.val (.ref a1), .val (.long q1), .second, .val (.long q2), .second] [(.long (q1 + ((9 : Int64) * q2)))]
  refine own_lloadN G0 d4_123 rfl ?_
  show ownGo _ _ _ _ _ _ _ T0 124 #[.val (.ref a1), .val (.long q1), .second, .val (.long q2), .second] [(.long q1), (.long (q1 + ((9 : Int64) * q2)))]
  refine own_ldc2 G0 d4_124 (hw _ (List.mem_of_getElem? (i := 12) rfl)) ?_
  show ownGo _ _ _ _ _ _ _ T0 127 #[.val (.ref a1), .val (.long q1), .second, .val (.long q2), .second] [(.long (9 : Int64)), (.long q1), (.long (q1 + ((9 : Int64) * q2)))]
  refine own_lloadN G0 d4_127 rfl ?_
  show ownGo _ _ _ _ _ _ _ T0 128 #[.val (.ref a1), .val (.long q1), .second, .val (.long q2), .second] [(.long q2), (.long (9 : Int64)), (.long q1), (.long (q1 + ((9 : Int64) * q2)))]
  refine own_lmul G0 d4_128 ?_
  show ownGo _ _ _ _ _ _ _ T0 129 #[.val (.ref a1), .val (.long q1), .second, .val (.long q2), .second] [(.long ((9 : Int64) * q2)), (.long q1), (.long (q1 + ((9 : Int64) * q2)))]
  refine own_ladd G0 d4_129 ?_
  show ownGo _ _ _ _ _ _ _ T0 130 #[.val (.ref a1), .val (.long q1), .second, .val (.long q2), .second] [(.long (q1 + ((9 : Int64) * q2))), (.long (q1 + ((9 : Int64) * q2)))]
  refine own_lcif_ne G0 d4_130 d4_131 (pc' := 138) (by decide) (by decide) (fun hc => False.elim (hc rfl)) (fun hc => ?_)
  show ownGo _ _ _ _ _ _ _ T0 134 #[.val (.ref a1), .val (.long q1), .second, .val (.long q2), .second] []
  refine own_iconst G0 d4_134 ?_
  show ownGo _ _ _ _ _ _ _ T0 135 #[.val (.ref a1), .val (.long q1), .second, .val (.long q2), .second] [(.int (1 : Int32))]
  refine own_goto G0 d4_135 (pc' := 139) (by decide) (by decide) ?_
  show ownGo _ _ _ _ _ _ _ T0 139 #[.val (.ref a1), .val (.long q1), .second, .val (.long q2), .second] [(.int (1 : Int32))]
  exact own_zreturn G0 d4_139 rfl (by decide) (by decide) ⟨rfl, rfl⟩
theorem pn_rm0 : plainFor (⟨"io/quorumfold/crypto/Field25519AddPinLaw", "law", "(JJJJJJ)Z"⟩ : MethodName) = true := plainFor_of_name (by first | (simp [plainName, overriddenIn]; done) | decide +kernel)
theorem ef_rm0 (m : MethodId) (q1 : Int64) (q2 : Int64) (q3 : Int64) (q4 : Int64) (q5 : Int64) (q6 : Int64) : entryFrame m #[(.long q1), (.long q2), (.long q3), (.long q4), (.long q5), (.long q6)] maxLocals = mkF m 0 #[.val (.long q1), .second, .val (.long q2), .second, .val (.long q3), .second, .val (.long q4), .second, .val (.long q5), .second, .val (.long q6), .second, .unset, .unset, .unset, .unset, .unset, .unset, .unset, .unset] [] := by first | (simp [entryFrame, mkF, argsToLocals, Value.category, maxLocals]; done) | rfl
set_option maxRecDepth 65536 in
set_option maxHeartbeats 40000000 in
theorem rm0 (l : Launch) (Z : State) (a0 : Array Value) (hw : ∀ d ∈ tables_1, d.before a0 Z = true) (q1 q2 q3 q4 q5 q6 : Int64) (h0 : Heap) (n0 : Nat) (Z0 : n0 ≤ h0.size) :
    ownMet l tables_1 x code maxLocals ret room_1 Z n0 #[(.long q1), (.long q2), (.long q3), (.long q4), (.long q5), (.long q6)] h0 (fun v h => v = some (.int 1)) := by
  refine own_body (own := "io/quorumfold/crypto/Field25519AddPinLaw") (nm := "law") pn_rm0 (fun m => ef_rm0 m q1 q2 q3 q4 q5 q6) rfl rfl ?_
  intro p e s m below meth c T0 G0
  show ownGo _ _ _ _ _ _ _ T0 0 #[.val (.long q1), .second, .val (.long q2), .second, .val (.long q3), .second, .val (.long q4), .second, .val (.long q5), .second, .val (.long q6), .second, .unset, .unset, .unset, .unset, .unset, .unset, .unset, .unset] []
  refine own_lloadN G0 at_0 rfl ?_
  show ownGo _ _ _ _ _ _ _ T0 1 #[.val (.long q1), .second, .val (.long q2), .second, .val (.long q3), .second, .val (.long q4), .second, .val (.long q5), .second, .val (.long q6), .second, .unset, .unset, .unset, .unset, .unset, .unset, .unset, .unset] [(.long q1)]
  refine own_lloadN G0 at_1 rfl ?_
  show ownGo _ _ _ _ _ _ _ T0 2 #[.val (.long q1), .second, .val (.long q2), .second, .val (.long q3), .second, .val (.long q4), .second, .val (.long q5), .second, .val (.long q6), .second, .unset, .unset, .unset, .unset, .unset, .unset, .unset, .unset] [(.long q2), (.long q1)]
  refine own_callS G0 at_2 (y := (⟨"io/quorumfold/crypto/Field25519AddPinLaw", "seq", "(JJ)[J"⟩ : MethodName)) (hw _ (List.mem_of_getElem? (i := 0) rfl)) (hw _ (List.mem_of_getElem? (i := 1) rfl)) (hw _ (List.mem_of_getElem? (i := 2) rfl)) (hw _ (List.mem_of_getElem? (i := 3) rfl)) (by decide) (argsL := [(.long q1), (.long q2)]) (rest := []) (rmSeq l Z a0 hw q1 q2 h0 n0 Z0) rfl rfl rfl (lenOf pd_0 rfl) (W := 0) (Nat.le_of_eq rfl) (by decide) (by decide) (by decide) (by decide) ?_
  intro v22 T22 h22 hq22 G22
  obtain ⟨x1, rfl, s1, K1, A1⟩ := hq22
  show ownGo _ _ _ _ _ _ _ T22 5 #[.val (.long q1), .second, .val (.long q2), .second, .val (.long q3), .second, .val (.long q4), .second, .val (.long q5), .second, .val (.long q6), .second, .unset, .unset, .unset, .unset, .unset, .unset, .unset, .unset] [(.ref x1)]
  have f1 : n0 ≤ x1 := Nat.le_trans Z0 s1
  have Y1 : n0 ≤ h22.size := Nat.le_trans Z0 K1.1
  refine own_astore G22 at_5 (L' := #[.val (.long q1), .second, .val (.long q2), .second, .val (.long q3), .second, .val (.long q4), .second, .val (.long q5), .second, .val (.long q6), .second, .val (.ref x1), .unset, .unset, .unset, .unset, .unset, .unset, .unset]) rfl rfl ?_
  show ownGo _ _ _ _ _ _ _ T22 7 #[.val (.long q1), .second, .val (.long q2), .second, .val (.long q3), .second, .val (.long q4), .second, .val (.long q5), .second, .val (.long q6), .second, .val (.ref x1), .unset, .unset, .unset, .unset, .unset, .unset, .unset] []
  refine own_lload G22 at_7 rfl ?_
  show ownGo _ _ _ _ _ _ _ T22 9 #[.val (.long q1), .second, .val (.long q2), .second, .val (.long q3), .second, .val (.long q4), .second, .val (.long q5), .second, .val (.long q6), .second, .val (.ref x1), .unset, .unset, .unset, .unset, .unset, .unset, .unset] [(.long q3)]
  refine own_lload G22 at_9 rfl ?_
  show ownGo _ _ _ _ _ _ _ T22 11 #[.val (.long q1), .second, .val (.long q2), .second, .val (.long q3), .second, .val (.long q4), .second, .val (.long q5), .second, .val (.long q6), .second, .val (.ref x1), .unset, .unset, .unset, .unset, .unset, .unset, .unset] [(.long q4), (.long q3)]
  refine own_callS G22 at_11 (y := (⟨"io/quorumfold/crypto/Field25519AddPinLaw", "seq", "(JJ)[J"⟩ : MethodName)) (hw _ (List.mem_of_getElem? (i := 0) rfl)) (hw _ (List.mem_of_getElem? (i := 1) rfl)) (hw _ (List.mem_of_getElem? (i := 2) rfl)) (hw _ (List.mem_of_getElem? (i := 3) rfl)) (by decide) (argsL := [(.long q3), (.long q4)]) (rest := []) (rmSeq l Z a0 hw q3 q4 h22 n0 Y1) rfl rfl rfl (lenOf pd_0 rfl) (W := 0) (Nat.le_of_eq rfl) (by decide) (by decide) (by decide) (by decide) ?_
  intro v23 T23 h23 hq23 G23
  obtain ⟨x2, rfl, s2, K2, A2⟩ := hq23
  show ownGo _ _ _ _ _ _ _ T23 14 #[.val (.long q1), .second, .val (.long q2), .second, .val (.long q3), .second, .val (.long q4), .second, .val (.long q5), .second, .val (.long q6), .second, .val (.ref x1), .unset, .unset, .unset, .unset, .unset, .unset, .unset] [(.ref x2)]
  have f2 : n0 ≤ x2 := Nat.le_trans Y1 s2
  have Y2 : n0 ≤ h23.size := Nat.le_trans Y1 K2.1
  have n1_2 : x1 ≠ x2 := Nat.ne_of_lt (Nat.lt_of_lt_of_le A1.lt s2)
  replace A1 := A1.keep K2 nin0
  refine own_astore G23 at_14 (L' := #[.val (.long q1), .second, .val (.long q2), .second, .val (.long q3), .second, .val (.long q4), .second, .val (.long q5), .second, .val (.long q6), .second, .val (.ref x1), .val (.ref x2), .unset, .unset, .unset, .unset, .unset, .unset]) rfl rfl ?_
  show ownGo _ _ _ _ _ _ _ T23 16 #[.val (.long q1), .second, .val (.long q2), .second, .val (.long q3), .second, .val (.long q4), .second, .val (.long q5), .second, .val (.long q6), .second, .val (.ref x1), .val (.ref x2), .unset, .unset, .unset, .unset, .unset, .unset] []
  refine own_lload G23 at_16 rfl ?_
  show ownGo _ _ _ _ _ _ _ T23 18 #[.val (.long q1), .second, .val (.long q2), .second, .val (.long q3), .second, .val (.long q4), .second, .val (.long q5), .second, .val (.long q6), .second, .val (.ref x1), .val (.ref x2), .unset, .unset, .unset, .unset, .unset, .unset] [(.long q5)]
  refine own_lload G23 at_18 rfl ?_
  show ownGo _ _ _ _ _ _ _ T23 20 #[.val (.long q1), .second, .val (.long q2), .second, .val (.long q3), .second, .val (.long q4), .second, .val (.long q5), .second, .val (.long q6), .second, .val (.ref x1), .val (.ref x2), .unset, .unset, .unset, .unset, .unset, .unset] [(.long q6), (.long q5)]
  refine own_callS G23 at_20 (y := (⟨"io/quorumfold/crypto/Field25519AddPinLaw", "seq", "(JJ)[J"⟩ : MethodName)) (hw _ (List.mem_of_getElem? (i := 0) rfl)) (hw _ (List.mem_of_getElem? (i := 1) rfl)) (hw _ (List.mem_of_getElem? (i := 2) rfl)) (hw _ (List.mem_of_getElem? (i := 3) rfl)) (by decide) (argsL := [(.long q5), (.long q6)]) (rest := []) (rmSeq l Z a0 hw q5 q6 h23 n0 Y2) rfl rfl rfl (lenOf pd_0 rfl) (W := 0) (Nat.le_of_eq rfl) (by decide) (by decide) (by decide) (by decide) ?_
  intro v24 T24 h24 hq24 G24
  obtain ⟨x3, rfl, s3, K3, A3⟩ := hq24
  show ownGo _ _ _ _ _ _ _ T24 23 #[.val (.long q1), .second, .val (.long q2), .second, .val (.long q3), .second, .val (.long q4), .second, .val (.long q5), .second, .val (.long q6), .second, .val (.ref x1), .val (.ref x2), .unset, .unset, .unset, .unset, .unset, .unset] [(.ref x3)]
  have f3 : n0 ≤ x3 := Nat.le_trans Y2 s3
  have Y3 : n0 ≤ h24.size := Nat.le_trans Y2 K3.1
  have n1_3 : x1 ≠ x3 := Nat.ne_of_lt (Nat.lt_of_lt_of_le A1.lt s3)
  replace A1 := A1.keep K3 nin0
  have n2_3 : x2 ≠ x3 := Nat.ne_of_lt (Nat.lt_of_lt_of_le A2.lt s3)
  replace A2 := A2.keep K3 nin0
  refine own_astore G24 at_23 (L' := #[.val (.long q1), .second, .val (.long q2), .second, .val (.long q3), .second, .val (.long q4), .second, .val (.long q5), .second, .val (.long q6), .second, .val (.ref x1), .val (.ref x2), .val (.ref x3), .unset, .unset, .unset, .unset, .unset]) rfl rfl ?_
  show ownGo _ _ _ _ _ _ _ T24 25 #[.val (.long q1), .second, .val (.long q2), .second, .val (.long q3), .second, .val (.long q4), .second, .val (.long q5), .second, .val (.long q6), .second, .val (.ref x1), .val (.ref x2), .val (.ref x3), .unset, .unset, .unset, .unset, .unset] []
  refine own_lloadN G24 at_25 rfl ?_
  show ownGo _ _ _ _ _ _ _ T24 26 #[.val (.long q1), .second, .val (.long q2), .second, .val (.long q3), .second, .val (.long q4), .second, .val (.long q5), .second, .val (.long q6), .second, .val (.ref x1), .val (.ref x2), .val (.ref x3), .unset, .unset, .unset, .unset, .unset] [(.long q1)]
  refine own_lloadN G24 at_26 rfl ?_
  show ownGo _ _ _ _ _ _ _ T24 27 #[.val (.long q1), .second, .val (.long q2), .second, .val (.long q3), .second, .val (.long q4), .second, .val (.long q5), .second, .val (.long q6), .second, .val (.ref x1), .val (.ref x2), .val (.ref x3), .unset, .unset, .unset, .unset, .unset] [(.long q2), (.long q1)]
  refine own_callS G24 at_27 (y := (⟨"io/quorumfold/crypto/Field25519AddPinLaw", "seq", "(JJ)[J"⟩ : MethodName)) (hw _ (List.mem_of_getElem? (i := 0) rfl)) (hw _ (List.mem_of_getElem? (i := 1) rfl)) (hw _ (List.mem_of_getElem? (i := 2) rfl)) (hw _ (List.mem_of_getElem? (i := 3) rfl)) (by decide) (argsL := [(.long q1), (.long q2)]) (rest := []) (rmSeq l Z a0 hw q1 q2 h24 n0 Y3) rfl rfl rfl (lenOf pd_0 rfl) (W := 0) (Nat.le_of_eq rfl) (by decide) (by decide) (by decide) (by decide) ?_
  intro v25 T25 h25 hq25 G25
  obtain ⟨x4, rfl, s4, K4, A4⟩ := hq25
  show ownGo _ _ _ _ _ _ _ T25 30 #[.val (.long q1), .second, .val (.long q2), .second, .val (.long q3), .second, .val (.long q4), .second, .val (.long q5), .second, .val (.long q6), .second, .val (.ref x1), .val (.ref x2), .val (.ref x3), .unset, .unset, .unset, .unset, .unset] [(.ref x4)]
  have f4 : n0 ≤ x4 := Nat.le_trans Y3 s4
  have Y4 : n0 ≤ h25.size := Nat.le_trans Y3 K4.1
  have n1_4 : x1 ≠ x4 := Nat.ne_of_lt (Nat.lt_of_lt_of_le A1.lt s4)
  replace A1 := A1.keep K4 nin0
  have n2_4 : x2 ≠ x4 := Nat.ne_of_lt (Nat.lt_of_lt_of_le A2.lt s4)
  replace A2 := A2.keep K4 nin0
  have n3_4 : x3 ≠ x4 := Nat.ne_of_lt (Nat.lt_of_lt_of_le A3.lt s4)
  replace A3 := A3.keep K4 nin0
  refine own_astore G25 at_30 (L' := #[.val (.long q1), .second, .val (.long q2), .second, .val (.long q3), .second, .val (.long q4), .second, .val (.long q5), .second, .val (.long q6), .second, .val (.ref x1), .val (.ref x2), .val (.ref x3), .val (.ref x4), .unset, .unset, .unset, .unset]) rfl rfl ?_
  show ownGo _ _ _ _ _ _ _ T25 32 #[.val (.long q1), .second, .val (.long q2), .second, .val (.long q3), .second, .val (.long q4), .second, .val (.long q5), .second, .val (.long q6), .second, .val (.ref x1), .val (.ref x2), .val (.ref x3), .val (.ref x4), .unset, .unset, .unset, .unset] []
  refine own_lload G25 at_32 rfl ?_
  show ownGo _ _ _ _ _ _ _ T25 34 #[.val (.long q1), .second, .val (.long q2), .second, .val (.long q3), .second, .val (.long q4), .second, .val (.long q5), .second, .val (.long q6), .second, .val (.ref x1), .val (.ref x2), .val (.ref x3), .val (.ref x4), .unset, .unset, .unset, .unset] [(.long q3)]
  refine own_lload G25 at_34 rfl ?_
  show ownGo _ _ _ _ _ _ _ T25 36 #[.val (.long q1), .second, .val (.long q2), .second, .val (.long q3), .second, .val (.long q4), .second, .val (.long q5), .second, .val (.long q6), .second, .val (.ref x1), .val (.ref x2), .val (.ref x3), .val (.ref x4), .unset, .unset, .unset, .unset] [(.long q4), (.long q3)]
  refine own_callS G25 at_36 (y := (⟨"io/quorumfold/crypto/Field25519AddPinLaw", "seq", "(JJ)[J"⟩ : MethodName)) (hw _ (List.mem_of_getElem? (i := 0) rfl)) (hw _ (List.mem_of_getElem? (i := 1) rfl)) (hw _ (List.mem_of_getElem? (i := 2) rfl)) (hw _ (List.mem_of_getElem? (i := 3) rfl)) (by decide) (argsL := [(.long q3), (.long q4)]) (rest := []) (rmSeq l Z a0 hw q3 q4 h25 n0 Y4) rfl rfl rfl (lenOf pd_0 rfl) (W := 0) (Nat.le_of_eq rfl) (by decide) (by decide) (by decide) (by decide) ?_
  intro v26 T26 h26 hq26 G26
  obtain ⟨x5, rfl, s5, K5, A5⟩ := hq26
  show ownGo _ _ _ _ _ _ _ T26 39 #[.val (.long q1), .second, .val (.long q2), .second, .val (.long q3), .second, .val (.long q4), .second, .val (.long q5), .second, .val (.long q6), .second, .val (.ref x1), .val (.ref x2), .val (.ref x3), .val (.ref x4), .unset, .unset, .unset, .unset] [(.ref x5)]
  have f5 : n0 ≤ x5 := Nat.le_trans Y4 s5
  have Y5 : n0 ≤ h26.size := Nat.le_trans Y4 K5.1
  have n1_5 : x1 ≠ x5 := Nat.ne_of_lt (Nat.lt_of_lt_of_le A1.lt s5)
  replace A1 := A1.keep K5 nin0
  have n2_5 : x2 ≠ x5 := Nat.ne_of_lt (Nat.lt_of_lt_of_le A2.lt s5)
  replace A2 := A2.keep K5 nin0
  have n3_5 : x3 ≠ x5 := Nat.ne_of_lt (Nat.lt_of_lt_of_le A3.lt s5)
  replace A3 := A3.keep K5 nin0
  have n4_5 : x4 ≠ x5 := Nat.ne_of_lt (Nat.lt_of_lt_of_le A4.lt s5)
  replace A4 := A4.keep K5 nin0
  refine own_astore G26 at_39 (L' := #[.val (.long q1), .second, .val (.long q2), .second, .val (.long q3), .second, .val (.long q4), .second, .val (.long q5), .second, .val (.long q6), .second, .val (.ref x1), .val (.ref x2), .val (.ref x3), .val (.ref x4), .val (.ref x5), .unset, .unset, .unset]) rfl rfl ?_
  show ownGo _ _ _ _ _ _ _ T26 41 #[.val (.long q1), .second, .val (.long q2), .second, .val (.long q3), .second, .val (.long q4), .second, .val (.long q5), .second, .val (.long q6), .second, .val (.ref x1), .val (.ref x2), .val (.ref x3), .val (.ref x4), .val (.ref x5), .unset, .unset, .unset] []
  refine own_lloadN G26 at_41 rfl ?_
  show ownGo _ _ _ _ _ _ _ T26 42 #[.val (.long q1), .second, .val (.long q2), .second, .val (.long q3), .second, .val (.long q4), .second, .val (.long q5), .second, .val (.long q6), .second, .val (.ref x1), .val (.ref x2), .val (.ref x3), .val (.ref x4), .val (.ref x5), .unset, .unset, .unset] [(.long q1)]
  refine own_lloadN G26 at_42 rfl ?_
  show ownGo _ _ _ _ _ _ _ T26 43 #[.val (.long q1), .second, .val (.long q2), .second, .val (.long q3), .second, .val (.long q4), .second, .val (.long q5), .second, .val (.long q6), .second, .val (.ref x1), .val (.ref x2), .val (.ref x3), .val (.ref x4), .val (.ref x5), .unset, .unset, .unset] [(.long q2), (.long q1)]
  refine own_callS G26 at_43 (y := (⟨"io/quorumfold/crypto/Field25519AddPinLaw", "seq", "(JJ)[J"⟩ : MethodName)) (hw _ (List.mem_of_getElem? (i := 0) rfl)) (hw _ (List.mem_of_getElem? (i := 1) rfl)) (hw _ (List.mem_of_getElem? (i := 2) rfl)) (hw _ (List.mem_of_getElem? (i := 3) rfl)) (by decide) (argsL := [(.long q1), (.long q2)]) (rest := []) (rmSeq l Z a0 hw q1 q2 h26 n0 Y5) rfl rfl rfl (lenOf pd_0 rfl) (W := 0) (Nat.le_of_eq rfl) (by decide) (by decide) (by decide) (by decide) ?_
  intro v27 T27 h27 hq27 G27
  obtain ⟨x6, rfl, s6, K6, A6⟩ := hq27
  show ownGo _ _ _ _ _ _ _ T27 46 #[.val (.long q1), .second, .val (.long q2), .second, .val (.long q3), .second, .val (.long q4), .second, .val (.long q5), .second, .val (.long q6), .second, .val (.ref x1), .val (.ref x2), .val (.ref x3), .val (.ref x4), .val (.ref x5), .unset, .unset, .unset] [(.ref x6)]
  have f6 : n0 ≤ x6 := Nat.le_trans Y5 s6
  have Y6 : n0 ≤ h27.size := Nat.le_trans Y5 K6.1
  have n1_6 : x1 ≠ x6 := Nat.ne_of_lt (Nat.lt_of_lt_of_le A1.lt s6)
  replace A1 := A1.keep K6 nin0
  have n2_6 : x2 ≠ x6 := Nat.ne_of_lt (Nat.lt_of_lt_of_le A2.lt s6)
  replace A2 := A2.keep K6 nin0
  have n3_6 : x3 ≠ x6 := Nat.ne_of_lt (Nat.lt_of_lt_of_le A3.lt s6)
  replace A3 := A3.keep K6 nin0
  have n4_6 : x4 ≠ x6 := Nat.ne_of_lt (Nat.lt_of_lt_of_le A4.lt s6)
  replace A4 := A4.keep K6 nin0
  have n5_6 : x5 ≠ x6 := Nat.ne_of_lt (Nat.lt_of_lt_of_le A5.lt s6)
  replace A5 := A5.keep K6 nin0
  refine own_astore G27 at_46 (L' := #[.val (.long q1), .second, .val (.long q2), .second, .val (.long q3), .second, .val (.long q4), .second, .val (.long q5), .second, .val (.long q6), .second, .val (.ref x1), .val (.ref x2), .val (.ref x3), .val (.ref x4), .val (.ref x5), .val (.ref x6), .unset, .unset]) rfl rfl ?_
  show ownGo _ _ _ _ _ _ _ T27 48 #[.val (.long q1), .second, .val (.long q2), .second, .val (.long q3), .second, .val (.long q4), .second, .val (.long q5), .second, .val (.long q6), .second, .val (.ref x1), .val (.ref x2), .val (.ref x3), .val (.ref x4), .val (.ref x5), .val (.ref x6), .unset, .unset] []
  refine own_lload G27 at_48 rfl ?_
  show ownGo _ _ _ _ _ _ _ T27 50 #[.val (.long q1), .second, .val (.long q2), .second, .val (.long q3), .second, .val (.long q4), .second, .val (.long q5), .second, .val (.long q6), .second, .val (.ref x1), .val (.ref x2), .val (.ref x3), .val (.ref x4), .val (.ref x5), .val (.ref x6), .unset, .unset] [(.long q3)]
  refine own_lload G27 at_50 rfl ?_
  show ownGo _ _ _ _ _ _ _ T27 52 #[.val (.long q1), .second, .val (.long q2), .second, .val (.long q3), .second, .val (.long q4), .second, .val (.long q5), .second, .val (.long q6), .second, .val (.ref x1), .val (.ref x2), .val (.ref x3), .val (.ref x4), .val (.ref x5), .val (.ref x6), .unset, .unset] [(.long q4), (.long q3)]
  refine own_callS G27 at_52 (y := (⟨"io/quorumfold/crypto/Field25519AddPinLaw", "seq", "(JJ)[J"⟩ : MethodName)) (hw _ (List.mem_of_getElem? (i := 0) rfl)) (hw _ (List.mem_of_getElem? (i := 1) rfl)) (hw _ (List.mem_of_getElem? (i := 2) rfl)) (hw _ (List.mem_of_getElem? (i := 3) rfl)) (by decide) (argsL := [(.long q3), (.long q4)]) (rest := []) (rmSeq l Z a0 hw q3 q4 h27 n0 Y6) rfl rfl rfl (lenOf pd_0 rfl) (W := 0) (Nat.le_of_eq rfl) (by decide) (by decide) (by decide) (by decide) ?_
  intro v28 T28 h28 hq28 G28
  obtain ⟨x7, rfl, s7, K7, A7⟩ := hq28
  show ownGo _ _ _ _ _ _ _ T28 55 #[.val (.long q1), .second, .val (.long q2), .second, .val (.long q3), .second, .val (.long q4), .second, .val (.long q5), .second, .val (.long q6), .second, .val (.ref x1), .val (.ref x2), .val (.ref x3), .val (.ref x4), .val (.ref x5), .val (.ref x6), .unset, .unset] [(.ref x7)]
  have f7 : n0 ≤ x7 := Nat.le_trans Y6 s7
  have Y7 : n0 ≤ h28.size := Nat.le_trans Y6 K7.1
  have n1_7 : x1 ≠ x7 := Nat.ne_of_lt (Nat.lt_of_lt_of_le A1.lt s7)
  replace A1 := A1.keep K7 nin0
  have n2_7 : x2 ≠ x7 := Nat.ne_of_lt (Nat.lt_of_lt_of_le A2.lt s7)
  replace A2 := A2.keep K7 nin0
  have n3_7 : x3 ≠ x7 := Nat.ne_of_lt (Nat.lt_of_lt_of_le A3.lt s7)
  replace A3 := A3.keep K7 nin0
  have n4_7 : x4 ≠ x7 := Nat.ne_of_lt (Nat.lt_of_lt_of_le A4.lt s7)
  replace A4 := A4.keep K7 nin0
  have n5_7 : x5 ≠ x7 := Nat.ne_of_lt (Nat.lt_of_lt_of_le A5.lt s7)
  replace A5 := A5.keep K7 nin0
  have n6_7 : x6 ≠ x7 := Nat.ne_of_lt (Nat.lt_of_lt_of_le A6.lt s7)
  replace A6 := A6.keep K7 nin0
  refine own_astore G28 at_55 (L' := #[.val (.long q1), .second, .val (.long q2), .second, .val (.long q3), .second, .val (.long q4), .second, .val (.long q5), .second, .val (.long q6), .second, .val (.ref x1), .val (.ref x2), .val (.ref x3), .val (.ref x4), .val (.ref x5), .val (.ref x6), .val (.ref x7), .unset]) rfl rfl ?_
  show ownGo _ _ _ _ _ _ _ T28 57 #[.val (.long q1), .second, .val (.long q2), .second, .val (.long q3), .second, .val (.long q4), .second, .val (.long q5), .second, .val (.long q6), .second, .val (.ref x1), .val (.ref x2), .val (.ref x3), .val (.ref x4), .val (.ref x5), .val (.ref x6), .val (.ref x7), .unset] []
  refine own_aload G28 at_57 rfl rfl ?_
  show ownGo _ _ _ _ _ _ _ T28 59 #[.val (.long q1), .second, .val (.long q2), .second, .val (.long q3), .second, .val (.long q4), .second, .val (.long q5), .second, .val (.long q6), .second, .val (.ref x1), .val (.ref x2), .val (.ref x3), .val (.ref x4), .val (.ref x5), .val (.ref x6), .val (.ref x7), .unset] [(.ref x3)]
  refine own_aload G28 at_59 rfl rfl ?_
  show ownGo _ _ _ _ _ _ _ T28 61 #[.val (.long q1), .second, .val (.long q2), .second, .val (.long q3), .second, .val (.long q4), .second, .val (.long q5), .second, .val (.long q6), .second, .val (.ref x1), .val (.ref x2), .val (.ref x3), .val (.ref x4), .val (.ref x5), .val (.ref x6), .val (.ref x7), .unset] [(.ref x1), (.ref x3)]
  refine own_aload G28 at_61 rfl rfl ?_
  show ownGo _ _ _ _ _ _ _ T28 63 #[.val (.long q1), .second, .val (.long q2), .second, .val (.long q3), .second, .val (.long q4), .second, .val (.long q5), .second, .val (.long q6), .second, .val (.ref x1), .val (.ref x2), .val (.ref x3), .val (.ref x4), .val (.ref x5), .val (.ref x6), .val (.ref x7), .unset] [(.ref x2), (.ref x1), (.ref x3)]
  refine own_callS G28 at_63 (y := (⟨"io/quorumfold/crypto/Field25519", "add", "([J[J[J)V"⟩ : MethodName)) (hw _ (List.mem_of_getElem? (i := 13) rfl)) (hw _ (List.mem_of_getElem? (i := 14) rfl)) (hw _ (List.mem_of_getElem? (i := 15) rfl)) (hw _ (List.mem_of_getElem? (i := 16) rfl)) (by decide) (argsL := [(.ref x3), (.ref x1), (.ref x2)]) (rest := []) (rmAdd l Z a0 hw x3 x1 x2 (ownSeq q5 q6) (ownSeq q1 q2) (ownSeq q3 q4) h28 n0 Y7 A3 A1 A2 f3) rfl rfl rfl (lenOf pd_1 rfl) (W := 0) (Nat.le_of_eq rfl) (by decide) (by decide) (by decide) (by decide) ?_
  intro v30 T30 h30 hq30 G30
  obtain ⟨rfl, L29, B⟩ := hq30
  show ownGo _ _ _ _ _ _ _ T30 66 #[.val (.long q1), .second, .val (.long q2), .second, .val (.long q3), .second, .val (.long q4), .second, .val (.long q5), .second, .val (.long q6), .second, .val (.ref x1), .val (.ref x2), .val (.ref x3), .val (.ref x4), .val (.ref x5), .val (.ref x6), .val (.ref x7), .unset] []
  replace A1 := A1.keep L29 (ninS n1_3 nin0)
  replace A2 := A2.keep L29 (ninS n2_3 nin0)
  replace A4 := A4.keep L29 (ninS n3_4.symm nin0)
  replace A5 := A5.keep L29 (ninS n3_5.symm nin0)
  replace A6 := A6.keep L29 (ninS n3_6.symm nin0)
  replace A7 := A7.keep L29 (ninS n3_7.symm nin0)
  replace A3 := B
  have Y29 : n0 ≤ h30.size := Nat.le_trans Y7 L29.1
  refine own_aload G30 at_66 rfl rfl ?_
  show ownGo _ _ _ _ _ _ _ T30 68 #[.val (.long q1), .second, .val (.long q2), .second, .val (.long q3), .second, .val (.long q4), .second, .val (.long q5), .second, .val (.long q6), .second, .val (.ref x1), .val (.ref x2), .val (.ref x3), .val (.ref x4), .val (.ref x5), .val (.ref x6), .val (.ref x7), .unset] [(.ref x3)]
  refine own_lloadN G30 at_68 rfl ?_
  show ownGo _ _ _ _ _ _ _ T30 69 #[.val (.long q1), .second, .val (.long q2), .second, .val (.long q3), .second, .val (.long q4), .second, .val (.long q5), .second, .val (.long q6), .second, .val (.ref x1), .val (.ref x2), .val (.ref x3), .val (.ref x4), .val (.ref x5), .val (.ref x6), .val (.ref x7), .unset] [(.long q1), (.ref x3)]
  refine own_lloadN G30 at_69 rfl ?_
  show ownGo _ _ _ _ _ _ _ T30 70 #[.val (.long q1), .second, .val (.long q2), .second, .val (.long q3), .second, .val (.long q4), .second, .val (.long q5), .second, .val (.long q6), .second, .val (.ref x1), .val (.ref x2), .val (.ref x3), .val (.ref x4), .val (.ref x5), .val (.ref x6), .val (.ref x7), .unset] [(.long q2), (.long q1), (.ref x3)]
  refine own_lload G30 at_70 rfl ?_
  show ownGo _ _ _ _ _ _ _ T30 72 #[.val (.long q1), .second, .val (.long q2), .second, .val (.long q3), .second, .val (.long q4), .second, .val (.long q5), .second, .val (.long q6), .second, .val (.ref x1), .val (.ref x2), .val (.ref x3), .val (.ref x4), .val (.ref x5), .val (.ref x6), .val (.ref x7), .unset] [(.long q3), (.long q2), (.long q1), (.ref x3)]
  refine own_lload G30 at_72 rfl ?_
  show ownGo _ _ _ _ _ _ _ T30 74 #[.val (.long q1), .second, .val (.long q2), .second, .val (.long q3), .second, .val (.long q4), .second, .val (.long q5), .second, .val (.long q6), .second, .val (.ref x1), .val (.ref x2), .val (.ref x3), .val (.ref x4), .val (.ref x5), .val (.ref x6), .val (.ref x7), .unset] [(.long q4), (.long q3), (.long q2), (.long q1), (.ref x3)]
  refine own_callS G30 at_74 (y := (⟨"io/quorumfold/crypto/Field25519AddPinLaw", "isSum", "([JJJJJ)Z"⟩ : MethodName)) (hw _ (List.mem_of_getElem? (i := 17) rfl)) (hw _ (List.mem_of_getElem? (i := 18) rfl)) (hw _ (List.mem_of_getElem? (i := 2) rfl)) (hw _ (List.mem_of_getElem? (i := 19) rfl)) (by decide) (argsL := [(.ref x3), (.long q1), (.long q2), (.long q3), (.long q4)]) (rest := []) (rmSum l Z a0 hw x3 q1 q2 q3 q4 h30 n0 Y29 A3) rfl rfl rfl (lenOf pd_2 rfl) (W := 0) (Nat.le_of_eq rfl) (by decide) (by decide) (by decide) (by decide) ?_
  intro v31 T31 h31 hq31 G31
  obtain ⟨rfl, rfl⟩ := hq31
  show ownGo _ _ _ _ _ _ _ T31 77 #[.val (.long q1), .second, .val (.long q2), .second, .val (.long q3), .second, .val (.long q4), .second, .val (.long q5), .second, .val (.long q6), .second, .val (.ref x1), .val (.ref x2), .val (.ref x3), .val (.ref x4), .val (.ref x5), .val (.ref x6), .val (.ref x7), .unset] [(.int (1 : Int32))]
  refine own_if_eq G31 at_77 (pc' := 106) (by decide) (by decide) (fun hc => False.elim (absurd hc (by decide))) (fun hc => ?_)
  show ownGo _ _ _ _ _ _ _ T31 80 #[.val (.long q1), .second, .val (.long q2), .second, .val (.long q3), .second, .val (.long q4), .second, .val (.long q5), .second, .val (.long q6), .second, .val (.ref x1), .val (.ref x2), .val (.ref x3), .val (.ref x4), .val (.ref x5), .val (.ref x6), .val (.ref x7), .unset] []
  refine own_aload G31 at_80 rfl rfl ?_
  show ownGo _ _ _ _ _ _ _ T31 82 #[.val (.long q1), .second, .val (.long q2), .second, .val (.long q3), .second, .val (.long q4), .second, .val (.long q5), .second, .val (.long q6), .second, .val (.ref x1), .val (.ref x2), .val (.ref x3), .val (.ref x4), .val (.ref x5), .val (.ref x6), .val (.ref x7), .unset] [(.ref x1)]
  refine own_lloadN G31 at_82 rfl ?_
  show ownGo _ _ _ _ _ _ _ T31 83 #[.val (.long q1), .second, .val (.long q2), .second, .val (.long q3), .second, .val (.long q4), .second, .val (.long q5), .second, .val (.long q6), .second, .val (.ref x1), .val (.ref x2), .val (.ref x3), .val (.ref x4), .val (.ref x5), .val (.ref x6), .val (.ref x7), .unset] [(.long q1), (.ref x1)]
  refine own_lloadN G31 at_83 rfl ?_
  show ownGo _ _ _ _ _ _ _ T31 84 #[.val (.long q1), .second, .val (.long q2), .second, .val (.long q3), .second, .val (.long q4), .second, .val (.long q5), .second, .val (.long q6), .second, .val (.ref x1), .val (.ref x2), .val (.ref x3), .val (.ref x4), .val (.ref x5), .val (.ref x6), .val (.ref x7), .unset] [(.long q2), (.long q1), (.ref x1)]
  refine own_callS G31 at_84 (y := (⟨"io/quorumfold/crypto/Field25519AddPinLaw", "isSeq", "([JJJ)Z"⟩ : MethodName)) (hw _ (List.mem_of_getElem? (i := 20) rfl)) (hw _ (List.mem_of_getElem? (i := 21) rfl)) (hw _ (List.mem_of_getElem? (i := 2) rfl)) (hw _ (List.mem_of_getElem? (i := 22) rfl)) (by decide) (argsL := [(.ref x1), (.long q1), (.long q2)]) (rest := []) (rmIs l Z a0 hw x1 q1 q2 h30 n0 Y29 A1) rfl rfl rfl (lenOf pd_3 rfl) (W := 0) (Nat.le_of_eq rfl) (by decide) (by decide) (by decide) (by decide) ?_
  intro v32 T32 h32 hq32 G32
  obtain ⟨rfl, rfl⟩ := hq32
  show ownGo _ _ _ _ _ _ _ T32 87 #[.val (.long q1), .second, .val (.long q2), .second, .val (.long q3), .second, .val (.long q4), .second, .val (.long q5), .second, .val (.long q6), .second, .val (.ref x1), .val (.ref x2), .val (.ref x3), .val (.ref x4), .val (.ref x5), .val (.ref x6), .val (.ref x7), .unset] [(.int (1 : Int32))]
  refine own_if_eq G32 at_87 (pc' := 106) (by decide) (by decide) (fun hc => False.elim (absurd hc (by decide))) (fun hc => ?_)
  show ownGo _ _ _ _ _ _ _ T32 90 #[.val (.long q1), .second, .val (.long q2), .second, .val (.long q3), .second, .val (.long q4), .second, .val (.long q5), .second, .val (.long q6), .second, .val (.ref x1), .val (.ref x2), .val (.ref x3), .val (.ref x4), .val (.ref x5), .val (.ref x6), .val (.ref x7), .unset] []
  refine own_aload G32 at_90 rfl rfl ?_
  show ownGo _ _ _ _ _ _ _ T32 92 #[.val (.long q1), .second, .val (.long q2), .second, .val (.long q3), .second, .val (.long q4), .second, .val (.long q5), .second, .val (.long q6), .second, .val (.ref x1), .val (.ref x2), .val (.ref x3), .val (.ref x4), .val (.ref x5), .val (.ref x6), .val (.ref x7), .unset] [(.ref x2)]
  refine own_lload G32 at_92 rfl ?_
  show ownGo _ _ _ _ _ _ _ T32 94 #[.val (.long q1), .second, .val (.long q2), .second, .val (.long q3), .second, .val (.long q4), .second, .val (.long q5), .second, .val (.long q6), .second, .val (.ref x1), .val (.ref x2), .val (.ref x3), .val (.ref x4), .val (.ref x5), .val (.ref x6), .val (.ref x7), .unset] [(.long q3), (.ref x2)]
  refine own_lload G32 at_94 rfl ?_
  show ownGo _ _ _ _ _ _ _ T32 96 #[.val (.long q1), .second, .val (.long q2), .second, .val (.long q3), .second, .val (.long q4), .second, .val (.long q5), .second, .val (.long q6), .second, .val (.ref x1), .val (.ref x2), .val (.ref x3), .val (.ref x4), .val (.ref x5), .val (.ref x6), .val (.ref x7), .unset] [(.long q4), (.long q3), (.ref x2)]
  refine own_callS G32 at_96 (y := (⟨"io/quorumfold/crypto/Field25519AddPinLaw", "isSeq", "([JJJ)Z"⟩ : MethodName)) (hw _ (List.mem_of_getElem? (i := 20) rfl)) (hw _ (List.mem_of_getElem? (i := 21) rfl)) (hw _ (List.mem_of_getElem? (i := 2) rfl)) (hw _ (List.mem_of_getElem? (i := 22) rfl)) (by decide) (argsL := [(.ref x2), (.long q3), (.long q4)]) (rest := []) (rmIs l Z a0 hw x2 q3 q4 h30 n0 Y29 A2) rfl rfl rfl (lenOf pd_3 rfl) (W := 0) (Nat.le_of_eq rfl) (by decide) (by decide) (by decide) (by decide) ?_
  intro v33 T33 h33 hq33 G33
  obtain ⟨rfl, rfl⟩ := hq33
  show ownGo _ _ _ _ _ _ _ T33 99 #[.val (.long q1), .second, .val (.long q2), .second, .val (.long q3), .second, .val (.long q4), .second, .val (.long q5), .second, .val (.long q6), .second, .val (.ref x1), .val (.ref x2), .val (.ref x3), .val (.ref x4), .val (.ref x5), .val (.ref x6), .val (.ref x7), .unset] [(.int (1 : Int32))]
  refine own_if_eq G33 at_99 (pc' := 106) (by decide) (by decide) (fun hc => False.elim (absurd hc (by decide))) (fun hc => ?_)
  show ownGo _ _ _ _ _ _ _ T33 102 #[.val (.long q1), .second, .val (.long q2), .second, .val (.long q3), .second, .val (.long q4), .second, .val (.long q5), .second, .val (.long q6), .second, .val (.ref x1), .val (.ref x2), .val (.ref x3), .val (.ref x4), .val (.ref x5), .val (.ref x6), .val (.ref x7), .unset] []
  refine own_iconst G33 at_102 ?_
  show ownGo _ _ _ _ _ _ _ T33 103 #[.val (.long q1), .second, .val (.long q2), .second, .val (.long q3), .second, .val (.long q4), .second, .val (.long q5), .second, .val (.long q6), .second, .val (.ref x1), .val (.ref x2), .val (.ref x3), .val (.ref x4), .val (.ref x5), .val (.ref x6), .val (.ref x7), .unset] [(.int (1 : Int32))]
  refine own_goto G33 at_103 (pc' := 107) (by decide) (by decide) ?_
  show ownGo _ _ _ _ _ _ _ T33 107 #[.val (.long q1), .second, .val (.long q2), .second, .val (.long q3), .second, .val (.long q4), .second, .val (.long q5), .second, .val (.long q6), .second, .val (.ref x1), .val (.ref x2), .val (.ref x3), .val (.ref x4), .val (.ref x5), .val (.ref x6), .val (.ref x7), .unset] [(.int (1 : Int32))]
  refine own_istore G33 at_107 (L' := #[.val (.long q1), .second, .val (.long q2), .second, .val (.long q3), .second, .val (.long q4), .second, .val (.long q5), .second, .val (.long q6), .second, .val (.ref x1), .val (.ref x2), .val (.ref x3), .val (.ref x4), .val (.ref x5), .val (.ref x6), .val (.ref x7), .val (.int (1 : Int32))]) rfl ?_
  show ownGo _ _ _ _ _ _ _ T33 109 #[.val (.long q1), .second, .val (.long q2), .second, .val (.long q3), .second, .val (.long q4), .second, .val (.long q5), .second, .val (.long q6), .second, .val (.ref x1), .val (.ref x2), .val (.ref x3), .val (.ref x4), .val (.ref x5), .val (.ref x6), .val (.ref x7), .val (.int (1 : Int32))] []
  refine own_aload G33 at_109 rfl rfl ?_
  show ownGo _ _ _ _ _ _ _ T33 111 #[.val (.long q1), .second, .val (.long q2), .second, .val (.long q3), .second, .val (.long q4), .second, .val (.long q5), .second, .val (.long q6), .second, .val (.ref x1), .val (.ref x2), .val (.ref x3), .val (.ref x4), .val (.ref x5), .val (.ref x6), .val (.ref x7), .val (.int (1 : Int32))] [(.ref x4)]
  refine own_aload G33 at_111 rfl rfl ?_
  show ownGo _ _ _ _ _ _ _ T33 113 #[.val (.long q1), .second, .val (.long q2), .second, .val (.long q3), .second, .val (.long q4), .second, .val (.long q5), .second, .val (.long q6), .second, .val (.ref x1), .val (.ref x2), .val (.ref x3), .val (.ref x4), .val (.ref x5), .val (.ref x6), .val (.ref x7), .val (.int (1 : Int32))] [(.ref x4), (.ref x4)]
  refine own_aload G33 at_113 rfl rfl ?_
  show ownGo _ _ _ _ _ _ _ T33 115 #[.val (.long q1), .second, .val (.long q2), .second, .val (.long q3), .second, .val (.long q4), .second, .val (.long q5), .second, .val (.long q6), .second, .val (.ref x1), .val (.ref x2), .val (.ref x3), .val (.ref x4), .val (.ref x5), .val (.ref x6), .val (.ref x7), .val (.int (1 : Int32))] [(.ref x5), (.ref x4), (.ref x4)]
  refine own_callS G33 at_115 (y := (⟨"io/quorumfold/crypto/Field25519", "add", "([J[J[J)V"⟩ : MethodName)) (hw _ (List.mem_of_getElem? (i := 13) rfl)) (hw _ (List.mem_of_getElem? (i := 14) rfl)) (hw _ (List.mem_of_getElem? (i := 15) rfl)) (hw _ (List.mem_of_getElem? (i := 16) rfl)) (by decide) (argsL := [(.ref x4), (.ref x4), (.ref x5)]) (rest := []) (rmAdd l Z a0 hw x4 x4 x5 (ownSeq q1 q2) (ownSeq q1 q2) (ownSeq q3 q4) h30 n0 Y29 A4 A4 A5 f4) rfl rfl rfl (lenOf pd_1 rfl) (W := 0) (Nat.le_of_eq rfl) (by decide) (by decide) (by decide) (by decide) ?_
  intro v35 T35 h35 hq35 G35
  obtain ⟨rfl, L34, B⟩ := hq35
  show ownGo _ _ _ _ _ _ _ T35 118 #[.val (.long q1), .second, .val (.long q2), .second, .val (.long q3), .second, .val (.long q4), .second, .val (.long q5), .second, .val (.long q6), .second, .val (.ref x1), .val (.ref x2), .val (.ref x3), .val (.ref x4), .val (.ref x5), .val (.ref x6), .val (.ref x7), .val (.int (1 : Int32))] []
  replace A1 := A1.keep L34 (ninS n1_4 nin0)
  replace A2 := A2.keep L34 (ninS n2_4 nin0)
  replace A3 := A3.keep L34 (ninS n3_4 nin0)
  replace A5 := A5.keep L34 (ninS n4_5.symm nin0)
  replace A6 := A6.keep L34 (ninS n4_6.symm nin0)
  replace A7 := A7.keep L34 (ninS n4_7.symm nin0)
  replace A4 := B
  have Y34 : n0 ≤ h35.size := Nat.le_trans Y29 L34.1
  refine own_iload G35 at_118 rfl ?_
  show ownGo _ _ _ _ _ _ _ T35 120 #[.val (.long q1), .second, .val (.long q2), .second, .val (.long q3), .second, .val (.long q4), .second, .val (.long q5), .second, .val (.long q6), .second, .val (.ref x1), .val (.ref x2), .val (.ref x3), .val (.ref x4), .val (.ref x5), .val (.ref x6), .val (.ref x7), .val (.int (1 : Int32))] [(.int (1 : Int32))]
  refine own_if_eq G35 at_120 (pc' := 153) (by decide) (by decide) (fun hc => False.elim (absurd hc (by decide))) (fun hc => ?_)
  show ownGo _ _ _ _ _ _ _ T35 123 #[.val (.long q1), .second, .val (.long q2), .second, .val (.long q3), .second, .val (.long q4), .second, .val (.long q5), .second, .val (.long q6), .second, .val (.ref x1), .val (.ref x2), .val (.ref x3), .val (.ref x4), .val (.ref x5), .val (.ref x6), .val (.ref x7), .val (.int (1 : Int32))] []
  refine own_aload G35 at_123 rfl rfl ?_
  show ownGo _ _ _ _ _ _ _ T35 125 #[.val (.long q1), .second, .val (.long q2), .second, .val (.long q3), .second, .val (.long q4), .second, .val (.long q5), .second, .val (.long q6), .second, .val (.ref x1), .val (.ref x2), .val (.ref x3), .val (.ref x4), .val (.ref x5), .val (.ref x6), .val (.ref x7), .val (.int (1 : Int32))] [(.ref x4)]
  refine own_lloadN G35 at_125 rfl ?_
  show ownGo _ _ _ _ _ _ _ T35 126 #[.val (.long q1), .second, .val (.long q2), .second, .val (.long q3), .second, .val (.long q4), .second, .val (.long q5), .second, .val (.long q6), .second, .val (.ref x1), .val (.ref x2), .val (.ref x3), .val (.ref x4), .val (.ref x5), .val (.ref x6), .val (.ref x7), .val (.int (1 : Int32))] [(.long q1), (.ref x4)]
  refine own_lloadN G35 at_126 rfl ?_
  show ownGo _ _ _ _ _ _ _ T35 127 #[.val (.long q1), .second, .val (.long q2), .second, .val (.long q3), .second, .val (.long q4), .second, .val (.long q5), .second, .val (.long q6), .second, .val (.ref x1), .val (.ref x2), .val (.ref x3), .val (.ref x4), .val (.ref x5), .val (.ref x6), .val (.ref x7), .val (.int (1 : Int32))] [(.long q2), (.long q1), (.ref x4)]
  refine own_lload G35 at_127 rfl ?_
  show ownGo _ _ _ _ _ _ _ T35 129 #[.val (.long q1), .second, .val (.long q2), .second, .val (.long q3), .second, .val (.long q4), .second, .val (.long q5), .second, .val (.long q6), .second, .val (.ref x1), .val (.ref x2), .val (.ref x3), .val (.ref x4), .val (.ref x5), .val (.ref x6), .val (.ref x7), .val (.int (1 : Int32))] [(.long q3), (.long q2), (.long q1), (.ref x4)]
  refine own_lload G35 at_129 rfl ?_
  show ownGo _ _ _ _ _ _ _ T35 131 #[.val (.long q1), .second, .val (.long q2), .second, .val (.long q3), .second, .val (.long q4), .second, .val (.long q5), .second, .val (.long q6), .second, .val (.ref x1), .val (.ref x2), .val (.ref x3), .val (.ref x4), .val (.ref x5), .val (.ref x6), .val (.ref x7), .val (.int (1 : Int32))] [(.long q4), (.long q3), (.long q2), (.long q1), (.ref x4)]
  refine own_callS G35 at_131 (y := (⟨"io/quorumfold/crypto/Field25519AddPinLaw", "isSum", "([JJJJJ)Z"⟩ : MethodName)) (hw _ (List.mem_of_getElem? (i := 17) rfl)) (hw _ (List.mem_of_getElem? (i := 18) rfl)) (hw _ (List.mem_of_getElem? (i := 2) rfl)) (hw _ (List.mem_of_getElem? (i := 19) rfl)) (by decide) (argsL := [(.ref x4), (.long q1), (.long q2), (.long q3), (.long q4)]) (rest := []) (rmSum l Z a0 hw x4 q1 q2 q3 q4 h35 n0 Y34 A4) rfl rfl rfl (lenOf pd_2 rfl) (W := 0) (Nat.le_of_eq rfl) (by decide) (by decide) (by decide) (by decide) ?_
  intro v36 T36 h36 hq36 G36
  obtain ⟨rfl, rfl⟩ := hq36
  show ownGo _ _ _ _ _ _ _ T36 134 #[.val (.long q1), .second, .val (.long q2), .second, .val (.long q3), .second, .val (.long q4), .second, .val (.long q5), .second, .val (.long q6), .second, .val (.ref x1), .val (.ref x2), .val (.ref x3), .val (.ref x4), .val (.ref x5), .val (.ref x6), .val (.ref x7), .val (.int (1 : Int32))] [(.int (1 : Int32))]
  refine own_if_eq G36 at_134 (pc' := 153) (by decide) (by decide) (fun hc => False.elim (absurd hc (by decide))) (fun hc => ?_)
  show ownGo _ _ _ _ _ _ _ T36 137 #[.val (.long q1), .second, .val (.long q2), .second, .val (.long q3), .second, .val (.long q4), .second, .val (.long q5), .second, .val (.long q6), .second, .val (.ref x1), .val (.ref x2), .val (.ref x3), .val (.ref x4), .val (.ref x5), .val (.ref x6), .val (.ref x7), .val (.int (1 : Int32))] []
  refine own_aload G36 at_137 rfl rfl ?_
  show ownGo _ _ _ _ _ _ _ T36 139 #[.val (.long q1), .second, .val (.long q2), .second, .val (.long q3), .second, .val (.long q4), .second, .val (.long q5), .second, .val (.long q6), .second, .val (.ref x1), .val (.ref x2), .val (.ref x3), .val (.ref x4), .val (.ref x5), .val (.ref x6), .val (.ref x7), .val (.int (1 : Int32))] [(.ref x5)]
  refine own_lload G36 at_139 rfl ?_
  show ownGo _ _ _ _ _ _ _ T36 141 #[.val (.long q1), .second, .val (.long q2), .second, .val (.long q3), .second, .val (.long q4), .second, .val (.long q5), .second, .val (.long q6), .second, .val (.ref x1), .val (.ref x2), .val (.ref x3), .val (.ref x4), .val (.ref x5), .val (.ref x6), .val (.ref x7), .val (.int (1 : Int32))] [(.long q3), (.ref x5)]
  refine own_lload G36 at_141 rfl ?_
  show ownGo _ _ _ _ _ _ _ T36 143 #[.val (.long q1), .second, .val (.long q2), .second, .val (.long q3), .second, .val (.long q4), .second, .val (.long q5), .second, .val (.long q6), .second, .val (.ref x1), .val (.ref x2), .val (.ref x3), .val (.ref x4), .val (.ref x5), .val (.ref x6), .val (.ref x7), .val (.int (1 : Int32))] [(.long q4), (.long q3), (.ref x5)]
  refine own_callS G36 at_143 (y := (⟨"io/quorumfold/crypto/Field25519AddPinLaw", "isSeq", "([JJJ)Z"⟩ : MethodName)) (hw _ (List.mem_of_getElem? (i := 20) rfl)) (hw _ (List.mem_of_getElem? (i := 21) rfl)) (hw _ (List.mem_of_getElem? (i := 2) rfl)) (hw _ (List.mem_of_getElem? (i := 22) rfl)) (by decide) (argsL := [(.ref x5), (.long q3), (.long q4)]) (rest := []) (rmIs l Z a0 hw x5 q3 q4 h35 n0 Y34 A5) rfl rfl rfl (lenOf pd_3 rfl) (W := 0) (Nat.le_of_eq rfl) (by decide) (by decide) (by decide) (by decide) ?_
  intro v37 T37 h37 hq37 G37
  obtain ⟨rfl, rfl⟩ := hq37
  show ownGo _ _ _ _ _ _ _ T37 146 #[.val (.long q1), .second, .val (.long q2), .second, .val (.long q3), .second, .val (.long q4), .second, .val (.long q5), .second, .val (.long q6), .second, .val (.ref x1), .val (.ref x2), .val (.ref x3), .val (.ref x4), .val (.ref x5), .val (.ref x6), .val (.ref x7), .val (.int (1 : Int32))] [(.int (1 : Int32))]
  refine own_if_eq G37 at_146 (pc' := 153) (by decide) (by decide) (fun hc => False.elim (absurd hc (by decide))) (fun hc => ?_)
  show ownGo _ _ _ _ _ _ _ T37 149 #[.val (.long q1), .second, .val (.long q2), .second, .val (.long q3), .second, .val (.long q4), .second, .val (.long q5), .second, .val (.long q6), .second, .val (.ref x1), .val (.ref x2), .val (.ref x3), .val (.ref x4), .val (.ref x5), .val (.ref x6), .val (.ref x7), .val (.int (1 : Int32))] []
  refine own_iconst G37 at_149 ?_
  show ownGo _ _ _ _ _ _ _ T37 150 #[.val (.long q1), .second, .val (.long q2), .second, .val (.long q3), .second, .val (.long q4), .second, .val (.long q5), .second, .val (.long q6), .second, .val (.ref x1), .val (.ref x2), .val (.ref x3), .val (.ref x4), .val (.ref x5), .val (.ref x6), .val (.ref x7), .val (.int (1 : Int32))] [(.int (1 : Int32))]
  refine own_goto G37 at_150 (pc' := 154) (by decide) (by decide) ?_
  show ownGo _ _ _ _ _ _ _ T37 154 #[.val (.long q1), .second, .val (.long q2), .second, .val (.long q3), .second, .val (.long q4), .second, .val (.long q5), .second, .val (.long q6), .second, .val (.ref x1), .val (.ref x2), .val (.ref x3), .val (.ref x4), .val (.ref x5), .val (.ref x6), .val (.ref x7), .val (.int (1 : Int32))] [(.int (1 : Int32))]
  refine own_istore G37 at_154 (L' := #[.val (.long q1), .second, .val (.long q2), .second, .val (.long q3), .second, .val (.long q4), .second, .val (.long q5), .second, .val (.long q6), .second, .val (.ref x1), .val (.ref x2), .val (.ref x3), .val (.ref x4), .val (.ref x5), .val (.ref x6), .val (.ref x7), .val (.int (1 : Int32))]) rfl ?_
  show ownGo _ _ _ _ _ _ _ T37 156 #[.val (.long q1), .second, .val (.long q2), .second, .val (.long q3), .second, .val (.long q4), .second, .val (.long q5), .second, .val (.long q6), .second, .val (.ref x1), .val (.ref x2), .val (.ref x3), .val (.ref x4), .val (.ref x5), .val (.ref x6), .val (.ref x7), .val (.int (1 : Int32))] []
  refine own_aload G37 at_156 rfl rfl ?_
  show ownGo _ _ _ _ _ _ _ T37 158 #[.val (.long q1), .second, .val (.long q2), .second, .val (.long q3), .second, .val (.long q4), .second, .val (.long q5), .second, .val (.long q6), .second, .val (.ref x1), .val (.ref x2), .val (.ref x3), .val (.ref x4), .val (.ref x5), .val (.ref x6), .val (.ref x7), .val (.int (1 : Int32))] [(.ref x7)]
  refine own_aload G37 at_158 rfl rfl ?_
  show ownGo _ _ _ _ _ _ _ T37 160 #[.val (.long q1), .second, .val (.long q2), .second, .val (.long q3), .second, .val (.long q4), .second, .val (.long q5), .second, .val (.long q6), .second, .val (.ref x1), .val (.ref x2), .val (.ref x3), .val (.ref x4), .val (.ref x5), .val (.ref x6), .val (.ref x7), .val (.int (1 : Int32))] [(.ref x6), (.ref x7)]
  refine own_aload G37 at_160 rfl rfl ?_
  show ownGo _ _ _ _ _ _ _ T37 162 #[.val (.long q1), .second, .val (.long q2), .second, .val (.long q3), .second, .val (.long q4), .second, .val (.long q5), .second, .val (.long q6), .second, .val (.ref x1), .val (.ref x2), .val (.ref x3), .val (.ref x4), .val (.ref x5), .val (.ref x6), .val (.ref x7), .val (.int (1 : Int32))] [(.ref x7), (.ref x6), (.ref x7)]
  refine own_callS G37 at_162 (y := (⟨"io/quorumfold/crypto/Field25519", "add", "([J[J[J)V"⟩ : MethodName)) (hw _ (List.mem_of_getElem? (i := 13) rfl)) (hw _ (List.mem_of_getElem? (i := 14) rfl)) (hw _ (List.mem_of_getElem? (i := 15) rfl)) (hw _ (List.mem_of_getElem? (i := 16) rfl)) (by decide) (argsL := [(.ref x7), (.ref x6), (.ref x7)]) (rest := []) (rmAdd l Z a0 hw x7 x6 x7 (ownSeq q3 q4) (ownSeq q1 q2) (ownSeq q3 q4) h35 n0 Y34 A7 A6 A7 f7) rfl rfl rfl (lenOf pd_1 rfl) (W := 0) (Nat.le_of_eq rfl) (by decide) (by decide) (by decide) (by decide) ?_
  intro v39 T39 h39 hq39 G39
  obtain ⟨rfl, L38, B⟩ := hq39
  show ownGo _ _ _ _ _ _ _ T39 165 #[.val (.long q1), .second, .val (.long q2), .second, .val (.long q3), .second, .val (.long q4), .second, .val (.long q5), .second, .val (.long q6), .second, .val (.ref x1), .val (.ref x2), .val (.ref x3), .val (.ref x4), .val (.ref x5), .val (.ref x6), .val (.ref x7), .val (.int (1 : Int32))] []
  replace A1 := A1.keep L38 (ninS n1_7 nin0)
  replace A2 := A2.keep L38 (ninS n2_7 nin0)
  replace A3 := A3.keep L38 (ninS n3_7 nin0)
  replace A4 := A4.keep L38 (ninS n4_7 nin0)
  replace A5 := A5.keep L38 (ninS n5_7 nin0)
  replace A6 := A6.keep L38 (ninS n6_7 nin0)
  replace A7 := B
  have Y38 : n0 ≤ h39.size := Nat.le_trans Y34 L38.1
  refine own_iload G39 at_165 rfl ?_
  show ownGo _ _ _ _ _ _ _ T39 167 #[.val (.long q1), .second, .val (.long q2), .second, .val (.long q3), .second, .val (.long q4), .second, .val (.long q5), .second, .val (.long q6), .second, .val (.ref x1), .val (.ref x2), .val (.ref x3), .val (.ref x4), .val (.ref x5), .val (.ref x6), .val (.ref x7), .val (.int (1 : Int32))] [(.int (1 : Int32))]
  refine own_if_eq G39 at_167 (pc' := 198) (by decide) (by decide) (fun hc => False.elim (absurd hc (by decide))) (fun hc => ?_)
  show ownGo _ _ _ _ _ _ _ T39 170 #[.val (.long q1), .second, .val (.long q2), .second, .val (.long q3), .second, .val (.long q4), .second, .val (.long q5), .second, .val (.long q6), .second, .val (.ref x1), .val (.ref x2), .val (.ref x3), .val (.ref x4), .val (.ref x5), .val (.ref x6), .val (.ref x7), .val (.int (1 : Int32))] []
  refine own_aload G39 at_170 rfl rfl ?_
  show ownGo _ _ _ _ _ _ _ T39 172 #[.val (.long q1), .second, .val (.long q2), .second, .val (.long q3), .second, .val (.long q4), .second, .val (.long q5), .second, .val (.long q6), .second, .val (.ref x1), .val (.ref x2), .val (.ref x3), .val (.ref x4), .val (.ref x5), .val (.ref x6), .val (.ref x7), .val (.int (1 : Int32))] [(.ref x7)]
  refine own_lloadN G39 at_172 rfl ?_
  show ownGo _ _ _ _ _ _ _ T39 173 #[.val (.long q1), .second, .val (.long q2), .second, .val (.long q3), .second, .val (.long q4), .second, .val (.long q5), .second, .val (.long q6), .second, .val (.ref x1), .val (.ref x2), .val (.ref x3), .val (.ref x4), .val (.ref x5), .val (.ref x6), .val (.ref x7), .val (.int (1 : Int32))] [(.long q1), (.ref x7)]
  refine own_lloadN G39 at_173 rfl ?_
  show ownGo _ _ _ _ _ _ _ T39 174 #[.val (.long q1), .second, .val (.long q2), .second, .val (.long q3), .second, .val (.long q4), .second, .val (.long q5), .second, .val (.long q6), .second, .val (.ref x1), .val (.ref x2), .val (.ref x3), .val (.ref x4), .val (.ref x5), .val (.ref x6), .val (.ref x7), .val (.int (1 : Int32))] [(.long q2), (.long q1), (.ref x7)]
  refine own_lload G39 at_174 rfl ?_
  show ownGo _ _ _ _ _ _ _ T39 176 #[.val (.long q1), .second, .val (.long q2), .second, .val (.long q3), .second, .val (.long q4), .second, .val (.long q5), .second, .val (.long q6), .second, .val (.ref x1), .val (.ref x2), .val (.ref x3), .val (.ref x4), .val (.ref x5), .val (.ref x6), .val (.ref x7), .val (.int (1 : Int32))] [(.long q3), (.long q2), (.long q1), (.ref x7)]
  refine own_lload G39 at_176 rfl ?_
  show ownGo _ _ _ _ _ _ _ T39 178 #[.val (.long q1), .second, .val (.long q2), .second, .val (.long q3), .second, .val (.long q4), .second, .val (.long q5), .second, .val (.long q6), .second, .val (.ref x1), .val (.ref x2), .val (.ref x3), .val (.ref x4), .val (.ref x5), .val (.ref x6), .val (.ref x7), .val (.int (1 : Int32))] [(.long q4), (.long q3), (.long q2), (.long q1), (.ref x7)]
  refine own_callS G39 at_178 (y := (⟨"io/quorumfold/crypto/Field25519AddPinLaw", "isSum", "([JJJJJ)Z"⟩ : MethodName)) (hw _ (List.mem_of_getElem? (i := 17) rfl)) (hw _ (List.mem_of_getElem? (i := 18) rfl)) (hw _ (List.mem_of_getElem? (i := 2) rfl)) (hw _ (List.mem_of_getElem? (i := 19) rfl)) (by decide) (argsL := [(.ref x7), (.long q1), (.long q2), (.long q3), (.long q4)]) (rest := []) (rmSum l Z a0 hw x7 q1 q2 q3 q4 h39 n0 Y38 A7) rfl rfl rfl (lenOf pd_2 rfl) (W := 0) (Nat.le_of_eq rfl) (by decide) (by decide) (by decide) (by decide) ?_
  intro v40 T40 h40 hq40 G40
  obtain ⟨rfl, rfl⟩ := hq40
  show ownGo _ _ _ _ _ _ _ T40 181 #[.val (.long q1), .second, .val (.long q2), .second, .val (.long q3), .second, .val (.long q4), .second, .val (.long q5), .second, .val (.long q6), .second, .val (.ref x1), .val (.ref x2), .val (.ref x3), .val (.ref x4), .val (.ref x5), .val (.ref x6), .val (.ref x7), .val (.int (1 : Int32))] [(.int (1 : Int32))]
  refine own_if_eq G40 at_181 (pc' := 198) (by decide) (by decide) (fun hc => False.elim (absurd hc (by decide))) (fun hc => ?_)
  show ownGo _ _ _ _ _ _ _ T40 184 #[.val (.long q1), .second, .val (.long q2), .second, .val (.long q3), .second, .val (.long q4), .second, .val (.long q5), .second, .val (.long q6), .second, .val (.ref x1), .val (.ref x2), .val (.ref x3), .val (.ref x4), .val (.ref x5), .val (.ref x6), .val (.ref x7), .val (.int (1 : Int32))] []
  refine own_aload G40 at_184 rfl rfl ?_
  show ownGo _ _ _ _ _ _ _ T40 186 #[.val (.long q1), .second, .val (.long q2), .second, .val (.long q3), .second, .val (.long q4), .second, .val (.long q5), .second, .val (.long q6), .second, .val (.ref x1), .val (.ref x2), .val (.ref x3), .val (.ref x4), .val (.ref x5), .val (.ref x6), .val (.ref x7), .val (.int (1 : Int32))] [(.ref x6)]
  refine own_lloadN G40 at_186 rfl ?_
  show ownGo _ _ _ _ _ _ _ T40 187 #[.val (.long q1), .second, .val (.long q2), .second, .val (.long q3), .second, .val (.long q4), .second, .val (.long q5), .second, .val (.long q6), .second, .val (.ref x1), .val (.ref x2), .val (.ref x3), .val (.ref x4), .val (.ref x5), .val (.ref x6), .val (.ref x7), .val (.int (1 : Int32))] [(.long q1), (.ref x6)]
  refine own_lloadN G40 at_187 rfl ?_
  show ownGo _ _ _ _ _ _ _ T40 188 #[.val (.long q1), .second, .val (.long q2), .second, .val (.long q3), .second, .val (.long q4), .second, .val (.long q5), .second, .val (.long q6), .second, .val (.ref x1), .val (.ref x2), .val (.ref x3), .val (.ref x4), .val (.ref x5), .val (.ref x6), .val (.ref x7), .val (.int (1 : Int32))] [(.long q2), (.long q1), (.ref x6)]
  refine own_callS G40 at_188 (y := (⟨"io/quorumfold/crypto/Field25519AddPinLaw", "isSeq", "([JJJ)Z"⟩ : MethodName)) (hw _ (List.mem_of_getElem? (i := 20) rfl)) (hw _ (List.mem_of_getElem? (i := 21) rfl)) (hw _ (List.mem_of_getElem? (i := 2) rfl)) (hw _ (List.mem_of_getElem? (i := 22) rfl)) (by decide) (argsL := [(.ref x6), (.long q1), (.long q2)]) (rest := []) (rmIs l Z a0 hw x6 q1 q2 h39 n0 Y38 A6) rfl rfl rfl (lenOf pd_3 rfl) (W := 0) (Nat.le_of_eq rfl) (by decide) (by decide) (by decide) (by decide) ?_
  intro v41 T41 h41 hq41 G41
  obtain ⟨rfl, rfl⟩ := hq41
  show ownGo _ _ _ _ _ _ _ T41 191 #[.val (.long q1), .second, .val (.long q2), .second, .val (.long q3), .second, .val (.long q4), .second, .val (.long q5), .second, .val (.long q6), .second, .val (.ref x1), .val (.ref x2), .val (.ref x3), .val (.ref x4), .val (.ref x5), .val (.ref x6), .val (.ref x7), .val (.int (1 : Int32))] [(.int (1 : Int32))]
  refine own_if_eq G41 at_191 (pc' := 198) (by decide) (by decide) (fun hc => False.elim (absurd hc (by decide))) (fun hc => ?_)
  show ownGo _ _ _ _ _ _ _ T41 194 #[.val (.long q1), .second, .val (.long q2), .second, .val (.long q3), .second, .val (.long q4), .second, .val (.long q5), .second, .val (.long q6), .second, .val (.ref x1), .val (.ref x2), .val (.ref x3), .val (.ref x4), .val (.ref x5), .val (.ref x6), .val (.ref x7), .val (.int (1 : Int32))] []
  refine own_iconst G41 at_194 ?_
  show ownGo _ _ _ _ _ _ _ T41 195 #[.val (.long q1), .second, .val (.long q2), .second, .val (.long q3), .second, .val (.long q4), .second, .val (.long q5), .second, .val (.long q6), .second, .val (.ref x1), .val (.ref x2), .val (.ref x3), .val (.ref x4), .val (.ref x5), .val (.ref x6), .val (.ref x7), .val (.int (1 : Int32))] [(.int (1 : Int32))]
  refine own_goto G41 at_195 (pc' := 199) (by decide) (by decide) ?_
  show ownGo _ _ _ _ _ _ _ T41 199 #[.val (.long q1), .second, .val (.long q2), .second, .val (.long q3), .second, .val (.long q4), .second, .val (.long q5), .second, .val (.long q6), .second, .val (.ref x1), .val (.ref x2), .val (.ref x3), .val (.ref x4), .val (.ref x5), .val (.ref x6), .val (.ref x7), .val (.int (1 : Int32))] [(.int (1 : Int32))]
  refine own_istore G41 at_199 (L' := #[.val (.long q1), .second, .val (.long q2), .second, .val (.long q3), .second, .val (.long q4), .second, .val (.long q5), .second, .val (.long q6), .second, .val (.ref x1), .val (.ref x2), .val (.ref x3), .val (.ref x4), .val (.ref x5), .val (.ref x6), .val (.ref x7), .val (.int (1 : Int32))]) rfl ?_
  show ownGo _ _ _ _ _ _ _ T41 201 #[.val (.long q1), .second, .val (.long q2), .second, .val (.long q3), .second, .val (.long q4), .second, .val (.long q5), .second, .val (.long q6), .second, .val (.ref x1), .val (.ref x2), .val (.ref x3), .val (.ref x4), .val (.ref x5), .val (.ref x6), .val (.ref x7), .val (.int (1 : Int32))] []
  refine own_iload G41 at_201 rfl ?_
  show ownGo _ _ _ _ _ _ _ T41 203 #[.val (.long q1), .second, .val (.long q2), .second, .val (.long q3), .second, .val (.long q4), .second, .val (.long q5), .second, .val (.long q6), .second, .val (.ref x1), .val (.ref x2), .val (.ref x3), .val (.ref x4), .val (.ref x5), .val (.ref x6), .val (.ref x7), .val (.int (1 : Int32))] [(.int (1 : Int32))]
  exact own_zreturn G41 at_203 rfl (by decide) (by decide) rfl
set_option maxRecDepth 65536 in
set_option maxHeartbeats 40000000 in
theorem comes_1 {Post : Tables → Env → Array Value → State → Outcome → State → Prop} (hpost : ∀ tb e args s v u, (limb_1_1.after args s (.returned v) u = true ∧ limb_1_2.after args s (.returned v) u = true ∧ True) → FrameEnd s (.returned v) u (Jvm.fieldLocs frame_1_writes args s ++ Jvm.arrayLocs frame_1_arrays args s ++ Jvm.staticLocs frame_1_statics s) 24 256 → Post tb e args s (.returned v) u) :
    ArmFor flags0 classFile x code maxLocals ret World_1 tables_1 room_1 Calls_1 rest_1 Pre_1 Post := by
  intro l hfl _ _ p e ha hc hk s m args below hf hA hF happ hP
  obtain ⟨hcalls, hrest, hpre⟩ := hP
  obtain ⟨-, -, -, hnamed, -, -, -, hat⟩ := (Spec.applies_iff hf).mp happ
  obtain ⟨hg, hn⟩ := and_e (Cond.before_iff.mp (show (Jvm.Cond.and given_1 narrow_1).before args s = true from hpre))
  obtain ⟨g1, g2⟩ := and_e hg
  obtain ⟨g3, g4⟩ := and_e g2
  obtain ⟨g5, g6⟩ := and_e g4
  obtain ⟨g7, g8⟩ := and_e g6
  obtain ⟨g9, g10⟩ := and_e g8
  obtain ⟨g11, g12⟩ := and_e g10
  obtain ⟨w0, w1, w2, w3, w4, w5, rfl⟩ : ∃ w0 w1 w2 w3 w4 w5 : Value, args = #[w0, w1, w2, w3, w4, w5] := by
    have hs : args.size = 6 := by simpa [Cond.value, given_1] using g1
    obtain ⟨L⟩ := args
    match L, hs with
    | [w0, w1, w2, w3, w4, w5], _ => exact ⟨w0, w1, w2, w3, w4, w5, rfl⟩
  have hw := fun d (hd : d ∈ tables_1) => atoms_spec (ws := Jvm.Cond.code x code maxLocals ret :: tables_1) hat d (List.mem_cons_of_mem _ hd)
  have hfit : Fit s := fun {y c} hc i hi => by
    obtain ⟨ha, rfl⟩ := Array.getElem?_eq_some_iff.mp hc
    have q := List.all_eq_true.mp ((Array.all_eq_true_iff_forall_mem.mp hF) _ (Array.getElem_mem ha)) i (List.mem_range.mpr hi)
    simpa [Array.getElem?_eq_getElem hi] using q
  obtain ⟨i0, ei0⟩ := isL_v g3
  obtain rfl : w0 = (.long i0) := Option.some.inj ei0
  obtain ⟨i1, ei1⟩ := isL_v g5
  obtain rfl : w1 = (.long i1) := Option.some.inj ei1
  obtain ⟨i2, ei2⟩ := isL_v g7
  obtain rfl : w2 = (.long i2) := Option.some.inj ei2
  obtain ⟨i3, ei3⟩ := isL_v g9
  obtain rfl : w3 = (.long i3) := Option.some.inj ei3
  obtain ⟨i4, ei4⟩ := isL_v g11
  obtain rfl : w4 = (.long i4) := Option.some.inj ei4
  obtain ⟨i5, ei5⟩ := isL_v g12
  obtain rfl : w5 = (.long i5) := Option.some.inj ei5
  obtain ⟨n, o, h1, h2, h3, _, L, rfl, ⟨rfl, N⟩, hq⟩ := rm0 l s _ hw i0 i1 i2 i3 i4 i5 s.heap s.heap.size (Nat.le_refl _) p e ha hc hk s m _ below hf ((Spec.applies_iff_loose hf).mp happ).1 ⟨rfl, State.Warmed39.refl s, rfl⟩ trivial
  refine ⟨n, _, h1, h2, h3, hpost _ _ _ _ _ _ ⟨Cond.after_iff.mpr rfl, Cond.after_iff.mpr (eq_i res_at (Term.int_eval (1)) rfl), trivial⟩ ⟨hq.1, hq.2.1, (hq.2.2.sift fun y hy => Or.inr (N y hy)).mono (by decide) (by decide)⟩⟩
theorem main_1_1 : Claimed_1_1 := comes_1 fun _ _ _ _ _ _ h hF => ⟨h.1, hF⟩
theorem main_1_2 : Claimed_1_2 := comes_1 fun _ _ _ _ _ _ h hF => ⟨h.2.1, hF⟩
end Jvm.Pilot.@@N@@
namespace Jvm.Pilot.@@N@@
open Jvm Jvm.ClassFile Sem Op Lib Jvm.Free Jvm.Stand Jvm.Pilot.@@N@@.Jvm.D
/-! MADE BY PROGRAM (witnessworld.py) out of the Statement's table words and the real class files: 11 classes; the members and pool entries that the words name. The judged class is class 1, her method 4. -/
namespace start1
open Jvm.ClassFile
def u (s : String) : CpInfo := .utf8 (stringToUtf16 s)
/-- a pool by its gaps: so many unusable entries, then the entry; so many at the end -/
def gap : Nat → List CpInfo → List CpInfo
  | 0, r => r
  | n + 1, r => .unusable :: gap n r
def poolList (es : List (Nat × CpInfo)) (last : Nat) : List CpInfo := es.foldr (fun e r => gap e.1 (e.2 :: r)) (gap last [])
def pool (es : List (Nat × CpInfo)) (last : Nat) : Array CpInfo := ⟨poolList es last⟩
def fileOf (pool : Array CpInfo) (this : Nat) (attrs : Array Attribute := #[]) (ms : Array MethodInfo := #[]) (fl : Nat := 33) (sup : Nat := 0) (ifs : Array Nat := #[]) (fds : Array FieldInfo := #[]) : ClassFile where
  minorVersion := 0
  majorVersion := 65
  constantPool := pool
  accessFlags := fl
  thisClass := this
  superClass := sup
  interfaces := ifs
  fields := fds
  methods := ms
  attributes := attrs
def plain (name : String) (sup : Option ClassId) : Class where
  name := name
  kind := .ordinary
  loader := none
  accessFlags := 33
  super := sup
  interfaces := #[]
  cf := none
  fields := #[]
  methods := #[]
  instanceTypes := #[]
  staticTypes := #[]
  resolved := #[]
  callSites := []
  init := .initialized
  statics := none
  mirror := none

def pool0 : Array CpInfo := pool [(5, u "<init>"), (0, u "()V"), (1, .class_ 10), (1, u "java/lang/Object")] 113

def k0m0 : Method := { name := "<init>", desc := "()V", sig := { parameters := [], returnType := none }, accessFlags := 1, code := none }
/-- java/lang/Object -/
def k0 : Class := { plain "java/lang/Object" none with
  accessFlags := 33
  interfaces := #[]
  cf := some (fileOf pool0 8 #[] #[{ accessFlags := 1, nameIndex := 5, descriptorIndex := 6, attributes := #[] }] 33 0 #[] #[])
  fields := #[]
  methods := #[k0m0]
  instanceTypes := #[]
  staticTypes := #[]
  resolved := Array.replicate 124 none
  statics := none }

def pool1 : Array CpInfo := pool [(2, .class_ 4), (1, u "java/lang/Object"), (0, u "<init>"), (0, u "()V"), (0, .long 2), (1, .long 3), (1, .long 4), (1, .long 5), (1, .long 6), (1, .long 7), (1, .long 8), (1, .long 9), (1, .methodref 24 25), (0, .class_ 26), (0, .nameAndType 27 28), (0, u "io/quorumfold/crypto/Field25519AddPinLaw"), (0, u "seq"), (0, u "(JJ)[J"), (0, .methodref 30 31), (0, .class_ 32), (0, .nameAndType 33 34), (0, u "io/quorumfold/crypto/Field25519"), (0, u "add"), (0, u "([J[J[J)V"), (0, .methodref 24 36), (0, .nameAndType 37 38), (0, u "isSum"), (0, u "([JJJJJ)Z"), (0, .methodref 24 40), (0, .nameAndType 41 42), (0, u "isSeq"), (0, u "([JJJ)Z"), (3, u "law"), (0, u "(JJJJJJ)Z")] 4

def k1m0 : Method := { name := "<init>", desc := "()V", sig := { parameters := [], returnType := none }, accessFlags := 2, code := none }
def k1c1 : Code := { maxStack := 8, maxLocals := 5, code := method_2_code, exceptionTable := #[], attributes := #[] }
def k1m1 : Method := { name := "seq", desc := "(JJ)[J", sig := { parameters := [.long, .long], returnType := some (.array .long) }, accessFlags := 10, code := some k1c1 }
def k1c2 : Code := { maxStack := 8, maxLocals := 5, code := method_3_code, exceptionTable := #[], attributes := #[] }
def k1m2 : Method := { name := "isSeq", desc := "([JJJ)Z", sig := { parameters := [(.array .long), .long, .long], returnType := some .boolean }, accessFlags := 10, code := some k1c2 }
def k1c3 : Code := { maxStack := 8, maxLocals := 9, code := method_4_code, exceptionTable := #[], attributes := #[] }
def k1m3 : Method := { name := "isSum", desc := "([JJJJJ)Z", sig := { parameters := [(.array .long), .long, .long, .long, .long], returnType := some .boolean }, accessFlags := 10, code := some k1c3 }
def k1c4 : Code := { maxStack := 9, maxLocals := 20, code := code, exceptionTable := #[], attributes := #[] }
def k1m4 : Method := { name := "law", desc := "(JJJJJJ)Z", sig := { parameters := [.long, .long, .long, .long, .long, .long], returnType := some .boolean }, accessFlags := 9, code := some k1c4 }
/-- io/quorumfold/crypto/Field25519AddPinLaw -/
def k1 : Class := { plain "io/quorumfold/crypto/Field25519AddPinLaw" (some 0) with
  accessFlags := 49
  interfaces := #[]
  cf := some (fileOf pool1 24 #[] #[{ accessFlags := 2, nameIndex := 5, descriptorIndex := 6, attributes := #[] }, { accessFlags := 10, nameIndex := 27, descriptorIndex := 28, attributes := #[] }, { accessFlags := 10, nameIndex := 41, descriptorIndex := 42, attributes := #[] }, { accessFlags := 10, nameIndex := 37, descriptorIndex := 38, attributes := #[] }, { accessFlags := 9, nameIndex := 46, descriptorIndex := 47, attributes := #[] }] 49 2 #[] #[])
  fields := #[]
  methods := #[k1m0, k1m1, k1m2, k1m3, k1m4]
  instanceTypes := #[]
  staticTypes := #[]
  resolved := Array.replicate 52 none
  statics := none }

def pool2 : Array CpInfo := pool [(2, .class_ 4), (1, u "java/lang/Object"), (0, u "<init>"), (0, u "()V"), (0, .class_ 8), (0, u "io/quorumfold/crypto/Field25519"), (6, u "P"), (0, u "Ljava/math/BigInteger;"), (8, u "OFFSET"), (0, u "[I"), (10, u "WIDTH"), (29, u "([J[J[J)V"), (42, u "LIMBS"), (0, u "I"), (2, u "ENCODED_LENGTH"), (1, u "MASK26"), (0, u "J"), (0, u "MASK25"), (6, u "add")] 18

def k2m0 : Method := { name := "<init>", desc := "()V", sig := { parameters := [], returnType := none }, accessFlags := 2, code := none }
def k2c1 : Code := { maxStack := 6, maxLocals := 3, code := prog_110_method_5_code, exceptionTable := #[], attributes := #[] }
def k2m1 : Method := { name := "add", desc := "([J[J[J)V", sig := { parameters := [(.array .long), (.array .long), (.array .long)], returnType := none }, accessFlags := 8, code := some k2c1 }
/-- io/quorumfold/crypto/Field25519 -/
def k2 : Class := { plain "io/quorumfold/crypto/Field25519" (some 0) with
  accessFlags := 48
  interfaces := #[]
  cf := some (fileOf pool2 7 #[] #[{ accessFlags := 2, nameIndex := 5, descriptorIndex := 6, attributes := #[] }, { accessFlags := 8, nameIndex := 125, descriptorIndex := 67, attributes := #[] }] 48 2 #[] #[{ accessFlags := 24, nameIndex := 110, descriptorIndex := 111, attributes := #[] }, { accessFlags := 24, nameIndex := 114, descriptorIndex := 111, attributes := #[] }, { accessFlags := 24, nameIndex := 15, descriptorIndex := 16, attributes := #[] }, { accessFlags := 26, nameIndex := 25, descriptorIndex := 26, attributes := #[] }, { accessFlags := 26, nameIndex := 116, descriptorIndex := 117, attributes := #[] }, { accessFlags := 26, nameIndex := 118, descriptorIndex := 117, attributes := #[] }, { accessFlags := 26, nameIndex := 37, descriptorIndex := 26, attributes := #[] }])
  fields := #[{ name := "LIMBS", type := .int, accessFlags := 24, slot := 0, constantValue := 0 }, { name := "ENCODED_LENGTH", type := .int, accessFlags := 24, slot := 1, constantValue := 0 }, { name := "P", type := (.object "java/math/BigInteger"), accessFlags := 24, slot := 2, constantValue := 0 }, { name := "OFFSET", type := (.array .int), accessFlags := 26, slot := 3, constantValue := 0 }, { name := "MASK26", type := .long, accessFlags := 26, slot := 4, constantValue := 0 }, { name := "MASK25", type := .long, accessFlags := 26, slot := 5, constantValue := 0 }, { name := "WIDTH", type := (.array .int), accessFlags := 26, slot := 6, constantValue := 0 }]
  methods := #[k2m0, k2m1]
  instanceTypes := #[]
  staticTypes := #[.int, .int, (.object "java/math/BigInteger"), (.array .int), .long, .long, (.array .int)]
  resolved := Array.replicate 144 none
  statics := none }

def pool3 : Array CpInfo := pool [(1, u "java/lang/Cloneable"), (0, .class_ 1), (0, u "java/lang/Object"), (0, .class_ 3)] 3

/-- java/lang/Cloneable -/
def k3 : Class := { plain "java/lang/Cloneable" (some 0) with
  accessFlags := 1537
  interfaces := #[]
  cf := some (fileOf pool3 2 #[] #[] 1537 4 #[] #[])
  fields := #[]
  methods := #[]
  instanceTypes := #[]
  staticTypes := #[]
  resolved := Array.replicate 8 none
  statics := none }

def pool4 : Array CpInfo := pool [(1, u "java/io/Serializable"), (0, .class_ 1), (0, u "java/lang/Object"), (0, .class_ 3)] 3

/-- java/io/Serializable -/
def k4 : Class := { plain "java/io/Serializable" (some 0) with
  accessFlags := 1537
  interfaces := #[]
  cf := some (fileOf pool4 2 #[] #[] 1537 4 #[] #[])
  fields := #[]
  methods := #[]
  instanceTypes := #[]
  staticTypes := #[]
  resolved := Array.replicate 8 none
  statics := none }

/-- the primitive byte -/
def k5 : Class := { plain "byte" none with kind := .primitive 'B', accessFlags := 0x411 }
/-- [B -/
def k6 : Class := { plain "[B" (some 0) with kind := .array 5 .byte, interfaces := #[3, 4], accessFlags := 1041 }

/-- the primitive int -/
def k7 : Class := { plain "int" none with kind := .primitive 'I', accessFlags := 0x411 }
/-- [I -/
def k8 : Class := { plain "[I" (some 0) with kind := .array 7 .int, interfaces := #[3, 4], accessFlags := 1041 }

/-- the primitive long -/
def k9 : Class := { plain "long" none with kind := .primitive 'J', accessFlags := 0x411 }
/-- [J -/
def k10 : Class := { plain "[J" (some 0) with kind := .array 9 .long, interfaces := #[3, 4], accessFlags := 1041 }

def heap : Heap := #[]
def classes : Array Class := #[k0, k1, k2, k3, k4, k5, k6, k7, k8, k9, k10]
def interned : List (Array UInt16 × Addr) := []
def slotsUsed : Nat := 0
def theMethod : MethodId := ⟨1, 4⟩
def args0 : Array Value := #[.long 1, .long 2, .long 3, .long 4, .long 5, .long 6]
def aboutOver (below : List Frame) : State where
  vm := { classes := classes, interned := interned.toArray }
  heap := heap
  slotsUsed := slotsUsed
  threads := #[{ frames := .invoking theMethod args0 :: below }]
def below0 : List Frame := [.native { method := ⟨0, 0⟩, args := #[] }]
def about1 : State := aboutOver below0
def p0 : Program := .bare "" "" ""
def e0 : Env := launch0.env 0 0 0
theorem w_frames : about1.frames = Frame.invoking theMethod args0 :: below0 := rfl
set_option maxRecDepth 65536 in
theorem w_args : argsFit about1.vm theMethod args0 = true := by decide +kernel
set_option maxRecDepth 65536 in
theorem w_heap : heapFits about1 = true := by decide +kernel
set_option maxRecDepth 65536 in
theorem w_runnable : about1.curStatus? = some .runnable := by decide +kernel
set_option maxRecDepth 65536 in
theorem w_alone : about1.alone = true := by decide +kernel
set_option maxRecDepth 65536 in
theorem w_named : about1.methodNamed? x = some theMethod := by decide +kernel
set_option maxRecDepth 65536 in
theorem w_hears : about1.hears theMethod below0 = true := by decide +kernel
set_option maxRecDepth 65536 in
theorem w_ripe : about1.ripe theMethod args0 below0 = true := by decide +kernel
theorem w_running : about1.status = .running := rfl
set_option maxRecDepth 65536 in
theorem w_room : about1.hasRoom e0.platform room_1 = true :=
  launch0.hasRoom_least _ room_1 (by decide +kernel) (by decide +kernel) (by decide +kernel) (by decide +kernel) (by decide +kernel) (by decide +kernel)
theorem allAtoms_all (ts : List Jvm.Cond) (a : Array Jvm.Value) (st : Jvm.State) : (allAtoms ts).before a st = ts.all (fun c => c.before a st) := by
  induction ts with
  | nil => rfl
  | cons c t ih =>
    show (Jvm.Cond.and c (allAtoms t)).before a st = _
    rw [Jvm.Cond.before_and, ih, List.all_cons]
def words1 : List Jvm.Cond := Jvm.Cond.code x code maxLocals ret :: tables_1
/-- a 'code' word, met by the world's own term for the bytes: nothing is compared byte by byte -/
theorem code_word {y : MethodName} {bytes : ByteArray} {mx : Nat} {rt : Option FieldType} {a : Array Value} {s : State} {m : MethodId} {meth : Method} {c : Code} (h1 : s.methodNamed? y = some m) (h2 : s.vm.method? m = some meth) (h3 : meth.code = some c) (h4 : c.code = bytes)
    (h5 : (c.maxLocals == mx && c.exceptionTable.isEmpty && decide (c.maxStack ≤ mostOperands) && decide (meth.sig.returnType = rt) && !meth.locks && decide (parseMethodDescriptor y.desc = some meth.sig)) = true) : (Jvm.Cond.code y bytes mx rt).before a s = true := by
  simp only [Bool.and_eq_true, beq_iff_eq, Bool.not_eq_true', decide_eq_true_eq] at h5
  obtain ⟨⟨⟨⟨⟨g1, g2⟩, g3⟩, g4⟩, g5⟩, g6⟩ := h5
  simp [Cond.before, Cond.holds, Cond.value, h1, h2, h3, h4, g1, g2, g3, g4, g5, g6]
def isCode : Jvm.Cond → Bool
  | .code _ _ _ _ => true
  | _ => false
theorem all_split {L : List Jvm.Cond} {P : Jvm.Cond → Bool} (h1 : L.all (fun c => isCode c || P c) = true) (h2 : ∀ c ∈ L.filter isCode, P c = true) : L.all P = true := by
  refine List.all_eq_true.mpr fun c hc => ?_
  have h := List.all_eq_true.mp h1 c hc
  rcases Bool.eq_false_or_eq_true (isCode c) with hi | hi
  · exact h2 c (List.mem_filter.mpr ⟨hc, hi⟩)
  · simpa [hi] using h
set_option maxRecDepth 65536 in
theorem w_c0 : (Jvm.Cond.code x code maxLocals ret).before args0 about1 = true := code_word (m := ⟨1, 4⟩) (meth := k1m4) (c := k1c4) (by decide +kernel) rfl rfl rfl (by decide +kernel)
set_option maxRecDepth 65536 in
theorem w_c1 : (Jvm.Cond.code ({ cls := "io/quorumfold/crypto/Field25519AddPinLaw", name := "seq", desc := "(JJ)[J" } : Jvm.MethodName) method_2_code (5 : Nat) (Option.some (Jvm.ClassFile.FieldType.array Jvm.ClassFile.FieldType.long))).before args0 about1 = true := code_word (m := ⟨1, 1⟩) (meth := k1m1) (c := k1c1) (by decide +kernel) rfl rfl rfl (by decide +kernel)
set_option maxRecDepth 65536 in
theorem w_c2 : (Jvm.Cond.code ({ cls := "io/quorumfold/crypto/Field25519", name := "add", desc := "([J[J[J)V" } : Jvm.MethodName) prog_110_method_5_code (3 : Nat) (Option.none : Option Jvm.ClassFile.FieldType)).before args0 about1 = true := code_word (m := ⟨2, 1⟩) (meth := k2m1) (c := k2c1) (by decide +kernel) rfl rfl rfl (by decide +kernel)
set_option maxRecDepth 65536 in
theorem w_c3 : (Jvm.Cond.code ({ cls := "io/quorumfold/crypto/Field25519AddPinLaw", name := "isSum", desc := "([JJJJJ)Z" } : Jvm.MethodName) method_4_code (9 : Nat) (Option.some Jvm.ClassFile.FieldType.boolean)).before args0 about1 = true := code_word (m := ⟨1, 3⟩) (meth := k1m3) (c := k1c3) (by decide +kernel) rfl rfl rfl (by decide +kernel)
set_option maxRecDepth 65536 in
theorem w_c4 : (Jvm.Cond.code ({ cls := "io/quorumfold/crypto/Field25519AddPinLaw", name := "isSeq", desc := "([JJJ)Z" } : Jvm.MethodName) method_3_code (5 : Nat) (Option.some Jvm.ClassFile.FieldType.boolean)).before args0 about1 = true := code_word (m := ⟨1, 2⟩) (meth := k1m2) (c := k1c2) (by decide +kernel) rfl rfl rfl (by decide +kernel)
def codes1 : List Jvm.Cond := [Jvm.Cond.code x code maxLocals ret, Jvm.Cond.code ({ cls := "io/quorumfold/crypto/Field25519AddPinLaw", name := "seq", desc := "(JJ)[J" } : Jvm.MethodName) method_2_code (5 : Nat) (Option.some (Jvm.ClassFile.FieldType.array Jvm.ClassFile.FieldType.long)), Jvm.Cond.code ({ cls := "io/quorumfold/crypto/Field25519", name := "add", desc := "([J[J[J)V" } : Jvm.MethodName) prog_110_method_5_code (3 : Nat) (Option.none : Option Jvm.ClassFile.FieldType), Jvm.Cond.code ({ cls := "io/quorumfold/crypto/Field25519AddPinLaw", name := "isSum", desc := "([JJJJJ)Z" } : Jvm.MethodName) method_4_code (9 : Nat) (Option.some Jvm.ClassFile.FieldType.boolean), Jvm.Cond.code ({ cls := "io/quorumfold/crypto/Field25519AddPinLaw", name := "isSeq", desc := "([JJJ)Z" } : Jvm.MethodName) method_3_code (5 : Nat) (Option.some Jvm.ClassFile.FieldType.boolean)]
set_option maxRecDepth 65536 in
theorem codes_eq : words1.filter isCode = codes1 := rfl
theorem w_codes : ∀ c ∈ words1.filter isCode, c.before args0 about1 = true := by
  rw [codes_eq]
  intro c hc
  simp only [codes1, List.mem_cons, List.not_mem_nil, or_false] at hc
  rcases hc with rfl | rfl | rfl | rfl | rfl
  · exact w_c0
  · exact w_c1
  · exact w_c2
  · exact w_c3
  · exact w_c4
set_option maxRecDepth 65536 in
theorem w_t1 : words1.all (fun c => isCode c || c.before args0 about1) = true := by decide +kernel
theorem w_tables : (allAtoms (Jvm.Cond.code x code maxLocals ret :: tables_1)).before args0 about1 = true := by
  rw [allAtoms_all]
  show words1.all (fun c => c.before args0 about1) = true
  refine all_split ?_ w_codes
  rw [w_t1]
set_option maxRecDepth 65536 in
theorem w_case : (Jvm.Cond.and given_1 narrow_1).before args0 about1 = true := by decide +kernel
theorem w_applies : (headSpec (Jvm.Cond.code x code maxLocals ret :: tables_1) room_1).applies x e0.platform about1 = true :=
  (Spec.applies_iff w_frames).mpr ⟨w_running, w_runnable, w_alone, w_named, w_hears, w_ripe, w_room, w_tables⟩
theorem atStart : AtStart classFile x code maxLocals ret World_1 tables_1 room_1 Calls_1 rest_1 Pre_1 launch0 p0 e0 about1 theMethod args0 below0 :=
  ⟨lists_1, trivial, launch0.admits_env _ _ _, launch0.least_env, fairChoices_fair.cas, fairChoices_fair.clock, w_frames, w_args, w_heap, w_applies, trivial, trivial, w_case⟩
end start1
theorem witness_1 : WitnessClaimed_1 := ⟨start1.p0, start1.e0, start1.about1, start1.theMethod, start1.args0, start1.below0, start1.atStart⟩
end Jvm.Pilot.@@N@@
