import JvmDerived
import JvmDerived.Pilot.@@N@@Statement
import JvmDerived.Pilot.@@N@@Code
set_option linter.unusedVariables false
set_option linter.unusedSimpArgs false
namespace Jvm.OwnWp
open Sem ClassFile Op Lib Jvm.Stand Jvm.Free Jvm.LawKit Jvm.RoadKit
section Own
variable {p : Program} {l : Launch} {e : Env} {R : Room} {s : State} {m : MethodId} {args : Array Value} {below : List Frame} {meth : Method} {c : Code} {T T' : State} {locs : List Loc} {cells slots : Nat} {kc ks : Nat} {Q : Option Value → Heap → List Loc → Prop} {g g' : JFrame}
/-- from T with the frame g on top the invocation returns, and Q holds of what it leaves -/
def Go (p : Program) (e : Env) (below : List Frame) (s : State) (kc ks : Nat) (Q : Option Value → Heap → List Loc → Prop) (T : State) (g : JFrame) : Prop :=
  ∃ s₂ o, Steps p.tables e below (T.setTop g) s₂ ∧ s₂.status = .running ∧ Ended s₂ below o ∧ ∃ v L, o = .returned v ∧ Q v s₂.heap L ∧ FrameEnd s o s₂ L kc ks
theorem Go.step (st : ∀ t, Steps p.tables e below (T'.setTop g') t → Steps p.tables e below (T.setTop g) t) (k : Go p e below s kc ks Q T' g') : Go p e below s kc ks Q T g := by
  obtain ⟨s₂, o, h, r⟩ := k
  exact ⟨s₂, o, st _ h, r⟩
theorem Go.cast (q : g = g') (k : Go p e below s kc ks Q T g') : Go p e below s kc ks Q T g := q ▸ k
theorem Go.weak {Q' : Option Value → Heap → List Loc → Prop} (k : Go p e below s kc ks Q' T g) (h : ∀ v hp L, Q' v hp L → Q v hp L) : Go p e below s kc ks Q T g := by
  obtain ⟨s₂, o, a, b, c, v, L, d, q, f⟩ := k
  exact ⟨s₂, o, a, b, c, v, L, d, h _ _ _ q, f⟩
theorem Go.ret (X : Stand p l e R s m args below meth c T locs cells slots) (hx : p.tables.exec = Jvm.exec) (hlk : meth.locks = false) {pc : Nat} {Ls : Array Slot} {w : Value} {t : FieldType} {i : Instr} {rest : List Value} (hret : meth.sig.returnType = some t) (hn : narrow t w = w)
    (hi : (i = .ireturn ∧ (t = .int ∨ t = .boolean ∨ t = .byte ∨ t = .char ∨ t = .short) ∧ ∃ z, w = .int z) ∨ (i = .lreturn ∧ t = .long ∧ ∃ z, w = .long z) ∨ (i = .dreturn ∧ t = .double ∧ ∃ z, w = .double z) ∨ (i = .freturn ∧ t = .float ∧ ∃ z, w = .float z) ∨ (i = .areturn ∧ t.isReference = true ∧ w.isRef = true))
    (hd : decode c.code pc = .ok (i, 1)) (hq : Q (some w) T.heap locs) (hc : cells ≤ kc) (hs : slots ≤ ks) : Go p e below s kc ks Q T (mkF m pc Ls (w :: rest)) := by
  obtain ⟨fs, hr, hrun, hended, hW, hsame⟩ := X.leave (v := some w) (fun h => by rw [hret] at h; cases h) hlk
  exact ⟨_, _, retOut X hx hret hn hi hd hr, hrun, hended, _, _, rfl, hq, ⟨_, rfl⟩, hW, hsame.mono hc hs⟩
theorem Go.retV (X : Stand p l e R s m args below meth c T locs cells slots) (hx : p.tables.exec = Jvm.exec) (hlk : meth.locks = false) {pc : Nat} {Ls : Array Slot} (hret : meth.sig.returnType = none)
    (hd : decode c.code pc = .ok (.return_, 1)) (hq : Q none T.heap locs) (hc : cells ≤ kc) (hs : slots ≤ ks) : Go p e below s kc ks Q T (mkF m pc Ls []) := by
  obtain ⟨fs, hr, hrun, hended, hW, hsame⟩ := X.leave (v := none) (fun _ => rfl) hlk
  exact ⟨_, _, X.returnOut hx hret hd hr, hrun, hended, _, _, rfl, hq, ⟨_, rfl⟩, hW, hsame.mono hc hs⟩
theorem nar01 {x : Int32} (h : x = 0 ∨ x = 1) : narrow .boolean (.int x) = .int x := by rcases h with rfl | rfl <;> rfl
end Own
end Jvm.OwnWp
namespace Jvm.Pilot.@@N@@
open Jvm Jvm.ClassFile Sem Op Lib Jvm.Free Jvm.Stand Jvm.LawKit Jvm.RoadKit Jvm.OwnWp Bundle Jvm.Pilot.@@N@@.Jvm.D
def own_opp (a b c : Addr) : Addr := if (Value.ref a) = Value.ref b then c else b
theorem own_eqint {args : Array Value} {first s : State} {o : Option Outcome} {idx : List Nat} {t : Term} {k : Int32} (h : (Jvm.Cond.eq t (.int k)).value args first o s idx = some true) : t.eval args first o idx s = some (.int k) := by
  simp only [Cond.value, Term.eval] at h
  cases ht : t.eval args first o idx s with
  | none => simp [ht] at h
  | some x => cases x <;> simp [ht] at h ⊢; exact h
theorem own_eqref {args : Array Value} {first s : State} {o : Option Outcome} {idx : List Nat} {t u : Term} {k : Addr} (h : (Jvm.Cond.eq t u).value args first o s idx = some true) (hu : u.eval args first o idx s = some (.ref k)) : t.eval args first o idx s = some (.ref k) := by
  simp only [Cond.value, hu] at h
  cases ht : t.eval args first o idx s with
  | none => simp [ht] at h
  | some x => cases x <;> simp [ht] at h ⊢; exact h
theorem own_ne {s : State} {a b : Addr} {C n d : String} {x y : Int32} (h1 : s.fieldOf? a C n d = some (.int x)) (h2 : s.fieldOf? b C n d = some (.int y)) (h : x ≠ y) : (Value.ref a) ≠ Value.ref b := fun q => by
  cases q
  rw [h1] at h2
  exact h (by injection h2 with h2; injection h2)
theorem pn_0 : plainName "com/example/limitbook/limitbook/model/Side" = true := by first | (simp [plainName, overriddenIn]; done) | decide +kernel
theorem ef_rm1 (m : MethodId) (a1 : Addr) : entryFrame m #[(.ref a1)] 1 = mkF m 0 #[.val (.ref a1)] [] := by first | (simp [entryFrame, mkF, argsToLocals, Value.category]; done) | rfl
def Q1 (Z : State) (a1 : Addr) (wb : Addr) (ws1 : Addr) (r : Addr) (h0 : Heap) (n0 : Nat) (v : Option Value) (h : Heap) (L : List Loc) : Prop := v = some (.ref r) ∧ Fr n0 L ∧ h = h0
theorem d1_0 : decode prog_71_method_5_code 0 = .ok (.aload_n 0, 1) := by decide +kernel
theorem d1_1 : decode prog_71_method_5_code 1 = .ok (.getstatic 3, 3) := by decide +kernel
theorem d1_4 : decode prog_71_method_5_code 4 = .ok (.if_acmp .ne 9, 3) := by decide +kernel
theorem d1_7 : decode prog_71_method_5_code 7 = .ok (.getstatic 7, 3) := by decide +kernel
theorem d1_10 : decode prog_71_method_5_code 10 = .ok (.goto 6, 3) := by decide +kernel
theorem d1_16 : decode prog_71_method_5_code 16 = .ok (.areturn, 1) := by decide +kernel
theorem d1_13 : decode prog_71_method_5_code 13 = .ok (.getstatic 3, 3) := by decide +kernel
set_option maxRecDepth 65536 in
set_option maxHeartbeats 40000000 in
theorem rm1 (l : Launch) (Z : State) (a0 : Array Value) (hw : ∀ d ∈ tables_1, d.before a0 Z = true) (ws : List Jvm.Cond) (a1 : Addr) (wb : Addr) (ws1 : Addr) (r : Addr) (h0 : Heap) (n0 : Nat) (Z0 : n0 ≤ h0.size) (O0 : Old Z n0 h0) (S_BUY : Sta Z Z.heap "com/example/limitbook/limitbook/model/Side" "BUY" "Lcom/example/limitbook/limitbook/model/Side;" (.ref wb)) (S_SELL : Sta Z Z.heap "com/example/limitbook/limitbook/model/Side" "SELL" "Lcom/example/limitbook/limitbook/model/Side;" (.ref ws1)) (hr : own_opp a1 wb ws1 = r) :
    MetFree l (⟨"com/example/limitbook/limitbook/model/Side", "opposite", "()Lcom/example/limitbook/limitbook/model/Side;"⟩ : MethodName) (head1 (Jvm.Cond.code (⟨"com/example/limitbook/limitbook/model/Side", "opposite", "()Lcom/example/limitbook/limitbook/model/Side;"⟩ : MethodName) prog_71_method_5_code 1 (some (.object "com/example/limitbook/limitbook/model/Side")) :: ws) ({ frames := 0, cells := 0, slots := 0, locals := 0 } : Room)) (fun a U => a = #[(.ref a1)] ∧ Z.Warmed39 U.vm ∧ U.heap = h0) (fun _ _ _ _ _ => True) (fun _ U o U' => ∃ v L, o = .returned v ∧ Q1 Z a1 wb ws1 r h0 n0 v U'.heap L ∧ FrameEnd U o U' L ({ frames := 0, cells := 0, slots := 0, locals := 0 } : Room).cells ({ frames := 0, cells := 0, slots := 0, locals := 0 } : Room).slots) := by
  refine MetFree.of_bodySF (plainFor_of_name pn_0) hisR ?_
  intro p e s m args below meth c s₁ Bd hml0 hP hK
  obtain ⟨rfl, hZ, hh⟩ := hP
  have hx := Bd.exec
  have hby := Bd.bytes
  have hlk := BodyLoose.notSynchronized Bd
  have hml : c.maxLocals = 1 := hml0
  have hown : s.vm.findClass "com/example/limitbook/limitbook/model/Side" = some m.cls := findClass_of_methodNamed Bd.named
  have hnm := (name_of_methodNamed Bd.named Bd.method).1
  have X0 : Stand p l e ({ frames := 0, cells := 0, slots := 0, locals := 0 } : Room) s m #[(.ref a1)] below meth c s₁ [] 0 0 := Stand.of_body Bd
  have e0 : s₁.heap = h0 := by rw [← hh, Bd.state]; rfl
  have N0 := Fr.nil n0
  show Go p e below s ({ frames := 0, cells := 0, slots := 0, locals := 0 } : Room).cells ({ frames := 0, cells := 0, slots := 0, locals := 0 } : Room).slots (Q1 Z a1 wb ws1 r h0 n0) s₁ (entryFrame m #[(.ref a1)] 1)
  refine Go.cast (ef_rm1 m a1) ?_
  show Go _ _ _ _ _ _ _ s₁ (mkF m 0 #[.val (.ref a1)] [])
  refine Go.step (fun t k => XS.aloadN X0.here hx rfl (hb hby d1_0) rfl rfl k) ?_
  show Go _ _ _ _ _ _ _ s₁ (mkF m 1 #[.val (.ref a1)] [(.ref a1)])
  obtain ⟨T1, X1, e1, st1⟩ := getS2 X0 hx hZ hown (host := "") (Or.inl (hw _ (List.mem_of_getElem? (i := 10) rfl))) Via.refl e0 (S_BUY.ext O0.2) (g := (mkF m 1 #[.val (.ref a1)] [(.ref a1)])) rfl (hb hby d1_1)
  refine Go.step st1 ?_
  show Go _ _ _ _ _ _ _ T1 (mkF m 4 #[.val (.ref a1)] [(.ref wb), (.ref a1)])
  by_cases hb4_2 : ((.ref a1) : Value) = (.ref wb)
  · refine Go.step (fun t k => XT.acmpNo X1.here hx rfl (hb hby d1_4) rfl rfl rfl (XT.aa_ne_f hb4_2) k) ?_
    show Go _ _ _ _ _ _ _ T1 (mkF m 7 #[.val (.ref a1)] [])
    obtain ⟨T3, X3, e3, st3⟩ := getS2 X1 hx hZ hown (host := "") (Or.inl (hw _ (List.mem_of_getElem? (i := 11) rfl))) Via.refl e1 (S_SELL.ext O0.2) (g := (mkF m 7 #[.val (.ref a1)] [])) rfl (hb hby d1_7)
    refine Go.step st3 ?_
    show Go _ _ _ _ _ _ _ T3 (mkF m 10 #[.val (.ref a1)] [(.ref ws1)])
    refine Go.step (fun t k => XS.goto X3.here hx rfl (pc0 := 10) (pc' := 16) rfl (hb hby d1_10) (by decide) (by decide) k) ?_
    show Go _ _ _ _ _ _ _ T3 (mkF m 16 #[.val (.ref a1)] [(.ref ws1)])
    refine Go.ret X3 hx hlk Bd.returns rfl (Or.inr (Or.inr (Or.inr (Or.inr ⟨rfl, rfl, rfl⟩)))) (hb hby d1_16) ?_ (by decide) (by decide)
    show Q1 Z _ _ _ _ _ _ _ T3.heap _
    exact ⟨by rw [← hr]; simp [own_opp, hb4_2], N0, e3⟩
  · refine Go.step (fun t k => XT.acmpYes X1.here hx rfl (pc0 := 4) (pc' := 13) rfl (hb hby d1_4) rfl rfl rfl (XT.aa_ne_t hb4_2) (by decide) (by decide) k) ?_
    show Go _ _ _ _ _ _ _ T1 (mkF m 13 #[.val (.ref a1)] [])
    obtain ⟨T4, X4, e4, st4⟩ := getS2 X1 hx hZ hown (host := "") (Or.inl (hw _ (List.mem_of_getElem? (i := 10) rfl))) Via.refl e1 (S_BUY.ext O0.2) (g := (mkF m 13 #[.val (.ref a1)] [])) rfl (hb hby d1_13)
    refine Go.step st4 ?_
    show Go _ _ _ _ _ _ _ T4 (mkF m 16 #[.val (.ref a1)] [(.ref wb)])
    refine Go.ret X4 hx hlk Bd.returns rfl (Or.inr (Or.inr (Or.inr (Or.inr ⟨rfl, rfl, rfl⟩)))) (hb hby d1_16) ?_ (by decide) (by decide)
    show Q1 Z _ _ _ _ _ _ _ T4.heap _
    exact ⟨by rw [← hr]; simp [own_opp, hb4_2], N0, e4⟩
theorem ef_rm2 (m : MethodId) (a1 : Addr) : entryFrame m #[(.ref a1)] 1 = mkF m 0 #[.val (.ref a1)] [] := by first | (simp [entryFrame, mkF, argsToLocals, Value.category]; done) | rfl
def Q2 (Z : State) (a1 : Addr) (r : Addr) (h0 : Heap) (n0 : Nat) (v : Option Value) (h : Heap) (L : List Loc) : Prop := v = some (.ref r) ∧ Fr n0 L ∧ h = h0
theorem d2_0 : decode prog_71_method_4_code 0 = .ok (.aload_n 0, 1) := by decide +kernel
theorem d2_1 : decode prog_71_method_4_code 1 = .ok (.getfield 29, 3) := by decide +kernel
theorem d2_4 : decode prog_71_method_4_code 4 = .ok (.areturn, 1) := by decide +kernel
set_option maxRecDepth 65536 in
set_option maxHeartbeats 40000000 in
theorem rm2 (l : Launch) (Z : State) (a0 : Array Value) (hw : ∀ d ∈ tables_1, d.before a0 Z = true) (ws : List Jvm.Cond) (a1 : Addr) (r : Addr) (h0 : Heap) (n0 : Nat) (Z0 : n0 ≤ h0.size) (F1 : Fld Z h0 a1 "com/example/limitbook/limitbook/model/Side" "quote" "Lcom/example/limitbook/limitbook/model/MarketEvent$Kind;" (.ref r)) :
    MetFree l (⟨"com/example/limitbook/limitbook/model/Side", "quote", "()Lcom/example/limitbook/limitbook/model/MarketEvent$Kind;"⟩ : MethodName) (head1 (Jvm.Cond.code (⟨"com/example/limitbook/limitbook/model/Side", "quote", "()Lcom/example/limitbook/limitbook/model/MarketEvent$Kind;"⟩ : MethodName) prog_71_method_4_code 1 (some (.object "com/example/limitbook/limitbook/model/MarketEvent$Kind")) :: ws) ({ frames := 0, cells := 0, slots := 0, locals := 0 } : Room)) (fun a U => a = #[(.ref a1)] ∧ Z.Warmed39 U.vm ∧ U.heap = h0) (fun _ _ _ _ _ => True) (fun _ U o U' => ∃ v L, o = .returned v ∧ Q2 Z a1 r h0 n0 v U'.heap L ∧ FrameEnd U o U' L ({ frames := 0, cells := 0, slots := 0, locals := 0 } : Room).cells ({ frames := 0, cells := 0, slots := 0, locals := 0 } : Room).slots) := by
  refine MetFree.of_bodySF (plainFor_of_name pn_0) hisR ?_
  intro p e s m args below meth c s₁ Bd hml0 hP hK
  obtain ⟨rfl, hZ, hh⟩ := hP
  have hx := Bd.exec
  have hby := Bd.bytes
  have hlk := BodyLoose.notSynchronized Bd
  have hml : c.maxLocals = 1 := hml0
  have hown : s.vm.findClass "com/example/limitbook/limitbook/model/Side" = some m.cls := findClass_of_methodNamed Bd.named
  have hnm := (name_of_methodNamed Bd.named Bd.method).1
  have X0 : Stand p l e ({ frames := 0, cells := 0, slots := 0, locals := 0 } : Room) s m #[(.ref a1)] below meth c s₁ [] 0 0 := Stand.of_body Bd
  have e0 : s₁.heap = h0 := by rw [← hh, Bd.state]; rfl
  have N0 := Fr.nil n0
  show Go p e below s ({ frames := 0, cells := 0, slots := 0, locals := 0 } : Room).cells ({ frames := 0, cells := 0, slots := 0, locals := 0 } : Room).slots (Q2 Z a1 r h0 n0) s₁ (entryFrame m #[(.ref a1)] 1)
  refine Go.cast (ef_rm2 m a1) ?_
  show Go _ _ _ _ _ _ _ s₁ (mkF m 0 #[.val (.ref a1)] [])
  refine Go.step (fun t k => XS.aloadN X0.here hx rfl (hb hby d2_0) rfl rfl k) ?_
  show Go _ _ _ _ _ _ _ s₁ (mkF m 1 #[.val (.ref a1)] [(.ref a1)])
  obtain ⟨T1, X1, e1, st1⟩ := getF X0 hx hZ hown (host := "") (Or.inl (hw _ (List.mem_of_getElem? (i := 17) rfl))) Via.refl e0 F1 (g := (mkF m 1 #[.val (.ref a1)] [(.ref a1)])) rfl rfl (hb hby d2_1)
  refine Go.step st1 ?_
  show Go _ _ _ _ _ _ _ T1 (mkF m 4 #[.val (.ref a1)] [(.ref r)])
  refine Go.ret X1 hx hlk Bd.returns rfl (Or.inr (Or.inr (Or.inr (Or.inr ⟨rfl, rfl, rfl⟩)))) (hb hby d2_4) ?_ (by decide) (by decide)
  show Q2 Z _ _ _ _ _ T1.heap _
  exact ⟨rfl, N0, e1⟩
theorem pn_1 : plainName "com/example/limitbook/limitbook/model/SideOppositePinLaw" = true := by first | (simp [plainName, overriddenIn]; done) | decide +kernel
theorem ef_rm0 (m : MethodId) (p1 : Int32) : entryFrame m #[(.int p1)] maxLocals = mkF m 0 #[.val (.int p1), .unset, .unset, .unset, .unset, .unset, .unset] [] := by first | (simp [entryFrame, mkF, argsToLocals, Value.category, maxLocals]; done) | rfl
def Q0 (Z : State) (p1 : Int32) (wb : Addr) (ws1 : Addr) (wi : Addr) (wo : Addr) (h0 : Heap) (n0 : Nat) (v : Option Value) (h : Heap) (L : List Loc) : Prop := v = some (.int (1 : Int32)) ∧ Fr n0 L
theorem pd_0 : parseMethodDescriptor "()Lcom/example/limitbook/limitbook/model/Side;" = some ⟨[], some (.object "com/example/limitbook/limitbook/model/Side")⟩ := by decide +kernel
theorem pd_1 : parseMethodDescriptor "()Lcom/example/limitbook/limitbook/model/MarketEvent$Kind;" = some ⟨[], some (.object "com/example/limitbook/limitbook/model/MarketEvent$Kind")⟩ := by decide +kernel
set_option maxRecDepth 65536 in
set_option maxHeartbeats 40000000 in
theorem rm0 (l : Launch) (Z : State) (a0 : Array Value) (hw : ∀ d ∈ tables_1, d.before a0 Z = true) (ws : List Jvm.Cond) (p1 : Int32) (wb : Addr) (ws1 : Addr) (wi : Addr) (wo : Addr) (h0 : Heap) (n0 : Nat) (Z0 : n0 ≤ h0.size) (O0 : Old Z n0 h0) (S_BUY : Sta Z Z.heap "com/example/limitbook/limitbook/model/Side" "BUY" "Lcom/example/limitbook/limitbook/model/Side;" (.ref wb)) (S_SELL : Sta Z Z.heap "com/example/limitbook/limitbook/model/Side" "SELL" "Lcom/example/limitbook/limitbook/model/Side;" (.ref ws1)) (S_BID : Sta Z Z.heap "com/example/limitbook/limitbook/model/MarketEvent$Kind" "BID" "Lcom/example/limitbook/limitbook/model/MarketEvent$Kind;" (.ref wi)) (S_OFFER : Sta Z Z.heap "com/example/limitbook/limitbook/model/MarketEvent$Kind" "OFFER" "Lcom/example/limitbook/limitbook/model/MarketEvent$Kind;" (.ref wo)) (E_BUY : Exa Z h0 wb "com/example/limitbook/limitbook/model/Side") (E_SELL : Exa Z h0 ws1 "com/example/limitbook/limitbook/model/Side") (F_BUY : Fld Z h0 wb "com/example/limitbook/limitbook/model/Side" "quote" "Lcom/example/limitbook/limitbook/model/MarketEvent$Kind;" (.ref wi)) (F_SELL : Fld Z h0 ws1 "com/example/limitbook/limitbook/model/Side" "quote" "Lcom/example/limitbook/limitbook/model/MarketEvent$Kind;" (.ref wo)) (nSB : (Value.ref ws1) ≠ Value.ref wb) (nOI : (Value.ref wo) ≠ Value.ref wi) :
    MetFree l x (head1 (Jvm.Cond.code x code maxLocals ret :: ws) room_1) (fun a U => a = #[(.int p1)] ∧ Z.Warmed39 U.vm ∧ U.heap = h0) (fun _ _ _ _ _ => True) (fun _ U o U' => ∃ v L, o = .returned v ∧ Q0 Z p1 wb ws1 wi wo h0 n0 v U'.heap L ∧ FrameEnd U o U' L room_1.cells room_1.slots) := by
  refine MetFree.of_bodySF (plainFor_of_name pn_1) hisR ?_
  intro p e s m args below meth c s₁ Bd hml0 hP hK
  obtain ⟨rfl, hZ, hh⟩ := hP
  have hx := Bd.exec
  have hby := Bd.bytes
  have hlk := BodyLoose.notSynchronized Bd
  have hml : c.maxLocals = 7 := hml0
  have hown : s.vm.findClass "com/example/limitbook/limitbook/model/SideOppositePinLaw" = some m.cls := findClass_of_methodNamed Bd.named
  have hnm := (name_of_methodNamed Bd.named Bd.method).1
  have X0 : Stand p l e room_1 s m #[(.int p1)] below meth c s₁ [] 0 0 := Stand.of_body Bd
  have e0 : s₁.heap = h0 := by rw [← hh, Bd.state]; rfl
  have N0 := Fr.nil n0
  show Go p e below s room_1.cells room_1.slots (Q0 Z p1 wb ws1 wi wo h0 n0) s₁ (entryFrame m #[(.int p1)] maxLocals)
  refine Go.cast (ef_rm0 m p1) ?_
  show Go _ _ _ _ _ _ _ s₁ (mkF m 0 #[.val (.int p1), .unset, .unset, .unset, .unset, .unset, .unset] [])
  refine Go.step (fun t k => XS.iloadN X0.here hx rfl (hb hby at_0) rfl k) ?_
  show Go _ _ _ _ _ _ _ s₁ (mkF m 1 #[.val (.int p1), .unset, .unset, .unset, .unset, .unset, .unset] [(.int p1)])
  refine Go.step (fun t k => XS.iconst X0.here hx rfl (hb hby at_1) k) ?_
  show Go _ _ _ _ _ _ _ s₁ (mkF m 2 #[.val (.int p1), .unset, .unset, .unset, .unset, .unset, .unset] [(.int (1 : Int32)), (.int p1)])
  refine Go.step (fun t k => XS.iand X0.here hx rfl (hb hby at_2) rfl k) ?_
  show Go _ _ _ _ _ _ _ s₁ (mkF m 3 #[.val (.int p1), .unset, .unset, .unset, .unset, .unset, .unset] [(.int (p1 &&& (1 : Int32)))])
  by_cases hb3_1 : (p1 &&& (1 : Int32)) = (0 : Int32)
  · refine Go.step (fun t k => XS.ifNo X0.here hx rfl (hb hby at_3) rfl (XT.i0_ne_f hb3_1) k) ?_
    show Go _ _ _ _ _ _ _ s₁ (mkF m 6 #[.val (.int p1), .unset, .unset, .unset, .unset, .unset, .unset] [])
    refine Go.step (fun t k => XS.iconst X0.here hx rfl (hb hby at_6) k) ?_
    show Go _ _ _ _ _ _ _ s₁ (mkF m 7 #[.val (.int p1), .unset, .unset, .unset, .unset, .unset, .unset] [(.int (1 : Int32))])
    refine Go.step (fun t k => XS.goto X0.here hx rfl (pc0 := 7) (pc' := 11) rfl (hb hby at_7) (by decide) (by decide) k) ?_
    show Go _ _ _ _ _ _ _ s₁ (mkF m 11 #[.val (.int p1), .unset, .unset, .unset, .unset, .unset, .unset] [(.int (1 : Int32))])
    refine Go.step (fun t k => XS.istoreN X0.here hx rfl (hb hby at_11) rfl (l' := #[.val (.int p1), .val (.int (1 : Int32)), .unset, .unset, .unset, .unset, .unset]) rfl k) ?_
    show Go _ _ _ _ _ _ _ s₁ (mkF m 12 #[.val (.int p1), .val (.int (1 : Int32)), .unset, .unset, .unset, .unset, .unset] [])
    refine Go.step (fun t k => XS.iloadN X0.here hx rfl (hb hby at_12) rfl k) ?_
    show Go _ _ _ _ _ _ _ s₁ (mkF m 13 #[.val (.int p1), .val (.int (1 : Int32)), .unset, .unset, .unset, .unset, .unset] [(.int (1 : Int32))])
    have hb13_2 : ¬ ((1 : Int32) = (0 : Int32)) := by decide
    refine Go.step (fun t k => XS.ifNo X0.here hx rfl (hb hby at_13) rfl (XT.i0_eq_f hb13_2) k) ?_
    show Go _ _ _ _ _ _ _ s₁ (mkF m 16 #[.val (.int p1), .val (.int (1 : Int32)), .unset, .unset, .unset, .unset, .unset] [])
    obtain ⟨T3, X3, e3, st3⟩ := getS2 X0 hx hZ hown (host := "") (Or.inl (hw _ (List.mem_of_getElem? (i := 0) rfl))) Via.refl e0 (S_BUY.ext O0.2) (g := (mkF m 16 #[.val (.int p1), .val (.int (1 : Int32)), .unset, .unset, .unset, .unset, .unset] [])) rfl (hb hby at_16)
    refine Go.step st3 ?_
    show Go _ _ _ _ _ _ _ T3 (mkF m 19 #[.val (.int p1), .val (.int (1 : Int32)), .unset, .unset, .unset, .unset, .unset] [(.ref wb)])
    refine Go.step (fun t k => XS.goto X3.here hx rfl (pc0 := 19) (pc' := 25) rfl (hb hby at_19) (by decide) (by decide) k) ?_
    show Go _ _ _ _ _ _ _ T3 (mkF m 25 #[.val (.int p1), .val (.int (1 : Int32)), .unset, .unset, .unset, .unset, .unset] [(.ref wb)])
    refine Go.step (fun t k => XS.astoreN X3.here hx rfl (hb hby at_25) rfl rfl (l' := #[.val (.int p1), .val (.int (1 : Int32)), .val (.ref wb), .unset, .unset, .unset, .unset]) rfl k) ?_
    show Go _ _ _ _ _ _ _ T3 (mkF m 26 #[.val (.int p1), .val (.int (1 : Int32)), .val (.ref wb), .unset, .unset, .unset, .unset] [])
    refine Go.step (fun t k => XS.iloadN X3.here hx rfl (hb hby at_26) rfl k) ?_
    show Go _ _ _ _ _ _ _ T3 (mkF m 27 #[.val (.int p1), .val (.int (1 : Int32)), .val (.ref wb), .unset, .unset, .unset, .unset] [(.int (1 : Int32))])
    have hb27_4 : ¬ ((1 : Int32) = (0 : Int32)) := by decide
    refine Go.step (fun t k => XS.ifNo X3.here hx rfl (hb hby at_27) rfl (XT.i0_eq_f hb27_4) k) ?_
    show Go _ _ _ _ _ _ _ T3 (mkF m 30 #[.val (.int p1), .val (.int (1 : Int32)), .val (.ref wb), .unset, .unset, .unset, .unset] [])
    obtain ⟨T5, X5, e5, st5⟩ := getS2 X3 hx hZ hown (host := "") (Or.inl (hw _ (List.mem_of_getElem? (i := 3) rfl))) Via.refl e3 (S_SELL.ext O0.2) (g := (mkF m 30 #[.val (.int p1), .val (.int (1 : Int32)), .val (.ref wb), .unset, .unset, .unset, .unset] [])) rfl (hb hby at_30)
    refine Go.step st5 ?_
    show Go _ _ _ _ _ _ _ T5 (mkF m 33 #[.val (.int p1), .val (.int (1 : Int32)), .val (.ref wb), .unset, .unset, .unset, .unset] [(.ref ws1)])
    refine Go.step (fun t k => XS.goto X5.here hx rfl (pc0 := 33) (pc' := 39) rfl (hb hby at_33) (by decide) (by decide) k) ?_
    show Go _ _ _ _ _ _ _ T5 (mkF m 39 #[.val (.int p1), .val (.int (1 : Int32)), .val (.ref wb), .unset, .unset, .unset, .unset] [(.ref ws1)])
    refine Go.step (fun t k => XS.astoreN X5.here hx rfl (hb hby at_39) rfl rfl (l' := #[.val (.int p1), .val (.int (1 : Int32)), .val (.ref wb), .val (.ref ws1), .unset, .unset, .unset]) rfl k) ?_
    show Go _ _ _ _ _ _ _ T5 (mkF m 40 #[.val (.int p1), .val (.int (1 : Int32)), .val (.ref wb), .val (.ref ws1), .unset, .unset, .unset] [])
    refine Go.step (fun t k => XS.aloadN X5.here hx rfl (hb hby at_40) rfl rfl k) ?_
    show Go _ _ _ _ _ _ _ T5 (mkF m 41 #[.val (.int p1), .val (.int (1 : Int32)), .val (.ref wb), .val (.ref ws1), .unset, .unset, .unset] [(.ref wb)])
    obtain ⟨cq6, kq6, qa6, qb6, qc6⟩ := isOf hZ e5 E_BUY
    obtain ⟨_, _, ⟨T6, L6, k6, n6⟩, -, X6, ⟨Lc6, hQ6, l6, y6, z6⟩, st6⟩ := X5.virtualBack hx (y := (⟨"com/example/limitbook/limitbook/model/Side", "opposite", "()Lcom/example/limitbook/limitbook/model/Side;"⟩ : MethodName)) (z := (⟨"com/example/limitbook/limitbook/model/Side", "opposite", "()Lcom/example/limitbook/limitbook/model/Side;"⟩ : MethodName)) hown (mvT hZ (hw _ (List.mem_of_getElem? (i := 5) rfl))) (mvT hZ (hw _ (List.mem_of_getElem? (i := 6) rfl))) (notFace_of_selects (args := #[]) (mvT hZ (hw _ (List.mem_of_getElem? (i := 8) rfl)))) (mvT hZ (hw _ (List.mem_of_getElem? (i := 8) rfl))) (mvT hZ (hw _ (List.mem_of_getElem? (i := 7) rfl))) (by decide) (backOf (W := 0) (rm1 l Z a0 hw [] wb wb ws1 ws1 h0 n0 Z0 O0 S_BUY S_SELL (by simp [own_opp, nSB])) hZ (hw _ (List.mem_of_getElem? (i := 9) rfl)) (hw _ (List.mem_of_getElem? (i := 1) rfl)) (by decide) (by decide)) qa6 qc6 (g := (mkF m 41 #[.val (.int p1), .val (.int (1 : Int32)), .val (.ref wb), .val (.ref ws1), .unset, .unset, .unset] [(.ref wb)])) rfl (by rw [hml]; rfl) (Steps.refl _) (argsL := []) (rest := []) (lenOf pd_0 rfl) rfl (by show 2 * 0 + _ ≤ _; exact Nat.le_of_eq rfl) (hb hby at_41) (fun _ _ => ⟨rfl, e5, (by decide : 0 + 0 ≤ _), (by decide : 0 + 0 ≤ _)⟩)
    dsimp only [Pt.U, Pt.locs, Pt.cells, Pt.slots] at X6 l6 y6 z6 st6 hQ6
    subst l6 y6 z6
    obtain ⟨rfl, N6q, e6⟩ := hQ6
    have N6 := Fr.app N0 N6q
    refine Go.step (fun t k => st6.trans k) ?_
    show Go _ _ _ _ _ _ _ T6 (mkF m 44 #[.val (.int p1), .val (.int (1 : Int32)), .val (.ref wb), .val (.ref ws1), .unset, .unset, .unset] [(.ref ws1)])
    refine Go.step (fun t k => XS.astore X6.here hx rfl (hb hby at_44) rfl rfl (l' := #[.val (.int p1), .val (.int (1 : Int32)), .val (.ref wb), .val (.ref ws1), .val (.ref ws1), .unset, .unset]) rfl k) ?_
    show Go _ _ _ _ _ _ _ T6 (mkF m 46 #[.val (.int p1), .val (.int (1 : Int32)), .val (.ref wb), .val (.ref ws1), .val (.ref ws1), .unset, .unset] [])
    refine Go.step (fun t k => XS.aload X6.here hx rfl (hb hby at_46) rfl rfl k) ?_
    show Go _ _ _ _ _ _ _ T6 (mkF m 48 #[.val (.int p1), .val (.int (1 : Int32)), .val (.ref wb), .val (.ref ws1), .val (.ref ws1), .unset, .unset] [(.ref ws1)])
    refine Go.step (fun t k => XS.aloadN X6.here hx rfl (hb hby at_48) rfl rfl k) ?_
    show Go _ _ _ _ _ _ _ T6 (mkF m 49 #[.val (.int p1), .val (.int (1 : Int32)), .val (.ref wb), .val (.ref ws1), .val (.ref ws1), .unset, .unset] [(.ref ws1), (.ref ws1)])
    have hb49_7 : ((.ref ws1) : Value) = (.ref ws1) := by rfl
    refine Go.step (fun t k => XT.acmpYes X6.here hx rfl (pc0 := 49) (pc' := 54) rfl (hb hby at_49) rfl rfl rfl (XT.aa_eq_t hb49_7) (by decide) (by decide) k) ?_
    show Go _ _ _ _ _ _ _ T6 (mkF m 54 #[.val (.int p1), .val (.int (1 : Int32)), .val (.ref wb), .val (.ref ws1), .val (.ref ws1), .unset, .unset] [])
    refine Go.step (fun t k => XS.aload X6.here hx rfl (hb hby at_54) rfl rfl k) ?_
    show Go _ _ _ _ _ _ _ T6 (mkF m 56 #[.val (.int p1), .val (.int (1 : Int32)), .val (.ref wb), .val (.ref ws1), .val (.ref ws1), .unset, .unset] [(.ref ws1)])
    refine Go.step (fun t k => XS.aloadN X6.here hx rfl (hb hby at_56) rfl rfl k) ?_
    show Go _ _ _ _ _ _ _ T6 (mkF m 57 #[.val (.int p1), .val (.int (1 : Int32)), .val (.ref wb), .val (.ref ws1), .val (.ref ws1), .unset, .unset] [(.ref wb), (.ref ws1)])
    have hb57_8 : ¬ (((.ref ws1) : Value) = (.ref wb)) := by exact nSB
    refine Go.step (fun t k => XT.acmpYes X6.here hx rfl (pc0 := 57) (pc' := 62) rfl (hb hby at_57) rfl rfl rfl (XT.aa_ne_t hb57_8) (by decide) (by decide) k) ?_
    show Go _ _ _ _ _ _ _ T6 (mkF m 62 #[.val (.int p1), .val (.int (1 : Int32)), .val (.ref wb), .val (.ref ws1), .val (.ref ws1), .unset, .unset] [])
    refine Go.step (fun t k => XS.aload X6.here hx rfl (hb hby at_62) rfl rfl k) ?_
    show Go _ _ _ _ _ _ _ T6 (mkF m 64 #[.val (.int p1), .val (.int (1 : Int32)), .val (.ref wb), .val (.ref ws1), .val (.ref ws1), .unset, .unset] [(.ref ws1)])
    obtain ⟨cq9, kq9, qa9, qb9, qc9⟩ := isOf hZ (e6) E_SELL
    obtain ⟨_, _, ⟨T9, L9, k9, n9⟩, -, X9, ⟨Lc9, hQ9, l9, y9, z9⟩, st9⟩ := X6.virtualBack hx (y := (⟨"com/example/limitbook/limitbook/model/Side", "opposite", "()Lcom/example/limitbook/limitbook/model/Side;"⟩ : MethodName)) (z := (⟨"com/example/limitbook/limitbook/model/Side", "opposite", "()Lcom/example/limitbook/limitbook/model/Side;"⟩ : MethodName)) hown (mvT hZ (hw _ (List.mem_of_getElem? (i := 5) rfl))) (mvT hZ (hw _ (List.mem_of_getElem? (i := 6) rfl))) (notFace_of_selects (args := #[]) (mvT hZ (hw _ (List.mem_of_getElem? (i := 8) rfl)))) (mvT hZ (hw _ (List.mem_of_getElem? (i := 8) rfl))) (mvT hZ (hw _ (List.mem_of_getElem? (i := 7) rfl))) (by decide) (backOf (W := 0) (rm1 l Z a0 hw [] ws1 wb ws1 wb h0 n0 Z0 O0 S_BUY S_SELL (by simp [own_opp, nSB])) hZ (hw _ (List.mem_of_getElem? (i := 9) rfl)) (hw _ (List.mem_of_getElem? (i := 1) rfl)) (by decide) (by decide)) qa9 qc9 (g := (mkF m 64 #[.val (.int p1), .val (.int (1 : Int32)), .val (.ref wb), .val (.ref ws1), .val (.ref ws1), .unset, .unset] [(.ref ws1)])) rfl (by rw [hml]; rfl) (Steps.refl _) (argsL := []) (rest := []) (lenOf pd_0 rfl) rfl (by show 2 * 0 + _ ≤ _; exact Nat.le_of_eq rfl) (hb hby at_64) (fun _ _ => ⟨rfl, (e6), (by decide : 0 + 0 + 0 ≤ _), (by decide : 0 + 0 + 0 ≤ _)⟩)
    dsimp only [Pt.U, Pt.locs, Pt.cells, Pt.slots] at X9 l9 y9 z9 st9 hQ9
    subst l9 y9 z9
    obtain ⟨rfl, N9q, e9⟩ := hQ9
    have N9 := Fr.app N6 N9q
    refine Go.step (fun t k => st9.trans k) ?_
    show Go _ _ _ _ _ _ _ T9 (mkF m 67 #[.val (.int p1), .val (.int (1 : Int32)), .val (.ref wb), .val (.ref ws1), .val (.ref ws1), .unset, .unset] [(.ref wb)])
    refine Go.step (fun t k => XS.aloadN X9.here hx rfl (hb hby at_67) rfl rfl k) ?_
    show Go _ _ _ _ _ _ _ T9 (mkF m 68 #[.val (.int p1), .val (.int (1 : Int32)), .val (.ref wb), .val (.ref ws1), .val (.ref ws1), .unset, .unset] [(.ref wb), (.ref wb)])
    have hb68_10 : ((.ref wb) : Value) = (.ref wb) := by rfl
    refine Go.step (fun t k => XT.acmpYes X9.here hx rfl (pc0 := 68) (pc' := 73) rfl (hb hby at_68) rfl rfl rfl (XT.aa_eq_t hb68_10) (by decide) (by decide) k) ?_
    show Go _ _ _ _ _ _ _ T9 (mkF m 73 #[.val (.int p1), .val (.int (1 : Int32)), .val (.ref wb), .val (.ref ws1), .val (.ref ws1), .unset, .unset] [])
    refine Go.step (fun t k => XS.aloadN X9.here hx rfl (hb hby at_73) rfl rfl k) ?_
    show Go _ _ _ _ _ _ _ T9 (mkF m 74 #[.val (.int p1), .val (.int (1 : Int32)), .val (.ref wb), .val (.ref ws1), .val (.ref ws1), .unset, .unset] [(.ref wb)])
    obtain ⟨cq11, kq11, qa11, qb11, qc11⟩ := isOf hZ (e9) E_BUY
    obtain ⟨_, _, ⟨T11, L11, k11, n11⟩, -, X11, ⟨Lc11, hQ11, l11, y11, z11⟩, st11⟩ := X9.virtualBack hx (y := (⟨"com/example/limitbook/limitbook/model/Side", "quote", "()Lcom/example/limitbook/limitbook/model/MarketEvent$Kind;"⟩ : MethodName)) (z := (⟨"com/example/limitbook/limitbook/model/Side", "quote", "()Lcom/example/limitbook/limitbook/model/MarketEvent$Kind;"⟩ : MethodName)) hown (mvT hZ (hw _ (List.mem_of_getElem? (i := 12) rfl))) (mvT hZ (hw _ (List.mem_of_getElem? (i := 13) rfl))) (notFace_of_selects (args := #[]) (mvT hZ (hw _ (List.mem_of_getElem? (i := 15) rfl)))) (mvT hZ (hw _ (List.mem_of_getElem? (i := 15) rfl))) (mvT hZ (hw _ (List.mem_of_getElem? (i := 14) rfl))) (by decide) (backOf (W := 0) (rm2 l Z a0 hw [] wb wi h0 n0 Z0 F_BUY) hZ (hw _ (List.mem_of_getElem? (i := 16) rfl)) (hw _ (List.mem_of_getElem? (i := 1) rfl)) (by decide) (by decide)) qa11 qc11 (g := (mkF m 74 #[.val (.int p1), .val (.int (1 : Int32)), .val (.ref wb), .val (.ref ws1), .val (.ref ws1), .unset, .unset] [(.ref wb)])) rfl (by rw [hml]; rfl) (Steps.refl _) (argsL := []) (rest := []) (lenOf pd_1 rfl) rfl (by show 2 * 0 + _ ≤ _; exact Nat.le_of_eq rfl) (hb hby at_74) (fun _ _ => ⟨rfl, (e9), (by decide : 0 + 0 + 0 + 0 ≤ _), (by decide : 0 + 0 + 0 + 0 ≤ _)⟩)
    dsimp only [Pt.U, Pt.locs, Pt.cells, Pt.slots] at X11 l11 y11 z11 st11 hQ11
    subst l11 y11 z11
    obtain ⟨rfl, N11q, e11⟩ := hQ11
    have N11 := Fr.app N9 N11q
    refine Go.step (fun t k => st11.trans k) ?_
    show Go _ _ _ _ _ _ _ T11 (mkF m 77 #[.val (.int p1), .val (.int (1 : Int32)), .val (.ref wb), .val (.ref ws1), .val (.ref ws1), .unset, .unset] [(.ref wi)])
    refine Go.step (fun t k => XS.astore X11.here hx rfl (hb hby at_77) rfl rfl (l' := #[.val (.int p1), .val (.int (1 : Int32)), .val (.ref wb), .val (.ref ws1), .val (.ref ws1), .val (.ref wi), .unset]) rfl k) ?_
    show Go _ _ _ _ _ _ _ T11 (mkF m 79 #[.val (.int p1), .val (.int (1 : Int32)), .val (.ref wb), .val (.ref ws1), .val (.ref ws1), .val (.ref wi), .unset] [])
    refine Go.step (fun t k => XS.aload X11.here hx rfl (hb hby at_79) rfl rfl k) ?_
    show Go _ _ _ _ _ _ _ T11 (mkF m 81 #[.val (.int p1), .val (.int (1 : Int32)), .val (.ref wb), .val (.ref ws1), .val (.ref ws1), .val (.ref wi), .unset] [(.ref ws1)])
    obtain ⟨cq12, kq12, qa12, qb12, qc12⟩ := isOf hZ (e11) E_SELL
    obtain ⟨_, _, ⟨T12, L12, k12, n12⟩, -, X12, ⟨Lc12, hQ12, l12, y12, z12⟩, st12⟩ := X11.virtualBack hx (y := (⟨"com/example/limitbook/limitbook/model/Side", "quote", "()Lcom/example/limitbook/limitbook/model/MarketEvent$Kind;"⟩ : MethodName)) (z := (⟨"com/example/limitbook/limitbook/model/Side", "quote", "()Lcom/example/limitbook/limitbook/model/MarketEvent$Kind;"⟩ : MethodName)) hown (mvT hZ (hw _ (List.mem_of_getElem? (i := 12) rfl))) (mvT hZ (hw _ (List.mem_of_getElem? (i := 13) rfl))) (notFace_of_selects (args := #[]) (mvT hZ (hw _ (List.mem_of_getElem? (i := 15) rfl)))) (mvT hZ (hw _ (List.mem_of_getElem? (i := 15) rfl))) (mvT hZ (hw _ (List.mem_of_getElem? (i := 14) rfl))) (by decide) (backOf (W := 0) (rm2 l Z a0 hw [] ws1 wo h0 n0 Z0 F_SELL) hZ (hw _ (List.mem_of_getElem? (i := 16) rfl)) (hw _ (List.mem_of_getElem? (i := 1) rfl)) (by decide) (by decide)) qa12 qc12 (g := (mkF m 81 #[.val (.int p1), .val (.int (1 : Int32)), .val (.ref wb), .val (.ref ws1), .val (.ref ws1), .val (.ref wi), .unset] [(.ref ws1)])) rfl (by rw [hml]; rfl) (Steps.refl _) (argsL := []) (rest := []) (lenOf pd_1 rfl) rfl (by show 2 * 0 + _ ≤ _; exact Nat.le_of_eq rfl) (hb hby at_81) (fun _ _ => ⟨rfl, (e11), (by decide : 0 + 0 + 0 + 0 + 0 ≤ _), (by decide : 0 + 0 + 0 + 0 + 0 ≤ _)⟩)
    dsimp only [Pt.U, Pt.locs, Pt.cells, Pt.slots] at X12 l12 y12 z12 st12 hQ12
    subst l12 y12 z12
    obtain ⟨rfl, N12q, e12⟩ := hQ12
    have N12 := Fr.app N11 N12q
    refine Go.step (fun t k => st12.trans k) ?_
    show Go _ _ _ _ _ _ _ T12 (mkF m 84 #[.val (.int p1), .val (.int (1 : Int32)), .val (.ref wb), .val (.ref ws1), .val (.ref ws1), .val (.ref wi), .unset] [(.ref wo)])
    refine Go.step (fun t k => XS.astore X12.here hx rfl (hb hby at_84) rfl rfl (l' := #[.val (.int p1), .val (.int (1 : Int32)), .val (.ref wb), .val (.ref ws1), .val (.ref ws1), .val (.ref wi), .val (.ref wo)]) rfl k) ?_
    show Go _ _ _ _ _ _ _ T12 (mkF m 86 #[.val (.int p1), .val (.int (1 : Int32)), .val (.ref wb), .val (.ref ws1), .val (.ref ws1), .val (.ref wi), .val (.ref wo)] [])
    refine Go.step (fun t k => XS.aload X12.here hx rfl (hb hby at_86) rfl rfl k) ?_
    show Go _ _ _ _ _ _ _ T12 (mkF m 88 #[.val (.int p1), .val (.int (1 : Int32)), .val (.ref wb), .val (.ref ws1), .val (.ref ws1), .val (.ref wi), .val (.ref wo)] [(.ref wi)])
    obtain ⟨T13, X13, e13, st13⟩ := getS2 X12 hx hZ hown (host := "") (Or.inl (hw _ (List.mem_of_getElem? (i := 22) rfl))) Via.refl (e12) (S_BID.ext O0.2) (g := (mkF m 88 #[.val (.int p1), .val (.int (1 : Int32)), .val (.ref wb), .val (.ref ws1), .val (.ref ws1), .val (.ref wi), .val (.ref wo)] [(.ref wi)])) rfl (hb hby at_88)
    refine Go.step st13 ?_
    show Go _ _ _ _ _ _ _ T13 (mkF m 91 #[.val (.int p1), .val (.int (1 : Int32)), .val (.ref wb), .val (.ref ws1), .val (.ref ws1), .val (.ref wi), .val (.ref wo)] [(.ref wi), (.ref wi)])
    have hb91_14 : ((.ref wi) : Value) = (.ref wi) := by rfl
    refine Go.step (fun t k => XT.acmpNo X13.here hx rfl (hb hby at_91) rfl rfl rfl (XT.aa_ne_f hb91_14) k) ?_
    show Go _ _ _ _ _ _ _ T13 (mkF m 94 #[.val (.int p1), .val (.int (1 : Int32)), .val (.ref wb), .val (.ref ws1), .val (.ref ws1), .val (.ref wi), .val (.ref wo)] [])
    refine Go.step (fun t k => XS.aload X13.here hx rfl (hb hby at_94) rfl rfl k) ?_
    show Go _ _ _ _ _ _ _ T13 (mkF m 96 #[.val (.int p1), .val (.int (1 : Int32)), .val (.ref wb), .val (.ref ws1), .val (.ref ws1), .val (.ref wi), .val (.ref wo)] [(.ref wo)])
    obtain ⟨T15, X15, e15, st15⟩ := getS2 X13 hx hZ hown (host := "") (Or.inl (hw _ (List.mem_of_getElem? (i := 23) rfl))) Via.refl e13 (S_OFFER.ext O0.2) (g := (mkF m 96 #[.val (.int p1), .val (.int (1 : Int32)), .val (.ref wb), .val (.ref ws1), .val (.ref ws1), .val (.ref wi), .val (.ref wo)] [(.ref wo)])) rfl (hb hby at_96)
    refine Go.step st15 ?_
    show Go _ _ _ _ _ _ _ T15 (mkF m 99 #[.val (.int p1), .val (.int (1 : Int32)), .val (.ref wb), .val (.ref ws1), .val (.ref ws1), .val (.ref wi), .val (.ref wo)] [(.ref wo), (.ref wo)])
    have hb99_16 : ((.ref wo) : Value) = (.ref wo) := by rfl
    refine Go.step (fun t k => XT.acmpNo X15.here hx rfl (hb hby at_99) rfl rfl rfl (XT.aa_ne_f hb99_16) k) ?_
    show Go _ _ _ _ _ _ _ T15 (mkF m 102 #[.val (.int p1), .val (.int (1 : Int32)), .val (.ref wb), .val (.ref ws1), .val (.ref ws1), .val (.ref wi), .val (.ref wo)] [])
    refine Go.step (fun t k => XS.iconst X15.here hx rfl (hb hby at_102) k) ?_
    show Go _ _ _ _ _ _ _ T15 (mkF m 103 #[.val (.int p1), .val (.int (1 : Int32)), .val (.ref wb), .val (.ref ws1), .val (.ref ws1), .val (.ref wi), .val (.ref wo)] [(.int (1 : Int32))])
    refine Go.step (fun t k => XS.goto X15.here hx rfl (pc0 := 103) (pc' := 107) rfl (hb hby at_103) (by decide) (by decide) k) ?_
    show Go _ _ _ _ _ _ _ T15 (mkF m 107 #[.val (.int p1), .val (.int (1 : Int32)), .val (.ref wb), .val (.ref ws1), .val (.ref ws1), .val (.ref wi), .val (.ref wo)] [(.int (1 : Int32))])
    refine Go.ret X15 hx hlk Bd.returns rfl (Or.inl ⟨rfl, Or.inr (Or.inl rfl), _, rfl⟩) (hb hby at_107) ?_ (by decide) (by decide)
    show Q0 Z _ _ _ _ _ _ _ _ T15.heap _
    exact ⟨rfl, N12⟩
  · refine Go.step (fun t k => XS.ifYes X0.here hx rfl (pc0 := 3) (pc' := 10) rfl (hb hby at_3) rfl (XT.i0_ne_t hb3_1) (by decide) (by decide) k) ?_
    show Go _ _ _ _ _ _ _ s₁ (mkF m 10 #[.val (.int p1), .unset, .unset, .unset, .unset, .unset, .unset] [])
    refine Go.step (fun t k => XS.iconst X0.here hx rfl (hb hby at_10) k) ?_
    show Go _ _ _ _ _ _ _ s₁ (mkF m 11 #[.val (.int p1), .unset, .unset, .unset, .unset, .unset, .unset] [(.int (0 : Int32))])
    refine Go.step (fun t k => XS.istoreN X0.here hx rfl (hb hby at_11) rfl (l' := #[.val (.int p1), .val (.int (0 : Int32)), .unset, .unset, .unset, .unset, .unset]) rfl k) ?_
    show Go _ _ _ _ _ _ _ s₁ (mkF m 12 #[.val (.int p1), .val (.int (0 : Int32)), .unset, .unset, .unset, .unset, .unset] [])
    refine Go.step (fun t k => XS.iloadN X0.here hx rfl (hb hby at_12) rfl k) ?_
    show Go _ _ _ _ _ _ _ s₁ (mkF m 13 #[.val (.int p1), .val (.int (0 : Int32)), .unset, .unset, .unset, .unset, .unset] [(.int (0 : Int32))])
    have hb13_17 : (0 : Int32) = (0 : Int32) := by decide
    refine Go.step (fun t k => XS.ifYes X0.here hx rfl (pc0 := 13) (pc' := 22) rfl (hb hby at_13) rfl (XT.i0_eq_t hb13_17) (by decide) (by decide) k) ?_
    show Go _ _ _ _ _ _ _ s₁ (mkF m 22 #[.val (.int p1), .val (.int (0 : Int32)), .unset, .unset, .unset, .unset, .unset] [])
    obtain ⟨T18, X18, e18, st18⟩ := getS2 X0 hx hZ hown (host := "") (Or.inl (hw _ (List.mem_of_getElem? (i := 3) rfl))) Via.refl e0 (S_SELL.ext O0.2) (g := (mkF m 22 #[.val (.int p1), .val (.int (0 : Int32)), .unset, .unset, .unset, .unset, .unset] [])) rfl (hb hby at_22)
    refine Go.step st18 ?_
    show Go _ _ _ _ _ _ _ T18 (mkF m 25 #[.val (.int p1), .val (.int (0 : Int32)), .unset, .unset, .unset, .unset, .unset] [(.ref ws1)])
    refine Go.step (fun t k => XS.astoreN X18.here hx rfl (hb hby at_25) rfl rfl (l' := #[.val (.int p1), .val (.int (0 : Int32)), .val (.ref ws1), .unset, .unset, .unset, .unset]) rfl k) ?_
    show Go _ _ _ _ _ _ _ T18 (mkF m 26 #[.val (.int p1), .val (.int (0 : Int32)), .val (.ref ws1), .unset, .unset, .unset, .unset] [])
    refine Go.step (fun t k => XS.iloadN X18.here hx rfl (hb hby at_26) rfl k) ?_
    show Go _ _ _ _ _ _ _ T18 (mkF m 27 #[.val (.int p1), .val (.int (0 : Int32)), .val (.ref ws1), .unset, .unset, .unset, .unset] [(.int (0 : Int32))])
    have hb27_19 : (0 : Int32) = (0 : Int32) := by decide
    refine Go.step (fun t k => XS.ifYes X18.here hx rfl (pc0 := 27) (pc' := 36) rfl (hb hby at_27) rfl (XT.i0_eq_t hb27_19) (by decide) (by decide) k) ?_
    show Go _ _ _ _ _ _ _ T18 (mkF m 36 #[.val (.int p1), .val (.int (0 : Int32)), .val (.ref ws1), .unset, .unset, .unset, .unset] [])
    obtain ⟨T20, X20, e20, st20⟩ := getS2 X18 hx hZ hown (host := "") (Or.inl (hw _ (List.mem_of_getElem? (i := 0) rfl))) Via.refl e18 (S_BUY.ext O0.2) (g := (mkF m 36 #[.val (.int p1), .val (.int (0 : Int32)), .val (.ref ws1), .unset, .unset, .unset, .unset] [])) rfl (hb hby at_36)
    refine Go.step st20 ?_
    show Go _ _ _ _ _ _ _ T20 (mkF m 39 #[.val (.int p1), .val (.int (0 : Int32)), .val (.ref ws1), .unset, .unset, .unset, .unset] [(.ref wb)])
    refine Go.step (fun t k => XS.astoreN X20.here hx rfl (hb hby at_39) rfl rfl (l' := #[.val (.int p1), .val (.int (0 : Int32)), .val (.ref ws1), .val (.ref wb), .unset, .unset, .unset]) rfl k) ?_
    show Go _ _ _ _ _ _ _ T20 (mkF m 40 #[.val (.int p1), .val (.int (0 : Int32)), .val (.ref ws1), .val (.ref wb), .unset, .unset, .unset] [])
    refine Go.step (fun t k => XS.aloadN X20.here hx rfl (hb hby at_40) rfl rfl k) ?_
    show Go _ _ _ _ _ _ _ T20 (mkF m 41 #[.val (.int p1), .val (.int (0 : Int32)), .val (.ref ws1), .val (.ref wb), .unset, .unset, .unset] [(.ref ws1)])
    obtain ⟨cq21, kq21, qa21, qb21, qc21⟩ := isOf hZ e20 E_SELL
    obtain ⟨_, _, ⟨T21, L21, k21, n21⟩, -, X21, ⟨Lc21, hQ21, l21, y21, z21⟩, st21⟩ := X20.virtualBack hx (y := (⟨"com/example/limitbook/limitbook/model/Side", "opposite", "()Lcom/example/limitbook/limitbook/model/Side;"⟩ : MethodName)) (z := (⟨"com/example/limitbook/limitbook/model/Side", "opposite", "()Lcom/example/limitbook/limitbook/model/Side;"⟩ : MethodName)) hown (mvT hZ (hw _ (List.mem_of_getElem? (i := 5) rfl))) (mvT hZ (hw _ (List.mem_of_getElem? (i := 6) rfl))) (notFace_of_selects (args := #[]) (mvT hZ (hw _ (List.mem_of_getElem? (i := 8) rfl)))) (mvT hZ (hw _ (List.mem_of_getElem? (i := 8) rfl))) (mvT hZ (hw _ (List.mem_of_getElem? (i := 7) rfl))) (by decide) (backOf (W := 0) (rm1 l Z a0 hw [] ws1 wb ws1 wb h0 n0 Z0 O0 S_BUY S_SELL (by simp [own_opp, nSB])) hZ (hw _ (List.mem_of_getElem? (i := 9) rfl)) (hw _ (List.mem_of_getElem? (i := 1) rfl)) (by decide) (by decide)) qa21 qc21 (g := (mkF m 41 #[.val (.int p1), .val (.int (0 : Int32)), .val (.ref ws1), .val (.ref wb), .unset, .unset, .unset] [(.ref ws1)])) rfl (by rw [hml]; rfl) (Steps.refl _) (argsL := []) (rest := []) (lenOf pd_0 rfl) rfl (by show 2 * 0 + _ ≤ _; exact Nat.le_of_eq rfl) (hb hby at_41) (fun _ _ => ⟨rfl, e20, (by decide : 0 + 0 ≤ _), (by decide : 0 + 0 ≤ _)⟩)
    dsimp only [Pt.U, Pt.locs, Pt.cells, Pt.slots] at X21 l21 y21 z21 st21 hQ21
    subst l21 y21 z21
    obtain ⟨rfl, N21q, e21⟩ := hQ21
    have N21 := Fr.app N0 N21q
    refine Go.step (fun t k => st21.trans k) ?_
    show Go _ _ _ _ _ _ _ T21 (mkF m 44 #[.val (.int p1), .val (.int (0 : Int32)), .val (.ref ws1), .val (.ref wb), .unset, .unset, .unset] [(.ref wb)])
    refine Go.step (fun t k => XS.astore X21.here hx rfl (hb hby at_44) rfl rfl (l' := #[.val (.int p1), .val (.int (0 : Int32)), .val (.ref ws1), .val (.ref wb), .val (.ref wb), .unset, .unset]) rfl k) ?_
    show Go _ _ _ _ _ _ _ T21 (mkF m 46 #[.val (.int p1), .val (.int (0 : Int32)), .val (.ref ws1), .val (.ref wb), .val (.ref wb), .unset, .unset] [])
    refine Go.step (fun t k => XS.aload X21.here hx rfl (hb hby at_46) rfl rfl k) ?_
    show Go _ _ _ _ _ _ _ T21 (mkF m 48 #[.val (.int p1), .val (.int (0 : Int32)), .val (.ref ws1), .val (.ref wb), .val (.ref wb), .unset, .unset] [(.ref wb)])
    refine Go.step (fun t k => XS.aloadN X21.here hx rfl (hb hby at_48) rfl rfl k) ?_
    show Go _ _ _ _ _ _ _ T21 (mkF m 49 #[.val (.int p1), .val (.int (0 : Int32)), .val (.ref ws1), .val (.ref wb), .val (.ref wb), .unset, .unset] [(.ref wb), (.ref wb)])
    have hb49_22 : ((.ref wb) : Value) = (.ref wb) := by rfl
    refine Go.step (fun t k => XT.acmpYes X21.here hx rfl (pc0 := 49) (pc' := 54) rfl (hb hby at_49) rfl rfl rfl (XT.aa_eq_t hb49_22) (by decide) (by decide) k) ?_
    show Go _ _ _ _ _ _ _ T21 (mkF m 54 #[.val (.int p1), .val (.int (0 : Int32)), .val (.ref ws1), .val (.ref wb), .val (.ref wb), .unset, .unset] [])
    refine Go.step (fun t k => XS.aload X21.here hx rfl (hb hby at_54) rfl rfl k) ?_
    show Go _ _ _ _ _ _ _ T21 (mkF m 56 #[.val (.int p1), .val (.int (0 : Int32)), .val (.ref ws1), .val (.ref wb), .val (.ref wb), .unset, .unset] [(.ref wb)])
    refine Go.step (fun t k => XS.aloadN X21.here hx rfl (hb hby at_56) rfl rfl k) ?_
    show Go _ _ _ _ _ _ _ T21 (mkF m 57 #[.val (.int p1), .val (.int (0 : Int32)), .val (.ref ws1), .val (.ref wb), .val (.ref wb), .unset, .unset] [(.ref ws1), (.ref wb)])
    have hb57_23 : ¬ (((.ref wb) : Value) = (.ref ws1)) := by exact nSB.symm
    refine Go.step (fun t k => XT.acmpYes X21.here hx rfl (pc0 := 57) (pc' := 62) rfl (hb hby at_57) rfl rfl rfl (XT.aa_ne_t hb57_23) (by decide) (by decide) k) ?_
    show Go _ _ _ _ _ _ _ T21 (mkF m 62 #[.val (.int p1), .val (.int (0 : Int32)), .val (.ref ws1), .val (.ref wb), .val (.ref wb), .unset, .unset] [])
    refine Go.step (fun t k => XS.aload X21.here hx rfl (hb hby at_62) rfl rfl k) ?_
    show Go _ _ _ _ _ _ _ T21 (mkF m 64 #[.val (.int p1), .val (.int (0 : Int32)), .val (.ref ws1), .val (.ref wb), .val (.ref wb), .unset, .unset] [(.ref wb)])
    obtain ⟨cq24, kq24, qa24, qb24, qc24⟩ := isOf hZ (e21) E_BUY
    obtain ⟨_, _, ⟨T24, L24, k24, n24⟩, -, X24, ⟨Lc24, hQ24, l24, y24, z24⟩, st24⟩ := X21.virtualBack hx (y := (⟨"com/example/limitbook/limitbook/model/Side", "opposite", "()Lcom/example/limitbook/limitbook/model/Side;"⟩ : MethodName)) (z := (⟨"com/example/limitbook/limitbook/model/Side", "opposite", "()Lcom/example/limitbook/limitbook/model/Side;"⟩ : MethodName)) hown (mvT hZ (hw _ (List.mem_of_getElem? (i := 5) rfl))) (mvT hZ (hw _ (List.mem_of_getElem? (i := 6) rfl))) (notFace_of_selects (args := #[]) (mvT hZ (hw _ (List.mem_of_getElem? (i := 8) rfl)))) (mvT hZ (hw _ (List.mem_of_getElem? (i := 8) rfl))) (mvT hZ (hw _ (List.mem_of_getElem? (i := 7) rfl))) (by decide) (backOf (W := 0) (rm1 l Z a0 hw [] wb wb ws1 ws1 h0 n0 Z0 O0 S_BUY S_SELL (by simp [own_opp, nSB])) hZ (hw _ (List.mem_of_getElem? (i := 9) rfl)) (hw _ (List.mem_of_getElem? (i := 1) rfl)) (by decide) (by decide)) qa24 qc24 (g := (mkF m 64 #[.val (.int p1), .val (.int (0 : Int32)), .val (.ref ws1), .val (.ref wb), .val (.ref wb), .unset, .unset] [(.ref wb)])) rfl (by rw [hml]; rfl) (Steps.refl _) (argsL := []) (rest := []) (lenOf pd_0 rfl) rfl (by show 2 * 0 + _ ≤ _; exact Nat.le_of_eq rfl) (hb hby at_64) (fun _ _ => ⟨rfl, (e21), (by decide : 0 + 0 + 0 ≤ _), (by decide : 0 + 0 + 0 ≤ _)⟩)
    dsimp only [Pt.U, Pt.locs, Pt.cells, Pt.slots] at X24 l24 y24 z24 st24 hQ24
    subst l24 y24 z24
    obtain ⟨rfl, N24q, e24⟩ := hQ24
    have N24 := Fr.app N21 N24q
    refine Go.step (fun t k => st24.trans k) ?_
    show Go _ _ _ _ _ _ _ T24 (mkF m 67 #[.val (.int p1), .val (.int (0 : Int32)), .val (.ref ws1), .val (.ref wb), .val (.ref wb), .unset, .unset] [(.ref ws1)])
    refine Go.step (fun t k => XS.aloadN X24.here hx rfl (hb hby at_67) rfl rfl k) ?_
    show Go _ _ _ _ _ _ _ T24 (mkF m 68 #[.val (.int p1), .val (.int (0 : Int32)), .val (.ref ws1), .val (.ref wb), .val (.ref wb), .unset, .unset] [(.ref ws1), (.ref ws1)])
    have hb68_25 : ((.ref ws1) : Value) = (.ref ws1) := by rfl
    refine Go.step (fun t k => XT.acmpYes X24.here hx rfl (pc0 := 68) (pc' := 73) rfl (hb hby at_68) rfl rfl rfl (XT.aa_eq_t hb68_25) (by decide) (by decide) k) ?_
    show Go _ _ _ _ _ _ _ T24 (mkF m 73 #[.val (.int p1), .val (.int (0 : Int32)), .val (.ref ws1), .val (.ref wb), .val (.ref wb), .unset, .unset] [])
    refine Go.step (fun t k => XS.aloadN X24.here hx rfl (hb hby at_73) rfl rfl k) ?_
    show Go _ _ _ _ _ _ _ T24 (mkF m 74 #[.val (.int p1), .val (.int (0 : Int32)), .val (.ref ws1), .val (.ref wb), .val (.ref wb), .unset, .unset] [(.ref ws1)])
    obtain ⟨cq26, kq26, qa26, qb26, qc26⟩ := isOf hZ (e24) E_SELL
    obtain ⟨_, _, ⟨T26, L26, k26, n26⟩, -, X26, ⟨Lc26, hQ26, l26, y26, z26⟩, st26⟩ := X24.virtualBack hx (y := (⟨"com/example/limitbook/limitbook/model/Side", "quote", "()Lcom/example/limitbook/limitbook/model/MarketEvent$Kind;"⟩ : MethodName)) (z := (⟨"com/example/limitbook/limitbook/model/Side", "quote", "()Lcom/example/limitbook/limitbook/model/MarketEvent$Kind;"⟩ : MethodName)) hown (mvT hZ (hw _ (List.mem_of_getElem? (i := 12) rfl))) (mvT hZ (hw _ (List.mem_of_getElem? (i := 13) rfl))) (notFace_of_selects (args := #[]) (mvT hZ (hw _ (List.mem_of_getElem? (i := 15) rfl)))) (mvT hZ (hw _ (List.mem_of_getElem? (i := 15) rfl))) (mvT hZ (hw _ (List.mem_of_getElem? (i := 14) rfl))) (by decide) (backOf (W := 0) (rm2 l Z a0 hw [] ws1 wo h0 n0 Z0 F_SELL) hZ (hw _ (List.mem_of_getElem? (i := 16) rfl)) (hw _ (List.mem_of_getElem? (i := 1) rfl)) (by decide) (by decide)) qa26 qc26 (g := (mkF m 74 #[.val (.int p1), .val (.int (0 : Int32)), .val (.ref ws1), .val (.ref wb), .val (.ref wb), .unset, .unset] [(.ref ws1)])) rfl (by rw [hml]; rfl) (Steps.refl _) (argsL := []) (rest := []) (lenOf pd_1 rfl) rfl (by show 2 * 0 + _ ≤ _; exact Nat.le_of_eq rfl) (hb hby at_74) (fun _ _ => ⟨rfl, (e24), (by decide : 0 + 0 + 0 + 0 ≤ _), (by decide : 0 + 0 + 0 + 0 ≤ _)⟩)
    dsimp only [Pt.U, Pt.locs, Pt.cells, Pt.slots] at X26 l26 y26 z26 st26 hQ26
    subst l26 y26 z26
    obtain ⟨rfl, N26q, e26⟩ := hQ26
    have N26 := Fr.app N24 N26q
    refine Go.step (fun t k => st26.trans k) ?_
    show Go _ _ _ _ _ _ _ T26 (mkF m 77 #[.val (.int p1), .val (.int (0 : Int32)), .val (.ref ws1), .val (.ref wb), .val (.ref wb), .unset, .unset] [(.ref wo)])
    refine Go.step (fun t k => XS.astore X26.here hx rfl (hb hby at_77) rfl rfl (l' := #[.val (.int p1), .val (.int (0 : Int32)), .val (.ref ws1), .val (.ref wb), .val (.ref wb), .val (.ref wo), .unset]) rfl k) ?_
    show Go _ _ _ _ _ _ _ T26 (mkF m 79 #[.val (.int p1), .val (.int (0 : Int32)), .val (.ref ws1), .val (.ref wb), .val (.ref wb), .val (.ref wo), .unset] [])
    refine Go.step (fun t k => XS.aload X26.here hx rfl (hb hby at_79) rfl rfl k) ?_
    show Go _ _ _ _ _ _ _ T26 (mkF m 81 #[.val (.int p1), .val (.int (0 : Int32)), .val (.ref ws1), .val (.ref wb), .val (.ref wb), .val (.ref wo), .unset] [(.ref wb)])
    obtain ⟨cq27, kq27, qa27, qb27, qc27⟩ := isOf hZ (e26) E_BUY
    obtain ⟨_, _, ⟨T27, L27, k27, n27⟩, -, X27, ⟨Lc27, hQ27, l27, y27, z27⟩, st27⟩ := X26.virtualBack hx (y := (⟨"com/example/limitbook/limitbook/model/Side", "quote", "()Lcom/example/limitbook/limitbook/model/MarketEvent$Kind;"⟩ : MethodName)) (z := (⟨"com/example/limitbook/limitbook/model/Side", "quote", "()Lcom/example/limitbook/limitbook/model/MarketEvent$Kind;"⟩ : MethodName)) hown (mvT hZ (hw _ (List.mem_of_getElem? (i := 12) rfl))) (mvT hZ (hw _ (List.mem_of_getElem? (i := 13) rfl))) (notFace_of_selects (args := #[]) (mvT hZ (hw _ (List.mem_of_getElem? (i := 15) rfl)))) (mvT hZ (hw _ (List.mem_of_getElem? (i := 15) rfl))) (mvT hZ (hw _ (List.mem_of_getElem? (i := 14) rfl))) (by decide) (backOf (W := 0) (rm2 l Z a0 hw [] wb wi h0 n0 Z0 F_BUY) hZ (hw _ (List.mem_of_getElem? (i := 16) rfl)) (hw _ (List.mem_of_getElem? (i := 1) rfl)) (by decide) (by decide)) qa27 qc27 (g := (mkF m 81 #[.val (.int p1), .val (.int (0 : Int32)), .val (.ref ws1), .val (.ref wb), .val (.ref wb), .val (.ref wo), .unset] [(.ref wb)])) rfl (by rw [hml]; rfl) (Steps.refl _) (argsL := []) (rest := []) (lenOf pd_1 rfl) rfl (by show 2 * 0 + _ ≤ _; exact Nat.le_of_eq rfl) (hb hby at_81) (fun _ _ => ⟨rfl, (e26), (by decide : 0 + 0 + 0 + 0 + 0 ≤ _), (by decide : 0 + 0 + 0 + 0 + 0 ≤ _)⟩)
    dsimp only [Pt.U, Pt.locs, Pt.cells, Pt.slots] at X27 l27 y27 z27 st27 hQ27
    subst l27 y27 z27
    obtain ⟨rfl, N27q, e27⟩ := hQ27
    have N27 := Fr.app N26 N27q
    refine Go.step (fun t k => st27.trans k) ?_
    show Go _ _ _ _ _ _ _ T27 (mkF m 84 #[.val (.int p1), .val (.int (0 : Int32)), .val (.ref ws1), .val (.ref wb), .val (.ref wb), .val (.ref wo), .unset] [(.ref wi)])
    refine Go.step (fun t k => XS.astore X27.here hx rfl (hb hby at_84) rfl rfl (l' := #[.val (.int p1), .val (.int (0 : Int32)), .val (.ref ws1), .val (.ref wb), .val (.ref wb), .val (.ref wo), .val (.ref wi)]) rfl k) ?_
    show Go _ _ _ _ _ _ _ T27 (mkF m 86 #[.val (.int p1), .val (.int (0 : Int32)), .val (.ref ws1), .val (.ref wb), .val (.ref wb), .val (.ref wo), .val (.ref wi)] [])
    refine Go.step (fun t k => XS.aload X27.here hx rfl (hb hby at_86) rfl rfl k) ?_
    show Go _ _ _ _ _ _ _ T27 (mkF m 88 #[.val (.int p1), .val (.int (0 : Int32)), .val (.ref ws1), .val (.ref wb), .val (.ref wb), .val (.ref wo), .val (.ref wi)] [(.ref wo)])
    obtain ⟨T28, X28, e28, st28⟩ := getS2 X27 hx hZ hown (host := "") (Or.inl (hw _ (List.mem_of_getElem? (i := 22) rfl))) Via.refl (e27) (S_BID.ext O0.2) (g := (mkF m 88 #[.val (.int p1), .val (.int (0 : Int32)), .val (.ref ws1), .val (.ref wb), .val (.ref wb), .val (.ref wo), .val (.ref wi)] [(.ref wo)])) rfl (hb hby at_88)
    refine Go.step st28 ?_
    show Go _ _ _ _ _ _ _ T28 (mkF m 91 #[.val (.int p1), .val (.int (0 : Int32)), .val (.ref ws1), .val (.ref wb), .val (.ref wb), .val (.ref wo), .val (.ref wi)] [(.ref wi), (.ref wo)])
    have hb91_29 : ¬ (((.ref wo) : Value) = (.ref wi)) := by exact nOI
    refine Go.step (fun t k => XT.acmpYes X28.here hx rfl (pc0 := 91) (pc' := 108) rfl (hb hby at_91) rfl rfl rfl (XT.aa_ne_t hb91_29) (by decide) (by decide) k) ?_
    show Go _ _ _ _ _ _ _ T28 (mkF m 108 #[.val (.int p1), .val (.int (0 : Int32)), .val (.ref ws1), .val (.ref wb), .val (.ref wb), .val (.ref wo), .val (.ref wi)] [])
    refine Go.step (fun t k => XS.aload X28.here hx rfl (hb hby at_108) rfl rfl k) ?_
    show Go _ _ _ _ _ _ _ T28 (mkF m 110 #[.val (.int p1), .val (.int (0 : Int32)), .val (.ref ws1), .val (.ref wb), .val (.ref wb), .val (.ref wo), .val (.ref wi)] [(.ref wo)])
    obtain ⟨T30, X30, e30, st30⟩ := getS2 X28 hx hZ hown (host := "") (Or.inl (hw _ (List.mem_of_getElem? (i := 23) rfl))) Via.refl e28 (S_OFFER.ext O0.2) (g := (mkF m 110 #[.val (.int p1), .val (.int (0 : Int32)), .val (.ref ws1), .val (.ref wb), .val (.ref wb), .val (.ref wo), .val (.ref wi)] [(.ref wo)])) rfl (hb hby at_110)
    refine Go.step st30 ?_
    show Go _ _ _ _ _ _ _ T30 (mkF m 113 #[.val (.int p1), .val (.int (0 : Int32)), .val (.ref ws1), .val (.ref wb), .val (.ref wb), .val (.ref wo), .val (.ref wi)] [(.ref wo), (.ref wo)])
    have hb113_31 : ((.ref wo) : Value) = (.ref wo) := by rfl
    refine Go.step (fun t k => XT.acmpNo X30.here hx rfl (hb hby at_113) rfl rfl rfl (XT.aa_ne_f hb113_31) k) ?_
    show Go _ _ _ _ _ _ _ T30 (mkF m 116 #[.val (.int p1), .val (.int (0 : Int32)), .val (.ref ws1), .val (.ref wb), .val (.ref wb), .val (.ref wo), .val (.ref wi)] [])
    refine Go.step (fun t k => XS.aload X30.here hx rfl (hb hby at_116) rfl rfl k) ?_
    show Go _ _ _ _ _ _ _ T30 (mkF m 118 #[.val (.int p1), .val (.int (0 : Int32)), .val (.ref ws1), .val (.ref wb), .val (.ref wb), .val (.ref wo), .val (.ref wi)] [(.ref wi)])
    obtain ⟨T32, X32, e32, st32⟩ := getS2 X30 hx hZ hown (host := "") (Or.inl (hw _ (List.mem_of_getElem? (i := 22) rfl))) Via.refl e30 (S_BID.ext O0.2) (g := (mkF m 118 #[.val (.int p1), .val (.int (0 : Int32)), .val (.ref ws1), .val (.ref wb), .val (.ref wb), .val (.ref wo), .val (.ref wi)] [(.ref wi)])) rfl (hb hby at_118)
    refine Go.step st32 ?_
    show Go _ _ _ _ _ _ _ T32 (mkF m 121 #[.val (.int p1), .val (.int (0 : Int32)), .val (.ref ws1), .val (.ref wb), .val (.ref wb), .val (.ref wo), .val (.ref wi)] [(.ref wi), (.ref wi)])
    have hb121_33 : ((.ref wi) : Value) = (.ref wi) := by rfl
    refine Go.step (fun t k => XT.acmpNo X32.here hx rfl (hb hby at_121) rfl rfl rfl (XT.aa_ne_f hb121_33) k) ?_
    show Go _ _ _ _ _ _ _ T32 (mkF m 124 #[.val (.int p1), .val (.int (0 : Int32)), .val (.ref ws1), .val (.ref wb), .val (.ref wb), .val (.ref wo), .val (.ref wi)] [])
    refine Go.step (fun t k => XS.iconst X32.here hx rfl (hb hby at_124) k) ?_
    show Go _ _ _ _ _ _ _ T32 (mkF m 125 #[.val (.int p1), .val (.int (0 : Int32)), .val (.ref ws1), .val (.ref wb), .val (.ref wb), .val (.ref wo), .val (.ref wi)] [(.int (1 : Int32))])
    refine Go.step (fun t k => XS.goto X32.here hx rfl (pc0 := 125) (pc' := 129) rfl (hb hby at_125) (by decide) (by decide) k) ?_
    show Go _ _ _ _ _ _ _ T32 (mkF m 129 #[.val (.int p1), .val (.int (0 : Int32)), .val (.ref ws1), .val (.ref wb), .val (.ref wb), .val (.ref wo), .val (.ref wi)] [(.int (1 : Int32))])
    refine Go.ret X32 hx hlk Bd.returns rfl (Or.inl ⟨rfl, Or.inr (Or.inl rfl), _, rfl⟩) (hb hby at_129) ?_ (by decide) (by decide)
    show Q0 Z _ _ _ _ _ _ _ _ T32.heap _
    exact ⟨rfl, N27⟩
set_option maxRecDepth 65536 in
set_option maxHeartbeats 40000000 in
theorem comes_1 {Post : Tables → Env → Array Value → State → Outcome → State → Prop} (hpost : ∀ tb e args s v u, (limb_1_1.after args s (.returned v) u = true ∧ limb_1_2.after args s (.returned v) u = true ∧ True) → FrameEnd s (.returned v) u (Jvm.fieldLocs frame_1_writes args s ++ Jvm.arrayLocs frame_1_arrays args s ++ Jvm.staticLocs frame_1_statics s) 0 0 → Post tb e args s (.returned v) u) :
    ArmFor flags0 classFile x code maxLocals ret World_1 tables_1 room_1 Calls_1 rest_1 Pre_1 Post := by
  intro l hfl _ _ p e ha hc hk s m args below hf hA hF happ hP
  obtain ⟨hcalls, hrest, hpre⟩ := hP
  obtain ⟨-, -, -, hnamed, -, -, -, hat⟩ := (Spec.applies_iff hf).mp happ
  obtain ⟨hg, hn⟩ := and_e (Cond.before_iff.mp (show (Jvm.Cond.and given_1 narrow_1).before args s = true from hpre))
  obtain ⟨gc, gA0⟩ := and_e hg
  obtain ⟨w0, rfl⟩ : ∃ w0 : Value, args = #[w0] := by
    have hs : args.size = 1 := by simpa [Cond.value, given_1] using gc
    obtain ⟨L⟩ := args
    match L, hs with
    | [w0], _ => exact ⟨w0, rfl⟩
  have hw := fun d (hd : d ∈ tables_1) => atoms_spec (ws := Jvm.Cond.code x code maxLocals ret :: tables_1) hat d (List.mem_cons_of_mem _ hd)
  have hfit : Fit s := fun {y c} hc i hi => by
    obtain ⟨ha, rfl⟩ := Array.getElem?_eq_some_iff.mp hc
    have q := List.all_eq_true.mp ((Array.all_eq_true_iff_forall_mem.mp hF) _ (Array.getElem_mem ha)) i (List.mem_range.mpr hi)
    simpa [Array.getElem?_eq_getElem hi] using q
  obtain ⟨i0, ei0⟩ := is_v gA0
  obtain rfl : w0 = (.int i0) := Option.some.inj ei0
  obtain ⟨nn0, nA0⟩ := and_e hn
  obtain ⟨nn1, nA1⟩ := and_e nA0
  obtain ⟨nn2, nA2⟩ := and_e nA1
  obtain ⟨nn3, nA3⟩ := and_e nA2
  obtain ⟨nn4, nA4⟩ := and_e nA3
  obtain ⟨nn5, nA5⟩ := and_e nA4
  obtain ⟨nn6, nA6⟩ := and_e nA5
  obtain ⟨nn7, nA7⟩ := and_e nA6
  obtain ⟨nn8, nA8⟩ := and_e nA7
  have nn9 := nA8
  obtain ⟨wb, ew_BUY⟩ := exa_v nn0
  have S_BUY : Sta s s.heap "com/example/limitbook/limitbook/model/Side" "BUY" "Lcom/example/limitbook/limitbook/model/Side;" (.ref wb) := Sta.start ew_BUY (Or.inr ⟨(hw _ (List.mem_of_getElem? (i := 1) rfl)), (hw _ (List.mem_of_getElem? (i := 2) rfl))⟩)
  have E_BUY := Exa.start ew_BUY nn0
  obtain ⟨ws1, ew_SELL⟩ := exa_v nn1
  have S_SELL : Sta s s.heap "com/example/limitbook/limitbook/model/Side" "SELL" "Lcom/example/limitbook/limitbook/model/Side;" (.ref ws1) := Sta.start ew_SELL (Or.inr ⟨(hw _ (List.mem_of_getElem? (i := 1) rfl)), (hw _ (List.mem_of_getElem? (i := 4) rfl))⟩)
  have E_SELL := Exa.start ew_SELL nn1
  obtain ⟨wi, ew_BID⟩ := exa_v nn4
  have S_BID : Sta s s.heap "com/example/limitbook/limitbook/model/MarketEvent$Kind" "BID" "Lcom/example/limitbook/limitbook/model/MarketEvent$Kind;" (.ref wi) := Sta.start ew_BID (Or.inr ⟨(hw _ (List.mem_of_getElem? (i := 19) rfl)), (hw _ (List.mem_of_getElem? (i := 20) rfl))⟩)
  have E_BID := Exa.start ew_BID nn4
  obtain ⟨wo, ew_OFFER⟩ := exa_v nn6
  have S_OFFER : Sta s s.heap "com/example/limitbook/limitbook/model/MarketEvent$Kind" "OFFER" "Lcom/example/limitbook/limitbook/model/MarketEvent$Kind;" (.ref wo) := Sta.start ew_OFFER (Or.inr ⟨(hw _ (List.mem_of_getElem? (i := 19) rfl)), (hw _ (List.mem_of_getElem? (i := 21) rfl))⟩)
  have E_OFFER := Exa.start ew_OFFER nn6
  have o_SELL := (fld_at ew_SELL).symm.trans (own_eqint nn2)
  have o_BUY := (fld_at ew_BUY).symm.trans (own_eqint nn3)
  have F_BUY := Fld.start ((fld_at ew_BUY).symm.trans (own_eqref nn5 ew_BID))
  have F_SELL := Fld.start ((fld_at ew_SELL).symm.trans (own_eqref nn7 ew_OFFER))
  have o_OFFER := (fld_at ew_OFFER).symm.trans (own_eqint nn8)
  have o_BID := (fld_at ew_BID).symm.trans (own_eqint nn9)
  have nSB := own_ne o_SELL o_BUY (by decide)
  have nOI := own_ne o_OFFER o_BID (by decide)
  obtain ⟨n, o, h1, h2, h3, _, L, rfl, ⟨rfl, N⟩, hq⟩ := rm0 l s _ hw tables_1 i0 wb ws1 wi wo s.heap s.heap.size (Nat.le_refl _) (Old.start s) S_BUY S_SELL S_BID S_OFFER E_BUY E_SELL F_BUY F_SELL nSB nOI p e ha hc hk s m _ below hf ((Spec.applies_iff_loose hf).mp happ).1 ⟨rfl, State.Warmed39.refl s, rfl⟩ trivial
  refine ⟨n, _, h1, h2, h3, hpost _ _ _ _ _ _ ⟨Cond.after_iff.mpr rfl, Cond.after_iff.mpr (eq_i res_at (Term.int_eval (1)) rfl), trivial⟩ ⟨hq.1, hq.2.1, (hq.2.2.sift fun y hy => Or.inr (N y hy)).mono (by decide) (by decide)⟩⟩
theorem main_1_1 : Claimed_1_1 := comes_1 fun _ _ _ _ _ _ h hF => ⟨h.1, hF⟩
theorem main_1_2 : Claimed_1_2 := comes_1 fun _ _ _ _ _ _ h hF => ⟨h.2.1, hF⟩
end Jvm.Pilot.@@N@@
namespace Jvm.Pilot.@@N@@
open Jvm Jvm.ClassFile Sem Op Lib Jvm.Free Jvm.Stand Jvm.Pilot.@@N@@.Jvm.D
/-! MADE BY PROGRAM (witnessworld.py) out of the Statement's table words and the real class files: 13 classes; the members and pool entries that the words name. The judged class is class 1, her method 1. -/
namespace start1
open Jvm.ClassFile
def u (s : String) : CpInfo := .utf8 (stringToUtf16 s)
/-- a pool by its gaps: so many unusable entries, then the entry; so many at the end -/
def gap : Nat → List CpInfo → List CpInfo
  | 0, r => r
  | n + 1, r => .unusable :: gap n r
def poolList (es : List (Nat × CpInfo)) (last : Nat) : List CpInfo := es.foldr (fun e r => gap e.1 (e.2 :: r)) (gap last [])
def pool (es : List (Nat × CpInfo)) (last : Nat) : Array CpInfo := ⟨poolList es last⟩
def fileOf (pool : Array CpInfo) (this : Nat) (attrs : Array Attribute := #[]) (ms : Array MethodInfo := #[]) (fl : Nat := 33) (sup : Nat := 0) (ifs : Array Nat := #[]) (fds : Array FieldInfo := #[]) : ClassFile where
  minorVersion := 0
  majorVersion := 65
  constantPool := pool
  accessFlags := fl
  thisClass := this
  superClass := sup
  interfaces := ifs
  fields := fds
  methods := ms
  attributes := attrs
def plain (name : String) (sup : Option ClassId) : Class where
  name := name
  kind := .ordinary
  loader := none
  accessFlags := 33
  super := sup
  interfaces := #[]
  cf := none
  fields := #[]
  methods := #[]
  instanceTypes := #[]
  staticTypes := #[]
  resolved := #[]
  callSites := []
  init := .initialized
  statics := none
  mirror := none

def pool0 : Array CpInfo := pool [(5, u "<init>"), (0, u "()V"), (1, .class_ 10), (1, u "java/lang/Object")] 113

def k0m0 : Method := { name := "<init>", desc := "()V", sig := { parameters := [], returnType := none }, accessFlags := 1, code := none }
/-- java/lang/Object -/
def k0 : Class := { plain "java/lang/Object" none with
  accessFlags := 33
  interfaces := #[]
  cf := some (fileOf pool0 8 #[] #[{ accessFlags := 1, nameIndex := 5, descriptorIndex := 6, attributes := #[] }] 33 0 #[] #[])
  fields := #[]
  methods := #[k0m0]
  instanceTypes := #[]
  staticTypes := #[]
  resolved := Array.replicate 124 none
  statics := none }

def pool1 : Array CpInfo := pool [(2, .class_ 4), (1, u "java/lang/Object"), (0, u "<init>"), (0, u "()V"), (0, .fieldref 8 9), (0, .class_ 10), (0, .nameAndType 11 12), (0, u "com/example/limitbook/limitbook/model/Side"), (0, u "BUY"), (0, u "Lcom/example/limitbook/limitbook/model/Side;"), (0, .fieldref 8 14), (0, .nameAndType 15 12), (0, u "SELL"), (0, .methodref 8 17), (0, .nameAndType 18 19), (0, u "opposite"), (0, u "()Lcom/example/limitbook/limitbook/model/Side;"), (0, .methodref 8 21), (0, .nameAndType 22 23), (0, u "quote"), (0, u "()Lcom/example/limitbook/limitbook/model/MarketEvent$Kind;"), (0, .fieldref 25 26), (0, .class_ 27), (0, .nameAndType 28 29), (0, u "com/example/limitbook/limitbook/model/MarketEvent$Kind"), (0, u "BID"), (0, u "Lcom/example/limitbook/limitbook/model/MarketEvent$Kind;"), (0, .fieldref 25 31), (0, .nameAndType 32 29), (0, u "OFFER"), (0, .class_ 34), (0, u "com/example/limitbook/limitbook/model/SideOppositePinLaw"), (2, u "law"), (0, u "(I)Z")] 7

def k1m0 : Method := { name := "<init>", desc := "()V", sig := { parameters := [], returnType := none }, accessFlags := 2, code := none }
def k1c1 : Code := { maxStack := 2, maxLocals := 7, code := code, exceptionTable := #[], attributes := #[] }
def k1m1 : Method := { name := "law", desc := "(I)Z", sig := { parameters := [.int], returnType := some .boolean }, accessFlags := 9, code := some k1c1 }
/-- com/example/limitbook/limitbook/model/SideOppositePinLaw -/
def k1 : Class := { plain "com/example/limitbook/limitbook/model/SideOppositePinLaw" (some 0) with
  accessFlags := 49
  interfaces := #[]
  cf := some (fileOf pool1 33 #[] #[{ accessFlags := 2, nameIndex := 5, descriptorIndex := 6, attributes := #[] }, { accessFlags := 9, nameIndex := 37, descriptorIndex := 38, attributes := #[] }] 49 2 #[] #[])
  fields := #[]
  methods := #[k1m0, k1m1]
  instanceTypes := #[]
  staticTypes := #[]
  resolved := Array.replicate 46 none
  statics := none }

def pool2 : Array CpInfo := pool [(1, .class_ 2), (0, u "java/lang/constant/Constable"), (0, .class_ 4), (0, u "java/lang/Object")] 6

/-- java/lang/constant/Constable -/
def k2 : Class := { plain "java/lang/constant/Constable" (some 0) with
  accessFlags := 1537
  interfaces := #[]
  cf := some (fileOf pool2 1 #[] #[] 1537 3 #[] #[])
  fields := #[]
  methods := #[]
  instanceTypes := #[]
  staticTypes := #[]
  resolved := Array.replicate 11 none
  statics := none }

def pool3 : Array CpInfo := pool [(1, .class_ 2), (0, u "java/lang/Comparable"), (0, .class_ 4), (0, u "java/lang/Object")] 7

/-- java/lang/Comparable -/
def k3 : Class := { plain "java/lang/Comparable" (some 0) with
  accessFlags := 1537
  interfaces := #[]
  cf := some (fileOf pool3 1 #[] #[] 1537 3 #[] #[])
  fields := #[]
  methods := #[]
  instanceTypes := #[]
  staticTypes := #[]
  resolved := Array.replicate 12 none
  statics := none }

def pool4 : Array CpInfo := pool [(1, .class_ 2), (0, u "java/io/Serializable"), (0, .class_ 4), (0, u "java/lang/Object")] 2

/-- java/io/Serializable -/
def k4 : Class := { plain "java/io/Serializable" (some 0) with
  accessFlags := 1537
  interfaces := #[]
  cf := some (fileOf pool4 1 #[] #[] 1537 3 #[] #[])
  fields := #[]
  methods := #[]
  instanceTypes := #[]
  staticTypes := #[]
  resolved := Array.replicate 7 none
  statics := none }

def pool5 : Array CpInfo := pool [(2, .class_ 4), (1, u "java/lang/Enum"), (0, u "name"), (0, u "Ljava/lang/String;"), (2, u "ordinal"), (0, u "I"), (1, .class_ 14), (1, u "java/lang/Object"), (4, u "hash"), (86, .class_ 108), (1, u "java/lang/Enum$EnumDesc"), (2, .class_ 112), (0, u "java/lang/constant/Constable"), (0, .class_ 114), (0, u "java/lang/Comparable"), (0, .class_ 116), (0, u "java/io/Serializable")] 87

/-- java/lang/Enum -/
def k5 : Class := { plain "java/lang/Enum" (some 0) with
  accessFlags := 1057
  interfaces := #[2, 3, 4]
  cf := some (fileOf pool5 2 #[.nestMembers #[106]] #[] 1057 12 #[111, 113, 115] #[{ accessFlags := 18, nameIndex := 5, descriptorIndex := 6, attributes := #[] }, { accessFlags := 18, nameIndex := 9, descriptorIndex := 10, attributes := #[] }, { accessFlags := 2, nameIndex := 19, descriptorIndex := 10, attributes := #[] }])
  fields := #[{ name := "name", type := (.object "java/lang/String"), accessFlags := 18, slot := 0, constantValue := 0 }, { name := "ordinal", type := .int, accessFlags := 18, slot := 1, constantValue := 0 }, { name := "hash", type := .int, accessFlags := 2, slot := 2, constantValue := 0 }]
  methods := #[]
  instanceTypes := #[(.object "java/lang/String"), .int, .int]
  staticTypes := #[]
  resolved := Array.replicate 204 none
  statics := none }

def pool6 : Array CpInfo := pool [(1, .class_ 2), (0, u "com/example/limitbook/limitbook/model/Side"), (0, .fieldref 1 4), (0, .nameAndType 5 6), (0, u "BUY"), (0, u "Lcom/example/limitbook/limitbook/model/Side;"), (0, .fieldref 1 8), (0, .nameAndType 9 6), (0, u "SELL"), (2, u "$VALUES"), (0, u "[Lcom/example/limitbook/limitbook/model/Side;"), (6, .class_ 22), (1, u "java/lang/Enum"), (6, .fieldref 1 30), (0, .nameAndType 31 32), (0, u "quote"), (0, u "Lcom/example/limitbook/limitbook/model/MarketEvent$Kind;"), (24, u "()Lcom/example/limitbook/limitbook/model/MarketEvent$Kind;"), (0, u "opposite"), (0, u "()Lcom/example/limitbook/limitbook/model/Side;")] 10

def k6c0 : Code := { maxStack := 1, maxLocals := 1, code := prog_71_method_4_code, exceptionTable := #[], attributes := #[] }
def k6m0 : Method := { name := "quote", desc := "()Lcom/example/limitbook/limitbook/model/MarketEvent$Kind;", sig := { parameters := [], returnType := some (.object "com/example/limitbook/limitbook/model/MarketEvent$Kind") }, accessFlags := 1, code := some k6c0 }
def k6c1 : Code := { maxStack := 2, maxLocals := 1, code := prog_71_method_5_code, exceptionTable := #[], attributes := #[] }
def k6m1 : Method := { name := "opposite", desc := "()Lcom/example/limitbook/limitbook/model/Side;", sig := { parameters := [], returnType := some (.object "com/example/limitbook/limitbook/model/Side") }, accessFlags := 1, code := some k6c1 }
/-- com/example/limitbook/limitbook/model/Side -/
def k6 : Class := { plain "com/example/limitbook/limitbook/model/Side" (some 5) with
  accessFlags := 16433
  interfaces := #[]
  cf := some (fileOf pool6 1 #[] #[{ accessFlags := 1, nameIndex := 31, descriptorIndex := 57, attributes := #[] }, { accessFlags := 1, nameIndex := 58, descriptorIndex := 59, attributes := #[] }] 16433 20 #[] #[{ accessFlags := 16409, nameIndex := 5, descriptorIndex := 6, attributes := #[] }, { accessFlags := 16409, nameIndex := 9, descriptorIndex := 6, attributes := #[] }, { accessFlags := 18, nameIndex := 31, descriptorIndex := 32, attributes := #[] }, { accessFlags := 4122, nameIndex := 12, descriptorIndex := 13, attributes := #[] }])
  fields := #[{ name := "BUY", type := (.object "com/example/limitbook/limitbook/model/Side"), accessFlags := 16409, slot := 0, constantValue := 0 }, { name := "SELL", type := (.object "com/example/limitbook/limitbook/model/Side"), accessFlags := 16409, slot := 1, constantValue := 0 }, { name := "quote", type := (.object "com/example/limitbook/limitbook/model/MarketEvent$Kind"), accessFlags := 18, slot := 3, constantValue := 0 }, { name := "$VALUES", type := (.array (.object "com/example/limitbook/limitbook/model/Side")), accessFlags := 4122, slot := 2, constantValue := 0 }]
  methods := #[k6m0, k6m1]
  instanceTypes := #[(.object "java/lang/String"), .int, .int, (.object "com/example/limitbook/limitbook/model/MarketEvent$Kind")]
  staticTypes := #[(.object "com/example/limitbook/limitbook/model/Side"), (.object "com/example/limitbook/limitbook/model/Side"), (.array (.object "com/example/limitbook/limitbook/model/Side"))]
  resolved := Array.replicate 70 none
  statics := some 0 }

def pool7 : Array CpInfo := pool [(1, .class_ 2), (0, u "com/example/limitbook/limitbook/model/MarketEvent$Kind"), (2, u "TRADE"), (0, u "Lcom/example/limitbook/limitbook/model/MarketEvent$Kind;"), (2, u "BID"), (2, u "OFFER"), (2, u "$VALUES"), (0, u "[Lcom/example/limitbook/limitbook/model/MarketEvent$Kind;"), (6, .class_ 25), (1, u "java/lang/Enum"), (26, .class_ 53), (0, u "com/example/limitbook/limitbook/model/MarketEvent")] 2

/-- com/example/limitbook/limitbook/model/MarketEvent$Kind -/
def k7 : Class := { plain "com/example/limitbook/limitbook/model/MarketEvent$Kind" (some 5) with
  accessFlags := 16433
  interfaces := #[]
  cf := some (fileOf pool7 1 #[.nestHost 52] #[] 16433 23 #[] #[{ accessFlags := 16409, nameIndex := 5, descriptorIndex := 6, attributes := #[] }, { accessFlags := 16409, nameIndex := 9, descriptorIndex := 6, attributes := #[] }, { accessFlags := 16409, nameIndex := 12, descriptorIndex := 6, attributes := #[] }, { accessFlags := 4122, nameIndex := 15, descriptorIndex := 16, attributes := #[] }])
  fields := #[{ name := "TRADE", type := (.object "com/example/limitbook/limitbook/model/MarketEvent$Kind"), accessFlags := 16409, slot := 0, constantValue := 0 }, { name := "BID", type := (.object "com/example/limitbook/limitbook/model/MarketEvent$Kind"), accessFlags := 16409, slot := 1, constantValue := 0 }, { name := "OFFER", type := (.object "com/example/limitbook/limitbook/model/MarketEvent$Kind"), accessFlags := 16409, slot := 2, constantValue := 0 }, { name := "$VALUES", type := (.array (.object "com/example/limitbook/limitbook/model/MarketEvent$Kind")), accessFlags := 4122, slot := 3, constantValue := 0 }]
  methods := #[]
  instanceTypes := #[(.object "java/lang/String"), .int, .int]
  staticTypes := #[(.object "com/example/limitbook/limitbook/model/MarketEvent$Kind"), (.object "com/example/limitbook/limitbook/model/MarketEvent$Kind"), (.object "com/example/limitbook/limitbook/model/MarketEvent$Kind"), (.array (.object "com/example/limitbook/limitbook/model/MarketEvent$Kind"))]
  resolved := Array.replicate 56 none
  statics := some 1 }

def pool8 : Array CpInfo := pool [(1, u "java/lang/Cloneable"), (0, .class_ 1), (0, u "java/lang/Object"), (0, .class_ 3)] 3

/-- java/lang/Cloneable -/
def k8 : Class := { plain "java/lang/Cloneable" (some 0) with
  accessFlags := 1537
  interfaces := #[]
  cf := some (fileOf pool8 2 #[] #[] 1537 4 #[] #[])
  fields := #[]
  methods := #[]
  instanceTypes := #[]
  staticTypes := #[]
  resolved := Array.replicate 8 none
  statics := none }

/-- the primitive byte -/
def k9 : Class := { plain "byte" none with kind := .primitive 'B', accessFlags := 0x411 }
/-- [B -/
def k10 : Class := { plain "[B" (some 0) with kind := .array 9 .byte, interfaces := #[8, 4], accessFlags := 1041 }

/-- the primitive int -/
def k11 : Class := { plain "int" none with kind := .primitive 'I', accessFlags := 0x411 }
/-- [I -/
def k12 : Class := { plain "[I" (some 0) with kind := .array 11 .int, interfaces := #[8, 4], accessFlags := 1041 }

def heap : Heap := #[{ cls := 6, slots := #[.ref 2, .ref 3, .null], vm := .statics 6 },
  { cls := 7, slots := #[.null, .ref 4, .ref 5, .null], vm := .statics 7 },
  { cls := 6, slots := #[.null, .int 0, .int 0, .ref 4], vm := .none },
  { cls := 6, slots := #[.null, .int 1, .int 0, .ref 5], vm := .none },
  { cls := 7, slots := #[.null, .int 1, .int 0], vm := .none },
  { cls := 7, slots := #[.null, .int 2, .int 0], vm := .none }]
def classes : Array Class := #[k0, k1, k2, k3, k4, k5, k6, k7, k8, k9, k10, k11, k12]
def interned : List (Array UInt16 × Addr) := []
def slotsUsed : Nat := 21
def theMethod : MethodId := ⟨1, 1⟩
def args0 : Array Value := #[.int 5]
def aboutOver (below : List Frame) : State where
  vm := { classes := classes, interned := interned.toArray }
  heap := heap
  slotsUsed := slotsUsed
  threads := #[{ frames := .invoking theMethod args0 :: below }]
def below0 : List Frame := [.native { method := ⟨0, 0⟩, args := #[] }]
def about1 : State := aboutOver below0
def p0 : Program := .bare "" "" ""
def e0 : Env := launch0.env 0 0 0
theorem w_frames : about1.frames = Frame.invoking theMethod args0 :: below0 := rfl
set_option maxRecDepth 65536 in
theorem w_args : argsFit about1.vm theMethod args0 = true := by decide +kernel
set_option maxRecDepth 65536 in
theorem w_heap : heapFits about1 = true := by decide +kernel
set_option maxRecDepth 65536 in
theorem w_runnable : about1.curStatus? = some .runnable := by decide +kernel
set_option maxRecDepth 65536 in
theorem w_alone : about1.alone = true := by decide +kernel
set_option maxRecDepth 65536 in
theorem w_named : about1.methodNamed? x = some theMethod := by decide +kernel
set_option maxRecDepth 65536 in
theorem w_hears : about1.hears theMethod below0 = true := by decide +kernel
set_option maxRecDepth 65536 in
theorem w_ripe : about1.ripe theMethod args0 below0 = true := by decide +kernel
theorem w_running : about1.status = .running := rfl
set_option maxRecDepth 65536 in
theorem w_room : about1.hasRoom e0.platform room_1 = true :=
  launch0.hasRoom_least _ room_1 (by decide +kernel) (by decide +kernel) (by decide +kernel) (by decide +kernel) (by decide +kernel) (by decide +kernel)
theorem allAtoms_all (ts : List Jvm.Cond) (a : Array Jvm.Value) (st : Jvm.State) : (allAtoms ts).before a st = ts.all (fun c => c.before a st) := by
  induction ts with
  | nil => rfl
  | cons c t ih =>
    show (Jvm.Cond.and c (allAtoms t)).before a st = _
    rw [Jvm.Cond.before_and, ih, List.all_cons]
def words1 : List Jvm.Cond := Jvm.Cond.code x code maxLocals ret :: tables_1
/-- a 'code' word, met by the world's own term for the bytes: nothing is compared byte by byte -/
theorem code_word {y : MethodName} {bytes : ByteArray} {mx : Nat} {rt : Option FieldType} {a : Array Value} {s : State} {m : MethodId} {meth : Method} {c : Code} (h1 : s.methodNamed? y = some m) (h2 : s.vm.method? m = some meth) (h3 : meth.code = some c) (h4 : c.code = bytes)
    (h5 : (c.maxLocals == mx && c.exceptionTable.isEmpty && decide (c.maxStack ≤ mostOperands) && decide (meth.sig.returnType = rt) && !meth.locks && decide (parseMethodDescriptor y.desc = some meth.sig)) = true) : (Jvm.Cond.code y bytes mx rt).before a s = true := by
  simp only [Bool.and_eq_true, beq_iff_eq, Bool.not_eq_true', decide_eq_true_eq] at h5
  obtain ⟨⟨⟨⟨⟨g1, g2⟩, g3⟩, g4⟩, g5⟩, g6⟩ := h5
  simp [Cond.before, Cond.holds, Cond.value, h1, h2, h3, h4, g1, g2, g3, g4, g5, g6]
def isCode : Jvm.Cond → Bool
  | .code _ _ _ _ => true
  | _ => false
theorem all_split {L : List Jvm.Cond} {P : Jvm.Cond → Bool} (h1 : L.all (fun c => isCode c || P c) = true) (h2 : ∀ c ∈ L.filter isCode, P c = true) : L.all P = true := by
  refine List.all_eq_true.mpr fun c hc => ?_
  have h := List.all_eq_true.mp h1 c hc
  rcases Bool.eq_false_or_eq_true (isCode c) with hi | hi
  · exact h2 c (List.mem_filter.mpr ⟨hc, hi⟩)
  · simpa [hi] using h
set_option maxRecDepth 65536 in
theorem w_c0 : (Jvm.Cond.code x code maxLocals ret).before args0 about1 = true := code_word (m := ⟨1, 1⟩) (meth := k1m1) (c := k1c1) (by decide +kernel) rfl rfl rfl (by decide +kernel)
set_option maxRecDepth 65536 in
theorem w_c1 : (Jvm.Cond.code ({ cls := "com/example/limitbook/limitbook/model/Side", name := "opposite", desc := "()Lcom/example/limitbook/limitbook/model/Side;" } : Jvm.MethodName) prog_71_method_5_code (1 : Nat) (Option.some (Jvm.ClassFile.FieldType.object "com/example/limitbook/limitbook/model/Side"))).before args0 about1 = true := code_word (m := ⟨6, 1⟩) (meth := k6m1) (c := k6c1) (by decide +kernel) rfl rfl rfl (by decide +kernel)
set_option maxRecDepth 65536 in
theorem w_c2 : (Jvm.Cond.code ({ cls := "com/example/limitbook/limitbook/model/Side", name := "quote", desc := "()Lcom/example/limitbook/limitbook/model/MarketEvent$Kind;" } : Jvm.MethodName) prog_71_method_4_code (1 : Nat) (Option.some (Jvm.ClassFile.FieldType.object "com/example/limitbook/limitbook/model/MarketEvent$Kind"))).before args0 about1 = true := code_word (m := ⟨6, 0⟩) (meth := k6m0) (c := k6c0) (by decide +kernel) rfl rfl rfl (by decide +kernel)
def codes1 : List Jvm.Cond := [Jvm.Cond.code x code maxLocals ret, Jvm.Cond.code ({ cls := "com/example/limitbook/limitbook/model/Side", name := "opposite", desc := "()Lcom/example/limitbook/limitbook/model/Side;" } : Jvm.MethodName) prog_71_method_5_code (1 : Nat) (Option.some (Jvm.ClassFile.FieldType.object "com/example/limitbook/limitbook/model/Side")), Jvm.Cond.code ({ cls := "com/example/limitbook/limitbook/model/Side", name := "quote", desc := "()Lcom/example/limitbook/limitbook/model/MarketEvent$Kind;" } : Jvm.MethodName) prog_71_method_4_code (1 : Nat) (Option.some (Jvm.ClassFile.FieldType.object "com/example/limitbook/limitbook/model/MarketEvent$Kind"))]
set_option maxRecDepth 65536 in
theorem codes_eq : words1.filter isCode = codes1 := rfl
theorem w_codes : ∀ c ∈ words1.filter isCode, c.before args0 about1 = true := by
  rw [codes_eq]
  intro c hc
  simp only [codes1, List.mem_cons, List.not_mem_nil, or_false] at hc
  rcases hc with rfl | rfl | rfl
  · exact w_c0
  · exact w_c1
  · exact w_c2
set_option maxRecDepth 65536 in
theorem w_t1 : (words1.take 24).all (fun c => isCode c || c.before args0 about1) = true := by decide +kernel
set_option maxRecDepth 65536 in
theorem w_t2 : (words1.drop 24).all (fun c => isCode c || c.before args0 about1) = true := by decide +kernel
theorem w_tables : (allAtoms (Jvm.Cond.code x code maxLocals ret :: tables_1)).before args0 about1 = true := by
  rw [allAtoms_all]
  show words1.all (fun c => c.before args0 about1) = true
  refine all_split ?_ w_codes
  rw [← List.take_append_drop 24 words1, List.all_append, w_t1, w_t2]
  rfl
set_option maxRecDepth 65536 in
theorem w_case : (Jvm.Cond.and given_1 narrow_1).before args0 about1 = true := by decide +kernel
theorem w_applies : (headSpec (Jvm.Cond.code x code maxLocals ret :: tables_1) room_1).applies x e0.platform about1 = true :=
  (Spec.applies_iff w_frames).mpr ⟨w_running, w_runnable, w_alone, w_named, w_hears, w_ripe, w_room, w_tables⟩
theorem atStart : AtStart classFile x code maxLocals ret World_1 tables_1 room_1 Calls_1 rest_1 Pre_1 launch0 p0 e0 about1 theMethod args0 below0 :=
  ⟨lists_1, trivial, launch0.admits_env _ _ _, launch0.least_env, fairChoices_fair.cas, fairChoices_fair.clock, w_frames, w_args, w_heap, w_applies, trivial, trivial, w_case⟩
end start1
theorem witness_1 : WitnessClaimed_1 := ⟨start1.p0, start1.e0, start1.about1, start1.theMethod, start1.args0, start1.below0, start1.atStart⟩
end Jvm.Pilot.@@N@@
