import JvmDerived
import JvmDerived.Pilot.@@N@@Statement
import JvmDerived.Pilot.@@N@@Code
set_option linter.unusedVariables false
set_option linter.unusedSimpArgs false
namespace Jvm.OwnWp
open Sem ClassFile Op Lib Jvm.Stand Jvm.Free Jvm.LawKit Jvm.RoadKit
section Own
variable {p : Program} {l : Launch} {e : Env} {R : Room} {s : State} {m : MethodId} {args : Array Value} {below : List Frame} {meth : Method} {c : Code} {T T' : State} {locs : List Loc} {cells slots : Nat} {kc ks : Nat} {Q : Option Value → Heap → List Loc → Prop} {g g' : JFrame}
/-- from T with the frame g on top the invocation returns, and Q holds of what it leaves -/
def Go (p : Program) (e : Env) (below : List Frame) (s : State) (kc ks : Nat) (Q : Option Value → Heap → List Loc → Prop) (T : State) (g : JFrame) : Prop :=
  ∃ s₂ o, Steps p.tables e below (T.setTop g) s₂ ∧ s₂.status = .running ∧ Ended s₂ below o ∧ ∃ v L, o = .returned v ∧ Q v s₂.heap L ∧ FrameEnd s o s₂ L kc ks
theorem Go.step (st : ∀ t, Steps p.tables e below (T'.setTop g') t → Steps p.tables e below (T.setTop g) t) (k : Go p e below s kc ks Q T' g') : Go p e below s kc ks Q T g := by
  obtain ⟨s₂, o, h, r⟩ := k
  exact ⟨s₂, o, st _ h, r⟩
theorem Go.cast (q : g = g') (k : Go p e below s kc ks Q T g') : Go p e below s kc ks Q T g := q ▸ k
theorem Go.weak {Q' : Option Value → Heap → List Loc → Prop} (k : Go p e below s kc ks Q' T g) (h : ∀ v hp L, Q' v hp L → Q v hp L) : Go p e below s kc ks Q T g := by
  obtain ⟨s₂, o, a, b, c, v, L, d, q, f⟩ := k
  exact ⟨s₂, o, a, b, c, v, L, d, h _ _ _ q, f⟩
theorem Go.ret (X : Stand p l e R s m args below meth c T locs cells slots) (hx : p.tables.exec = Jvm.exec) (hlk : meth.locks = false) {pc : Nat} {Ls : Array Slot} {w : Value} {t : FieldType} {i : Instr} {rest : List Value} (hret : meth.sig.returnType = some t) (hn : narrow t w = w)
    (hi : (i = .ireturn ∧ (t = .int ∨ t = .boolean ∨ t = .byte ∨ t = .char ∨ t = .short) ∧ ∃ z, w = .int z) ∨ (i = .lreturn ∧ t = .long ∧ ∃ z, w = .long z) ∨ (i = .dreturn ∧ t = .double ∧ ∃ z, w = .double z) ∨ (i = .freturn ∧ t = .float ∧ ∃ z, w = .float z) ∨ (i = .areturn ∧ t.isReference = true ∧ w.isRef = true))
    (hd : decode c.code pc = .ok (i, 1)) (hq : Q (some w) T.heap locs) (hc : cells ≤ kc) (hs : slots ≤ ks) : Go p e below s kc ks Q T (mkF m pc Ls (w :: rest)) := by
  obtain ⟨fs, hr, hrun, hended, hW, hsame⟩ := X.leave (v := some w) (fun h => by rw [hret] at h; cases h) hlk
  exact ⟨_, _, retOut X hx hret hn hi hd hr, hrun, hended, _, _, rfl, hq, ⟨_, rfl⟩, hW, hsame.mono hc hs⟩
theorem Go.retV (X : Stand p l e R s m args below meth c T locs cells slots) (hx : p.tables.exec = Jvm.exec) (hlk : meth.locks = false) {pc : Nat} {Ls : Array Slot} (hret : meth.sig.returnType = none)
    (hd : decode c.code pc = .ok (.return_, 1)) (hq : Q none T.heap locs) (hc : cells ≤ kc) (hs : slots ≤ ks) : Go p e below s kc ks Q T (mkF m pc Ls []) := by
  obtain ⟨fs, hr, hrun, hended, hW, hsame⟩ := X.leave (v := none) (fun _ => rfl) hlk
  exact ⟨_, _, X.returnOut hx hret hd hr, hrun, hended, _, _, rfl, hq, ⟨_, rfl⟩, hW, hsame.mono hc hs⟩
theorem nar01 {x : Int32} (h : x = 0 ∨ x = 1) : narrow .boolean (.int x) = .int x := by rcases h with rfl | rfl <;> rfl
end Own
end Jvm.OwnWp
namespace Jvm.Pilot.@@N@@
open Jvm Jvm.ClassFile Sem Op Lib Jvm.Free Jvm.Stand Jvm.LawKit Jvm.RoadKit Jvm.OwnWp Bundle Jvm.Pilot.@@N@@.Jvm.D
def own_fin (a b c : Addr) : Int32 := if (Value.ref a) = Value.ref b then 1 else if (Value.ref a) = Value.ref c then 1 else 0
theorem own_eqint {args : Array Value} {first s : State} {o : Option Outcome} {idx : List Nat} {t : Term} {k : Int32} (h : (Jvm.Cond.eq t (.int k)).value args first o s idx = some true) : t.eval args first o idx s = some (.int k) := by
  simp only [Cond.value, Term.eval] at h
  cases ht : t.eval args first o idx s with
  | none => simp [ht] at h
  | some x => cases x <;> simp [ht] at h ⊢; exact h
theorem own_ne {s : State} {a b : Addr} {C n d : String} {x y : Int32} (h1 : s.fieldOf? a C n d = some (.int x)) (h2 : s.fieldOf? b C n d = some (.int y)) (h : x ≠ y) : (Value.ref a) ≠ Value.ref b := fun q => by
  cases q
  rw [h1] at h2
  exact h (by injection h2 with h2; injection h2)
theorem pn_0 : plainName "com/example/grab1/grab1/JobState" = true := by first | (simp [plainName, overriddenIn]; done) | decide +kernel
theorem ef_rm1 (m : MethodId) (a1 : Addr) : entryFrame m #[(.ref a1)] 1 = mkF m 0 #[.val (.ref a1)] [] := by first | (simp [entryFrame, mkF, argsToLocals, Value.category]; done) | rfl
def Q1 (Z : State) (a1 : Addr) (wc : Addr) (wd : Addr) (h0 : Heap) (n0 : Nat) (v : Option Value) (h : Heap) (L : List Loc) : Prop := v = some (.int (own_fin a1 wc wd)) ∧ Fr n0 L ∧ h = h0
theorem d1_0 : decode prog_7_method_5_code 0 = .ok (.aload_n 0, 1) := by decide +kernel
theorem d1_1 : decode prog_7_method_5_code 1 = .ok (.getstatic 16, 3) := by decide +kernel
theorem d1_4 : decode prog_7_method_5_code 4 = .ok (.if_acmp .eq 10, 3) := by decide +kernel
theorem d1_14 : decode prog_7_method_5_code 14 = .ok (.iconst 1, 1) := by decide +kernel
theorem d1_15 : decode prog_7_method_5_code 15 = .ok (.goto 4, 3) := by decide +kernel
theorem d1_19 : decode prog_7_method_5_code 19 = .ok (.ireturn, 1) := by decide +kernel
theorem d1_7 : decode prog_7_method_5_code 7 = .ok (.aload_n 0, 1) := by decide +kernel
theorem d1_8 : decode prog_7_method_5_code 8 = .ok (.getstatic 19, 3) := by decide +kernel
theorem d1_11 : decode prog_7_method_5_code 11 = .ok (.if_acmp .ne 7, 3) := by decide +kernel
theorem d1_18 : decode prog_7_method_5_code 18 = .ok (.iconst 0, 1) := by decide +kernel
set_option maxRecDepth 65536 in
set_option maxHeartbeats 40000000 in
theorem rm1 (l : Launch) (Z : State) (a0 : Array Value) (hw : ∀ d ∈ tables_1, d.before a0 Z = true) (ws : List Jvm.Cond) (a1 : Addr) (wc : Addr) (wd : Addr) (h0 : Heap) (n0 : Nat) (Z0 : n0 ≤ h0.size) (O0 : Old Z n0 h0) (S_COMPLETED : Sta Z Z.heap "com/example/grab1/grab1/JobState" "COMPLETED" "Lcom/example/grab1/grab1/JobState;" (.ref wc)) (S_DEAD : Sta Z Z.heap "com/example/grab1/grab1/JobState" "DEAD" "Lcom/example/grab1/grab1/JobState;" (.ref wd)) :
    MetFree l (⟨"com/example/grab1/grab1/JobState", "finished", "()Z"⟩ : MethodName) (head1 (Jvm.Cond.code (⟨"com/example/grab1/grab1/JobState", "finished", "()Z"⟩ : MethodName) prog_7_method_5_code 1 (some .boolean) :: ws) ({ frames := 0, cells := 0, slots := 0, locals := 0 } : Room)) (fun a U => a = #[(.ref a1)] ∧ Z.Warmed39 U.vm ∧ U.heap = h0) (fun _ _ _ _ _ => True) (fun _ U o U' => ∃ v L, o = .returned v ∧ Q1 Z a1 wc wd h0 n0 v U'.heap L ∧ FrameEnd U o U' L ({ frames := 0, cells := 0, slots := 0, locals := 0 } : Room).cells ({ frames := 0, cells := 0, slots := 0, locals := 0 } : Room).slots) := by
  refine MetFree.of_bodySF (plainFor_of_name pn_0) hisR ?_
  intro p e s m args below meth c s₁ Bd hml0 hP hK
  obtain ⟨rfl, hZ, hh⟩ := hP
  have hx := Bd.exec
  have hby := Bd.bytes
  have hlk := BodyLoose.notSynchronized Bd
  have hml : c.maxLocals = 1 := hml0
  have hown : s.vm.findClass "com/example/grab1/grab1/JobState" = some m.cls := findClass_of_methodNamed Bd.named
  have hnm := (name_of_methodNamed Bd.named Bd.method).1
  have X0 : Stand p l e ({ frames := 0, cells := 0, slots := 0, locals := 0 } : Room) s m #[(.ref a1)] below meth c s₁ [] 0 0 := Stand.of_body Bd
  have e0 : s₁.heap = h0 := by rw [← hh, Bd.state]; rfl
  have N0 := Fr.nil n0
  show Go p e below s ({ frames := 0, cells := 0, slots := 0, locals := 0 } : Room).cells ({ frames := 0, cells := 0, slots := 0, locals := 0 } : Room).slots (Q1 Z a1 wc wd h0 n0) s₁ (entryFrame m #[(.ref a1)] 1)
  refine Go.cast (ef_rm1 m a1) ?_
  show Go _ _ _ _ _ _ _ s₁ (mkF m 0 #[.val (.ref a1)] [])
  refine Go.step (fun t k => XS.aloadN X0.here hx rfl (hb hby d1_0) rfl rfl k) ?_
  show Go _ _ _ _ _ _ _ s₁ (mkF m 1 #[.val (.ref a1)] [(.ref a1)])
  obtain ⟨T1, X1, e1, st1⟩ := getS2 X0 hx hZ hown (host := "") (Or.inl (hw _ (List.mem_of_getElem? (i := 9) rfl))) Via.refl e0 (S_COMPLETED.ext O0.2) (g := (mkF m 1 #[.val (.ref a1)] [(.ref a1)])) rfl (hb hby d1_1)
  refine Go.step st1 ?_
  show Go _ _ _ _ _ _ _ T1 (mkF m 4 #[.val (.ref a1)] [(.ref wc), (.ref a1)])
  by_cases hb4_2 : ((.ref a1) : Value) = (.ref wc)
  · refine Go.step (fun t k => XT.acmpYes X1.here hx rfl (pc0 := 4) (pc' := 14) rfl (hb hby d1_4) rfl rfl rfl (XT.aa_eq_t hb4_2) (by decide) (by decide) k) ?_
    show Go _ _ _ _ _ _ _ T1 (mkF m 14 #[.val (.ref a1)] [])
    refine Go.step (fun t k => XS.iconst X1.here hx rfl (hb hby d1_14) k) ?_
    show Go _ _ _ _ _ _ _ T1 (mkF m 15 #[.val (.ref a1)] [(.int (1 : Int32))])
    refine Go.step (fun t k => XS.goto X1.here hx rfl (pc0 := 15) (pc' := 19) rfl (hb hby d1_15) (by decide) (by decide) k) ?_
    show Go _ _ _ _ _ _ _ T1 (mkF m 19 #[.val (.ref a1)] [(.int (1 : Int32))])
    refine Go.ret X1 hx hlk Bd.returns rfl (Or.inl ⟨rfl, Or.inr (Or.inl rfl), _, rfl⟩) (hb hby d1_19) ?_ (by decide) (by decide)
    show Q1 Z _ _ _ _ _ _ T1.heap _
    exact ⟨by simp [own_fin, hb4_2], N0, e1⟩
  · refine Go.step (fun t k => XT.acmpNo X1.here hx rfl (hb hby d1_4) rfl rfl rfl (XT.aa_eq_f hb4_2) k) ?_
    show Go _ _ _ _ _ _ _ T1 (mkF m 7 #[.val (.ref a1)] [])
    refine Go.step (fun t k => XS.aloadN X1.here hx rfl (hb hby d1_7) rfl rfl k) ?_
    show Go _ _ _ _ _ _ _ T1 (mkF m 8 #[.val (.ref a1)] [(.ref a1)])
    obtain ⟨T3, X3, e3, st3⟩ := getS2 X1 hx hZ hown (host := "") (Or.inl (hw _ (List.mem_of_getElem? (i := 11) rfl))) Via.refl e1 (S_DEAD.ext O0.2) (g := (mkF m 8 #[.val (.ref a1)] [(.ref a1)])) rfl (hb hby d1_8)
    refine Go.step st3 ?_
    show Go _ _ _ _ _ _ _ T3 (mkF m 11 #[.val (.ref a1)] [(.ref wd), (.ref a1)])
    by_cases hb11_4 : ((.ref a1) : Value) = (.ref wd)
    · refine Go.step (fun t k => XT.acmpNo X3.here hx rfl (hb hby d1_11) rfl rfl rfl (XT.aa_ne_f hb11_4) k) ?_
      show Go _ _ _ _ _ _ _ T3 (mkF m 14 #[.val (.ref a1)] [])
      refine Go.step (fun t k => XS.iconst X3.here hx rfl (hb hby d1_14) k) ?_
      show Go _ _ _ _ _ _ _ T3 (mkF m 15 #[.val (.ref a1)] [(.int (1 : Int32))])
      refine Go.step (fun t k => XS.goto X3.here hx rfl (pc0 := 15) (pc' := 19) rfl (hb hby d1_15) (by decide) (by decide) k) ?_
      show Go _ _ _ _ _ _ _ T3 (mkF m 19 #[.val (.ref a1)] [(.int (1 : Int32))])
      refine Go.ret X3 hx hlk Bd.returns rfl (Or.inl ⟨rfl, Or.inr (Or.inl rfl), _, rfl⟩) (hb hby d1_19) ?_ (by decide) (by decide)
      show Q1 Z _ _ _ _ _ _ T3.heap _
      exact ⟨by simp [own_fin, hb4_2, hb11_4], N0, e3⟩
    · refine Go.step (fun t k => XT.acmpYes X3.here hx rfl (pc0 := 11) (pc' := 18) rfl (hb hby d1_11) rfl rfl rfl (XT.aa_ne_t hb11_4) (by decide) (by decide) k) ?_
      show Go _ _ _ _ _ _ _ T3 (mkF m 18 #[.val (.ref a1)] [])
      refine Go.step (fun t k => XS.iconst X3.here hx rfl (hb hby d1_18) k) ?_
      show Go _ _ _ _ _ _ _ T3 (mkF m 19 #[.val (.ref a1)] [(.int (0 : Int32))])
      refine Go.ret X3 hx hlk Bd.returns rfl (Or.inl ⟨rfl, Or.inr (Or.inl rfl), _, rfl⟩) (hb hby d1_19) ?_ (by decide) (by decide)
      show Q1 Z _ _ _ _ _ _ T3.heap _
      exact ⟨by simp [own_fin, hb4_2, hb11_4], N0, e3⟩
theorem pn_1 : plainName "com/example/grab1/grab1/JobStateFinishedPinLaw" = true := by first | (simp [plainName, overriddenIn]; done) | decide +kernel
theorem ef_rm0 (m : MethodId) (p1 : Int32) : entryFrame m #[(.int p1)] maxLocals = mkF m 0 #[.val (.int p1), .unset, .unset, .unset] [] := by first | (simp [entryFrame, mkF, argsToLocals, Value.category, maxLocals]; done) | rfl
def Q0 (Z : State) (p1 : Int32) (wscd : Addr) (wave : Addr) (wrug : Addr) (wreg : Addr) (wcod : Addr) (wded : Addr) (h0 : Heap) (n0 : Nat) (v : Option Value) (h : Heap) (L : List Loc) : Prop := v = some (.int (1 : Int32)) ∧ Fr n0 L
theorem pd_0 : parseMethodDescriptor "()Z" = some ⟨[], some .boolean⟩ := by decide +kernel
set_option maxRecDepth 65536 in
set_option maxHeartbeats 40000000 in
theorem rm0 (l : Launch) (Z : State) (a0 : Array Value) (hw : ∀ d ∈ tables_1, d.before a0 Z = true) (ws : List Jvm.Cond) (p1 : Int32) (wscd : Addr) (wave : Addr) (wrug : Addr) (wreg : Addr) (wcod : Addr) (wded : Addr) (h0 : Heap) (n0 : Nat) (Z0 : n0 ≤ h0.size) (O0 : Old Z n0 h0) (S_SCHEDULED : Sta Z Z.heap "com/example/grab1/grab1/JobState" "SCHEDULED" "Lcom/example/grab1/grab1/JobState;" (.ref wscd)) (S_AVAILABLE : Sta Z Z.heap "com/example/grab1/grab1/JobState" "AVAILABLE" "Lcom/example/grab1/grab1/JobState;" (.ref wave)) (S_RUNNING : Sta Z Z.heap "com/example/grab1/grab1/JobState" "RUNNING" "Lcom/example/grab1/grab1/JobState;" (.ref wrug)) (S_RETRYING : Sta Z Z.heap "com/example/grab1/grab1/JobState" "RETRYING" "Lcom/example/grab1/grab1/JobState;" (.ref wreg)) (S_COMPLETED : Sta Z Z.heap "com/example/grab1/grab1/JobState" "COMPLETED" "Lcom/example/grab1/grab1/JobState;" (.ref wcod)) (S_DEAD : Sta Z Z.heap "com/example/grab1/grab1/JobState" "DEAD" "Lcom/example/grab1/grab1/JobState;" (.ref wded)) (E_SCHEDULED : Exa Z h0 wscd "com/example/grab1/grab1/JobState") (E_AVAILABLE : Exa Z h0 wave "com/example/grab1/grab1/JobState") (E_RUNNING : Exa Z h0 wrug "com/example/grab1/grab1/JobState") (E_RETRYING : Exa Z h0 wreg "com/example/grab1/grab1/JobState") (E_COMPLETED : Exa Z h0 wcod "com/example/grab1/grab1/JobState") (E_DEAD : Exa Z h0 wded "com/example/grab1/grab1/JobState") (nC_SCHEDULED : (Value.ref wscd) ≠ Value.ref wcod) (nC_AVAILABLE : (Value.ref wave) ≠ Value.ref wcod) (nC_RUNNING : (Value.ref wrug) ≠ Value.ref wcod) (nC_RETRYING : (Value.ref wreg) ≠ Value.ref wcod) (nD_SCHEDULED : (Value.ref wscd) ≠ Value.ref wded) (nD_AVAILABLE : (Value.ref wave) ≠ Value.ref wded) (nD_RUNNING : (Value.ref wrug) ≠ Value.ref wded) (nD_RETRYING : (Value.ref wreg) ≠ Value.ref wded) :
    MetFree l x (head1 (Jvm.Cond.code x code maxLocals ret :: ws) room_1) (fun a U => a = #[(.int p1)] ∧ Z.Warmed39 U.vm ∧ U.heap = h0) (fun _ _ _ _ _ => True) (fun _ U o U' => ∃ v L, o = .returned v ∧ Q0 Z p1 wscd wave wrug wreg wcod wded h0 n0 v U'.heap L ∧ FrameEnd U o U' L room_1.cells room_1.slots) := by
  refine MetFree.of_bodySF (plainFor_of_name pn_1) hisR ?_
  intro p e s m args below meth c s₁ Bd hml0 hP hK
  obtain ⟨rfl, hZ, hh⟩ := hP
  have hx := Bd.exec
  have hby := Bd.bytes
  have hlk := BodyLoose.notSynchronized Bd
  have hml : c.maxLocals = 4 := hml0
  have hown : s.vm.findClass "com/example/grab1/grab1/JobStateFinishedPinLaw" = some m.cls := findClass_of_methodNamed Bd.named
  have hnm := (name_of_methodNamed Bd.named Bd.method).1
  have X0 : Stand p l e room_1 s m #[(.int p1)] below meth c s₁ [] 0 0 := Stand.of_body Bd
  have e0 : s₁.heap = h0 := by rw [← hh, Bd.state]; rfl
  have N0 := Fr.nil n0
  show Go p e below s room_1.cells room_1.slots (Q0 Z p1 wscd wave wrug wreg wcod wded h0 n0) s₁ (entryFrame m #[(.int p1)] maxLocals)
  refine Go.cast (ef_rm0 m p1) ?_
  show Go _ _ _ _ _ _ _ s₁ (mkF m 0 #[.val (.int p1), .unset, .unset, .unset] [])
  refine Go.step (fun t k => XS.iloadN X0.here hx rfl (hb hby at_0) rfl k) ?_
  show Go _ _ _ _ _ _ _ s₁ (mkF m 1 #[.val (.int p1), .unset, .unset, .unset] [(.int p1)])
  refine Go.step (fun t k => X0.ldcI hx hown (mvT hZ (hw _ (List.mem_of_getElem? (i := 0) rfl))) rfl (hb hby at_1) k) ?_
  show Go _ _ _ _ _ _ _ s₁ (mkF m 3 #[.val (.int p1), .unset, .unset, .unset] [(.int (2147483647 : Int32)), (.int p1)])
  refine Go.step (fun t k => XS.iand X0.here hx rfl (hb hby at_3) rfl k) ?_
  show Go _ _ _ _ _ _ _ s₁ (mkF m 4 #[.val (.int p1), .unset, .unset, .unset] [(.int (p1 &&& (2147483647 : Int32)))])
  refine Go.step (fun t k => XS.bipush X0.here hx rfl (hb hby at_4) k) ?_
  show Go _ _ _ _ _ _ _ s₁ (mkF m 6 #[.val (.int p1), .unset, .unset, .unset] [(.int (6 : Int32)), (.int (p1 &&& (2147483647 : Int32)))])
  refine Go.step (fun t k => iremM X0 hx rfl (hb hby at_6) rfl (by decide) k) ?_
  show Go _ _ _ _ _ _ _ s₁ (mkF m 7 #[.val (.int p1), .unset, .unset, .unset] [(.int ((p1 &&& (2147483647 : Int32)) % (6 : Int32)))])
  generalize hk1 : ((p1 &&& (2147483647 : Int32)) % (6 : Int32)) = k1
  show Go _ _ _ _ _ _ _ s₁ (mkF m 7 #[.val (.int p1), .unset, .unset, .unset] [(.int k1)])
  refine Go.step (fun t k => XS.istoreN X0.here hx rfl (hb hby at_7) rfl (l' := #[.val (.int p1), .val (.int k1), .unset, .unset]) rfl k) ?_
  show Go _ _ _ _ _ _ _ s₁ (mkF m 8 #[.val (.int p1), .val (.int k1), .unset, .unset] [])
  refine Go.step (fun t k => XS.iloadN X0.here hx rfl (hb hby at_8) rfl k) ?_
  show Go _ _ _ _ _ _ _ s₁ (mkF m 9 #[.val (.int p1), .val (.int k1), .unset, .unset] [(.int k1)])
  by_cases hb9_1 : k1 = (0 : Int32)
  · refine Go.step (fun t k => XS.ifNo X0.here hx rfl (hb hby at_9) rfl (XT.i0_ne_f hb9_1) k) ?_
    show Go _ _ _ _ _ _ _ s₁ (mkF m 12 #[.val (.int p1), .val (.int k1), .unset, .unset] [])
    obtain ⟨T2, X2, e2, st2⟩ := getS2 X0 hx hZ hown (host := "") (Or.inl (hw _ (List.mem_of_getElem? (i := 1) rfl))) Via.refl e0 (S_SCHEDULED.ext O0.2) (g := (mkF m 12 #[.val (.int p1), .val (.int k1), .unset, .unset] [])) rfl (hb hby at_12)
    refine Go.step st2 ?_
    show Go _ _ _ _ _ _ _ T2 (mkF m 15 #[.val (.int p1), .val (.int k1), .unset, .unset] [(.ref wscd)])
    refine Go.step (fun t k => XS.astoreN X2.here hx rfl (hb hby at_15) rfl rfl (l' := #[.val (.int p1), .val (.int k1), .val (.ref wscd), .unset]) rfl k) ?_
    show Go _ _ _ _ _ _ _ T2 (mkF m 16 #[.val (.int p1), .val (.int k1), .val (.ref wscd), .unset] [])
    refine Go.step (fun t k => XS.iconst X2.here hx rfl (hb hby at_16) k) ?_
    show Go _ _ _ _ _ _ _ T2 (mkF m 17 #[.val (.int p1), .val (.int k1), .val (.ref wscd), .unset] [(.int (0 : Int32))])
    refine Go.step (fun t k => XS.istoreN X2.here hx rfl (hb hby at_17) rfl (l' := #[.val (.int p1), .val (.int k1), .val (.ref wscd), .val (.int (0 : Int32))]) rfl k) ?_
    show Go _ _ _ _ _ _ _ T2 (mkF m 18 #[.val (.int p1), .val (.int k1), .val (.ref wscd), .val (.int (0 : Int32))] [])
    refine Go.step (fun t k => XS.goto X2.here hx rfl (pc0 := 18) (pc' := 83) rfl (hb hby at_18) (by decide) (by decide) k) ?_
    show Go _ _ _ _ _ _ _ T2 (mkF m 83 #[.val (.int p1), .val (.int k1), .val (.ref wscd), .val (.int (0 : Int32))] [])
    refine Go.step (fun t k => XS.aloadN X2.here hx rfl (hb hby at_83) rfl rfl k) ?_
    show Go _ _ _ _ _ _ _ T2 (mkF m 84 #[.val (.int p1), .val (.int k1), .val (.ref wscd), .val (.int (0 : Int32))] [(.ref wscd)])
    obtain ⟨cq3, kq3, qa3, qb3, qc3⟩ := isOf hZ e2 E_SCHEDULED
    obtain ⟨_, _, ⟨T3, L3, k3, n3⟩, -, X3, ⟨Lc3, hQ3, l3, y3, z3⟩, st3⟩ := X2.virtualBack hx (y := (⟨"com/example/grab1/grab1/JobState", "finished", "()Z"⟩ : MethodName)) (z := (⟨"com/example/grab1/grab1/JobState", "finished", "()Z"⟩ : MethodName)) hown (mvT hZ (hw _ (List.mem_of_getElem? (i := 4) rfl))) (mvT hZ (hw _ (List.mem_of_getElem? (i := 5) rfl))) (notFace_of_selects (args := #[]) (mvT hZ (hw _ (List.mem_of_getElem? (i := 7) rfl)))) (mvT hZ (hw _ (List.mem_of_getElem? (i := 7) rfl))) (mvT hZ (hw _ (List.mem_of_getElem? (i := 6) rfl))) (by decide) (backOf (W := 0) (rm1 l Z a0 hw [] wscd wcod wded h0 n0 Z0 O0 S_COMPLETED S_DEAD) hZ (hw _ (List.mem_of_getElem? (i := 8) rfl)) (hw _ (List.mem_of_getElem? (i := 2) rfl)) (by decide) (by decide)) qa3 qc3 (g := (mkF m 84 #[.val (.int p1), .val (.int k1), .val (.ref wscd), .val (.int (0 : Int32))] [(.ref wscd)])) rfl (by rw [hml]; rfl) (Steps.refl _) (argsL := []) (rest := []) (lenOf pd_0 rfl) rfl (by show 2 * 0 + _ ≤ _; exact Nat.le_of_eq rfl) (hb hby at_84) (fun _ _ => ⟨rfl, e2, (by decide : 0 + 0 ≤ _), (by decide : 0 + 0 ≤ _)⟩)
    dsimp only [Pt.U, Pt.locs, Pt.cells, Pt.slots] at X3 l3 y3 z3 st3 hQ3
    subst l3 y3 z3
    obtain ⟨rfl, N3q, e3⟩ := hQ3
    have N3 := Fr.app N0 N3q
    refine Go.step (fun t k => st3.trans k) ?_
    show Go _ _ _ _ _ _ _ T3 (mkF m 87 #[.val (.int p1), .val (.int k1), .val (.ref wscd), .val (.int (0 : Int32))] [(.int (own_fin wscd wcod wded))])
    refine Go.step (fun t k => XS.iloadN X3.here hx rfl (hb hby at_87) rfl k) ?_
    show Go _ _ _ _ _ _ _ T3 (mkF m 88 #[.val (.int p1), .val (.int k1), .val (.ref wscd), .val (.int (0 : Int32))] [(.int (0 : Int32)), (.int (own_fin wscd wcod wded))])
    have hb88_4 : (own_fin wscd wcod wded) = (0 : Int32) := by simp [own_fin, nC_SCHEDULED, nD_SCHEDULED, nC_AVAILABLE, nD_AVAILABLE, nC_RUNNING, nD_RUNNING, nC_RETRYING, nD_RETRYING]
    refine Go.step (fun t k => XS.icmpNo X3.here hx rfl (hb hby at_88) rfl (XT.ii_ne_f hb88_4) k) ?_
    show Go _ _ _ _ _ _ _ T3 (mkF m 91 #[.val (.int p1), .val (.int k1), .val (.ref wscd), .val (.int (0 : Int32))] [])
    refine Go.step (fun t k => XS.iconst X3.here hx rfl (hb hby at_91) k) ?_
    show Go _ _ _ _ _ _ _ T3 (mkF m 92 #[.val (.int p1), .val (.int k1), .val (.ref wscd), .val (.int (0 : Int32))] [(.int (1 : Int32))])
    refine Go.step (fun t k => XS.goto X3.here hx rfl (pc0 := 92) (pc' := 96) rfl (hb hby at_92) (by decide) (by decide) k) ?_
    show Go _ _ _ _ _ _ _ T3 (mkF m 96 #[.val (.int p1), .val (.int k1), .val (.ref wscd), .val (.int (0 : Int32))] [(.int (1 : Int32))])
    refine Go.ret X3 hx hlk Bd.returns rfl (Or.inl ⟨rfl, Or.inr (Or.inl rfl), _, rfl⟩) (hb hby at_96) ?_ (by decide) (by decide)
    show Q0 Z _ _ _ _ _ _ _ _ _ _ T3.heap _
    exact ⟨rfl, N3⟩
  · refine Go.step (fun t k => XS.ifYes X0.here hx rfl (pc0 := 9) (pc' := 21) rfl (hb hby at_9) rfl (XT.i0_ne_t hb9_1) (by decide) (by decide) k) ?_
    show Go _ _ _ _ _ _ _ s₁ (mkF m 21 #[.val (.int p1), .val (.int k1), .unset, .unset] [])
    refine Go.step (fun t k => XS.iloadN X0.here hx rfl (hb hby at_21) rfl k) ?_
    show Go _ _ _ _ _ _ _ s₁ (mkF m 22 #[.val (.int p1), .val (.int k1), .unset, .unset] [(.int k1)])
    refine Go.step (fun t k => XS.iconst X0.here hx rfl (hb hby at_22) k) ?_
    show Go _ _ _ _ _ _ _ s₁ (mkF m 23 #[.val (.int p1), .val (.int k1), .unset, .unset] [(.int (1 : Int32)), (.int k1)])
    by_cases hb23_5 : k1 = (1 : Int32)
    · refine Go.step (fun t k => XS.icmpNo X0.here hx rfl (hb hby at_23) rfl (XT.ii_ne_f hb23_5) k) ?_
      show Go _ _ _ _ _ _ _ s₁ (mkF m 26 #[.val (.int p1), .val (.int k1), .unset, .unset] [])
      obtain ⟨T6, X6, e6, st6⟩ := getS2 X0 hx hZ hown (host := "") (Or.inl (hw _ (List.mem_of_getElem? (i := 17) rfl))) Via.refl e0 (S_AVAILABLE.ext O0.2) (g := (mkF m 26 #[.val (.int p1), .val (.int k1), .unset, .unset] [])) rfl (hb hby at_26)
      refine Go.step st6 ?_
      show Go _ _ _ _ _ _ _ T6 (mkF m 29 #[.val (.int p1), .val (.int k1), .unset, .unset] [(.ref wave)])
      refine Go.step (fun t k => XS.astoreN X6.here hx rfl (hb hby at_29) rfl rfl (l' := #[.val (.int p1), .val (.int k1), .val (.ref wave), .unset]) rfl k) ?_
      show Go _ _ _ _ _ _ _ T6 (mkF m 30 #[.val (.int p1), .val (.int k1), .val (.ref wave), .unset] [])
      refine Go.step (fun t k => XS.iconst X6.here hx rfl (hb hby at_30) k) ?_
      show Go _ _ _ _ _ _ _ T6 (mkF m 31 #[.val (.int p1), .val (.int k1), .val (.ref wave), .unset] [(.int (0 : Int32))])
      refine Go.step (fun t k => XS.istoreN X6.here hx rfl (hb hby at_31) rfl (l' := #[.val (.int p1), .val (.int k1), .val (.ref wave), .val (.int (0 : Int32))]) rfl k) ?_
      show Go _ _ _ _ _ _ _ T6 (mkF m 32 #[.val (.int p1), .val (.int k1), .val (.ref wave), .val (.int (0 : Int32))] [])
      refine Go.step (fun t k => XS.goto X6.here hx rfl (pc0 := 32) (pc' := 83) rfl (hb hby at_32) (by decide) (by decide) k) ?_
      show Go _ _ _ _ _ _ _ T6 (mkF m 83 #[.val (.int p1), .val (.int k1), .val (.ref wave), .val (.int (0 : Int32))] [])
      refine Go.step (fun t k => XS.aloadN X6.here hx rfl (hb hby at_83) rfl rfl k) ?_
      show Go _ _ _ _ _ _ _ T6 (mkF m 84 #[.val (.int p1), .val (.int k1), .val (.ref wave), .val (.int (0 : Int32))] [(.ref wave)])
      obtain ⟨cq7, kq7, qa7, qb7, qc7⟩ := isOf hZ e6 E_AVAILABLE
      obtain ⟨_, _, ⟨T7, L7, k7, n7⟩, -, X7, ⟨Lc7, hQ7, l7, y7, z7⟩, st7⟩ := X6.virtualBack hx (y := (⟨"com/example/grab1/grab1/JobState", "finished", "()Z"⟩ : MethodName)) (z := (⟨"com/example/grab1/grab1/JobState", "finished", "()Z"⟩ : MethodName)) hown (mvT hZ (hw _ (List.mem_of_getElem? (i := 4) rfl))) (mvT hZ (hw _ (List.mem_of_getElem? (i := 5) rfl))) (notFace_of_selects (args := #[]) (mvT hZ (hw _ (List.mem_of_getElem? (i := 7) rfl)))) (mvT hZ (hw _ (List.mem_of_getElem? (i := 7) rfl))) (mvT hZ (hw _ (List.mem_of_getElem? (i := 6) rfl))) (by decide) (backOf (W := 0) (rm1 l Z a0 hw [] wave wcod wded h0 n0 Z0 O0 S_COMPLETED S_DEAD) hZ (hw _ (List.mem_of_getElem? (i := 8) rfl)) (hw _ (List.mem_of_getElem? (i := 2) rfl)) (by decide) (by decide)) qa7 qc7 (g := (mkF m 84 #[.val (.int p1), .val (.int k1), .val (.ref wave), .val (.int (0 : Int32))] [(.ref wave)])) rfl (by rw [hml]; rfl) (Steps.refl _) (argsL := []) (rest := []) (lenOf pd_0 rfl) rfl (by show 2 * 0 + _ ≤ _; exact Nat.le_of_eq rfl) (hb hby at_84) (fun _ _ => ⟨rfl, e6, (by decide : 0 + 0 ≤ _), (by decide : 0 + 0 ≤ _)⟩)
      dsimp only [Pt.U, Pt.locs, Pt.cells, Pt.slots] at X7 l7 y7 z7 st7 hQ7
      subst l7 y7 z7
      obtain ⟨rfl, N7q, e7⟩ := hQ7
      have N7 := Fr.app N0 N7q
      refine Go.step (fun t k => st7.trans k) ?_
      show Go _ _ _ _ _ _ _ T7 (mkF m 87 #[.val (.int p1), .val (.int k1), .val (.ref wave), .val (.int (0 : Int32))] [(.int (own_fin wave wcod wded))])
      refine Go.step (fun t k => XS.iloadN X7.here hx rfl (hb hby at_87) rfl k) ?_
      show Go _ _ _ _ _ _ _ T7 (mkF m 88 #[.val (.int p1), .val (.int k1), .val (.ref wave), .val (.int (0 : Int32))] [(.int (0 : Int32)), (.int (own_fin wave wcod wded))])
      have hb88_8 : (own_fin wave wcod wded) = (0 : Int32) := by simp [own_fin, nC_SCHEDULED, nD_SCHEDULED, nC_AVAILABLE, nD_AVAILABLE, nC_RUNNING, nD_RUNNING, nC_RETRYING, nD_RETRYING]
      refine Go.step (fun t k => XS.icmpNo X7.here hx rfl (hb hby at_88) rfl (XT.ii_ne_f hb88_8) k) ?_
      show Go _ _ _ _ _ _ _ T7 (mkF m 91 #[.val (.int p1), .val (.int k1), .val (.ref wave), .val (.int (0 : Int32))] [])
      refine Go.step (fun t k => XS.iconst X7.here hx rfl (hb hby at_91) k) ?_
      show Go _ _ _ _ _ _ _ T7 (mkF m 92 #[.val (.int p1), .val (.int k1), .val (.ref wave), .val (.int (0 : Int32))] [(.int (1 : Int32))])
      refine Go.step (fun t k => XS.goto X7.here hx rfl (pc0 := 92) (pc' := 96) rfl (hb hby at_92) (by decide) (by decide) k) ?_
      show Go _ _ _ _ _ _ _ T7 (mkF m 96 #[.val (.int p1), .val (.int k1), .val (.ref wave), .val (.int (0 : Int32))] [(.int (1 : Int32))])
      refine Go.ret X7 hx hlk Bd.returns rfl (Or.inl ⟨rfl, Or.inr (Or.inl rfl), _, rfl⟩) (hb hby at_96) ?_ (by decide) (by decide)
      show Q0 Z _ _ _ _ _ _ _ _ _ _ T7.heap _
      exact ⟨rfl, N7⟩
    · refine Go.step (fun t k => XS.icmpYes X0.here hx rfl (pc0 := 23) (pc' := 35) rfl (hb hby at_23) rfl (XT.ii_ne_t hb23_5) (by decide) (by decide) k) ?_
      show Go _ _ _ _ _ _ _ s₁ (mkF m 35 #[.val (.int p1), .val (.int k1), .unset, .unset] [])
      refine Go.step (fun t k => XS.iloadN X0.here hx rfl (hb hby at_35) rfl k) ?_
      show Go _ _ _ _ _ _ _ s₁ (mkF m 36 #[.val (.int p1), .val (.int k1), .unset, .unset] [(.int k1)])
      refine Go.step (fun t k => XS.iconst X0.here hx rfl (hb hby at_36) k) ?_
      show Go _ _ _ _ _ _ _ s₁ (mkF m 37 #[.val (.int p1), .val (.int k1), .unset, .unset] [(.int (2 : Int32)), (.int k1)])
      by_cases hb37_9 : k1 = (2 : Int32)
      · refine Go.step (fun t k => XS.icmpNo X0.here hx rfl (hb hby at_37) rfl (XT.ii_ne_f hb37_9) k) ?_
        show Go _ _ _ _ _ _ _ s₁ (mkF m 40 #[.val (.int p1), .val (.int k1), .unset, .unset] [])
        obtain ⟨T10, X10, e10, st10⟩ := getS2 X0 hx hZ hown (host := "") (Or.inl (hw _ (List.mem_of_getElem? (i := 15) rfl))) Via.refl e0 (S_RUNNING.ext O0.2) (g := (mkF m 40 #[.val (.int p1), .val (.int k1), .unset, .unset] [])) rfl (hb hby at_40)
        refine Go.step st10 ?_
        show Go _ _ _ _ _ _ _ T10 (mkF m 43 #[.val (.int p1), .val (.int k1), .unset, .unset] [(.ref wrug)])
        refine Go.step (fun t k => XS.astoreN X10.here hx rfl (hb hby at_43) rfl rfl (l' := #[.val (.int p1), .val (.int k1), .val (.ref wrug), .unset]) rfl k) ?_
        show Go _ _ _ _ _ _ _ T10 (mkF m 44 #[.val (.int p1), .val (.int k1), .val (.ref wrug), .unset] [])
        refine Go.step (fun t k => XS.iconst X10.here hx rfl (hb hby at_44) k) ?_
        show Go _ _ _ _ _ _ _ T10 (mkF m 45 #[.val (.int p1), .val (.int k1), .val (.ref wrug), .unset] [(.int (0 : Int32))])
        refine Go.step (fun t k => XS.istoreN X10.here hx rfl (hb hby at_45) rfl (l' := #[.val (.int p1), .val (.int k1), .val (.ref wrug), .val (.int (0 : Int32))]) rfl k) ?_
        show Go _ _ _ _ _ _ _ T10 (mkF m 46 #[.val (.int p1), .val (.int k1), .val (.ref wrug), .val (.int (0 : Int32))] [])
        refine Go.step (fun t k => XS.goto X10.here hx rfl (pc0 := 46) (pc' := 83) rfl (hb hby at_46) (by decide) (by decide) k) ?_
        show Go _ _ _ _ _ _ _ T10 (mkF m 83 #[.val (.int p1), .val (.int k1), .val (.ref wrug), .val (.int (0 : Int32))] [])
        refine Go.step (fun t k => XS.aloadN X10.here hx rfl (hb hby at_83) rfl rfl k) ?_
        show Go _ _ _ _ _ _ _ T10 (mkF m 84 #[.val (.int p1), .val (.int k1), .val (.ref wrug), .val (.int (0 : Int32))] [(.ref wrug)])
        obtain ⟨cq11, kq11, qa11, qb11, qc11⟩ := isOf hZ e10 E_RUNNING
        obtain ⟨_, _, ⟨T11, L11, k11, n11⟩, -, X11, ⟨Lc11, hQ11, l11, y11, z11⟩, st11⟩ := X10.virtualBack hx (y := (⟨"com/example/grab1/grab1/JobState", "finished", "()Z"⟩ : MethodName)) (z := (⟨"com/example/grab1/grab1/JobState", "finished", "()Z"⟩ : MethodName)) hown (mvT hZ (hw _ (List.mem_of_getElem? (i := 4) rfl))) (mvT hZ (hw _ (List.mem_of_getElem? (i := 5) rfl))) (notFace_of_selects (args := #[]) (mvT hZ (hw _ (List.mem_of_getElem? (i := 7) rfl)))) (mvT hZ (hw _ (List.mem_of_getElem? (i := 7) rfl))) (mvT hZ (hw _ (List.mem_of_getElem? (i := 6) rfl))) (by decide) (backOf (W := 0) (rm1 l Z a0 hw [] wrug wcod wded h0 n0 Z0 O0 S_COMPLETED S_DEAD) hZ (hw _ (List.mem_of_getElem? (i := 8) rfl)) (hw _ (List.mem_of_getElem? (i := 2) rfl)) (by decide) (by decide)) qa11 qc11 (g := (mkF m 84 #[.val (.int p1), .val (.int k1), .val (.ref wrug), .val (.int (0 : Int32))] [(.ref wrug)])) rfl (by rw [hml]; rfl) (Steps.refl _) (argsL := []) (rest := []) (lenOf pd_0 rfl) rfl (by show 2 * 0 + _ ≤ _; exact Nat.le_of_eq rfl) (hb hby at_84) (fun _ _ => ⟨rfl, e10, (by decide : 0 + 0 ≤ _), (by decide : 0 + 0 ≤ _)⟩)
        dsimp only [Pt.U, Pt.locs, Pt.cells, Pt.slots] at X11 l11 y11 z11 st11 hQ11
        subst l11 y11 z11
        obtain ⟨rfl, N11q, e11⟩ := hQ11
        have N11 := Fr.app N0 N11q
        refine Go.step (fun t k => st11.trans k) ?_
        show Go _ _ _ _ _ _ _ T11 (mkF m 87 #[.val (.int p1), .val (.int k1), .val (.ref wrug), .val (.int (0 : Int32))] [(.int (own_fin wrug wcod wded))])
        refine Go.step (fun t k => XS.iloadN X11.here hx rfl (hb hby at_87) rfl k) ?_
        show Go _ _ _ _ _ _ _ T11 (mkF m 88 #[.val (.int p1), .val (.int k1), .val (.ref wrug), .val (.int (0 : Int32))] [(.int (0 : Int32)), (.int (own_fin wrug wcod wded))])
        have hb88_12 : (own_fin wrug wcod wded) = (0 : Int32) := by simp [own_fin, nC_SCHEDULED, nD_SCHEDULED, nC_AVAILABLE, nD_AVAILABLE, nC_RUNNING, nD_RUNNING, nC_RETRYING, nD_RETRYING]
        refine Go.step (fun t k => XS.icmpNo X11.here hx rfl (hb hby at_88) rfl (XT.ii_ne_f hb88_12) k) ?_
        show Go _ _ _ _ _ _ _ T11 (mkF m 91 #[.val (.int p1), .val (.int k1), .val (.ref wrug), .val (.int (0 : Int32))] [])
        refine Go.step (fun t k => XS.iconst X11.here hx rfl (hb hby at_91) k) ?_
        show Go _ _ _ _ _ _ _ T11 (mkF m 92 #[.val (.int p1), .val (.int k1), .val (.ref wrug), .val (.int (0 : Int32))] [(.int (1 : Int32))])
        refine Go.step (fun t k => XS.goto X11.here hx rfl (pc0 := 92) (pc' := 96) rfl (hb hby at_92) (by decide) (by decide) k) ?_
        show Go _ _ _ _ _ _ _ T11 (mkF m 96 #[.val (.int p1), .val (.int k1), .val (.ref wrug), .val (.int (0 : Int32))] [(.int (1 : Int32))])
        refine Go.ret X11 hx hlk Bd.returns rfl (Or.inl ⟨rfl, Or.inr (Or.inl rfl), _, rfl⟩) (hb hby at_96) ?_ (by decide) (by decide)
        show Q0 Z _ _ _ _ _ _ _ _ _ _ T11.heap _
        exact ⟨rfl, N11⟩
      · refine Go.step (fun t k => XS.icmpYes X0.here hx rfl (pc0 := 37) (pc' := 49) rfl (hb hby at_37) rfl (XT.ii_ne_t hb37_9) (by decide) (by decide) k) ?_
        show Go _ _ _ _ _ _ _ s₁ (mkF m 49 #[.val (.int p1), .val (.int k1), .unset, .unset] [])
        refine Go.step (fun t k => XS.iloadN X0.here hx rfl (hb hby at_49) rfl k) ?_
        show Go _ _ _ _ _ _ _ s₁ (mkF m 50 #[.val (.int p1), .val (.int k1), .unset, .unset] [(.int k1)])
        refine Go.step (fun t k => XS.iconst X0.here hx rfl (hb hby at_50) k) ?_
        show Go _ _ _ _ _ _ _ s₁ (mkF m 51 #[.val (.int p1), .val (.int k1), .unset, .unset] [(.int (3 : Int32)), (.int k1)])
        by_cases hb51_13 : k1 = (3 : Int32)
        · refine Go.step (fun t k => XS.icmpNo X0.here hx rfl (hb hby at_51) rfl (XT.ii_ne_f hb51_13) k) ?_
          show Go _ _ _ _ _ _ _ s₁ (mkF m 54 #[.val (.int p1), .val (.int k1), .unset, .unset] [])
          obtain ⟨T14, X14, e14, st14⟩ := getS2 X0 hx hZ hown (host := "") (Or.inl (hw _ (List.mem_of_getElem? (i := 13) rfl))) Via.refl e0 (S_RETRYING.ext O0.2) (g := (mkF m 54 #[.val (.int p1), .val (.int k1), .unset, .unset] [])) rfl (hb hby at_54)
          refine Go.step st14 ?_
          show Go _ _ _ _ _ _ _ T14 (mkF m 57 #[.val (.int p1), .val (.int k1), .unset, .unset] [(.ref wreg)])
          refine Go.step (fun t k => XS.astoreN X14.here hx rfl (hb hby at_57) rfl rfl (l' := #[.val (.int p1), .val (.int k1), .val (.ref wreg), .unset]) rfl k) ?_
          show Go _ _ _ _ _ _ _ T14 (mkF m 58 #[.val (.int p1), .val (.int k1), .val (.ref wreg), .unset] [])
          refine Go.step (fun t k => XS.iconst X14.here hx rfl (hb hby at_58) k) ?_
          show Go _ _ _ _ _ _ _ T14 (mkF m 59 #[.val (.int p1), .val (.int k1), .val (.ref wreg), .unset] [(.int (0 : Int32))])
          refine Go.step (fun t k => XS.istoreN X14.here hx rfl (hb hby at_59) rfl (l' := #[.val (.int p1), .val (.int k1), .val (.ref wreg), .val (.int (0 : Int32))]) rfl k) ?_
          show Go _ _ _ _ _ _ _ T14 (mkF m 60 #[.val (.int p1), .val (.int k1), .val (.ref wreg), .val (.int (0 : Int32))] [])
          refine Go.step (fun t k => XS.goto X14.here hx rfl (pc0 := 60) (pc' := 83) rfl (hb hby at_60) (by decide) (by decide) k) ?_
          show Go _ _ _ _ _ _ _ T14 (mkF m 83 #[.val (.int p1), .val (.int k1), .val (.ref wreg), .val (.int (0 : Int32))] [])
          refine Go.step (fun t k => XS.aloadN X14.here hx rfl (hb hby at_83) rfl rfl k) ?_
          show Go _ _ _ _ _ _ _ T14 (mkF m 84 #[.val (.int p1), .val (.int k1), .val (.ref wreg), .val (.int (0 : Int32))] [(.ref wreg)])
          obtain ⟨cq15, kq15, qa15, qb15, qc15⟩ := isOf hZ e14 E_RETRYING
          obtain ⟨_, _, ⟨T15, L15, k15, n15⟩, -, X15, ⟨Lc15, hQ15, l15, y15, z15⟩, st15⟩ := X14.virtualBack hx (y := (⟨"com/example/grab1/grab1/JobState", "finished", "()Z"⟩ : MethodName)) (z := (⟨"com/example/grab1/grab1/JobState", "finished", "()Z"⟩ : MethodName)) hown (mvT hZ (hw _ (List.mem_of_getElem? (i := 4) rfl))) (mvT hZ (hw _ (List.mem_of_getElem? (i := 5) rfl))) (notFace_of_selects (args := #[]) (mvT hZ (hw _ (List.mem_of_getElem? (i := 7) rfl)))) (mvT hZ (hw _ (List.mem_of_getElem? (i := 7) rfl))) (mvT hZ (hw _ (List.mem_of_getElem? (i := 6) rfl))) (by decide) (backOf (W := 0) (rm1 l Z a0 hw [] wreg wcod wded h0 n0 Z0 O0 S_COMPLETED S_DEAD) hZ (hw _ (List.mem_of_getElem? (i := 8) rfl)) (hw _ (List.mem_of_getElem? (i := 2) rfl)) (by decide) (by decide)) qa15 qc15 (g := (mkF m 84 #[.val (.int p1), .val (.int k1), .val (.ref wreg), .val (.int (0 : Int32))] [(.ref wreg)])) rfl (by rw [hml]; rfl) (Steps.refl _) (argsL := []) (rest := []) (lenOf pd_0 rfl) rfl (by show 2 * 0 + _ ≤ _; exact Nat.le_of_eq rfl) (hb hby at_84) (fun _ _ => ⟨rfl, e14, (by decide : 0 + 0 ≤ _), (by decide : 0 + 0 ≤ _)⟩)
          dsimp only [Pt.U, Pt.locs, Pt.cells, Pt.slots] at X15 l15 y15 z15 st15 hQ15
          subst l15 y15 z15
          obtain ⟨rfl, N15q, e15⟩ := hQ15
          have N15 := Fr.app N0 N15q
          refine Go.step (fun t k => st15.trans k) ?_
          show Go _ _ _ _ _ _ _ T15 (mkF m 87 #[.val (.int p1), .val (.int k1), .val (.ref wreg), .val (.int (0 : Int32))] [(.int (own_fin wreg wcod wded))])
          refine Go.step (fun t k => XS.iloadN X15.here hx rfl (hb hby at_87) rfl k) ?_
          show Go _ _ _ _ _ _ _ T15 (mkF m 88 #[.val (.int p1), .val (.int k1), .val (.ref wreg), .val (.int (0 : Int32))] [(.int (0 : Int32)), (.int (own_fin wreg wcod wded))])
          have hb88_16 : (own_fin wreg wcod wded) = (0 : Int32) := by simp [own_fin, nC_SCHEDULED, nD_SCHEDULED, nC_AVAILABLE, nD_AVAILABLE, nC_RUNNING, nD_RUNNING, nC_RETRYING, nD_RETRYING]
          refine Go.step (fun t k => XS.icmpNo X15.here hx rfl (hb hby at_88) rfl (XT.ii_ne_f hb88_16) k) ?_
          show Go _ _ _ _ _ _ _ T15 (mkF m 91 #[.val (.int p1), .val (.int k1), .val (.ref wreg), .val (.int (0 : Int32))] [])
          refine Go.step (fun t k => XS.iconst X15.here hx rfl (hb hby at_91) k) ?_
          show Go _ _ _ _ _ _ _ T15 (mkF m 92 #[.val (.int p1), .val (.int k1), .val (.ref wreg), .val (.int (0 : Int32))] [(.int (1 : Int32))])
          refine Go.step (fun t k => XS.goto X15.here hx rfl (pc0 := 92) (pc' := 96) rfl (hb hby at_92) (by decide) (by decide) k) ?_
          show Go _ _ _ _ _ _ _ T15 (mkF m 96 #[.val (.int p1), .val (.int k1), .val (.ref wreg), .val (.int (0 : Int32))] [(.int (1 : Int32))])
          refine Go.ret X15 hx hlk Bd.returns rfl (Or.inl ⟨rfl, Or.inr (Or.inl rfl), _, rfl⟩) (hb hby at_96) ?_ (by decide) (by decide)
          show Q0 Z _ _ _ _ _ _ _ _ _ _ T15.heap _
          exact ⟨rfl, N15⟩
        · refine Go.step (fun t k => XS.icmpYes X0.here hx rfl (pc0 := 51) (pc' := 63) rfl (hb hby at_51) rfl (XT.ii_ne_t hb51_13) (by decide) (by decide) k) ?_
          show Go _ _ _ _ _ _ _ s₁ (mkF m 63 #[.val (.int p1), .val (.int k1), .unset, .unset] [])
          refine Go.step (fun t k => XS.iloadN X0.here hx rfl (hb hby at_63) rfl k) ?_
          show Go _ _ _ _ _ _ _ s₁ (mkF m 64 #[.val (.int p1), .val (.int k1), .unset, .unset] [(.int k1)])
          refine Go.step (fun t k => XS.iconst X0.here hx rfl (hb hby at_64) k) ?_
          show Go _ _ _ _ _ _ _ s₁ (mkF m 65 #[.val (.int p1), .val (.int k1), .unset, .unset] [(.int (4 : Int32)), (.int k1)])
          by_cases hb65_17 : k1 = (4 : Int32)
          · refine Go.step (fun t k => XS.icmpNo X0.here hx rfl (hb hby at_65) rfl (XT.ii_ne_f hb65_17) k) ?_
            show Go _ _ _ _ _ _ _ s₁ (mkF m 68 #[.val (.int p1), .val (.int k1), .unset, .unset] [])
            obtain ⟨T18, X18, e18, st18⟩ := getS2 X0 hx hZ hown (host := "") (Or.inl (hw _ (List.mem_of_getElem? (i := 20) rfl))) Via.refl e0 (S_COMPLETED.ext O0.2) (g := (mkF m 68 #[.val (.int p1), .val (.int k1), .unset, .unset] [])) rfl (hb hby at_68)
            refine Go.step st18 ?_
            show Go _ _ _ _ _ _ _ T18 (mkF m 71 #[.val (.int p1), .val (.int k1), .unset, .unset] [(.ref wcod)])
            refine Go.step (fun t k => XS.astoreN X18.here hx rfl (hb hby at_71) rfl rfl (l' := #[.val (.int p1), .val (.int k1), .val (.ref wcod), .unset]) rfl k) ?_
            show Go _ _ _ _ _ _ _ T18 (mkF m 72 #[.val (.int p1), .val (.int k1), .val (.ref wcod), .unset] [])
            refine Go.step (fun t k => XS.iconst X18.here hx rfl (hb hby at_72) k) ?_
            show Go _ _ _ _ _ _ _ T18 (mkF m 73 #[.val (.int p1), .val (.int k1), .val (.ref wcod), .unset] [(.int (1 : Int32))])
            refine Go.step (fun t k => XS.istoreN X18.here hx rfl (hb hby at_73) rfl (l' := #[.val (.int p1), .val (.int k1), .val (.ref wcod), .val (.int (1 : Int32))]) rfl k) ?_
            show Go _ _ _ _ _ _ _ T18 (mkF m 74 #[.val (.int p1), .val (.int k1), .val (.ref wcod), .val (.int (1 : Int32))] [])
            refine Go.step (fun t k => XS.goto X18.here hx rfl (pc0 := 74) (pc' := 83) rfl (hb hby at_74) (by decide) (by decide) k) ?_
            show Go _ _ _ _ _ _ _ T18 (mkF m 83 #[.val (.int p1), .val (.int k1), .val (.ref wcod), .val (.int (1 : Int32))] [])
            refine Go.step (fun t k => XS.aloadN X18.here hx rfl (hb hby at_83) rfl rfl k) ?_
            show Go _ _ _ _ _ _ _ T18 (mkF m 84 #[.val (.int p1), .val (.int k1), .val (.ref wcod), .val (.int (1 : Int32))] [(.ref wcod)])
            obtain ⟨cq19, kq19, qa19, qb19, qc19⟩ := isOf hZ e18 E_COMPLETED
            obtain ⟨_, _, ⟨T19, L19, k19, n19⟩, -, X19, ⟨Lc19, hQ19, l19, y19, z19⟩, st19⟩ := X18.virtualBack hx (y := (⟨"com/example/grab1/grab1/JobState", "finished", "()Z"⟩ : MethodName)) (z := (⟨"com/example/grab1/grab1/JobState", "finished", "()Z"⟩ : MethodName)) hown (mvT hZ (hw _ (List.mem_of_getElem? (i := 4) rfl))) (mvT hZ (hw _ (List.mem_of_getElem? (i := 5) rfl))) (notFace_of_selects (args := #[]) (mvT hZ (hw _ (List.mem_of_getElem? (i := 7) rfl)))) (mvT hZ (hw _ (List.mem_of_getElem? (i := 7) rfl))) (mvT hZ (hw _ (List.mem_of_getElem? (i := 6) rfl))) (by decide) (backOf (W := 0) (rm1 l Z a0 hw [] wcod wcod wded h0 n0 Z0 O0 S_COMPLETED S_DEAD) hZ (hw _ (List.mem_of_getElem? (i := 8) rfl)) (hw _ (List.mem_of_getElem? (i := 2) rfl)) (by decide) (by decide)) qa19 qc19 (g := (mkF m 84 #[.val (.int p1), .val (.int k1), .val (.ref wcod), .val (.int (1 : Int32))] [(.ref wcod)])) rfl (by rw [hml]; rfl) (Steps.refl _) (argsL := []) (rest := []) (lenOf pd_0 rfl) rfl (by show 2 * 0 + _ ≤ _; exact Nat.le_of_eq rfl) (hb hby at_84) (fun _ _ => ⟨rfl, e18, (by decide : 0 + 0 ≤ _), (by decide : 0 + 0 ≤ _)⟩)
            dsimp only [Pt.U, Pt.locs, Pt.cells, Pt.slots] at X19 l19 y19 z19 st19 hQ19
            subst l19 y19 z19
            obtain ⟨rfl, N19q, e19⟩ := hQ19
            have N19 := Fr.app N0 N19q
            refine Go.step (fun t k => st19.trans k) ?_
            show Go _ _ _ _ _ _ _ T19 (mkF m 87 #[.val (.int p1), .val (.int k1), .val (.ref wcod), .val (.int (1 : Int32))] [(.int (own_fin wcod wcod wded))])
            refine Go.step (fun t k => XS.iloadN X19.here hx rfl (hb hby at_87) rfl k) ?_
            show Go _ _ _ _ _ _ _ T19 (mkF m 88 #[.val (.int p1), .val (.int k1), .val (.ref wcod), .val (.int (1 : Int32))] [(.int (1 : Int32)), (.int (own_fin wcod wcod wded))])
            have hb88_20 : (own_fin wcod wcod wded) = (1 : Int32) := by simp [own_fin, nC_SCHEDULED, nD_SCHEDULED, nC_AVAILABLE, nD_AVAILABLE, nC_RUNNING, nD_RUNNING, nC_RETRYING, nD_RETRYING]
            refine Go.step (fun t k => XS.icmpNo X19.here hx rfl (hb hby at_88) rfl (XT.ii_ne_f hb88_20) k) ?_
            show Go _ _ _ _ _ _ _ T19 (mkF m 91 #[.val (.int p1), .val (.int k1), .val (.ref wcod), .val (.int (1 : Int32))] [])
            refine Go.step (fun t k => XS.iconst X19.here hx rfl (hb hby at_91) k) ?_
            show Go _ _ _ _ _ _ _ T19 (mkF m 92 #[.val (.int p1), .val (.int k1), .val (.ref wcod), .val (.int (1 : Int32))] [(.int (1 : Int32))])
            refine Go.step (fun t k => XS.goto X19.here hx rfl (pc0 := 92) (pc' := 96) rfl (hb hby at_92) (by decide) (by decide) k) ?_
            show Go _ _ _ _ _ _ _ T19 (mkF m 96 #[.val (.int p1), .val (.int k1), .val (.ref wcod), .val (.int (1 : Int32))] [(.int (1 : Int32))])
            refine Go.ret X19 hx hlk Bd.returns rfl (Or.inl ⟨rfl, Or.inr (Or.inl rfl), _, rfl⟩) (hb hby at_96) ?_ (by decide) (by decide)
            show Q0 Z _ _ _ _ _ _ _ _ _ _ T19.heap _
            exact ⟨rfl, N19⟩
          · refine Go.step (fun t k => XS.icmpYes X0.here hx rfl (pc0 := 65) (pc' := 77) rfl (hb hby at_65) rfl (XT.ii_ne_t hb65_17) (by decide) (by decide) k) ?_
            show Go _ _ _ _ _ _ _ s₁ (mkF m 77 #[.val (.int p1), .val (.int k1), .unset, .unset] [])
            obtain ⟨T21, X21, e21, st21⟩ := getS2 X0 hx hZ hown (host := "") (Or.inl (hw _ (List.mem_of_getElem? (i := 19) rfl))) Via.refl e0 (S_DEAD.ext O0.2) (g := (mkF m 77 #[.val (.int p1), .val (.int k1), .unset, .unset] [])) rfl (hb hby at_77)
            refine Go.step st21 ?_
            show Go _ _ _ _ _ _ _ T21 (mkF m 80 #[.val (.int p1), .val (.int k1), .unset, .unset] [(.ref wded)])
            refine Go.step (fun t k => XS.astoreN X21.here hx rfl (hb hby at_80) rfl rfl (l' := #[.val (.int p1), .val (.int k1), .val (.ref wded), .unset]) rfl k) ?_
            show Go _ _ _ _ _ _ _ T21 (mkF m 81 #[.val (.int p1), .val (.int k1), .val (.ref wded), .unset] [])
            refine Go.step (fun t k => XS.iconst X21.here hx rfl (hb hby at_81) k) ?_
            show Go _ _ _ _ _ _ _ T21 (mkF m 82 #[.val (.int p1), .val (.int k1), .val (.ref wded), .unset] [(.int (1 : Int32))])
            refine Go.step (fun t k => XS.istoreN X21.here hx rfl (hb hby at_82) rfl (l' := #[.val (.int p1), .val (.int k1), .val (.ref wded), .val (.int (1 : Int32))]) rfl k) ?_
            show Go _ _ _ _ _ _ _ T21 (mkF m 83 #[.val (.int p1), .val (.int k1), .val (.ref wded), .val (.int (1 : Int32))] [])
            refine Go.step (fun t k => XS.aloadN X21.here hx rfl (hb hby at_83) rfl rfl k) ?_
            show Go _ _ _ _ _ _ _ T21 (mkF m 84 #[.val (.int p1), .val (.int k1), .val (.ref wded), .val (.int (1 : Int32))] [(.ref wded)])
            obtain ⟨cq22, kq22, qa22, qb22, qc22⟩ := isOf hZ e21 E_DEAD
            obtain ⟨_, _, ⟨T22, L22, k22, n22⟩, -, X22, ⟨Lc22, hQ22, l22, y22, z22⟩, st22⟩ := X21.virtualBack hx (y := (⟨"com/example/grab1/grab1/JobState", "finished", "()Z"⟩ : MethodName)) (z := (⟨"com/example/grab1/grab1/JobState", "finished", "()Z"⟩ : MethodName)) hown (mvT hZ (hw _ (List.mem_of_getElem? (i := 4) rfl))) (mvT hZ (hw _ (List.mem_of_getElem? (i := 5) rfl))) (notFace_of_selects (args := #[]) (mvT hZ (hw _ (List.mem_of_getElem? (i := 7) rfl)))) (mvT hZ (hw _ (List.mem_of_getElem? (i := 7) rfl))) (mvT hZ (hw _ (List.mem_of_getElem? (i := 6) rfl))) (by decide) (backOf (W := 0) (rm1 l Z a0 hw [] wded wcod wded h0 n0 Z0 O0 S_COMPLETED S_DEAD) hZ (hw _ (List.mem_of_getElem? (i := 8) rfl)) (hw _ (List.mem_of_getElem? (i := 2) rfl)) (by decide) (by decide)) qa22 qc22 (g := (mkF m 84 #[.val (.int p1), .val (.int k1), .val (.ref wded), .val (.int (1 : Int32))] [(.ref wded)])) rfl (by rw [hml]; rfl) (Steps.refl _) (argsL := []) (rest := []) (lenOf pd_0 rfl) rfl (by show 2 * 0 + _ ≤ _; exact Nat.le_of_eq rfl) (hb hby at_84) (fun _ _ => ⟨rfl, e21, (by decide : 0 + 0 ≤ _), (by decide : 0 + 0 ≤ _)⟩)
            dsimp only [Pt.U, Pt.locs, Pt.cells, Pt.slots] at X22 l22 y22 z22 st22 hQ22
            subst l22 y22 z22
            obtain ⟨rfl, N22q, e22⟩ := hQ22
            have N22 := Fr.app N0 N22q
            refine Go.step (fun t k => st22.trans k) ?_
            show Go _ _ _ _ _ _ _ T22 (mkF m 87 #[.val (.int p1), .val (.int k1), .val (.ref wded), .val (.int (1 : Int32))] [(.int (own_fin wded wcod wded))])
            refine Go.step (fun t k => XS.iloadN X22.here hx rfl (hb hby at_87) rfl k) ?_
            show Go _ _ _ _ _ _ _ T22 (mkF m 88 #[.val (.int p1), .val (.int k1), .val (.ref wded), .val (.int (1 : Int32))] [(.int (1 : Int32)), (.int (own_fin wded wcod wded))])
            have hb88_23 : (own_fin wded wcod wded) = (1 : Int32) := by simp [own_fin, nC_SCHEDULED, nD_SCHEDULED, nC_AVAILABLE, nD_AVAILABLE, nC_RUNNING, nD_RUNNING, nC_RETRYING, nD_RETRYING]
            refine Go.step (fun t k => XS.icmpNo X22.here hx rfl (hb hby at_88) rfl (XT.ii_ne_f hb88_23) k) ?_
            show Go _ _ _ _ _ _ _ T22 (mkF m 91 #[.val (.int p1), .val (.int k1), .val (.ref wded), .val (.int (1 : Int32))] [])
            refine Go.step (fun t k => XS.iconst X22.here hx rfl (hb hby at_91) k) ?_
            show Go _ _ _ _ _ _ _ T22 (mkF m 92 #[.val (.int p1), .val (.int k1), .val (.ref wded), .val (.int (1 : Int32))] [(.int (1 : Int32))])
            refine Go.step (fun t k => XS.goto X22.here hx rfl (pc0 := 92) (pc' := 96) rfl (hb hby at_92) (by decide) (by decide) k) ?_
            show Go _ _ _ _ _ _ _ T22 (mkF m 96 #[.val (.int p1), .val (.int k1), .val (.ref wded), .val (.int (1 : Int32))] [(.int (1 : Int32))])
            refine Go.ret X22 hx hlk Bd.returns rfl (Or.inl ⟨rfl, Or.inr (Or.inl rfl), _, rfl⟩) (hb hby at_96) ?_ (by decide) (by decide)
            show Q0 Z _ _ _ _ _ _ _ _ _ _ T22.heap _
            exact ⟨rfl, N22⟩
set_option maxRecDepth 65536 in
set_option maxHeartbeats 40000000 in
theorem comes_1 {Post : Tables → Env → Array Value → State → Outcome → State → Prop} (hpost : ∀ tb e args s v u, (limb_1_1.after args s (.returned v) u = true ∧ limb_1_2.after args s (.returned v) u = true ∧ True) → FrameEnd s (.returned v) u (Jvm.fieldLocs frame_1_writes args s ++ Jvm.arrayLocs frame_1_arrays args s ++ Jvm.staticLocs frame_1_statics s) 0 0 → Post tb e args s (.returned v) u) :
    ArmFor flags0 classFile x code maxLocals ret World_1 tables_1 room_1 Calls_1 rest_1 Pre_1 Post := by
  intro l hfl _ _ p e ha hc hk s m args below hf hA hF happ hP
  obtain ⟨hcalls, hrest, hpre⟩ := hP
  obtain ⟨-, -, -, hnamed, -, -, -, hat⟩ := (Spec.applies_iff hf).mp happ
  obtain ⟨hg, hn⟩ := and_e (Cond.before_iff.mp (show (Jvm.Cond.and given_1 narrow_1).before args s = true from hpre))
  obtain ⟨gc, gA0⟩ := and_e hg
  obtain ⟨w0, rfl⟩ : ∃ w0 : Value, args = #[w0] := by
    have hs : args.size = 1 := by simpa [Cond.value, given_1] using gc
    obtain ⟨L⟩ := args
    match L, hs with
    | [w0], _ => exact ⟨w0, rfl⟩
  have hw := fun d (hd : d ∈ tables_1) => atoms_spec (ws := Jvm.Cond.code x code maxLocals ret :: tables_1) hat d (List.mem_cons_of_mem _ hd)
  have hfit : Fit s := fun {y c} hc i hi => by
    obtain ⟨ha, rfl⟩ := Array.getElem?_eq_some_iff.mp hc
    have q := List.all_eq_true.mp ((Array.all_eq_true_iff_forall_mem.mp hF) _ (Array.getElem_mem ha)) i (List.mem_range.mpr hi)
    simpa [Array.getElem?_eq_getElem hi] using q
  obtain ⟨i0, ei0⟩ := is_v gA0
  obtain rfl : w0 = (.int i0) := Option.some.inj ei0
  obtain ⟨nn0, nA0⟩ := and_e hn
  obtain ⟨nn1, nA1⟩ := and_e nA0
  obtain ⟨nn2, nA2⟩ := and_e nA1
  obtain ⟨nn3, nA3⟩ := and_e nA2
  obtain ⟨nn4, nA4⟩ := and_e nA3
  obtain ⟨nn5, nA5⟩ := and_e nA4
  obtain ⟨nn6, nA6⟩ := and_e nA5
  obtain ⟨nn7, nA7⟩ := and_e nA6
  obtain ⟨nn8, nA8⟩ := and_e nA7
  obtain ⟨nn9, nA9⟩ := and_e nA8
  obtain ⟨nn10, nA10⟩ := and_e nA9
  have nn11 := nA10
  obtain ⟨wscd, ew_SCHEDULED⟩ := exa_v nn0
  have S_SCHEDULED : Sta s s.heap "com/example/grab1/grab1/JobState" "SCHEDULED" "Lcom/example/grab1/grab1/JobState;" (.ref wscd) := Sta.start ew_SCHEDULED (Or.inr ⟨(hw _ (List.mem_of_getElem? (i := 2) rfl)), (hw _ (List.mem_of_getElem? (i := 3) rfl))⟩)
  have E_SCHEDULED := Exa.start ew_SCHEDULED nn0
  obtain ⟨wcod, ew_COMPLETED⟩ := exa_v nn1
  have S_COMPLETED : Sta s s.heap "com/example/grab1/grab1/JobState" "COMPLETED" "Lcom/example/grab1/grab1/JobState;" (.ref wcod) := Sta.start ew_COMPLETED (Or.inr ⟨(hw _ (List.mem_of_getElem? (i := 2) rfl)), (hw _ (List.mem_of_getElem? (i := 10) rfl))⟩)
  have E_COMPLETED := Exa.start ew_COMPLETED nn1
  obtain ⟨wded, ew_DEAD⟩ := exa_v nn4
  have S_DEAD : Sta s s.heap "com/example/grab1/grab1/JobState" "DEAD" "Lcom/example/grab1/grab1/JobState;" (.ref wded) := Sta.start ew_DEAD (Or.inr ⟨(hw _ (List.mem_of_getElem? (i := 2) rfl)), (hw _ (List.mem_of_getElem? (i := 12) rfl))⟩)
  have E_DEAD := Exa.start ew_DEAD nn4
  obtain ⟨wreg, ew_RETRYING⟩ := exa_v nn6
  have S_RETRYING : Sta s s.heap "com/example/grab1/grab1/JobState" "RETRYING" "Lcom/example/grab1/grab1/JobState;" (.ref wreg) := Sta.start ew_RETRYING (Or.inr ⟨(hw _ (List.mem_of_getElem? (i := 2) rfl)), (hw _ (List.mem_of_getElem? (i := 14) rfl))⟩)
  have E_RETRYING := Exa.start ew_RETRYING nn6
  obtain ⟨wrug, ew_RUNNING⟩ := exa_v nn8
  have S_RUNNING : Sta s s.heap "com/example/grab1/grab1/JobState" "RUNNING" "Lcom/example/grab1/grab1/JobState;" (.ref wrug) := Sta.start ew_RUNNING (Or.inr ⟨(hw _ (List.mem_of_getElem? (i := 2) rfl)), (hw _ (List.mem_of_getElem? (i := 16) rfl))⟩)
  have E_RUNNING := Exa.start ew_RUNNING nn8
  obtain ⟨wave, ew_AVAILABLE⟩ := exa_v nn10
  have S_AVAILABLE : Sta s s.heap "com/example/grab1/grab1/JobState" "AVAILABLE" "Lcom/example/grab1/grab1/JobState;" (.ref wave) := Sta.start ew_AVAILABLE (Or.inr ⟨(hw _ (List.mem_of_getElem? (i := 2) rfl)), (hw _ (List.mem_of_getElem? (i := 18) rfl))⟩)
  have E_AVAILABLE := Exa.start ew_AVAILABLE nn10
  have o_SCHEDULED := (fld_at ew_SCHEDULED).symm.trans (own_eqint nn2)
  have o_COMPLETED := (fld_at ew_COMPLETED).symm.trans (own_eqint nn3)
  have o_DEAD := (fld_at ew_DEAD).symm.trans (own_eqint nn5)
  have o_RETRYING := (fld_at ew_RETRYING).symm.trans (own_eqint nn7)
  have o_RUNNING := (fld_at ew_RUNNING).symm.trans (own_eqint nn9)
  have o_AVAILABLE := (fld_at ew_AVAILABLE).symm.trans (own_eqint nn11)
  have nC_SCHEDULED : (Value.ref wscd) ≠ Value.ref wcod := own_ne o_SCHEDULED o_COMPLETED (by decide)
  have nD_SCHEDULED : (Value.ref wscd) ≠ Value.ref wded := own_ne o_SCHEDULED o_DEAD (by decide)
  have nC_AVAILABLE : (Value.ref wave) ≠ Value.ref wcod := own_ne o_AVAILABLE o_COMPLETED (by decide)
  have nD_AVAILABLE : (Value.ref wave) ≠ Value.ref wded := own_ne o_AVAILABLE o_DEAD (by decide)
  have nC_RUNNING : (Value.ref wrug) ≠ Value.ref wcod := own_ne o_RUNNING o_COMPLETED (by decide)
  have nD_RUNNING : (Value.ref wrug) ≠ Value.ref wded := own_ne o_RUNNING o_DEAD (by decide)
  have nC_RETRYING : (Value.ref wreg) ≠ Value.ref wcod := own_ne o_RETRYING o_COMPLETED (by decide)
  have nD_RETRYING : (Value.ref wreg) ≠ Value.ref wded := own_ne o_RETRYING o_DEAD (by decide)
  obtain ⟨n, o, h1, h2, h3, _, L, rfl, ⟨rfl, N⟩, hq⟩ := rm0 l s _ hw tables_1 i0 wscd wave wrug wreg wcod wded s.heap s.heap.size (Nat.le_refl _) (Old.start s) S_SCHEDULED S_AVAILABLE S_RUNNING S_RETRYING S_COMPLETED S_DEAD E_SCHEDULED E_AVAILABLE E_RUNNING E_RETRYING E_COMPLETED E_DEAD nC_SCHEDULED nC_AVAILABLE nC_RUNNING nC_RETRYING nD_SCHEDULED nD_AVAILABLE nD_RUNNING nD_RETRYING p e ha hc hk s m _ below hf ((Spec.applies_iff_loose hf).mp happ).1 ⟨rfl, State.Warmed39.refl s, rfl⟩ trivial
  refine ⟨n, _, h1, h2, h3, hpost _ _ _ _ _ _ ⟨Cond.after_iff.mpr rfl, Cond.after_iff.mpr (eq_i res_at (Term.int_eval (1)) rfl), trivial⟩ ⟨hq.1, hq.2.1, (hq.2.2.sift fun y hy => Or.inr (N y hy)).mono (by decide) (by decide)⟩⟩
theorem main_1_1 : Claimed_1_1 := comes_1 fun _ _ _ _ _ _ h hF => ⟨h.1, hF⟩
theorem main_1_2 : Claimed_1_2 := comes_1 fun _ _ _ _ _ _ h hF => ⟨h.2.1, hF⟩
end Jvm.Pilot.@@N@@
namespace Jvm.Pilot.@@N@@
open Jvm Jvm.ClassFile Sem Op Lib Jvm.Free Jvm.Stand Jvm.Pilot.@@N@@.Jvm.D
/-! MADE BY PROGRAM (witnessworld.py) out of the Statement's table words and the real class files: 12 classes; the members and pool entries that the words name. The judged class is class 1, her method 1. -/
namespace start1
open Jvm.ClassFile
def u (s : String) : CpInfo := .utf8 (stringToUtf16 s)
/-- a pool by its gaps: so many unusable entries, then the entry; so many at the end -/
def gap : Nat → List CpInfo → List CpInfo
  | 0, r => r
  | n + 1, r => .unusable :: gap n r
def poolList (es : List (Nat × CpInfo)) (last : Nat) : List CpInfo := es.foldr (fun e r => gap e.1 (e.2 :: r)) (gap last [])
def pool (es : List (Nat × CpInfo)) (last : Nat) : Array CpInfo := ⟨poolList es last⟩
def fileOf (pool : Array CpInfo) (this : Nat) (attrs : Array Attribute := #[]) (ms : Array MethodInfo := #[]) (fl : Nat := 33) (sup : Nat := 0) (ifs : Array Nat := #[]) (fds : Array FieldInfo := #[]) : ClassFile where
  minorVersion := 0
  majorVersion := 65
  constantPool := pool
  accessFlags := fl
  thisClass := this
  superClass := sup
  interfaces := ifs
  fields := fds
  methods := ms
  attributes := attrs
def plain (name : String) (sup : Option ClassId) : Class where
  name := name
  kind := .ordinary
  loader := none
  accessFlags := 33
  super := sup
  interfaces := #[]
  cf := none
  fields := #[]
  methods := #[]
  instanceTypes := #[]
  staticTypes := #[]
  resolved := #[]
  callSites := []
  init := .initialized
  statics := none
  mirror := none

def pool0 : Array CpInfo := pool [(5, u "<init>"), (0, u "()V"), (1, .class_ 10), (1, u "java/lang/Object")] 113

def k0m0 : Method := { name := "<init>", desc := "()V", sig := { parameters := [], returnType := none }, accessFlags := 1, code := none }
/-- java/lang/Object -/
def k0 : Class := { plain "java/lang/Object" none with
  accessFlags := 33
  interfaces := #[]
  cf := some (fileOf pool0 8 #[] #[{ accessFlags := 1, nameIndex := 5, descriptorIndex := 6, attributes := #[] }] 33 0 #[] #[])
  fields := #[]
  methods := #[k0m0]
  instanceTypes := #[]
  staticTypes := #[]
  resolved := Array.replicate 124 none
  statics := none }

def pool1 : Array CpInfo := pool [(2, .class_ 4), (1, u "java/lang/Object"), (0, u "<init>"), (0, u "()V"), (0, .integer 2147483647), (0, .fieldref 9 10), (0, .class_ 11), (0, .nameAndType 12 13), (0, u "com/example/grab1/grab1/JobState"), (0, u "SCHEDULED"), (0, u "Lcom/example/grab1/grab1/JobState;"), (0, .fieldref 9 15), (0, .nameAndType 16 13), (0, u "AVAILABLE"), (0, .fieldref 9 18), (0, .nameAndType 19 13), (0, u "RUNNING"), (0, .fieldref 9 21), (0, .nameAndType 22 13), (0, u "RETRYING"), (0, .fieldref 9 24), (0, .nameAndType 25 13), (0, u "COMPLETED"), (0, .fieldref 9 27), (0, .nameAndType 28 13), (0, u "DEAD"), (0, .methodref 9 30), (0, .nameAndType 31 32), (0, u "finished"), (0, u "()Z"), (0, .class_ 34), (0, u "com/example/grab1/grab1/JobStateFinishedPinLaw"), (2, u "law"), (0, u "(I)Z")] 3

def k1m0 : Method := { name := "<init>", desc := "()V", sig := { parameters := [], returnType := none }, accessFlags := 1, code := none }
def k1c1 : Code := { maxStack := 2, maxLocals := 4, code := code, exceptionTable := #[], attributes := #[] }
def k1m1 : Method := { name := "law", desc := "(I)Z", sig := { parameters := [.int], returnType := some .boolean }, accessFlags := 9, code := some k1c1 }
/-- com/example/grab1/grab1/JobStateFinishedPinLaw -/
def k1 : Class := { plain "com/example/grab1/grab1/JobStateFinishedPinLaw" (some 0) with
  accessFlags := 49
  interfaces := #[]
  cf := some (fileOf pool1 33 #[] #[{ accessFlags := 1, nameIndex := 5, descriptorIndex := 6, attributes := #[] }, { accessFlags := 9, nameIndex := 37, descriptorIndex := 38, attributes := #[] }] 49 2 #[] #[])
  fields := #[]
  methods := #[k1m0, k1m1]
  instanceTypes := #[]
  staticTypes := #[]
  resolved := Array.replicate 42 none
  statics := none }

def pool2 : Array CpInfo := pool [(1, .class_ 2), (0, u "java/lang/constant/Constable"), (0, .class_ 4), (0, u "java/lang/Object")] 6

/-- java/lang/constant/Constable -/
def k2 : Class := { plain "java/lang/constant/Constable" (some 0) with
  accessFlags := 1537
  interfaces := #[]
  cf := some (fileOf pool2 1 #[] #[] 1537 3 #[] #[])
  fields := #[]
  methods := #[]
  instanceTypes := #[]
  staticTypes := #[]
  resolved := Array.replicate 11 none
  statics := none }

def pool3 : Array CpInfo := pool [(1, .class_ 2), (0, u "java/lang/Comparable"), (0, .class_ 4), (0, u "java/lang/Object")] 7

/-- java/lang/Comparable -/
def k3 : Class := { plain "java/lang/Comparable" (some 0) with
  accessFlags := 1537
  interfaces := #[]
  cf := some (fileOf pool3 1 #[] #[] 1537 3 #[] #[])
  fields := #[]
  methods := #[]
  instanceTypes := #[]
  staticTypes := #[]
  resolved := Array.replicate 12 none
  statics := none }

def pool4 : Array CpInfo := pool [(1, .class_ 2), (0, u "java/io/Serializable"), (0, .class_ 4), (0, u "java/lang/Object")] 2

/-- java/io/Serializable -/
def k4 : Class := { plain "java/io/Serializable" (some 0) with
  accessFlags := 1537
  interfaces := #[]
  cf := some (fileOf pool4 1 #[] #[] 1537 3 #[] #[])
  fields := #[]
  methods := #[]
  instanceTypes := #[]
  staticTypes := #[]
  resolved := Array.replicate 7 none
  statics := none }

def pool5 : Array CpInfo := pool [(2, .class_ 4), (1, u "java/lang/Enum"), (0, u "name"), (0, u "Ljava/lang/String;"), (2, u "ordinal"), (0, u "I"), (1, .class_ 14), (1, u "java/lang/Object"), (4, u "hash"), (86, .class_ 108), (1, u "java/lang/Enum$EnumDesc"), (2, .class_ 112), (0, u "java/lang/constant/Constable"), (0, .class_ 114), (0, u "java/lang/Comparable"), (0, .class_ 116), (0, u "java/io/Serializable")] 87

/-- java/lang/Enum -/
def k5 : Class := { plain "java/lang/Enum" (some 0) with
  accessFlags := 1057
  interfaces := #[2, 3, 4]
  cf := some (fileOf pool5 2 #[.nestMembers #[106]] #[] 1057 12 #[111, 113, 115] #[{ accessFlags := 18, nameIndex := 5, descriptorIndex := 6, attributes := #[] }, { accessFlags := 18, nameIndex := 9, descriptorIndex := 10, attributes := #[] }, { accessFlags := 2, nameIndex := 19, descriptorIndex := 10, attributes := #[] }])
  fields := #[{ name := "name", type := (.object "java/lang/String"), accessFlags := 18, slot := 0, constantValue := 0 }, { name := "ordinal", type := .int, accessFlags := 18, slot := 1, constantValue := 0 }, { name := "hash", type := .int, accessFlags := 2, slot := 2, constantValue := 0 }]
  methods := #[]
  instanceTypes := #[(.object "java/lang/String"), .int, .int]
  staticTypes := #[]
  resolved := Array.replicate 204 none
  statics := none }

def pool6 : Array CpInfo := pool [(1, .class_ 2), (0, u "com/example/grab1/grab1/JobState"), (2, u "SCHEDULED"), (0, u "Lcom/example/grab1/grab1/JobState;"), (2, u "AVAILABLE"), (2, u "RUNNING"), (2, u "RETRYING"), (0, .fieldref 1 17), (0, .nameAndType 18 6), (0, u "COMPLETED"), (0, .fieldref 1 20), (0, .nameAndType 21 6), (0, u "DEAD"), (2, u "$VALUES"), (0, u "[Lcom/example/grab1/grab1/JobState;"), (6, .class_ 34), (1, u "java/lang/Enum"), (46, u "finished"), (0, u "()Z")] 6

def k6c0 : Code := { maxStack := 2, maxLocals := 1, code := prog_7_method_5_code, exceptionTable := #[], attributes := #[] }
def k6m0 : Method := { name := "finished", desc := "()Z", sig := { parameters := [], returnType := some .boolean }, accessFlags := 1, code := some k6c0 }
/-- com/example/grab1/grab1/JobState -/
def k6 : Class := { plain "com/example/grab1/grab1/JobState" (some 5) with
  accessFlags := 16433
  interfaces := #[]
  cf := some (fileOf pool6 1 #[] #[{ accessFlags := 1, nameIndex := 81, descriptorIndex := 82, attributes := #[] }] 16433 32 #[] #[{ accessFlags := 16409, nameIndex := 5, descriptorIndex := 6, attributes := #[] }, { accessFlags := 16409, nameIndex := 9, descriptorIndex := 6, attributes := #[] }, { accessFlags := 16409, nameIndex := 12, descriptorIndex := 6, attributes := #[] }, { accessFlags := 16409, nameIndex := 15, descriptorIndex := 6, attributes := #[] }, { accessFlags := 16409, nameIndex := 18, descriptorIndex := 6, attributes := #[] }, { accessFlags := 16409, nameIndex := 21, descriptorIndex := 6, attributes := #[] }, { accessFlags := 4122, nameIndex := 24, descriptorIndex := 25, attributes := #[] }])
  fields := #[{ name := "SCHEDULED", type := (.object "com/example/grab1/grab1/JobState"), accessFlags := 16409, slot := 0, constantValue := 0 }, { name := "AVAILABLE", type := (.object "com/example/grab1/grab1/JobState"), accessFlags := 16409, slot := 1, constantValue := 0 }, { name := "RUNNING", type := (.object "com/example/grab1/grab1/JobState"), accessFlags := 16409, slot := 2, constantValue := 0 }, { name := "RETRYING", type := (.object "com/example/grab1/grab1/JobState"), accessFlags := 16409, slot := 3, constantValue := 0 }, { name := "COMPLETED", type := (.object "com/example/grab1/grab1/JobState"), accessFlags := 16409, slot := 4, constantValue := 0 }, { name := "DEAD", type := (.object "com/example/grab1/grab1/JobState"), accessFlags := 16409, slot := 5, constantValue := 0 }, { name := "$VALUES", type := (.array (.object "com/example/grab1/grab1/JobState")), accessFlags := 4122, slot := 6, constantValue := 0 }]
  methods := #[k6m0]
  instanceTypes := #[(.object "java/lang/String"), .int, .int]
  staticTypes := #[(.object "com/example/grab1/grab1/JobState"), (.object "com/example/grab1/grab1/JobState"), (.object "com/example/grab1/grab1/JobState"), (.object "com/example/grab1/grab1/JobState"), (.object "com/example/grab1/grab1/JobState"), (.object "com/example/grab1/grab1/JobState"), (.array (.object "com/example/grab1/grab1/JobState"))]
  resolved := Array.replicate 89 none
  statics := some 0 }

def pool7 : Array CpInfo := pool [(1, u "java/lang/Cloneable"), (0, .class_ 1), (0, u "java/lang/Object"), (0, .class_ 3)] 3

/-- java/lang/Cloneable -/
def k7 : Class := { plain "java/lang/Cloneable" (some 0) with
  accessFlags := 1537
  interfaces := #[]
  cf := some (fileOf pool7 2 #[] #[] 1537 4 #[] #[])
  fields := #[]
  methods := #[]
  instanceTypes := #[]
  staticTypes := #[]
  resolved := Array.replicate 8 none
  statics := none }

/-- the primitive byte -/
def k8 : Class := { plain "byte" none with kind := .primitive 'B', accessFlags := 0x411 }
/-- [B -/
def k9 : Class := { plain "[B" (some 0) with kind := .array 8 .byte, interfaces := #[7, 4], accessFlags := 1041 }

/-- the primitive int -/
def k10 : Class := { plain "int" none with kind := .primitive 'I', accessFlags := 0x411 }
/-- [I -/
def k11 : Class := { plain "[I" (some 0) with kind := .array 10 .int, interfaces := #[7, 4], accessFlags := 1041 }

def heap : Heap := #[{ cls := 6, slots := #[.ref 1, .ref 2, .ref 3, .ref 4, .ref 5, .ref 6, .null], vm := .statics 6 },
  { cls := 6, slots := #[.null, .int 0, .int 0], vm := .none },
  { cls := 6, slots := #[.null, .int 1, .int 0], vm := .none },
  { cls := 6, slots := #[.null, .int 2, .int 0], vm := .none },
  { cls := 6, slots := #[.null, .int 3, .int 0], vm := .none },
  { cls := 6, slots := #[.null, .int 4, .int 0], vm := .none },
  { cls := 6, slots := #[.null, .int 5, .int 0], vm := .none }]
def classes : Array Class := #[k0, k1, k2, k3, k4, k5, k6, k7, k8, k9, k10, k11]
def interned : List (Array UInt16 × Addr) := []
def slotsUsed : Nat := 25
def theMethod : MethodId := ⟨1, 1⟩
def args0 : Array Value := #[.int 5]
def aboutOver (below : List Frame) : State where
  vm := { classes := classes, interned := interned.toArray }
  heap := heap
  slotsUsed := slotsUsed
  threads := #[{ frames := .invoking theMethod args0 :: below }]
def below0 : List Frame := [.native { method := ⟨0, 0⟩, args := #[] }]
def about1 : State := aboutOver below0
def p0 : Program := .bare "" "" ""
def e0 : Env := launch0.env 0 0 0
theorem w_frames : about1.frames = Frame.invoking theMethod args0 :: below0 := rfl
set_option maxRecDepth 65536 in
theorem w_args : argsFit about1.vm theMethod args0 = true := by decide +kernel
set_option maxRecDepth 65536 in
theorem w_heap : heapFits about1 = true := by decide +kernel
set_option maxRecDepth 65536 in
theorem w_runnable : about1.curStatus? = some .runnable := by decide +kernel
set_option maxRecDepth 65536 in
theorem w_alone : about1.alone = true := by decide +kernel
set_option maxRecDepth 65536 in
theorem w_named : about1.methodNamed? x = some theMethod := by decide +kernel
set_option maxRecDepth 65536 in
theorem w_hears : about1.hears theMethod below0 = true := by decide +kernel
set_option maxRecDepth 65536 in
theorem w_ripe : about1.ripe theMethod args0 below0 = true := by decide +kernel
theorem w_running : about1.status = .running := rfl
set_option maxRecDepth 65536 in
theorem w_room : about1.hasRoom e0.platform room_1 = true :=
  launch0.hasRoom_least _ room_1 (by decide +kernel) (by decide +kernel) (by decide +kernel) (by decide +kernel) (by decide +kernel) (by decide +kernel)
theorem allAtoms_all (ts : List Jvm.Cond) (a : Array Jvm.Value) (st : Jvm.State) : (allAtoms ts).before a st = ts.all (fun c => c.before a st) := by
  induction ts with
  | nil => rfl
  | cons c t ih =>
    show (Jvm.Cond.and c (allAtoms t)).before a st = _
    rw [Jvm.Cond.before_and, ih, List.all_cons]
def words1 : List Jvm.Cond := Jvm.Cond.code x code maxLocals ret :: tables_1
/-- a 'code' word, met by the world's own term for the bytes: nothing is compared byte by byte -/
theorem code_word {y : MethodName} {bytes : ByteArray} {mx : Nat} {rt : Option FieldType} {a : Array Value} {s : State} {m : MethodId} {meth : Method} {c : Code} (h1 : s.methodNamed? y = some m) (h2 : s.vm.method? m = some meth) (h3 : meth.code = some c) (h4 : c.code = bytes)
    (h5 : (c.maxLocals == mx && c.exceptionTable.isEmpty && decide (c.maxStack ≤ mostOperands) && decide (meth.sig.returnType = rt) && !meth.locks && decide (parseMethodDescriptor y.desc = some meth.sig)) = true) : (Jvm.Cond.code y bytes mx rt).before a s = true := by
  simp only [Bool.and_eq_true, beq_iff_eq, Bool.not_eq_true', decide_eq_true_eq] at h5
  obtain ⟨⟨⟨⟨⟨g1, g2⟩, g3⟩, g4⟩, g5⟩, g6⟩ := h5
  simp [Cond.before, Cond.holds, Cond.value, h1, h2, h3, h4, g1, g2, g3, g4, g5, g6]
def isCode : Jvm.Cond → Bool
  | .code _ _ _ _ => true
  | _ => false
theorem all_split {L : List Jvm.Cond} {P : Jvm.Cond → Bool} (h1 : L.all (fun c => isCode c || P c) = true) (h2 : ∀ c ∈ L.filter isCode, P c = true) : L.all P = true := by
  refine List.all_eq_true.mpr fun c hc => ?_
  have h := List.all_eq_true.mp h1 c hc
  rcases Bool.eq_false_or_eq_true (isCode c) with hi | hi
  · exact h2 c (List.mem_filter.mpr ⟨hc, hi⟩)
  · simpa [hi] using h
set_option maxRecDepth 65536 in
theorem w_c0 : (Jvm.Cond.code x code maxLocals ret).before args0 about1 = true := code_word (m := ⟨1, 1⟩) (meth := k1m1) (c := k1c1) (by decide +kernel) rfl rfl rfl (by decide +kernel)
set_option maxRecDepth 65536 in
theorem w_c1 : (Jvm.Cond.code ({ cls := "com/example/grab1/grab1/JobState", name := "finished", desc := "()Z" } : Jvm.MethodName) prog_7_method_5_code (1 : Nat) (Option.some Jvm.ClassFile.FieldType.boolean)).before args0 about1 = true := code_word (m := ⟨6, 0⟩) (meth := k6m0) (c := k6c0) (by decide +kernel) rfl rfl rfl (by decide +kernel)
def codes1 : List Jvm.Cond := [Jvm.Cond.code x code maxLocals ret, Jvm.Cond.code ({ cls := "com/example/grab1/grab1/JobState", name := "finished", desc := "()Z" } : Jvm.MethodName) prog_7_method_5_code (1 : Nat) (Option.some Jvm.ClassFile.FieldType.boolean)]
set_option maxRecDepth 65536 in
theorem codes_eq : words1.filter isCode = codes1 := rfl
theorem w_codes : ∀ c ∈ words1.filter isCode, c.before args0 about1 = true := by
  rw [codes_eq]
  intro c hc
  simp only [codes1, List.mem_cons, List.not_mem_nil, or_false] at hc
  rcases hc with rfl | rfl
  · exact w_c0
  · exact w_c1
set_option maxRecDepth 65536 in
theorem w_t1 : words1.all (fun c => isCode c || c.before args0 about1) = true := by decide +kernel
theorem w_tables : (allAtoms (Jvm.Cond.code x code maxLocals ret :: tables_1)).before args0 about1 = true := by
  rw [allAtoms_all]
  show words1.all (fun c => c.before args0 about1) = true
  refine all_split ?_ w_codes
  rw [w_t1]
set_option maxRecDepth 65536 in
theorem w_case : (Jvm.Cond.and given_1 narrow_1).before args0 about1 = true := by decide +kernel
theorem w_applies : (headSpec (Jvm.Cond.code x code maxLocals ret :: tables_1) room_1).applies x e0.platform about1 = true :=
  (Spec.applies_iff w_frames).mpr ⟨w_running, w_runnable, w_alone, w_named, w_hears, w_ripe, w_room, w_tables⟩
theorem atStart : AtStart classFile x code maxLocals ret World_1 tables_1 room_1 Calls_1 rest_1 Pre_1 launch0 p0 e0 about1 theMethod args0 below0 :=
  ⟨lists_1, trivial, launch0.admits_env _ _ _, launch0.least_env, fairChoices_fair.cas, fairChoices_fair.clock, w_frames, w_args, w_heap, w_applies, trivial, trivial, w_case⟩
end start1
theorem witness_1 : WitnessClaimed_1 := ⟨start1.p0, start1.e0, start1.about1, start1.theMethod, start1.args0, start1.below0, start1.atStart⟩
end Jvm.Pilot.@@N@@
