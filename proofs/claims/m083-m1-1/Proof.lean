import JvmDerived
import JvmDerived.Pilot.@@N@@Statement
import JvmDerived.Pilot.@@N@@Code
set_option linter.unusedVariables false
set_option linter.unusedSimpArgs false
namespace Jvm.OwnWp
open Sem ClassFile Op Lib Jvm.Stand Jvm.Free Jvm.LawKit Jvm.RoadKit
section Own
variable {p : Program} {l : Launch} {e : Env} {R : Room} {s : State} {m : MethodId} {args : Array Value} {below : List Frame} {meth : Method} {c : Code} {T T' : State} {locs : List Loc} {cells slots : Nat} {kc ks : Nat} {Q : Option Value → Heap → List Loc → Prop} {g g' : JFrame}
/-- from T with the frame g on top the invocation returns, and Q holds of what it leaves -/
def Go (p : Program) (e : Env) (below : List Frame) (s : State) (kc ks : Nat) (Q : Option Value → Heap → List Loc → Prop) (T : State) (g : JFrame) : Prop :=
  ∃ s₂ o, Steps p.tables e below (T.setTop g) s₂ ∧ s₂.status = .running ∧ Ended s₂ below o ∧ ∃ v L, o = .returned v ∧ Q v s₂.heap L ∧ FrameEnd s o s₂ L kc ks
theorem Go.step (st : ∀ t, Steps p.tables e below (T'.setTop g') t → Steps p.tables e below (T.setTop g) t) (k : Go p e below s kc ks Q T' g') : Go p e below s kc ks Q T g := by
  obtain ⟨s₂, o, h, r⟩ := k
  exact ⟨s₂, o, st _ h, r⟩
theorem Go.cast (q : g = g') (k : Go p e below s kc ks Q T g') : Go p e below s kc ks Q T g := q ▸ k
theorem Go.weak {Q' : Option Value → Heap → List Loc → Prop} (k : Go p e below s kc ks Q' T g) (h : ∀ v hp L, Q' v hp L → Q v hp L) : Go p e below s kc ks Q T g := by
  obtain ⟨s₂, o, a, b, c, v, L, d, q, f⟩ := k
  exact ⟨s₂, o, a, b, c, v, L, d, h _ _ _ q, f⟩
theorem Go.ret (X : Stand p l e R s m args below meth c T locs cells slots) (hx : p.tables.exec = Jvm.exec) (hlk : meth.locks = false) {pc : Nat} {Ls : Array Slot} {w : Value} {t : FieldType} {i : Instr} {rest : List Value} (hret : meth.sig.returnType = some t) (hn : narrow t w = w)
    (hi : (i = .ireturn ∧ (t = .int ∨ t = .boolean ∨ t = .byte ∨ t = .char ∨ t = .short) ∧ ∃ z, w = .int z) ∨ (i = .lreturn ∧ t = .long ∧ ∃ z, w = .long z) ∨ (i = .dreturn ∧ t = .double ∧ ∃ z, w = .double z) ∨ (i = .freturn ∧ t = .float ∧ ∃ z, w = .float z) ∨ (i = .areturn ∧ t.isReference = true ∧ w.isRef = true))
    (hd : decode c.code pc = .ok (i, 1)) (hq : Q (some w) T.heap locs) (hc : cells ≤ kc) (hs : slots ≤ ks) : Go p e below s kc ks Q T (mkF m pc Ls (w :: rest)) := by
  obtain ⟨fs, hr, hrun, hended, hW, hsame⟩ := X.leave (v := some w) (fun h => by rw [hret] at h; cases h) hlk
  exact ⟨_, _, retOut X hx hret hn hi hd hr, hrun, hended, _, _, rfl, hq, ⟨_, rfl⟩, hW, hsame.mono hc hs⟩
theorem Go.retV (X : Stand p l e R s m args below meth c T locs cells slots) (hx : p.tables.exec = Jvm.exec) (hlk : meth.locks = false) {pc : Nat} {Ls : Array Slot} (hret : meth.sig.returnType = none)
    (hd : decode c.code pc = .ok (.return_, 1)) (hq : Q none T.heap locs) (hc : cells ≤ kc) (hs : slots ≤ ks) : Go p e below s kc ks Q T (mkF m pc Ls []) := by
  obtain ⟨fs, hr, hrun, hended, hW, hsame⟩ := X.leave (v := none) (fun _ => rfl) hlk
  exact ⟨_, _, X.returnOut hx hret hd hr, hrun, hended, _, _, rfl, hq, ⟨_, rfl⟩, hW, hsame.mono hc hs⟩
theorem nar01 {x : Int32} (h : x = 0 ∨ x = 1) : narrow .boolean (.int x) = .int x := by rcases h with rfl | rfl <;> rfl
end Own
end Jvm.OwnWp
namespace Jvm.Pilot.@@N@@
open Jvm Jvm.ClassFile Sem Op Lib Jvm.Free Jvm.Stand Jvm.LawKit Jvm.RoadKit Jvm.OwnWp Bundle Jvm.Pilot.@@N@@.Jvm.D
def own_hex (p : Int32) : Int32 := if p = 120 then 2 else if p = 117 then 4 else if p = 85 then 8 else 0
theorem pn_0 : plainName "com/example/affordance/affordance/FastYamlReader" = true := by first | (simp [plainName, overriddenIn]; done) | decide +kernel
theorem ef_rm1 (m : MethodId) (p1 : Int32) : entryFrame m #[(.int p1)] 1 = mkF m 0 #[.val (.int p1)] [] := by first | (simp [entryFrame, mkF, argsToLocals, Value.category]; done) | rfl
def Q1 (Z : State) (p1 : Int32) (h0 : Heap) (n0 : Nat) (v : Option Value) (h : Heap) (L : List Loc) : Prop := v = some (.int (own_hex p1)) ∧ Fr n0 L ∧ h = h0
theorem d1_0 : decode prog_13_method_17_code 0 = .ok (.iload_n 0, 1) := by decide +kernel
theorem d1_1 : decode prog_13_method_17_code 1 = .ok (.lookupswitch 48 #[(85, 43), (117, 39), (120, 35)], 35) := by decide +kernel
theorem d1_44 : decode prog_13_method_17_code 44 = .ok (.bipush 8, 2) := by decide +kernel
theorem d1_46 : decode prog_13_method_17_code 46 = .ok (.goto 4, 3) := by decide +kernel
theorem d1_50 : decode prog_13_method_17_code 50 = .ok (.ireturn, 1) := by decide +kernel
theorem d1_40 : decode prog_13_method_17_code 40 = .ok (.iconst 4, 1) := by decide +kernel
theorem d1_41 : decode prog_13_method_17_code 41 = .ok (.goto 9, 3) := by decide +kernel
theorem d1_36 : decode prog_13_method_17_code 36 = .ok (.iconst 2, 1) := by decide +kernel
theorem d1_37 : decode prog_13_method_17_code 37 = .ok (.goto 13, 3) := by decide +kernel
theorem d1_49 : decode prog_13_method_17_code 49 = .ok (.iconst 0, 1) := by decide +kernel
set_option maxRecDepth 65536 in
set_option maxHeartbeats 40000000 in
theorem rm1 (l : Launch) (Z : State) (a0 : Array Value) (hw : ∀ d ∈ tables_1, d.before a0 Z = true) (ws : List Jvm.Cond) (p1 : Int32) (h0 : Heap) (n0 : Nat) (Z0 : n0 ≤ h0.size) :
    MetFree l (⟨"com/example/affordance/affordance/FastYamlReader", "hexDigits", "(C)I"⟩ : MethodName) (head1 (Jvm.Cond.code (⟨"com/example/affordance/affordance/FastYamlReader", "hexDigits", "(C)I"⟩ : MethodName) prog_13_method_17_code 1 (some .int) :: ws) ({ frames := 0, cells := 0, slots := 0, locals := 0 } : Room)) (fun a U => a = #[(.int p1)] ∧ Z.Warmed39 U.vm ∧ U.heap = h0) (fun _ _ _ _ _ => True) (fun _ U o U' => ∃ v L, o = .returned v ∧ Q1 Z p1  h0 n0 v U'.heap L ∧ FrameEnd U o U' L ({ frames := 0, cells := 0, slots := 0, locals := 0 } : Room).cells ({ frames := 0, cells := 0, slots := 0, locals := 0 } : Room).slots) := by
  refine MetFree.of_bodySF (plainFor_of_name pn_0) hisR ?_
  intro p e s m args below meth c s₁ Bd hml0 hP hK
  obtain ⟨rfl, hZ, hh⟩ := hP
  have hx := Bd.exec
  have hby := Bd.bytes
  have hlk := BodyLoose.notSynchronized Bd
  have hml : c.maxLocals = 1 := hml0
  have hown : s.vm.findClass "com/example/affordance/affordance/FastYamlReader" = some m.cls := findClass_of_methodNamed Bd.named
  have hnm := (name_of_methodNamed Bd.named Bd.method).1
  have X0 : Stand p l e ({ frames := 0, cells := 0, slots := 0, locals := 0 } : Room) s m #[(.int p1)] below meth c s₁ [] 0 0 := Stand.of_body Bd
  have e0 : s₁.heap = h0 := by rw [← hh, Bd.state]; rfl
  have N0 := Fr.nil n0
  show Go p e below s ({ frames := 0, cells := 0, slots := 0, locals := 0 } : Room).cells ({ frames := 0, cells := 0, slots := 0, locals := 0 } : Room).slots (Q1 Z p1  h0 n0) s₁ (entryFrame m #[(.int p1)] 1)
  refine Go.cast (ef_rm1 m p1) ?_
  show Go _ _ _ _ _ _ _ s₁ (mkF m 0 #[.val (.int p1)] [])
  refine Go.step (fun t k => XS.iloadN X0.here hx rfl (hb hby d1_0) rfl k) ?_
  show Go _ _ _ _ _ _ _ s₁ (mkF m 1 #[.val (.int p1)] [(.int p1)])
  by_cases hk1_1 : p1 = (85 : Int32)
  · refine Go.step (X0.lookupswitchHit hx (g := mkF m 1 #[.val (.int p1)] (.int p1 :: [])) rfl rfl (hb hby d1_1) (by decide) (a := 85) (off := 43) (by rw [hk1_1]; decide) (show (0 : Int) ≤ ((1 : Nat) : Int) + (43) from by decide)) ?_
    show Go _ _ _ _ _ _ _ s₁ (mkF m 44 #[.val (.int p1)] [])
    refine Go.step (fun t k => XS.bipush X0.here hx rfl (hb hby d1_44) k) ?_
    show Go _ _ _ _ _ _ _ s₁ (mkF m 46 #[.val (.int p1)] [(.int (8 : Int32))])
    refine Go.step (fun t k => XS.goto X0.here hx rfl (pc0 := 46) (pc' := 50) rfl (hb hby d1_46) (by decide) (by decide) k) ?_
    show Go _ _ _ _ _ _ _ s₁ (mkF m 50 #[.val (.int p1)] [(.int (8 : Int32))])
    refine Go.ret X0 hx hlk Bd.returns rfl (Or.inl ⟨rfl, Or.inl rfl, _, rfl⟩) (hb hby d1_50) ?_ (by decide) (by decide)
    show Q1 Z _ _ _ _ s₁.heap _
    refine ⟨?_, N0, e0⟩
    first | (rw [hk1_1]; first | rfl | decide) | (simp [own_hex, hk1_1]; done)
  · by_cases hk1_2 : p1 = (117 : Int32)
    · refine Go.step (X0.lookupswitchHit hx (g := mkF m 1 #[.val (.int p1)] (.int p1 :: [])) rfl rfl (hb hby d1_1) (by decide) (a := 117) (off := 39) (by rw [hk1_2]; decide) (show (0 : Int) ≤ ((1 : Nat) : Int) + (39) from by decide)) ?_
      show Go _ _ _ _ _ _ _ s₁ (mkF m 40 #[.val (.int p1)] [])
      refine Go.step (fun t k => XS.iconst X0.here hx rfl (hb hby d1_40) k) ?_
      show Go _ _ _ _ _ _ _ s₁ (mkF m 41 #[.val (.int p1)] [(.int (4 : Int32))])
      refine Go.step (fun t k => XS.goto X0.here hx rfl (pc0 := 41) (pc' := 50) rfl (hb hby d1_41) (by decide) (by decide) k) ?_
      show Go _ _ _ _ _ _ _ s₁ (mkF m 50 #[.val (.int p1)] [(.int (4 : Int32))])
      refine Go.ret X0 hx hlk Bd.returns rfl (Or.inl ⟨rfl, Or.inl rfl, _, rfl⟩) (hb hby d1_50) ?_ (by decide) (by decide)
      show Q1 Z _ _ _ _ s₁.heap _
      refine ⟨?_, N0, e0⟩
      first | (rw [hk1_2]; first | rfl | decide) | (simp [own_hex, hk1_1, hk1_2]; done)
    · by_cases hk1_3 : p1 = (120 : Int32)
      · refine Go.step (X0.lookupswitchHit hx (g := mkF m 1 #[.val (.int p1)] (.int p1 :: [])) rfl rfl (hb hby d1_1) (by decide) (a := 120) (off := 35) (by rw [hk1_3]; decide) (show (0 : Int) ≤ ((1 : Nat) : Int) + (35) from by decide)) ?_
        show Go _ _ _ _ _ _ _ s₁ (mkF m 36 #[.val (.int p1)] [])
        refine Go.step (fun t k => XS.iconst X0.here hx rfl (hb hby d1_36) k) ?_
        show Go _ _ _ _ _ _ _ s₁ (mkF m 37 #[.val (.int p1)] [(.int (2 : Int32))])
        refine Go.step (fun t k => XS.goto X0.here hx rfl (pc0 := 37) (pc' := 50) rfl (hb hby d1_37) (by decide) (by decide) k) ?_
        show Go _ _ _ _ _ _ _ s₁ (mkF m 50 #[.val (.int p1)] [(.int (2 : Int32))])
        refine Go.ret X0 hx hlk Bd.returns rfl (Or.inl ⟨rfl, Or.inl rfl, _, rfl⟩) (hb hby d1_50) ?_ (by decide) (by decide)
        show Q1 Z _ _ _ _ s₁.heap _
        refine ⟨?_, N0, e0⟩
        first | (rw [hk1_3]; first | rfl | decide) | (simp [own_hex, hk1_1, hk1_2, hk1_3]; done)
      · refine Go.step (X0.lookupswitchMiss hx (g := mkF m 1 #[.val (.int p1)] (.int p1 :: [])) rfl rfl (hb hby d1_1) (by decide) (find_miss (by simp only [List.mem_cons, List.not_mem_nil, or_false]; intro p hp; rcases hp with rfl | rfl | rfl <;> (intro hk; first | exact hk1_1 (Int32.toInt_inj.mp (hk.symm.trans (by decide))) | exact hk1_2 (Int32.toInt_inj.mp (hk.symm.trans (by decide))) | exact hk1_3 (Int32.toInt_inj.mp (hk.symm.trans (by decide)))))) (show (0 : Int) ≤ ((1 : Nat) : Int) + (48) from by decide)) ?_
        show Go _ _ _ _ _ _ _ s₁ (mkF m 49 #[.val (.int p1)] [])
        refine Go.step (fun t k => XS.iconst X0.here hx rfl (hb hby d1_49) k) ?_
        show Go _ _ _ _ _ _ _ s₁ (mkF m 50 #[.val (.int p1)] [(.int (0 : Int32))])
        refine Go.ret X0 hx hlk Bd.returns rfl (Or.inl ⟨rfl, Or.inl rfl, _, rfl⟩) (hb hby d1_50) ?_ (by decide) (by decide)
        show Q1 Z _ _ _ _ s₁.heap _
        refine ⟨?_, N0, e0⟩
        first | (rw [hk1_3]; first | rfl | decide) | (simp [own_hex, hk1_1, hk1_2, hk1_3]; done)
theorem pn_1 : plainName "com/example/affordance/affordance/FastYamlReaderHexDigitsPinLaw" = true := by first | (simp [plainName, overriddenIn]; done) | decide +kernel
theorem ef_rm2 (m : MethodId) (p1 : Int32) : entryFrame m #[(.int p1)] 2 = mkF m 0 #[.val (.int p1), .unset] [] := by first | (simp [entryFrame, mkF, argsToLocals, Value.category]; done) | rfl
def Q2 (Z : State) (p1 : Int32) (h0 : Heap) (n0 : Nat) (v : Option Value) (h : Heap) (L : List Loc) : Prop := v = some (.int (own_hex p1)) ∧ Fr n0 L ∧ h = h0
theorem d2_0 : decode method_2_code 0 = .ok (.iconst 0, 1) := by decide +kernel
theorem d2_1 : decode method_2_code 1 = .ok (.istore_n 1, 1) := by decide +kernel
theorem d2_2 : decode method_2_code 2 = .ok (.iload_n 0, 1) := by decide +kernel
theorem d2_3 : decode method_2_code 3 = .ok (.bipush 120, 2) := by decide +kernel
theorem d2_5 : decode method_2_code 5 = .ok (.if_icmp .ne 8, 3) := by decide +kernel
theorem d2_8 : decode method_2_code 8 = .ok (.iconst 2, 1) := by decide +kernel
theorem d2_9 : decode method_2_code 9 = .ok (.istore_n 1, 1) := by decide +kernel
theorem d2_10 : decode method_2_code 10 = .ok (.goto 23, 3) := by decide +kernel
theorem d2_33 : decode method_2_code 33 = .ok (.iload_n 1, 1) := by decide +kernel
theorem d2_34 : decode method_2_code 34 = .ok (.ireturn, 1) := by decide +kernel
theorem d2_13 : decode method_2_code 13 = .ok (.iload_n 0, 1) := by decide +kernel
theorem d2_14 : decode method_2_code 14 = .ok (.bipush 117, 2) := by decide +kernel
theorem d2_16 : decode method_2_code 16 = .ok (.if_icmp .ne 8, 3) := by decide +kernel
theorem d2_19 : decode method_2_code 19 = .ok (.iconst 4, 1) := by decide +kernel
theorem d2_20 : decode method_2_code 20 = .ok (.istore_n 1, 1) := by decide +kernel
theorem d2_21 : decode method_2_code 21 = .ok (.goto 12, 3) := by decide +kernel
theorem d2_24 : decode method_2_code 24 = .ok (.iload_n 0, 1) := by decide +kernel
theorem d2_25 : decode method_2_code 25 = .ok (.bipush 85, 2) := by decide +kernel
theorem d2_27 : decode method_2_code 27 = .ok (.if_icmp .ne 6, 3) := by decide +kernel
theorem d2_30 : decode method_2_code 30 = .ok (.bipush 8, 2) := by decide +kernel
theorem d2_32 : decode method_2_code 32 = .ok (.istore_n 1, 1) := by decide +kernel
set_option maxRecDepth 65536 in
set_option maxHeartbeats 40000000 in
theorem rm2 (l : Launch) (Z : State) (a0 : Array Value) (hw : ∀ d ∈ tables_1, d.before a0 Z = true) (ws : List Jvm.Cond) (p1 : Int32) (h0 : Heap) (n0 : Nat) (Z0 : n0 ≤ h0.size) :
    MetFree l (⟨"com/example/affordance/affordance/FastYamlReaderHexDigitsPinLaw", "expected", "(C)I"⟩ : MethodName) (head1 (Jvm.Cond.code (⟨"com/example/affordance/affordance/FastYamlReaderHexDigitsPinLaw", "expected", "(C)I"⟩ : MethodName) method_2_code 2 (some .int) :: ws) ({ frames := 0, cells := 0, slots := 0, locals := 0 } : Room)) (fun a U => a = #[(.int p1)] ∧ Z.Warmed39 U.vm ∧ U.heap = h0) (fun _ _ _ _ _ => True) (fun _ U o U' => ∃ v L, o = .returned v ∧ Q2 Z p1  h0 n0 v U'.heap L ∧ FrameEnd U o U' L ({ frames := 0, cells := 0, slots := 0, locals := 0 } : Room).cells ({ frames := 0, cells := 0, slots := 0, locals := 0 } : Room).slots) := by
  refine MetFree.of_bodySF (plainFor_of_name pn_1) hisR ?_
  intro p e s m args below meth c s₁ Bd hml0 hP hK
  obtain ⟨rfl, hZ, hh⟩ := hP
  have hx := Bd.exec
  have hby := Bd.bytes
  have hlk := BodyLoose.notSynchronized Bd
  have hml : c.maxLocals = 2 := hml0
  have hown : s.vm.findClass "com/example/affordance/affordance/FastYamlReaderHexDigitsPinLaw" = some m.cls := findClass_of_methodNamed Bd.named
  have hnm := (name_of_methodNamed Bd.named Bd.method).1
  have X0 : Stand p l e ({ frames := 0, cells := 0, slots := 0, locals := 0 } : Room) s m #[(.int p1)] below meth c s₁ [] 0 0 := Stand.of_body Bd
  have e0 : s₁.heap = h0 := by rw [← hh, Bd.state]; rfl
  have N0 := Fr.nil n0
  show Go p e below s ({ frames := 0, cells := 0, slots := 0, locals := 0 } : Room).cells ({ frames := 0, cells := 0, slots := 0, locals := 0 } : Room).slots (Q2 Z p1  h0 n0) s₁ (entryFrame m #[(.int p1)] 2)
  refine Go.cast (ef_rm2 m p1) ?_
  show Go _ _ _ _ _ _ _ s₁ (mkF m 0 #[.val (.int p1), .unset] [])
  refine Go.step (fun t k => XS.iconst X0.here hx rfl (hb hby d2_0) k) ?_
  show Go _ _ _ _ _ _ _ s₁ (mkF m 1 #[.val (.int p1), .unset] [(.int (0 : Int32))])
  refine Go.step (fun t k => XS.istoreN X0.here hx rfl (hb hby d2_1) rfl (l' := #[.val (.int p1), .val (.int (0 : Int32))]) rfl k) ?_
  show Go _ _ _ _ _ _ _ s₁ (mkF m 2 #[.val (.int p1), .val (.int (0 : Int32))] [])
  refine Go.step (fun t k => XS.iloadN X0.here hx rfl (hb hby d2_2) rfl k) ?_
  show Go _ _ _ _ _ _ _ s₁ (mkF m 3 #[.val (.int p1), .val (.int (0 : Int32))] [(.int p1)])
  refine Go.step (fun t k => XS.bipush X0.here hx rfl (hb hby d2_3) k) ?_
  show Go _ _ _ _ _ _ _ s₁ (mkF m 5 #[.val (.int p1), .val (.int (0 : Int32))] [(.int (120 : Int32)), (.int p1)])
  by_cases hb5_1 : p1 = (120 : Int32)
  · refine Go.step (fun t k => XS.icmpNo X0.here hx rfl (hb hby d2_5) rfl (XT.ii_ne_f hb5_1) k) ?_
    show Go _ _ _ _ _ _ _ s₁ (mkF m 8 #[.val (.int p1), .val (.int (0 : Int32))] [])
    refine Go.step (fun t k => XS.iconst X0.here hx rfl (hb hby d2_8) k) ?_
    show Go _ _ _ _ _ _ _ s₁ (mkF m 9 #[.val (.int p1), .val (.int (0 : Int32))] [(.int (2 : Int32))])
    refine Go.step (fun t k => XS.istoreN X0.here hx rfl (hb hby d2_9) rfl (l' := #[.val (.int p1), .val (.int (2 : Int32))]) rfl k) ?_
    show Go _ _ _ _ _ _ _ s₁ (mkF m 10 #[.val (.int p1), .val (.int (2 : Int32))] [])
    refine Go.step (fun t k => XS.goto X0.here hx rfl (pc0 := 10) (pc' := 33) rfl (hb hby d2_10) (by decide) (by decide) k) ?_
    show Go _ _ _ _ _ _ _ s₁ (mkF m 33 #[.val (.int p1), .val (.int (2 : Int32))] [])
    refine Go.step (fun t k => XS.iloadN X0.here hx rfl (hb hby d2_33) rfl k) ?_
    show Go _ _ _ _ _ _ _ s₁ (mkF m 34 #[.val (.int p1), .val (.int (2 : Int32))] [(.int (2 : Int32))])
    refine Go.ret X0 hx hlk Bd.returns rfl (Or.inl ⟨rfl, Or.inl rfl, _, rfl⟩) (hb hby d2_34) ?_ (by decide) (by decide)
    show Q2 Z _ _ _ _ s₁.heap _
    refine ⟨?_, N0, e0⟩
    first | (rw [hb5_1]; first | rfl | decide) | (simp [own_hex, hb5_1]; done)
  · refine Go.step (fun t k => XS.icmpYes X0.here hx rfl (pc0 := 5) (pc' := 13) rfl (hb hby d2_5) rfl (XT.ii_ne_t hb5_1) (by decide) (by decide) k) ?_
    show Go _ _ _ _ _ _ _ s₁ (mkF m 13 #[.val (.int p1), .val (.int (0 : Int32))] [])
    refine Go.step (fun t k => XS.iloadN X0.here hx rfl (hb hby d2_13) rfl k) ?_
    show Go _ _ _ _ _ _ _ s₁ (mkF m 14 #[.val (.int p1), .val (.int (0 : Int32))] [(.int p1)])
    refine Go.step (fun t k => XS.bipush X0.here hx rfl (hb hby d2_14) k) ?_
    show Go _ _ _ _ _ _ _ s₁ (mkF m 16 #[.val (.int p1), .val (.int (0 : Int32))] [(.int (117 : Int32)), (.int p1)])
    by_cases hb16_2 : p1 = (117 : Int32)
    · refine Go.step (fun t k => XS.icmpNo X0.here hx rfl (hb hby d2_16) rfl (XT.ii_ne_f hb16_2) k) ?_
      show Go _ _ _ _ _ _ _ s₁ (mkF m 19 #[.val (.int p1), .val (.int (0 : Int32))] [])
      refine Go.step (fun t k => XS.iconst X0.here hx rfl (hb hby d2_19) k) ?_
      show Go _ _ _ _ _ _ _ s₁ (mkF m 20 #[.val (.int p1), .val (.int (0 : Int32))] [(.int (4 : Int32))])
      refine Go.step (fun t k => XS.istoreN X0.here hx rfl (hb hby d2_20) rfl (l' := #[.val (.int p1), .val (.int (4 : Int32))]) rfl k) ?_
      show Go _ _ _ _ _ _ _ s₁ (mkF m 21 #[.val (.int p1), .val (.int (4 : Int32))] [])
      refine Go.step (fun t k => XS.goto X0.here hx rfl (pc0 := 21) (pc' := 33) rfl (hb hby d2_21) (by decide) (by decide) k) ?_
      show Go _ _ _ _ _ _ _ s₁ (mkF m 33 #[.val (.int p1), .val (.int (4 : Int32))] [])
      refine Go.step (fun t k => XS.iloadN X0.here hx rfl (hb hby d2_33) rfl k) ?_
      show Go _ _ _ _ _ _ _ s₁ (mkF m 34 #[.val (.int p1), .val (.int (4 : Int32))] [(.int (4 : Int32))])
      refine Go.ret X0 hx hlk Bd.returns rfl (Or.inl ⟨rfl, Or.inl rfl, _, rfl⟩) (hb hby d2_34) ?_ (by decide) (by decide)
      show Q2 Z _ _ _ _ s₁.heap _
      refine ⟨?_, N0, e0⟩
      first | (rw [hb16_2]; first | rfl | decide) | (simp [own_hex, hb5_1, hb16_2]; done)
    · refine Go.step (fun t k => XS.icmpYes X0.here hx rfl (pc0 := 16) (pc' := 24) rfl (hb hby d2_16) rfl (XT.ii_ne_t hb16_2) (by decide) (by decide) k) ?_
      show Go _ _ _ _ _ _ _ s₁ (mkF m 24 #[.val (.int p1), .val (.int (0 : Int32))] [])
      refine Go.step (fun t k => XS.iloadN X0.here hx rfl (hb hby d2_24) rfl k) ?_
      show Go _ _ _ _ _ _ _ s₁ (mkF m 25 #[.val (.int p1), .val (.int (0 : Int32))] [(.int p1)])
      refine Go.step (fun t k => XS.bipush X0.here hx rfl (hb hby d2_25) k) ?_
      show Go _ _ _ _ _ _ _ s₁ (mkF m 27 #[.val (.int p1), .val (.int (0 : Int32))] [(.int (85 : Int32)), (.int p1)])
      by_cases hb27_3 : p1 = (85 : Int32)
      · refine Go.step (fun t k => XS.icmpNo X0.here hx rfl (hb hby d2_27) rfl (XT.ii_ne_f hb27_3) k) ?_
        show Go _ _ _ _ _ _ _ s₁ (mkF m 30 #[.val (.int p1), .val (.int (0 : Int32))] [])
        refine Go.step (fun t k => XS.bipush X0.here hx rfl (hb hby d2_30) k) ?_
        show Go _ _ _ _ _ _ _ s₁ (mkF m 32 #[.val (.int p1), .val (.int (0 : Int32))] [(.int (8 : Int32))])
        refine Go.step (fun t k => XS.istoreN X0.here hx rfl (hb hby d2_32) rfl (l' := #[.val (.int p1), .val (.int (8 : Int32))]) rfl k) ?_
        show Go _ _ _ _ _ _ _ s₁ (mkF m 33 #[.val (.int p1), .val (.int (8 : Int32))] [])
        refine Go.step (fun t k => XS.iloadN X0.here hx rfl (hb hby d2_33) rfl k) ?_
        show Go _ _ _ _ _ _ _ s₁ (mkF m 34 #[.val (.int p1), .val (.int (8 : Int32))] [(.int (8 : Int32))])
        refine Go.ret X0 hx hlk Bd.returns rfl (Or.inl ⟨rfl, Or.inl rfl, _, rfl⟩) (hb hby d2_34) ?_ (by decide) (by decide)
        show Q2 Z _ _ _ _ s₁.heap _
        refine ⟨?_, N0, e0⟩
        first | (rw [hb27_3]; first | rfl | decide) | (simp [own_hex, hb5_1, hb16_2, hb27_3]; done)
      · refine Go.step (fun t k => XS.icmpYes X0.here hx rfl (pc0 := 27) (pc' := 33) rfl (hb hby d2_27) rfl (XT.ii_ne_t hb27_3) (by decide) (by decide) k) ?_
        show Go _ _ _ _ _ _ _ s₁ (mkF m 33 #[.val (.int p1), .val (.int (0 : Int32))] [])
        refine Go.step (fun t k => XS.iloadN X0.here hx rfl (hb hby d2_33) rfl k) ?_
        show Go _ _ _ _ _ _ _ s₁ (mkF m 34 #[.val (.int p1), .val (.int (0 : Int32))] [(.int (0 : Int32))])
        refine Go.ret X0 hx hlk Bd.returns rfl (Or.inl ⟨rfl, Or.inl rfl, _, rfl⟩) (hb hby d2_34) ?_ (by decide) (by decide)
        show Q2 Z _ _ _ _ s₁.heap _
        refine ⟨?_, N0, e0⟩
        first | (rw [hb27_3]; first | rfl | decide) | (simp [own_hex, hb5_1, hb16_2, hb27_3]; done)
theorem ef_rm0 (m : MethodId) (p1 : Int32) : entryFrame m #[(.int p1)] maxLocals = mkF m 0 #[.val (.int p1), .unset, .unset, .unset, .unset] [] := by first | (simp [entryFrame, mkF, argsToLocals, Value.category, maxLocals]; done) | rfl
def Q0 (Z : State) (p1 : Int32) (h0 : Heap) (n0 : Nat) (v : Option Value) (h : Heap) (L : List Loc) : Prop := v = some (.int (1 : Int32)) ∧ Fr n0 L
theorem pd_0 : parseMethodDescriptor "(C)I" = some ⟨[.char], some .int⟩ := by decide +kernel
set_option maxRecDepth 65536 in
set_option maxHeartbeats 40000000 in
theorem rm0 (l : Launch) (Z : State) (a0 : Array Value) (hw : ∀ d ∈ tables_1, d.before a0 Z = true) (ws : List Jvm.Cond) (p1 : Int32) (h0 : Heap) (n0 : Nat) (Z0 : n0 ≤ h0.size) :
    MetFree l x (head1 (Jvm.Cond.code x code maxLocals ret :: ws) room_1) (fun a U => a = #[(.int p1)] ∧ Z.Warmed39 U.vm ∧ U.heap = h0) (fun _ _ _ _ _ => True) (fun _ U o U' => ∃ v L, o = .returned v ∧ Q0 Z p1  h0 n0 v U'.heap L ∧ FrameEnd U o U' L room_1.cells room_1.slots) := by
  refine MetFree.of_bodySF (plainFor_of_name pn_1) hisR ?_
  intro p e s m args below meth c s₁ Bd hml0 hP hK
  obtain ⟨rfl, hZ, hh⟩ := hP
  have hx := Bd.exec
  have hby := Bd.bytes
  have hlk := BodyLoose.notSynchronized Bd
  have hml : c.maxLocals = 5 := hml0
  have hown : s.vm.findClass "com/example/affordance/affordance/FastYamlReaderHexDigitsPinLaw" = some m.cls := findClass_of_methodNamed Bd.named
  have hnm := (name_of_methodNamed Bd.named Bd.method).1
  have X0 : Stand p l e room_1 s m #[(.int p1)] below meth c s₁ [] 0 0 := Stand.of_body Bd
  have e0 : s₁.heap = h0 := by rw [← hh, Bd.state]; rfl
  have N0 := Fr.nil n0
  show Go p e below s room_1.cells room_1.slots (Q0 Z p1  h0 n0) s₁ (entryFrame m #[(.int p1)] maxLocals)
  refine Go.cast (ef_rm0 m p1) ?_
  show Go _ _ _ _ _ _ _ s₁ (mkF m 0 #[.val (.int p1), .unset, .unset, .unset, .unset] [])
  refine Go.step (fun t k => XS.iloadN X0.here hx rfl (hb hby at_0) rfl k) ?_
  show Go _ _ _ _ _ _ _ s₁ (mkF m 1 #[.val (.int p1), .unset, .unset, .unset, .unset] [(.int p1)])
  refine Go.step (fun t k => X0.ldcI hx hown (mvT hZ (hw _ (List.mem_of_getElem? (i := 0) rfl))) rfl (hb hby at_1) k) ?_
  show Go _ _ _ _ _ _ _ s₁ (mkF m 3 #[.val (.int p1), .unset, .unset, .unset, .unset] [(.int (65535 : Int32)), (.int p1)])
  refine Go.step (fun t k => XS.iand X0.here hx rfl (hb hby at_3) rfl k) ?_
  show Go _ _ _ _ _ _ _ s₁ (mkF m 4 #[.val (.int p1), .unset, .unset, .unset, .unset] [(.int (p1 &&& (65535 : Int32)))])
  refine Go.step (fun t k => XT.i2c X0.here hx rfl (hb hby at_4) rfl k) ?_
  show Go _ _ _ _ _ _ _ s₁ (mkF m 5 #[.val (.int p1), .unset, .unset, .unset, .unset] [(.int ((p1 &&& (65535 : Int32)).toUInt32.toUInt16.toUInt32.toInt32))])
  generalize hc1 : ((p1 &&& (65535 : Int32)).toUInt32.toUInt16.toUInt32.toInt32) = c1
  show Go _ _ _ _ _ _ _ s₁ (mkF m 5 #[.val (.int p1), .unset, .unset, .unset, .unset] [(.int c1)])
  refine Go.step (fun t k => XS.istoreN X0.here hx rfl (hb hby at_5) rfl (l' := #[.val (.int p1), .val (.int c1), .unset, .unset, .unset]) rfl k) ?_
  show Go _ _ _ _ _ _ _ s₁ (mkF m 6 #[.val (.int p1), .val (.int c1), .unset, .unset, .unset] [])
  refine Go.step (fun t k => XS.iloadN X0.here hx rfl (hb hby at_6) rfl k) ?_
  show Go _ _ _ _ _ _ _ s₁ (mkF m 7 #[.val (.int p1), .val (.int c1), .unset, .unset, .unset] [(.int c1)])
  obtain ⟨_, _, ⟨T1, L1, k1, n1⟩, -, X1, ⟨Lc1, hQ1, l1, y1, z1⟩, st1⟩ := Jvm.LawKit.callS X0 hx (y := (⟨"com/example/affordance/affordance/FastYamlReader", "hexDigits", "(C)I"⟩ : MethodName)) hown (mvT hZ (hw _ (List.mem_of_getElem? (i := 1) rfl))) (mvT hZ (hw _ (List.mem_of_getElem? (i := 2) rfl))) (mvT hZ (hw _ (List.mem_of_getElem? (i := 3) rfl))) (mvT hZ (hw _ (List.mem_of_getElem? (i := 4) rfl))) (by decide) (backOf (W := 0) (rm1 l Z a0 hw [] c1 h0 n0 Z0 ) hZ (hw _ (List.mem_of_getElem? (i := 4) rfl)) (hw _ (List.mem_of_getElem? (i := 3) rfl)) (by decide) (by decide)) (g := (mkF m 7 #[.val (.int p1), .val (.int c1), .unset, .unset, .unset] [(.int c1)])) rfl (by rw [hml]; rfl) (argsL := [(.int c1)]) (rest := []) (lenOf pd_0 rfl) rfl (by show 2 * 0 + _ ≤ _; exact Nat.le_of_eq rfl) (hb hby at_7) (fun _ _ => ⟨rfl, e0, (by decide : 0 + 0 ≤ _), (by decide : 0 + 0 ≤ _)⟩)
  dsimp only [Pt.U, Pt.locs, Pt.cells, Pt.slots] at X1 l1 y1 z1 st1 hQ1
  subst l1 y1 z1
  obtain ⟨rfl, N1q, e1⟩ := hQ1
  have N1 := Fr.app N0 N1q
  refine Go.step st1 ?_
  show Go _ _ _ _ _ _ _ T1 (mkF m 10 #[.val (.int p1), .val (.int c1), .unset, .unset, .unset] [(.int (own_hex c1))])
  refine Go.step (fun t k => XS.istoreN X1.here hx rfl (hb hby at_10) rfl (l' := #[.val (.int p1), .val (.int c1), .val (.int (own_hex c1)), .unset, .unset]) rfl k) ?_
  show Go _ _ _ _ _ _ _ T1 (mkF m 11 #[.val (.int p1), .val (.int c1), .val (.int (own_hex c1)), .unset, .unset] [])
  refine Go.step (fun t k => XS.iloadN X1.here hx rfl (hb hby at_11) rfl k) ?_
  show Go _ _ _ _ _ _ _ T1 (mkF m 12 #[.val (.int p1), .val (.int c1), .val (.int (own_hex c1)), .unset, .unset] [(.int (own_hex c1))])
  refine Go.step (fun t k => XS.iloadN X1.here hx rfl (hb hby at_12) rfl k) ?_
  show Go _ _ _ _ _ _ _ T1 (mkF m 13 #[.val (.int p1), .val (.int c1), .val (.int (own_hex c1)), .unset, .unset] [(.int c1), (.int (own_hex c1))])
  obtain ⟨_, _, ⟨T2, L2, k2, n2⟩, -, X2, ⟨Lc2, hQ2, l2, y2, z2⟩, st2⟩ := Jvm.LawKit.callS X1 hx (y := (⟨"com/example/affordance/affordance/FastYamlReaderHexDigitsPinLaw", "expected", "(C)I"⟩ : MethodName)) hown (mvT hZ (hw _ (List.mem_of_getElem? (i := 5) rfl))) (mvT hZ (hw _ (List.mem_of_getElem? (i := 6) rfl))) (mvT hZ (hw _ (List.mem_of_getElem? (i := 7) rfl))) (mvT hZ (hw _ (List.mem_of_getElem? (i := 8) rfl))) (by decide) (backOf (W := 1) (rm2 l Z a0 hw [] c1 h0 n0 Z0 ) hZ (hw _ (List.mem_of_getElem? (i := 8) rfl)) (hw _ (List.mem_of_getElem? (i := 7) rfl)) (by decide) (by decide)) (g := (mkF m 13 #[.val (.int p1), .val (.int c1), .val (.int (own_hex c1)), .unset, .unset] [(.int c1), (.int (own_hex c1))])) rfl (by rw [hml]; rfl) (argsL := [(.int c1)]) (rest := [(.int (own_hex c1))]) (lenOf pd_0 rfl) rfl (by show 2 * 0 + _ ≤ _; exact Nat.le_of_eq rfl) (hb hby at_13) (fun _ _ => ⟨rfl, (e1), (by decide : 0 + 0 + 0 ≤ _), (by decide : 0 + 0 + 0 ≤ _)⟩)
  dsimp only [Pt.U, Pt.locs, Pt.cells, Pt.slots] at X2 l2 y2 z2 st2 hQ2
  subst l2 y2 z2
  obtain ⟨rfl, N2q, e2⟩ := hQ2
  have N2 := Fr.app N1 N2q
  refine Go.step st2 ?_
  show Go _ _ _ _ _ _ _ T2 (mkF m 16 #[.val (.int p1), .val (.int c1), .val (.int (own_hex c1)), .unset, .unset] [(.int (own_hex c1)), (.int (own_hex c1))])
  have hb16_3 : (own_hex c1) = (own_hex c1) := by rfl
  refine Go.step (fun t k => XS.icmpNo X2.here hx rfl (hb hby at_16) rfl (XT.ii_ne_f hb16_3) k) ?_
  show Go _ _ _ _ _ _ _ T2 (mkF m 19 #[.val (.int p1), .val (.int c1), .val (.int (own_hex c1)), .unset, .unset] [])
  refine Go.step (fun t k => XS.iconst X2.here hx rfl (hb hby at_19) k) ?_
  show Go _ _ _ _ _ _ _ T2 (mkF m 20 #[.val (.int p1), .val (.int c1), .val (.int (own_hex c1)), .unset, .unset] [(.int (1 : Int32))])
  refine Go.step (fun t k => XS.goto X2.here hx rfl (pc0 := 20) (pc' := 24) rfl (hb hby at_20) (by decide) (by decide) k) ?_
  show Go _ _ _ _ _ _ _ T2 (mkF m 24 #[.val (.int p1), .val (.int c1), .val (.int (own_hex c1)), .unset, .unset] [(.int (1 : Int32))])
  refine Go.step (fun t k => XS.istoreN X2.here hx rfl (hb hby at_24) rfl (l' := #[.val (.int p1), .val (.int c1), .val (.int (own_hex c1)), .val (.int (1 : Int32)), .unset]) rfl k) ?_
  show Go _ _ _ _ _ _ _ T2 (mkF m 25 #[.val (.int p1), .val (.int c1), .val (.int (own_hex c1)), .val (.int (1 : Int32)), .unset] [])
  refine Go.step (fun t k => XS.bipush X2.here hx rfl (hb hby at_25) k) ?_
  show Go _ _ _ _ _ _ _ T2 (mkF m 27 #[.val (.int p1), .val (.int c1), .val (.int (own_hex c1)), .val (.int (1 : Int32)), .unset] [(.int (120 : Int32))])
  obtain ⟨_, _, ⟨T4, L4, k4, n4⟩, -, X4, ⟨Lc4, hQ4, l4, y4, z4⟩, st4⟩ := Jvm.LawKit.callS X2 hx (y := (⟨"com/example/affordance/affordance/FastYamlReader", "hexDigits", "(C)I"⟩ : MethodName)) hown (mvT hZ (hw _ (List.mem_of_getElem? (i := 1) rfl))) (mvT hZ (hw _ (List.mem_of_getElem? (i := 2) rfl))) (mvT hZ (hw _ (List.mem_of_getElem? (i := 3) rfl))) (mvT hZ (hw _ (List.mem_of_getElem? (i := 4) rfl))) (by decide) (backOf (W := 0) (rm1 l Z a0 hw [] (120 : Int32) h0 n0 Z0 ) hZ (hw _ (List.mem_of_getElem? (i := 4) rfl)) (hw _ (List.mem_of_getElem? (i := 3) rfl)) (by decide) (by decide)) (g := (mkF m 27 #[.val (.int p1), .val (.int c1), .val (.int (own_hex c1)), .val (.int (1 : Int32)), .unset] [(.int (120 : Int32))])) rfl (by rw [hml]; rfl) (argsL := [(.int (120 : Int32))]) (rest := []) (lenOf pd_0 rfl) rfl (by show 2 * 0 + _ ≤ _; exact Nat.le_of_eq rfl) (hb hby at_27) (fun _ _ => ⟨rfl, (e2), (by decide : 0 + 0 + 0 + 0 ≤ _), (by decide : 0 + 0 + 0 + 0 ≤ _)⟩)
  dsimp only [Pt.U, Pt.locs, Pt.cells, Pt.slots] at X4 l4 y4 z4 st4 hQ4
  subst l4 y4 z4
  obtain ⟨rfl, N4q, e4⟩ := hQ4
  have N4 := Fr.app N2 N4q
  refine Go.step st4 ?_
  show Go _ _ _ _ _ _ _ T4 (mkF m 30 #[.val (.int p1), .val (.int c1), .val (.int (own_hex c1)), .val (.int (1 : Int32)), .unset] [(.int (own_hex (120 : Int32)))])
  refine Go.step (fun t k => XS.iconst X4.here hx rfl (hb hby at_30) k) ?_
  show Go _ _ _ _ _ _ _ T4 (mkF m 31 #[.val (.int p1), .val (.int c1), .val (.int (own_hex c1)), .val (.int (1 : Int32)), .unset] [(.int (2 : Int32)), (.int (own_hex (120 : Int32)))])
  have hb31_5 : (own_hex (120 : Int32)) = (2 : Int32) := by decide
  refine Go.step (fun t k => XS.icmpNo X4.here hx rfl (hb hby at_31) rfl (XT.ii_ne_f hb31_5) k) ?_
  show Go _ _ _ _ _ _ _ T4 (mkF m 34 #[.val (.int p1), .val (.int c1), .val (.int (own_hex c1)), .val (.int (1 : Int32)), .unset] [])
  refine Go.step (fun t k => XS.bipush X4.here hx rfl (hb hby at_34) k) ?_
  show Go _ _ _ _ _ _ _ T4 (mkF m 36 #[.val (.int p1), .val (.int c1), .val (.int (own_hex c1)), .val (.int (1 : Int32)), .unset] [(.int (117 : Int32))])
  obtain ⟨_, _, ⟨T6, L6, k6, n6⟩, -, X6, ⟨Lc6, hQ6, l6, y6, z6⟩, st6⟩ := Jvm.LawKit.callS X4 hx (y := (⟨"com/example/affordance/affordance/FastYamlReader", "hexDigits", "(C)I"⟩ : MethodName)) hown (mvT hZ (hw _ (List.mem_of_getElem? (i := 1) rfl))) (mvT hZ (hw _ (List.mem_of_getElem? (i := 2) rfl))) (mvT hZ (hw _ (List.mem_of_getElem? (i := 3) rfl))) (mvT hZ (hw _ (List.mem_of_getElem? (i := 4) rfl))) (by decide) (backOf (W := 0) (rm1 l Z a0 hw [] (117 : Int32) h0 n0 Z0 ) hZ (hw _ (List.mem_of_getElem? (i := 4) rfl)) (hw _ (List.mem_of_getElem? (i := 3) rfl)) (by decide) (by decide)) (g := (mkF m 36 #[.val (.int p1), .val (.int c1), .val (.int (own_hex c1)), .val (.int (1 : Int32)), .unset] [(.int (117 : Int32))])) rfl (by rw [hml]; rfl) (argsL := [(.int (117 : Int32))]) (rest := []) (lenOf pd_0 rfl) rfl (by show 2 * 0 + _ ≤ _; exact Nat.le_of_eq rfl) (hb hby at_36) (fun _ _ => ⟨rfl, (e4), (by decide : 0 + 0 + 0 + 0 + 0 ≤ _), (by decide : 0 + 0 + 0 + 0 + 0 ≤ _)⟩)
  dsimp only [Pt.U, Pt.locs, Pt.cells, Pt.slots] at X6 l6 y6 z6 st6 hQ6
  subst l6 y6 z6
  obtain ⟨rfl, N6q, e6⟩ := hQ6
  have N6 := Fr.app N4 N6q
  refine Go.step st6 ?_
  show Go _ _ _ _ _ _ _ T6 (mkF m 39 #[.val (.int p1), .val (.int c1), .val (.int (own_hex c1)), .val (.int (1 : Int32)), .unset] [(.int (own_hex (117 : Int32)))])
  refine Go.step (fun t k => XS.iconst X6.here hx rfl (hb hby at_39) k) ?_
  show Go _ _ _ _ _ _ _ T6 (mkF m 40 #[.val (.int p1), .val (.int c1), .val (.int (own_hex c1)), .val (.int (1 : Int32)), .unset] [(.int (4 : Int32)), (.int (own_hex (117 : Int32)))])
  have hb40_7 : (own_hex (117 : Int32)) = (4 : Int32) := by decide
  refine Go.step (fun t k => XS.icmpNo X6.here hx rfl (hb hby at_40) rfl (XT.ii_ne_f hb40_7) k) ?_
  show Go _ _ _ _ _ _ _ T6 (mkF m 43 #[.val (.int p1), .val (.int c1), .val (.int (own_hex c1)), .val (.int (1 : Int32)), .unset] [])
  refine Go.step (fun t k => XS.bipush X6.here hx rfl (hb hby at_43) k) ?_
  show Go _ _ _ _ _ _ _ T6 (mkF m 45 #[.val (.int p1), .val (.int c1), .val (.int (own_hex c1)), .val (.int (1 : Int32)), .unset] [(.int (85 : Int32))])
  obtain ⟨_, _, ⟨T8, L8, k8, n8⟩, -, X8, ⟨Lc8, hQ8, l8, y8, z8⟩, st8⟩ := Jvm.LawKit.callS X6 hx (y := (⟨"com/example/affordance/affordance/FastYamlReader", "hexDigits", "(C)I"⟩ : MethodName)) hown (mvT hZ (hw _ (List.mem_of_getElem? (i := 1) rfl))) (mvT hZ (hw _ (List.mem_of_getElem? (i := 2) rfl))) (mvT hZ (hw _ (List.mem_of_getElem? (i := 3) rfl))) (mvT hZ (hw _ (List.mem_of_getElem? (i := 4) rfl))) (by decide) (backOf (W := 0) (rm1 l Z a0 hw [] (85 : Int32) h0 n0 Z0 ) hZ (hw _ (List.mem_of_getElem? (i := 4) rfl)) (hw _ (List.mem_of_getElem? (i := 3) rfl)) (by decide) (by decide)) (g := (mkF m 45 #[.val (.int p1), .val (.int c1), .val (.int (own_hex c1)), .val (.int (1 : Int32)), .unset] [(.int (85 : Int32))])) rfl (by rw [hml]; rfl) (argsL := [(.int (85 : Int32))]) (rest := []) (lenOf pd_0 rfl) rfl (by show 2 * 0 + _ ≤ _; exact Nat.le_of_eq rfl) (hb hby at_45) (fun _ _ => ⟨rfl, (e6), (by decide : 0 + 0 + 0 + 0 + 0 + 0 ≤ _), (by decide : 0 + 0 + 0 + 0 + 0 + 0 ≤ _)⟩)
  dsimp only [Pt.U, Pt.locs, Pt.cells, Pt.slots] at X8 l8 y8 z8 st8 hQ8
  subst l8 y8 z8
  obtain ⟨rfl, N8q, e8⟩ := hQ8
  have N8 := Fr.app N6 N8q
  refine Go.step st8 ?_
  show Go _ _ _ _ _ _ _ T8 (mkF m 48 #[.val (.int p1), .val (.int c1), .val (.int (own_hex c1)), .val (.int (1 : Int32)), .unset] [(.int (own_hex (85 : Int32)))])
  refine Go.step (fun t k => XS.bipush X8.here hx rfl (hb hby at_48) k) ?_
  show Go _ _ _ _ _ _ _ T8 (mkF m 50 #[.val (.int p1), .val (.int c1), .val (.int (own_hex c1)), .val (.int (1 : Int32)), .unset] [(.int (8 : Int32)), (.int (own_hex (85 : Int32)))])
  have hb50_9 : (own_hex (85 : Int32)) = (8 : Int32) := by decide
  refine Go.step (fun t k => XS.icmpNo X8.here hx rfl (hb hby at_50) rfl (XT.ii_ne_f hb50_9) k) ?_
  show Go _ _ _ _ _ _ _ T8 (mkF m 53 #[.val (.int p1), .val (.int c1), .val (.int (own_hex c1)), .val (.int (1 : Int32)), .unset] [])
  refine Go.step (fun t k => XS.iconst X8.here hx rfl (hb hby at_53) k) ?_
  show Go _ _ _ _ _ _ _ T8 (mkF m 54 #[.val (.int p1), .val (.int c1), .val (.int (own_hex c1)), .val (.int (1 : Int32)), .unset] [(.int (1 : Int32))])
  refine Go.step (fun t k => XS.goto X8.here hx rfl (pc0 := 54) (pc' := 58) rfl (hb hby at_54) (by decide) (by decide) k) ?_
  show Go _ _ _ _ _ _ _ T8 (mkF m 58 #[.val (.int p1), .val (.int c1), .val (.int (own_hex c1)), .val (.int (1 : Int32)), .unset] [(.int (1 : Int32))])
  refine Go.step (fun t k => XS.istore X8.here hx rfl (hb hby at_58) rfl (l' := #[.val (.int p1), .val (.int c1), .val (.int (own_hex c1)), .val (.int (1 : Int32)), .val (.int (1 : Int32))]) rfl k) ?_
  show Go _ _ _ _ _ _ _ T8 (mkF m 60 #[.val (.int p1), .val (.int c1), .val (.int (own_hex c1)), .val (.int (1 : Int32)), .val (.int (1 : Int32))] [])
  refine Go.step (fun t k => XS.iloadN X8.here hx rfl (hb hby at_60) rfl k) ?_
  show Go _ _ _ _ _ _ _ T8 (mkF m 61 #[.val (.int p1), .val (.int c1), .val (.int (own_hex c1)), .val (.int (1 : Int32)), .val (.int (1 : Int32))] [(.int (1 : Int32))])
  have hb61_10 : ¬ ((1 : Int32) = (0 : Int32)) := by decide
  refine Go.step (fun t k => XS.ifNo X8.here hx rfl (hb hby at_61) rfl (XT.i0_eq_f hb61_10) k) ?_
  show Go _ _ _ _ _ _ _ T8 (mkF m 64 #[.val (.int p1), .val (.int c1), .val (.int (own_hex c1)), .val (.int (1 : Int32)), .val (.int (1 : Int32))] [])
  refine Go.step (fun t k => XS.iload X8.here hx rfl (hb hby at_64) rfl k) ?_
  show Go _ _ _ _ _ _ _ T8 (mkF m 66 #[.val (.int p1), .val (.int c1), .val (.int (own_hex c1)), .val (.int (1 : Int32)), .val (.int (1 : Int32))] [(.int (1 : Int32))])
  have hb66_11 : ¬ ((1 : Int32) = (0 : Int32)) := by decide
  refine Go.step (fun t k => XS.ifNo X8.here hx rfl (hb hby at_66) rfl (XT.i0_eq_f hb66_11) k) ?_
  show Go _ _ _ _ _ _ _ T8 (mkF m 69 #[.val (.int p1), .val (.int c1), .val (.int (own_hex c1)), .val (.int (1 : Int32)), .val (.int (1 : Int32))] [])
  refine Go.step (fun t k => XS.iconst X8.here hx rfl (hb hby at_69) k) ?_
  show Go _ _ _ _ _ _ _ T8 (mkF m 70 #[.val (.int p1), .val (.int c1), .val (.int (own_hex c1)), .val (.int (1 : Int32)), .val (.int (1 : Int32))] [(.int (1 : Int32))])
  refine Go.step (fun t k => XS.goto X8.here hx rfl (pc0 := 70) (pc' := 74) rfl (hb hby at_70) (by decide) (by decide) k) ?_
  show Go _ _ _ _ _ _ _ T8 (mkF m 74 #[.val (.int p1), .val (.int c1), .val (.int (own_hex c1)), .val (.int (1 : Int32)), .val (.int (1 : Int32))] [(.int (1 : Int32))])
  refine Go.ret X8 hx hlk Bd.returns rfl (Or.inl ⟨rfl, Or.inr (Or.inl rfl), _, rfl⟩) (hb hby at_74) ?_ (by decide) (by decide)
  show Q0 Z _ _ _ _ T8.heap _
  exact ⟨rfl, N8⟩
set_option maxRecDepth 65536 in
set_option maxHeartbeats 40000000 in
theorem comes_1 {Post : Tables → Env → Array Value → State → Outcome → State → Prop} (hpost : ∀ tb e args s v u, (limb_1_1.after args s (.returned v) u = true ∧ limb_1_2.after args s (.returned v) u = true ∧ True) → FrameEnd s (.returned v) u (Jvm.fieldLocs frame_1_writes args s ++ Jvm.arrayLocs frame_1_arrays args s ++ Jvm.staticLocs frame_1_statics s) 0 0 → Post tb e args s (.returned v) u) :
    ArmFor flags0 classFile x code maxLocals ret World_1 tables_1 room_1 Calls_1 rest_1 Pre_1 Post := by
  intro l hfl _ _ p e ha hc hk s m args below hf hA hF happ hP
  obtain ⟨hcalls, hrest, hpre⟩ := hP
  obtain ⟨-, -, -, hnamed, -, -, -, hat⟩ := (Spec.applies_iff hf).mp happ
  obtain ⟨hg, hn⟩ := and_e (Cond.before_iff.mp (show (Jvm.Cond.and given_1 narrow_1).before args s = true from hpre))
  obtain ⟨gc, gA0⟩ := and_e hg
  obtain ⟨w0, rfl⟩ : ∃ w0 : Value, args = #[w0] := by
    have hs : args.size = 1 := by simpa [Cond.value, given_1] using gc
    obtain ⟨L⟩ := args
    match L, hs with
    | [w0], _ => exact ⟨w0, rfl⟩
  have hw := fun d (hd : d ∈ tables_1) => atoms_spec (ws := Jvm.Cond.code x code maxLocals ret :: tables_1) hat d (List.mem_cons_of_mem _ hd)
  have hfit : Fit s := fun {y c} hc i hi => by
    obtain ⟨ha, rfl⟩ := Array.getElem?_eq_some_iff.mp hc
    have q := List.all_eq_true.mp ((Array.all_eq_true_iff_forall_mem.mp hF) _ (Array.getElem_mem ha)) i (List.mem_range.mpr hi)
    simpa [Array.getElem?_eq_getElem hi] using q
  obtain ⟨i0, ei0⟩ := is_v gA0
  obtain rfl : w0 = (.int i0) := Option.some.inj ei0
  obtain ⟨n, o, h1, h2, h3, _, L, rfl, ⟨rfl, N⟩, hq⟩ := rm0 l s _ hw tables_1 i0  s.heap s.heap.size (Nat.le_refl _)  p e ha hc hk s m _ below hf ((Spec.applies_iff_loose hf).mp happ).1 ⟨rfl, State.Warmed39.refl s, rfl⟩ trivial
  refine ⟨n, _, h1, h2, h3, hpost _ _ _ _ _ _ ⟨Cond.after_iff.mpr rfl, Cond.after_iff.mpr (eq_i res_at (Term.int_eval (1)) rfl), trivial⟩ ⟨hq.1, hq.2.1, (hq.2.2.sift fun y hy => Or.inr (N y hy)).mono (by decide) (by decide)⟩⟩
theorem main_1_1 : Claimed_1_1 := comes_1 fun _ _ _ _ _ _ h hF => ⟨h.1, hF⟩
theorem main_1_2 : Claimed_1_2 := comes_1 fun _ _ _ _ _ _ h hF => ⟨h.2.1, hF⟩
end Jvm.Pilot.@@N@@
namespace Jvm.Pilot.@@N@@
open Jvm Jvm.ClassFile Sem Op Lib Jvm.Free Jvm.Stand Jvm.Pilot.@@N@@.Jvm.D
/-! MADE BY PROGRAM (witnessworld.py) out of the Statement's table words and the real class files: 9 classes; the members and pool entries that the words name. The judged class is class 1, her method 2. -/
namespace start1
open Jvm.ClassFile
def u (s : String) : CpInfo := .utf8 (stringToUtf16 s)
/-- a pool by its gaps: so many unusable entries, then the entry; so many at the end -/
def gap : Nat → List CpInfo → List CpInfo
  | 0, r => r
  | n + 1, r => .unusable :: gap n r
def poolList (es : List (Nat × CpInfo)) (last : Nat) : List CpInfo := es.foldr (fun e r => gap e.1 (e.2 :: r)) (gap last [])
def pool (es : List (Nat × CpInfo)) (last : Nat) : Array CpInfo := ⟨poolList es last⟩
def fileOf (pool : Array CpInfo) (this : Nat) (attrs : Array Attribute := #[]) (ms : Array MethodInfo := #[]) (fl : Nat := 33) (sup : Nat := 0) (ifs : Array Nat := #[]) (fds : Array FieldInfo := #[]) : ClassFile where
  minorVersion := 0
  majorVersion := 65
  constantPool := pool
  accessFlags := fl
  thisClass := this
  superClass := sup
  interfaces := ifs
  fields := fds
  methods := ms
  attributes := attrs
def plain (name : String) (sup : Option ClassId) : Class where
  name := name
  kind := .ordinary
  loader := none
  accessFlags := 33
  super := sup
  interfaces := #[]
  cf := none
  fields := #[]
  methods := #[]
  instanceTypes := #[]
  staticTypes := #[]
  resolved := #[]
  callSites := []
  init := .initialized
  statics := none
  mirror := none

def pool0 : Array CpInfo := pool [(5, u "<init>"), (0, u "()V"), (1, .class_ 10), (1, u "java/lang/Object")] 113

def k0m0 : Method := { name := "<init>", desc := "()V", sig := { parameters := [], returnType := none }, accessFlags := 1, code := none }
/-- java/lang/Object -/
def k0 : Class := { plain "java/lang/Object" none with
  accessFlags := 33
  interfaces := #[]
  cf := some (fileOf pool0 8 #[] #[{ accessFlags := 1, nameIndex := 5, descriptorIndex := 6, attributes := #[] }] 33 0 #[] #[])
  fields := #[]
  methods := #[k0m0]
  instanceTypes := #[]
  staticTypes := #[]
  resolved := Array.replicate 124 none
  statics := none }

def pool1 : Array CpInfo := pool [(2, .class_ 4), (1, u "java/lang/Object"), (0, u "<init>"), (0, u "()V"), (0, .integer 65535), (0, .methodref 9 10), (0, .class_ 11), (0, .nameAndType 12 13), (0, u "com/example/affordance/affordance/FastYamlReader"), (0, u "hexDigits"), (0, u "(C)I"), (0, .methodref 15 16), (0, .class_ 17), (0, .nameAndType 18 13), (0, u "com/example/affordance/affordance/FastYamlReaderHexDigitsPinLaw"), (0, u "expected"), (3, u "law"), (0, u "(I)Z")] 2

def k1m0 : Method := { name := "<init>", desc := "()V", sig := { parameters := [], returnType := none }, accessFlags := 2, code := none }
def k1c1 : Code := { maxStack := 2, maxLocals := 2, code := method_2_code, exceptionTable := #[], attributes := #[] }
def k1m1 : Method := { name := "expected", desc := "(C)I", sig := { parameters := [.char], returnType := some .int }, accessFlags := 10, code := some k1c1 }
def k1c2 : Code := { maxStack := 2, maxLocals := 5, code := code, exceptionTable := #[], attributes := #[] }
def k1m2 : Method := { name := "law", desc := "(I)Z", sig := { parameters := [.int], returnType := some .boolean }, accessFlags := 9, code := some k1c2 }
/-- com/example/affordance/affordance/FastYamlReaderHexDigitsPinLaw -/
def k1 : Class := { plain "com/example/affordance/affordance/FastYamlReaderHexDigitsPinLaw" (some 0) with
  accessFlags := 49
  interfaces := #[]
  cf := some (fileOf pool1 15 #[] #[{ accessFlags := 2, nameIndex := 5, descriptorIndex := 6, attributes := #[] }, { accessFlags := 10, nameIndex := 18, descriptorIndex := 13, attributes := #[] }, { accessFlags := 9, nameIndex := 22, descriptorIndex := 23, attributes := #[] }] 49 2 #[] #[])
  fields := #[]
  methods := #[k1m0, k1m1, k1m2]
  instanceTypes := #[]
  staticTypes := #[]
  resolved := Array.replicate 26 none
  statics := none }

def pool2 : Array CpInfo := pool [(2, .class_ 4), (1, u "java/lang/Object"), (6, .class_ 13), (1, u "com/example/affordance/affordance/FastYamlReader"), (0, u "tree"), (0, u "Lcom/example/affordance/affordance/TreeBuilder;"), (2, u "line"), (0, u "I"), (2, u "text"), (0, u "[C"), (21, .class_ 46), (0, u "com/example/affordance/affordance/FastYamlReader$Unread"), (32, u "at"), (17, u "UNREAD"), (0, u "Lcom/example/affordance/affordance/FastYamlReader$Unread;"), (2, u "lineStart"), (158, u "hexDigits"), (0, u "(C)I"), (43, u "countedTo"), (2, u "pairsOnLine"), (1, u "MAX_KEY"), (2, u "END"), (0, u "C"), (1, u "ESCAPES"), (0, u "Ljava/lang/String;"), (0, u "ESCAPED"), (0, u "NO_PLAIN_START")] 21

def k2c0 : Code := { maxStack := 1, maxLocals := 1, code := prog_13_method_17_code, exceptionTable := #[], attributes := #[] }
def k2m0 : Method := { name := "hexDigits", desc := "(C)I", sig := { parameters := [.char], returnType := some .int }, accessFlags := 8, code := some k2c0 }
/-- com/example/affordance/affordance/FastYamlReader -/
def k2 : Class := { plain "com/example/affordance/affordance/FastYamlReader" (some 0) with
  accessFlags := 48
  interfaces := #[]
  cf := some (fileOf pool2 11 #[.nestMembers #[45]] #[{ accessFlags := 8, nameIndex := 260, descriptorIndex := 261, attributes := #[] }] 48 2 #[] #[{ accessFlags := 26, nameIndex := 310, descriptorIndex := 19, attributes := #[] }, { accessFlags := 26, nameIndex := 313, descriptorIndex := 314, attributes := #[] }, { accessFlags := 26, nameIndex := 316, descriptorIndex := 317, attributes := #[] }, { accessFlags := 26, nameIndex := 318, descriptorIndex := 317, attributes := #[] }, { accessFlags := 26, nameIndex := 319, descriptorIndex := 317, attributes := #[] }, { accessFlags := 26, nameIndex := 97, descriptorIndex := 98, attributes := #[] }, { accessFlags := 18, nameIndex := 22, descriptorIndex := 23, attributes := #[] }, { accessFlags := 18, nameIndex := 14, descriptorIndex := 15, attributes := #[] }, { accessFlags := 2, nameIndex := 79, descriptorIndex := 19, attributes := #[] }, { accessFlags := 2, nameIndex := 18, descriptorIndex := 19, attributes := #[] }, { accessFlags := 2, nameIndex := 101, descriptorIndex := 19, attributes := #[] }, { accessFlags := 2, nameIndex := 305, descriptorIndex := 19, attributes := #[] }, { accessFlags := 2, nameIndex := 308, descriptorIndex := 19, attributes := #[] }])
  fields := #[{ name := "MAX_KEY", type := .int, accessFlags := 26, slot := 0, constantValue := 0 }, { name := "END", type := .char, accessFlags := 26, slot := 1, constantValue := 0 }, { name := "ESCAPES", type := (.object "java/lang/String"), accessFlags := 26, slot := 2, constantValue := 0 }, { name := "ESCAPED", type := (.object "java/lang/String"), accessFlags := 26, slot := 3, constantValue := 0 }, { name := "NO_PLAIN_START", type := (.object "java/lang/String"), accessFlags := 26, slot := 4, constantValue := 0 }, { name := "UNREAD", type := (.object "com/example/affordance/affordance/FastYamlReader$Unread"), accessFlags := 26, slot := 5, constantValue := 0 }, { name := "text", type := (.array .char), accessFlags := 18, slot := 0, constantValue := 0 }, { name := "tree", type := (.object "com/example/affordance/affordance/TreeBuilder"), accessFlags := 18, slot := 1, constantValue := 0 }, { name := "at", type := .int, accessFlags := 2, slot := 2, constantValue := 0 }, { name := "line", type := .int, accessFlags := 2, slot := 3, constantValue := 0 }, { name := "lineStart", type := .int, accessFlags := 2, slot := 4, constantValue := 0 }, { name := "countedTo", type := .int, accessFlags := 2, slot := 5, constantValue := 0 }, { name := "pairsOnLine", type := .int, accessFlags := 2, slot := 6, constantValue := 0 }]
  methods := #[k2m0]
  instanceTypes := #[(.array .char), (.object "com/example/affordance/affordance/TreeBuilder"), .int, .int, .int, .int, .int]
  staticTypes := #[.int, .char, (.object "java/lang/String"), (.object "java/lang/String"), (.object "java/lang/String"), (.object "com/example/affordance/affordance/FastYamlReader$Unread")]
  resolved := Array.replicate 341 none
  statics := none }

def pool3 : Array CpInfo := pool [(1, u "java/lang/Cloneable"), (0, .class_ 1), (0, u "java/lang/Object"), (0, .class_ 3)] 3

/-- java/lang/Cloneable -/
def k3 : Class := { plain "java/lang/Cloneable" (some 0) with
  accessFlags := 1537
  interfaces := #[]
  cf := some (fileOf pool3 2 #[] #[] 1537 4 #[] #[])
  fields := #[]
  methods := #[]
  instanceTypes := #[]
  staticTypes := #[]
  resolved := Array.replicate 8 none
  statics := none }

def pool4 : Array CpInfo := pool [(1, u "java/io/Serializable"), (0, .class_ 1), (0, u "java/lang/Object"), (0, .class_ 3)] 3

/-- java/io/Serializable -/
def k4 : Class := { plain "java/io/Serializable" (some 0) with
  accessFlags := 1537
  interfaces := #[]
  cf := some (fileOf pool4 2 #[] #[] 1537 4 #[] #[])
  fields := #[]
  methods := #[]
  instanceTypes := #[]
  staticTypes := #[]
  resolved := Array.replicate 8 none
  statics := none }

/-- the primitive byte -/
def k5 : Class := { plain "byte" none with kind := .primitive 'B', accessFlags := 0x411 }
/-- [B -/
def k6 : Class := { plain "[B" (some 0) with kind := .array 5 .byte, interfaces := #[3, 4], accessFlags := 1041 }

/-- the primitive int -/
def k7 : Class := { plain "int" none with kind := .primitive 'I', accessFlags := 0x411 }
/-- [I -/
def k8 : Class := { plain "[I" (some 0) with kind := .array 7 .int, interfaces := #[3, 4], accessFlags := 1041 }

def heap : Heap := #[]
def classes : Array Class := #[k0, k1, k2, k3, k4, k5, k6, k7, k8]
def interned : List (Array UInt16 × Addr) := []
def slotsUsed : Nat := 0
def theMethod : MethodId := ⟨1, 2⟩
def args0 : Array Value := #[.int 5]
def aboutOver (below : List Frame) : State where
  vm := { classes := classes, interned := interned.toArray }
  heap := heap
  slotsUsed := slotsUsed
  threads := #[{ frames := .invoking theMethod args0 :: below }]
def below0 : List Frame := [.native { method := ⟨0, 0⟩, args := #[] }]
def about1 : State := aboutOver below0
def p0 : Program := .bare "" "" ""
def e0 : Env := launch0.env 0 0 0
theorem w_frames : about1.frames = Frame.invoking theMethod args0 :: below0 := rfl
set_option maxRecDepth 65536 in
theorem w_args : argsFit about1.vm theMethod args0 = true := by decide +kernel
set_option maxRecDepth 65536 in
theorem w_heap : heapFits about1 = true := by decide +kernel
set_option maxRecDepth 65536 in
theorem w_runnable : about1.curStatus? = some .runnable := by decide +kernel
set_option maxRecDepth 65536 in
theorem w_alone : about1.alone = true := by decide +kernel
set_option maxRecDepth 65536 in
theorem w_named : about1.methodNamed? x = some theMethod := by decide +kernel
set_option maxRecDepth 65536 in
theorem w_hears : about1.hears theMethod below0 = true := by decide +kernel
set_option maxRecDepth 65536 in
theorem w_ripe : about1.ripe theMethod args0 below0 = true := by decide +kernel
theorem w_running : about1.status = .running := rfl
set_option maxRecDepth 65536 in
theorem w_room : about1.hasRoom e0.platform room_1 = true :=
  launch0.hasRoom_least _ room_1 (by decide +kernel) (by decide +kernel) (by decide +kernel) (by decide +kernel) (by decide +kernel) (by decide +kernel)
theorem allAtoms_all (ts : List Jvm.Cond) (a : Array Jvm.Value) (st : Jvm.State) : (allAtoms ts).before a st = ts.all (fun c => c.before a st) := by
  induction ts with
  | nil => rfl
  | cons c t ih =>
    show (Jvm.Cond.and c (allAtoms t)).before a st = _
    rw [Jvm.Cond.before_and, ih, List.all_cons]
def words1 : List Jvm.Cond := Jvm.Cond.code x code maxLocals ret :: tables_1
/-- a 'code' word, met by the world's own term for the bytes: nothing is compared byte by byte -/
theorem code_word {y : MethodName} {bytes : ByteArray} {mx : Nat} {rt : Option FieldType} {a : Array Value} {s : State} {m : MethodId} {meth : Method} {c : Code} (h1 : s.methodNamed? y = some m) (h2 : s.vm.method? m = some meth) (h3 : meth.code = some c) (h4 : c.code = bytes)
    (h5 : (c.maxLocals == mx && c.exceptionTable.isEmpty && decide (c.maxStack ≤ mostOperands) && decide (meth.sig.returnType = rt) && !meth.locks && decide (parseMethodDescriptor y.desc = some meth.sig)) = true) : (Jvm.Cond.code y bytes mx rt).before a s = true := by
  simp only [Bool.and_eq_true, beq_iff_eq, Bool.not_eq_true', decide_eq_true_eq] at h5
  obtain ⟨⟨⟨⟨⟨g1, g2⟩, g3⟩, g4⟩, g5⟩, g6⟩ := h5
  simp [Cond.before, Cond.holds, Cond.value, h1, h2, h3, h4, g1, g2, g3, g4, g5, g6]
def isCode : Jvm.Cond → Bool
  | .code _ _ _ _ => true
  | _ => false
theorem all_split {L : List Jvm.Cond} {P : Jvm.Cond → Bool} (h1 : L.all (fun c => isCode c || P c) = true) (h2 : ∀ c ∈ L.filter isCode, P c = true) : L.all P = true := by
  refine List.all_eq_true.mpr fun c hc => ?_
  have h := List.all_eq_true.mp h1 c hc
  rcases Bool.eq_false_or_eq_true (isCode c) with hi | hi
  · exact h2 c (List.mem_filter.mpr ⟨hc, hi⟩)
  · simpa [hi] using h
set_option maxRecDepth 65536 in
theorem w_c0 : (Jvm.Cond.code x code maxLocals ret).before args0 about1 = true := code_word (m := ⟨1, 2⟩) (meth := k1m2) (c := k1c2) (by decide +kernel) rfl rfl rfl (by decide +kernel)
set_option maxRecDepth 65536 in
theorem w_c1 : (Jvm.Cond.code ({ cls := "com/example/affordance/affordance/FastYamlReader", name := "hexDigits", desc := "(C)I" } : Jvm.MethodName) prog_13_method_17_code (1 : Nat) (Option.some Jvm.ClassFile.FieldType.int)).before args0 about1 = true := code_word (m := ⟨2, 0⟩) (meth := k2m0) (c := k2c0) (by decide +kernel) rfl rfl rfl (by decide +kernel)
set_option maxRecDepth 65536 in
theorem w_c2 : (Jvm.Cond.code ({ cls := "com/example/affordance/affordance/FastYamlReaderHexDigitsPinLaw", name := "expected", desc := "(C)I" } : Jvm.MethodName) method_2_code (2 : Nat) (Option.some Jvm.ClassFile.FieldType.int)).before args0 about1 = true := code_word (m := ⟨1, 1⟩) (meth := k1m1) (c := k1c1) (by decide +kernel) rfl rfl rfl (by decide +kernel)
def codes1 : List Jvm.Cond := [Jvm.Cond.code x code maxLocals ret, Jvm.Cond.code ({ cls := "com/example/affordance/affordance/FastYamlReader", name := "hexDigits", desc := "(C)I" } : Jvm.MethodName) prog_13_method_17_code (1 : Nat) (Option.some Jvm.ClassFile.FieldType.int), Jvm.Cond.code ({ cls := "com/example/affordance/affordance/FastYamlReaderHexDigitsPinLaw", name := "expected", desc := "(C)I" } : Jvm.MethodName) method_2_code (2 : Nat) (Option.some Jvm.ClassFile.FieldType.int)]
set_option maxRecDepth 65536 in
theorem codes_eq : words1.filter isCode = codes1 := rfl
theorem w_codes : ∀ c ∈ words1.filter isCode, c.before args0 about1 = true := by
  rw [codes_eq]
  intro c hc
  simp only [codes1, List.mem_cons, List.not_mem_nil, or_false] at hc
  rcases hc with rfl | rfl | rfl
  · exact w_c0
  · exact w_c1
  · exact w_c2
set_option maxRecDepth 65536 in
theorem w_t1 : words1.all (fun c => isCode c || c.before args0 about1) = true := by decide +kernel
theorem w_tables : (allAtoms (Jvm.Cond.code x code maxLocals ret :: tables_1)).before args0 about1 = true := by
  rw [allAtoms_all]
  show words1.all (fun c => c.before args0 about1) = true
  refine all_split ?_ w_codes
  rw [w_t1]
set_option maxRecDepth 65536 in
theorem w_case : (Jvm.Cond.and given_1 narrow_1).before args0 about1 = true := by decide +kernel
theorem w_applies : (headSpec (Jvm.Cond.code x code maxLocals ret :: tables_1) room_1).applies x e0.platform about1 = true :=
  (Spec.applies_iff w_frames).mpr ⟨w_running, w_runnable, w_alone, w_named, w_hears, w_ripe, w_room, w_tables⟩
theorem atStart : AtStart classFile x code maxLocals ret World_1 tables_1 room_1 Calls_1 rest_1 Pre_1 launch0 p0 e0 about1 theMethod args0 below0 :=
  ⟨lists_1, trivial, launch0.admits_env _ _ _, launch0.least_env, fairChoices_fair.cas, fairChoices_fair.clock, w_frames, w_args, w_heap, w_applies, trivial, trivial, w_case⟩
end start1
theorem witness_1 : WitnessClaimed_1 := ⟨start1.p0, start1.e0, start1.about1, start1.theMethod, start1.args0, start1.below0, start1.atStart⟩
end Jvm.Pilot.@@N@@
