import JvmDerived
import JvmDerived.Pilot.@@N@@Statement
import JvmDerived.Pilot.@@N@@Code
set_option linter.unusedVariables false
set_option linter.unusedSimpArgs false
namespace Jvm.OwnWp
open Sem ClassFile Op Lib Jvm.Stand Jvm.Free Jvm.LawKit Jvm.RoadKit
section Own
variable {p : Program} {l : Launch} {e : Env} {R : Room} {s : State} {m : MethodId} {args : Array Value} {below : List Frame} {meth : Method} {c : Code} {T T' : State} {locs : List Loc} {cells slots : Nat} {kc ks : Nat} {Q : Option Value → Heap → List Loc → Prop} {g g' : JFrame}
/-- from T with the frame g on top the invocation returns, and Q holds of what it leaves -/
def Go (p : Program) (e : Env) (below : List Frame) (s : State) (kc ks : Nat) (Q : Option Value → Heap → List Loc → Prop) (T : State) (g : JFrame) : Prop :=
  ∃ s₂ o, Steps p.tables e below (T.setTop g) s₂ ∧ s₂.status = .running ∧ Ended s₂ below o ∧ ∃ v L, o = .returned v ∧ Q v s₂.heap L ∧ FrameEnd s o s₂ L kc ks
theorem Go.step (st : ∀ t, Steps p.tables e below (T'.setTop g') t → Steps p.tables e below (T.setTop g) t) (k : Go p e below s kc ks Q T' g') : Go p e below s kc ks Q T g := by
  obtain ⟨s₂, o, h, r⟩ := k
  exact ⟨s₂, o, st _ h, r⟩
theorem Go.cast (q : g = g') (k : Go p e below s kc ks Q T g') : Go p e below s kc ks Q T g := q ▸ k
theorem Go.weak {Q' : Option Value → Heap → List Loc → Prop} (k : Go p e below s kc ks Q' T g) (h : ∀ v hp L, Q' v hp L → Q v hp L) : Go p e below s kc ks Q T g := by
  obtain ⟨s₂, o, a, b, c, v, L, d, q, f⟩ := k
  exact ⟨s₂, o, a, b, c, v, L, d, h _ _ _ q, f⟩
theorem Go.ret (X : Stand p l e R s m args below meth c T locs cells slots) (hx : p.tables.exec = Jvm.exec) (hlk : meth.locks = false) {pc : Nat} {Ls : Array Slot} {w : Value} {t : FieldType} {i : Instr} {rest : List Value} (hret : meth.sig.returnType = some t) (hn : narrow t w = w)
    (hi : (i = .ireturn ∧ (t = .int ∨ t = .boolean ∨ t = .byte ∨ t = .char ∨ t = .short) ∧ ∃ z, w = .int z) ∨ (i = .lreturn ∧ t = .long ∧ ∃ z, w = .long z) ∨ (i = .dreturn ∧ t = .double ∧ ∃ z, w = .double z) ∨ (i = .freturn ∧ t = .float ∧ ∃ z, w = .float z) ∨ (i = .areturn ∧ t.isReference = true ∧ w.isRef = true))
    (hd : decode c.code pc = .ok (i, 1)) (hq : Q (some w) T.heap locs) (hc : cells ≤ kc) (hs : slots ≤ ks) : Go p e below s kc ks Q T (mkF m pc Ls (w :: rest)) := by
  obtain ⟨fs, hr, hrun, hended, hW, hsame⟩ := X.leave (v := some w) (fun h => by rw [hret] at h; cases h) hlk
  exact ⟨_, _, retOut X hx hret hn hi hd hr, hrun, hended, _, _, rfl, hq, ⟨_, rfl⟩, hW, hsame.mono hc hs⟩
theorem Go.retV (X : Stand p l e R s m args below meth c T locs cells slots) (hx : p.tables.exec = Jvm.exec) (hlk : meth.locks = false) {pc : Nat} {Ls : Array Slot} (hret : meth.sig.returnType = none)
    (hd : decode c.code pc = .ok (.return_, 1)) (hq : Q none T.heap locs) (hc : cells ≤ kc) (hs : slots ≤ ks) : Go p e below s kc ks Q T (mkF m pc Ls []) := by
  obtain ⟨fs, hr, hrun, hended, hW, hsame⟩ := X.leave (v := none) (fun _ => rfl) hlk
  exact ⟨_, _, X.returnOut hx hret hd hr, hrun, hended, _, _, rfl, hq, ⟨_, rfl⟩, hW, hsame.mono hc hs⟩
theorem nar01 {x : Int32} (h : x = 0 ∨ x = 1) : narrow .boolean (.int x) = .int x := by rcases h with rfl | rfl <;> rfl
end Own
end Jvm.OwnWp
namespace Jvm.Pilot.@@N@@
open Jvm Jvm.ClassFile Sem Op Lib Jvm.Free Jvm.Stand Jvm.LawKit Jvm.RoadKit Jvm.OwnWp Bundle Jvm.Pilot.@@N@@.Jvm.D
def own_abs (k : Int64) : Int64 := if k < (0 : Int64) then -k else k
def own_at (k : Int64) : Int32 := if k = (1000000000000000000 : Int64) then 1 else if k = (-1000000000000000000 : Int64) then 1 else 0
theorem own_toInt {x y : Int64} : x = y ↔ x.toInt = y.toInt := ⟨fun h => by rw [h], fun h => Int64.toInt_inj.mp h⟩
theorem own_B : (1000000000000000000 : Int64).toInt = 1000000000000000000 := by decide
theorem own_NB : (-1000000000000000000 : Int64).toInt = -1000000000000000000 := by decide
theorem own_abs_int (k : Int64) : (own_abs k).toInt = if k.toInt < 0 then (if k.toInt = -9223372036854775808 then k.toInt else -k.toInt) else k.toInt := by
  have h0 : (0 : Int64).toInt = 0 := by decide
  have r := rng64 k
  unfold own_abs
  by_cases h : k < (0 : Int64)
  · have h' := Int64.lt_iff_toInt_lt.mp h
    rw [h0] at h'
    have c := c_lneg k
    have r' := rng64 (-k)
    rw [if_pos h, if_pos h']
    split <;> omega
  · have h' : ¬ k.toInt < 0 := fun q => h (Int64.lt_iff_toInt_lt.mpr (by rw [h0]; exact q))
    rw [if_neg h, if_neg h']
theorem own_k1 {k : Int64} (h : own_abs k = (1000000000000000000 : Int64)) : own_at k = (1 : Int32) := by
  rw [own_toInt, own_abs_int, own_B] at h
  unfold own_at
  by_cases h1 : k = (1000000000000000000 : Int64)
  · rw [if_pos h1]
  · by_cases h2 : k = (-1000000000000000000 : Int64)
    · rw [if_neg h1, if_pos h2]
    · rw [own_toInt, own_B] at h1
      rw [own_toInt, own_NB] at h2
      exfalso
      split at h
      · split at h <;> omega
      · omega
theorem own_k0 {k : Int64} (h : ¬ own_abs k = (1000000000000000000 : Int64)) : own_at k = (0 : Int32) := by
  rw [own_toInt, own_abs_int, own_B] at h
  unfold own_at
  have h1 : ¬ k = (1000000000000000000 : Int64) := fun q => by
    rw [own_toInt, own_B] at q; rw [q] at h; exact h (by decide)
  have h2 : ¬ k = (-1000000000000000000 : Int64) := fun q => by
    rw [own_toInt, own_NB] at q; rw [q] at h; exact h (by decide)
  rw [if_neg h1, if_neg h2]
theorem own_off (d : Int32) : -3 ≤ ((d &&& (7 : Int32)) - (3 : Int32)).toInt ∧ ((d &&& (7 : Int32)) - (3 : Int32)).toInt ≤ 4 := by
  have h := c_and d 7 (by decide)
  have k7 : (7 : Int32).toInt = 7 := by decide
  have k3 : (3 : Int32).toInt = 3 := by decide
  rw [k7] at h
  rw [XT.sub32 (by unfold XT.fits32; rw [k3]; omega), k3]
  omega
theorem own_mag {o : Int32} (h : -3 ≤ o.toInt ∧ o.toInt ≤ 4) : ((1000000000000000000 : Int64) + o.toInt64).toInt = 1000000000000000000 + o.toInt ∧ (-((1000000000000000000 : Int64) + o.toInt64)).toInt = -(1000000000000000000 + o.toInt) := by
  have h1 : o.toInt64.toInt = o.toInt := Int32.toInt_toInt64 o
  have a : ((1000000000000000000 : Int64) + o.toInt64).toInt = 1000000000000000000 + o.toInt := by
    rw [XT.add64 (by unfold XT.fits64; rw [h1, own_B]; omega), h1, own_B]
  refine ⟨a, ?_⟩
  have c := c_lneg ((1000000000000000000 : Int64) + o.toInt64)
  have r := rng64 (-((1000000000000000000 : Int64) + o.toInt64))
  rw [a] at c
  omega
theorem own_o0 {o : Int32} : o = (0 : Int32) ↔ o.toInt = 0 := ⟨fun h => by rw [h]; decide, fun h => Int32.toInt_inj.mp (by rw [h]; decide)⟩
theorem own_n1 {o : Int32} (h0 : o = (0 : Int32)) : own_at ((1000000000000000000 : Int64) + o.toInt64) = (1 : Int32) ∧ own_at (-((1000000000000000000 : Int64) + o.toInt64)) = (1 : Int32) := by
  subst h0; decide
theorem own_n0 {o : Int32} (h : -3 ≤ o.toInt ∧ o.toInt ≤ 4) (h0 : ¬ o = (0 : Int32)) : own_at ((1000000000000000000 : Int64) + o.toInt64) = (0 : Int32) ∧ own_at (-((1000000000000000000 : Int64) + o.toInt64)) = (0 : Int32) := by
  rw [own_o0] at h0
  obtain ⟨a, b⟩ := own_mag h
  constructor
  · unfold own_at
    rw [if_neg (by rw [own_toInt, own_B, a]; omega), if_neg (by rw [own_toInt, own_NB, a]; omega)]
  · unfold own_at
    rw [if_neg (by rw [own_toInt, own_B, b]; omega), if_neg (by rw [own_toInt, own_NB, b]; omega)]
theorem ef_rm1 (m : MethodId) (p1 : Int64) : entryFrame m #[(.long p1)] 2 = mkF m 0 #[.val (.long p1), .second] [] := by first | (simp [entryFrame, mkF, argsToLocals, Value.category]; done) | rfl
def Q1 (Z : State) (p1 : Int64) (h0 : Heap) (n0 : Nat) (v : Option Value) (h : Heap) (L : List Loc) : Prop := v = some (.long (own_abs p1)) ∧ Fr n0 L ∧ h = h0
theorem d1_0 : decode jdk_29_method_61_code 0 = .ok (.lload_n 0, 1) := by decide +kernel
theorem d1_1 : decode jdk_29_method_61_code 1 = .ok (.lconst 0, 1) := by decide +kernel
theorem d1_2 : decode jdk_29_method_61_code 2 = .ok (.lcmp, 1) := by decide +kernel
theorem d1_3 : decode jdk_29_method_61_code 3 = .ok (.ifCond .ge 8, 3) := by decide +kernel
theorem d1_6 : decode jdk_29_method_61_code 6 = .ok (.lload_n 0, 1) := by decide +kernel
theorem d1_7 : decode jdk_29_method_61_code 7 = .ok (.lneg, 1) := by decide +kernel
theorem d1_8 : decode jdk_29_method_61_code 8 = .ok (.goto 4, 3) := by decide +kernel
theorem d1_12 : decode jdk_29_method_61_code 12 = .ok (.lreturn, 1) := by decide +kernel
theorem d1_11 : decode jdk_29_method_61_code 11 = .ok (.lload_n 0, 1) := by decide +kernel
set_option maxRecDepth 65536 in
set_option maxHeartbeats 40000000 in
theorem rm1 (l : Launch) (Z : State) (a0 : Array Value) (hw : ∀ d ∈ tables_1, d.before a0 Z = true) (ws : List Jvm.Cond) (p1 : Int64) (h0 : Heap) (n0 : Nat) (Z0 : n0 ≤ h0.size) :
    MetFree l (⟨"java/lang/Math", "abs", "(J)J"⟩ : MethodName) (head1 (Jvm.Cond.code (⟨"java/lang/Math", "abs", "(J)J"⟩ : MethodName) jdk_29_method_61_code 2 (some .long) :: ws) ({ frames := 0, cells := 0, slots := 0, locals := 0 } : Room)) (fun a U => a = #[(.long p1)] ∧ Z.Warmed39 U.vm ∧ U.heap = h0) (fun _ _ _ _ _ => True) (fun _ U o U' => ∃ v L, o = .returned v ∧ Q1 Z p1  h0 n0 v U'.heap L ∧ FrameEnd U o U' L ({ frames := 0, cells := 0, slots := 0, locals := 0 } : Room).cells ({ frames := 0, cells := 0, slots := 0, locals := 0 } : Room).slots) := by
  refine MetFree.of_bodySF (Jvm.Free.JP.mathPlain rfl (by decide +kernel)) hisR ?_
  intro p e s m args below meth c s₁ Bd hml0 hP hK
  obtain ⟨rfl, hZ, hh⟩ := hP
  have hx := Bd.exec
  have hby := Bd.bytes
  have hlk := BodyLoose.notSynchronized Bd
  have hml : c.maxLocals = 2 := hml0
  have hown : s.vm.findClass "java/lang/Math" = some m.cls := findClass_of_methodNamed Bd.named
  have hnm := (name_of_methodNamed Bd.named Bd.method).1
  have X0 : Stand p l e ({ frames := 0, cells := 0, slots := 0, locals := 0 } : Room) s m #[(.long p1)] below meth c s₁ [] 0 0 := Stand.of_body Bd
  have e0 : s₁.heap = h0 := by rw [← hh, Bd.state]; rfl
  have N0 := Fr.nil n0
  show Go p e below s ({ frames := 0, cells := 0, slots := 0, locals := 0 } : Room).cells ({ frames := 0, cells := 0, slots := 0, locals := 0 } : Room).slots (Q1 Z p1  h0 n0) s₁ (entryFrame m #[(.long p1)] 2)
  refine Go.cast (ef_rm1 m p1) ?_
  show Go _ _ _ _ _ _ _ s₁ (mkF m 0 #[.val (.long p1), .second] [])
  refine Go.step (fun t k => XT.lloadN X0.here hx rfl (hb hby d1_0) rfl k) ?_
  show Go _ _ _ _ _ _ _ s₁ (mkF m 1 #[.val (.long p1), .second] [(.long p1)])
  refine Go.step (fun t k => XT.lconst X0.here hx rfl (hb hby d1_1) k) ?_
  show Go _ _ _ _ _ _ _ s₁ (mkF m 2 #[.val (.long p1), .second] [(.long (0 : Int64)), (.long p1)])
  refine Go.step (fun t k => XT.lcmp X0.here hx rfl (hb hby d1_2) rfl k) ?_
  show Go _ _ _ _ _ _ _ s₁ (mkF m 3 #[.val (.long p1), .second] [(.int (XT.cmpL p1 (0 : Int64)))])
  by_cases hb3_1 : p1 < (0 : Int64)
  · refine Go.step (fun t k => XS.ifNo X0.here hx rfl (hb hby d1_3) rfl (XT.ll_ge_f hb3_1) k) ?_
    show Go _ _ _ _ _ _ _ s₁ (mkF m 6 #[.val (.long p1), .second] [])
    refine Go.step (fun t k => XT.lloadN X0.here hx rfl (hb hby d1_6) rfl k) ?_
    show Go _ _ _ _ _ _ _ s₁ (mkF m 7 #[.val (.long p1), .second] [(.long p1)])
    refine Go.step (fun t k => XT.lneg X0.here hx rfl (hb hby d1_7) rfl k) ?_
    show Go _ _ _ _ _ _ _ s₁ (mkF m 8 #[.val (.long p1), .second] [(.long (-p1))])
    refine Go.step (fun t k => XS.goto X0.here hx rfl (pc0 := 8) (pc' := 12) rfl (hb hby d1_8) (by decide) (by decide) k) ?_
    show Go _ _ _ _ _ _ _ s₁ (mkF m 12 #[.val (.long p1), .second] [(.long (-p1))])
    refine Go.ret X0 hx hlk Bd.returns rfl (Or.inr (Or.inl ⟨rfl, rfl, _, rfl⟩)) (hb hby d1_12) ?_ (by decide) (by decide)
    show Q1 Z _ _ _ _ s₁.heap _
    exact ⟨by simp [own_abs, hb3_1], N0, e0⟩
  · refine Go.step (fun t k => XS.ifYes X0.here hx rfl (pc0 := 3) (pc' := 11) rfl (hb hby d1_3) rfl (XT.ll_ge_t hb3_1) (by decide) (by decide) k) ?_
    show Go _ _ _ _ _ _ _ s₁ (mkF m 11 #[.val (.long p1), .second] [])
    refine Go.step (fun t k => XT.lloadN X0.here hx rfl (hb hby d1_11) rfl k) ?_
    show Go _ _ _ _ _ _ _ s₁ (mkF m 12 #[.val (.long p1), .second] [(.long p1)])
    refine Go.ret X0 hx hlk Bd.returns rfl (Or.inr (Or.inl ⟨rfl, rfl, _, rfl⟩)) (hb hby d1_12) ?_ (by decide) (by decide)
    show Q1 Z _ _ _ _ s₁.heap _
    exact ⟨by simp [own_abs, hb3_1], N0, e0⟩
theorem pn_0 : plainName "com/example/limitbook/limitbook/rules/PriceKeys" = true := by first | (simp [plainName, overriddenIn]; done) | decide +kernel
theorem ef_rm2 (m : MethodId) (p1 : Int64) : entryFrame m #[(.long p1)] 2 = mkF m 0 #[.val (.long p1), .second] [] := by first | (simp [entryFrame, mkF, argsToLocals, Value.category]; done) | rfl
def Q2 (Z : State) (p1 : Int64) (h0 : Heap) (n0 : Nat) (v : Option Value) (h : Heap) (L : List Loc) : Prop := v = some (.int (own_at p1)) ∧ Fr n0 L ∧ h = h0
theorem d2_0 : decode prog_86_method_3_code 0 = .ok (.lload_n 0, 1) := by decide +kernel
theorem d2_1 : decode prog_86_method_3_code 1 = .ok (.ldc2_w 30, 3) := by decide +kernel
theorem d2_4 : decode prog_86_method_3_code 4 = .ok (.lcmp, 1) := by decide +kernel
theorem d2_5 : decode prog_86_method_3_code 5 = .ok (.ifCond .eq 11, 3) := by decide +kernel
theorem d2_16 : decode prog_86_method_3_code 16 = .ok (.iconst 1, 1) := by decide +kernel
theorem d2_17 : decode prog_86_method_3_code 17 = .ok (.goto 4, 3) := by decide +kernel
theorem d2_21 : decode prog_86_method_3_code 21 = .ok (.ireturn, 1) := by decide +kernel
theorem d2_8 : decode prog_86_method_3_code 8 = .ok (.lload_n 0, 1) := by decide +kernel
theorem d2_9 : decode prog_86_method_3_code 9 = .ok (.ldc2_w 32, 3) := by decide +kernel
theorem d2_12 : decode prog_86_method_3_code 12 = .ok (.lcmp, 1) := by decide +kernel
theorem d2_13 : decode prog_86_method_3_code 13 = .ok (.ifCond .ne 7, 3) := by decide +kernel
theorem d2_20 : decode prog_86_method_3_code 20 = .ok (.iconst 0, 1) := by decide +kernel
set_option maxRecDepth 65536 in
set_option maxHeartbeats 40000000 in
theorem rm2 (l : Launch) (Z : State) (a0 : Array Value) (hw : ∀ d ∈ tables_1, d.before a0 Z = true) (ws : List Jvm.Cond) (p1 : Int64) (h0 : Heap) (n0 : Nat) (Z0 : n0 ≤ h0.size) :
    MetFree l (⟨"com/example/limitbook/limitbook/rules/PriceKeys", "atBound", "(J)Z"⟩ : MethodName) (head1 (Jvm.Cond.code (⟨"com/example/limitbook/limitbook/rules/PriceKeys", "atBound", "(J)Z"⟩ : MethodName) prog_86_method_3_code 2 (some .boolean) :: ws) ({ frames := 0, cells := 0, slots := 0, locals := 0 } : Room)) (fun a U => a = #[(.long p1)] ∧ Z.Warmed39 U.vm ∧ U.heap = h0) (fun _ _ _ _ _ => True) (fun _ U o U' => ∃ v L, o = .returned v ∧ Q2 Z p1  h0 n0 v U'.heap L ∧ FrameEnd U o U' L ({ frames := 0, cells := 0, slots := 0, locals := 0 } : Room).cells ({ frames := 0, cells := 0, slots := 0, locals := 0 } : Room).slots) := by
  refine MetFree.of_bodySF (plainFor_of_name pn_0) hisR ?_
  intro p e s m args below meth c s₁ Bd hml0 hP hK
  obtain ⟨rfl, hZ, hh⟩ := hP
  have hx := Bd.exec
  have hby := Bd.bytes
  have hlk := BodyLoose.notSynchronized Bd
  have hml : c.maxLocals = 2 := hml0
  have hown : s.vm.findClass "com/example/limitbook/limitbook/rules/PriceKeys" = some m.cls := findClass_of_methodNamed Bd.named
  have hnm := (name_of_methodNamed Bd.named Bd.method).1
  have X0 : Stand p l e ({ frames := 0, cells := 0, slots := 0, locals := 0 } : Room) s m #[(.long p1)] below meth c s₁ [] 0 0 := Stand.of_body Bd
  have e0 : s₁.heap = h0 := by rw [← hh, Bd.state]; rfl
  have N0 := Fr.nil n0
  show Go p e below s ({ frames := 0, cells := 0, slots := 0, locals := 0 } : Room).cells ({ frames := 0, cells := 0, slots := 0, locals := 0 } : Room).slots (Q2 Z p1  h0 n0) s₁ (entryFrame m #[(.long p1)] 2)
  refine Go.cast (ef_rm2 m p1) ?_
  show Go _ _ _ _ _ _ _ s₁ (mkF m 0 #[.val (.long p1), .second] [])
  refine Go.step (fun t k => XT.lloadN X0.here hx rfl (hb hby d2_0) rfl k) ?_
  show Go _ _ _ _ _ _ _ s₁ (mkF m 1 #[.val (.long p1), .second] [(.long p1)])
  refine Go.step (fun t k => X0.ldc2J hx hown (mvT hZ (hw _ (List.mem_of_getElem? (i := 9) rfl))) rfl (hb hby d2_1) k) ?_
  show Go _ _ _ _ _ _ _ s₁ (mkF m 4 #[.val (.long p1), .second] [(.long (1000000000000000000 : Int64)), (.long p1)])
  refine Go.step (fun t k => XT.lcmp X0.here hx rfl (hb hby d2_4) rfl k) ?_
  show Go _ _ _ _ _ _ _ s₁ (mkF m 5 #[.val (.long p1), .second] [(.int (XT.cmpL p1 (1000000000000000000 : Int64)))])
  by_cases hb5_1 : p1 = (1000000000000000000 : Int64)
  · refine Go.step (fun t k => XS.ifYes X0.here hx rfl (pc0 := 5) (pc' := 16) rfl (hb hby d2_5) rfl (XT.ll_eq_t hb5_1) (by decide) (by decide) k) ?_
    show Go _ _ _ _ _ _ _ s₁ (mkF m 16 #[.val (.long p1), .second] [])
    refine Go.step (fun t k => XS.iconst X0.here hx rfl (hb hby d2_16) k) ?_
    show Go _ _ _ _ _ _ _ s₁ (mkF m 17 #[.val (.long p1), .second] [(.int (1 : Int32))])
    refine Go.step (fun t k => XS.goto X0.here hx rfl (pc0 := 17) (pc' := 21) rfl (hb hby d2_17) (by decide) (by decide) k) ?_
    show Go _ _ _ _ _ _ _ s₁ (mkF m 21 #[.val (.long p1), .second] [(.int (1 : Int32))])
    refine Go.ret X0 hx hlk Bd.returns rfl (Or.inl ⟨rfl, Or.inr (Or.inl rfl), _, rfl⟩) (hb hby d2_21) ?_ (by decide) (by decide)
    show Q2 Z _ _ _ _ s₁.heap _
    exact ⟨by simp [own_at, hb5_1], N0, e0⟩
  · refine Go.step (fun t k => XS.ifNo X0.here hx rfl (hb hby d2_5) rfl (XT.ll_eq_f hb5_1) k) ?_
    show Go _ _ _ _ _ _ _ s₁ (mkF m 8 #[.val (.long p1), .second] [])
    refine Go.step (fun t k => XT.lloadN X0.here hx rfl (hb hby d2_8) rfl k) ?_
    show Go _ _ _ _ _ _ _ s₁ (mkF m 9 #[.val (.long p1), .second] [(.long p1)])
    refine Go.step (fun t k => X0.ldc2J hx hown (mvT hZ (hw _ (List.mem_of_getElem? (i := 10) rfl))) rfl (hb hby d2_9) k) ?_
    show Go _ _ _ _ _ _ _ s₁ (mkF m 12 #[.val (.long p1), .second] [(.long (-1000000000000000000 : Int64)), (.long p1)])
    refine Go.step (fun t k => XT.lcmp X0.here hx rfl (hb hby d2_12) rfl k) ?_
    show Go _ _ _ _ _ _ _ s₁ (mkF m 13 #[.val (.long p1), .second] [(.int (XT.cmpL p1 (-1000000000000000000 : Int64)))])
    by_cases hb13_2 : p1 = (-1000000000000000000 : Int64)
    · refine Go.step (fun t k => XS.ifNo X0.here hx rfl (hb hby d2_13) rfl (XT.ll_ne_f hb13_2) k) ?_
      show Go _ _ _ _ _ _ _ s₁ (mkF m 16 #[.val (.long p1), .second] [])
      refine Go.step (fun t k => XS.iconst X0.here hx rfl (hb hby d2_16) k) ?_
      show Go _ _ _ _ _ _ _ s₁ (mkF m 17 #[.val (.long p1), .second] [(.int (1 : Int32))])
      refine Go.step (fun t k => XS.goto X0.here hx rfl (pc0 := 17) (pc' := 21) rfl (hb hby d2_17) (by decide) (by decide) k) ?_
      show Go _ _ _ _ _ _ _ s₁ (mkF m 21 #[.val (.long p1), .second] [(.int (1 : Int32))])
      refine Go.ret X0 hx hlk Bd.returns rfl (Or.inl ⟨rfl, Or.inr (Or.inl rfl), _, rfl⟩) (hb hby d2_21) ?_ (by decide) (by decide)
      show Q2 Z _ _ _ _ s₁.heap _
      exact ⟨by simp [own_at, hb5_1, hb13_2], N0, e0⟩
    · refine Go.step (fun t k => XS.ifYes X0.here hx rfl (pc0 := 13) (pc' := 20) rfl (hb hby d2_13) rfl (XT.ll_ne_t hb13_2) (by decide) (by decide) k) ?_
      show Go _ _ _ _ _ _ _ s₁ (mkF m 20 #[.val (.long p1), .second] [])
      refine Go.step (fun t k => XS.iconst X0.here hx rfl (hb hby d2_20) k) ?_
      show Go _ _ _ _ _ _ _ s₁ (mkF m 21 #[.val (.long p1), .second] [(.int (0 : Int32))])
      refine Go.ret X0 hx hlk Bd.returns rfl (Or.inl ⟨rfl, Or.inr (Or.inl rfl), _, rfl⟩) (hb hby d2_21) ?_ (by decide) (by decide)
      show Q2 Z _ _ _ _ s₁.heap _
      exact ⟨by simp [own_at, hb5_1, hb13_2], N0, e0⟩
theorem pn_1 : plainName "com/example/limitbook/limitbook/rules/PriceKeysAtBoundPinLaw" = true := by first | (simp [plainName, overriddenIn]; done) | decide +kernel
theorem ef_rm0 (m : MethodId) (p1 : Int64) (p2 : Int32) : entryFrame m #[(.long p1), (.int p2)] maxLocals = mkF m 0 #[.val (.long p1), .second, .val (.int p2), .unset, .unset, .unset, .unset, .unset, .unset, .unset, .unset, .unset] [] := by first | (simp [entryFrame, mkF, argsToLocals, Value.category, maxLocals]; done) | rfl
def Q0 (Z : State) (p1 : Int64) (p2 : Int32) (h0 : Heap) (n0 : Nat) (v : Option Value) (h : Heap) (L : List Loc) : Prop := v = some (.int (1 : Int32)) ∧ Fr n0 L
theorem pd_0 : parseMethodDescriptor "(J)J" = some ⟨[.long], some .long⟩ := by decide +kernel
theorem pd_1 : parseMethodDescriptor "(J)Z" = some ⟨[.long], some .boolean⟩ := by decide +kernel
set_option maxRecDepth 65536 in
set_option maxHeartbeats 40000000 in
theorem rm0 (l : Launch) (Z : State) (a0 : Array Value) (hw : ∀ d ∈ tables_1, d.before a0 Z = true) (ws : List Jvm.Cond) (p1 : Int64) (p2 : Int32) (h0 : Heap) (n0 : Nat) (Z0 : n0 ≤ h0.size) :
    MetFree l x (head1 (Jvm.Cond.code x code maxLocals ret :: ws) room_1) (fun a U => a = #[(.long p1), (.int p2)] ∧ Z.Warmed39 U.vm ∧ U.heap = h0) (fun _ _ _ _ _ => True) (fun _ U o U' => ∃ v L, o = .returned v ∧ Q0 Z p1 p2  h0 n0 v U'.heap L ∧ FrameEnd U o U' L room_1.cells room_1.slots) := by
  refine MetFree.of_bodySF (plainFor_of_name pn_1) hisR ?_
  intro p e s m args below meth c s₁ Bd hml0 hP hK
  obtain ⟨rfl, hZ, hh⟩ := hP
  have hx := Bd.exec
  have hby := Bd.bytes
  have hlk := BodyLoose.notSynchronized Bd
  have hml : c.maxLocals = 12 := hml0
  have hown : s.vm.findClass "com/example/limitbook/limitbook/rules/PriceKeysAtBoundPinLaw" = some m.cls := findClass_of_methodNamed Bd.named
  have hnm := (name_of_methodNamed Bd.named Bd.method).1
  have X0 : Stand p l e room_1 s m #[(.long p1), (.int p2)] below meth c s₁ [] 0 0 := Stand.of_body Bd
  have e0 : s₁.heap = h0 := by rw [← hh, Bd.state]; rfl
  have N0 := Fr.nil n0
  show Go p e below s room_1.cells room_1.slots (Q0 Z p1 p2  h0 n0) s₁ (entryFrame m #[(.long p1), (.int p2)] maxLocals)
  refine Go.cast (ef_rm0 m p1 p2) ?_
  show Go _ _ _ _ _ _ _ s₁ (mkF m 0 #[.val (.long p1), .second, .val (.int p2), .unset, .unset, .unset, .unset, .unset, .unset, .unset, .unset, .unset] [])
  refine Go.step (fun t k => XS.iloadN X0.here hx rfl (hb hby at_0) rfl k) ?_
  show Go _ _ _ _ _ _ _ s₁ (mkF m 1 #[.val (.long p1), .second, .val (.int p2), .unset, .unset, .unset, .unset, .unset, .unset, .unset, .unset, .unset] [(.int p2)])
  refine Go.step (fun t k => XS.bipush X0.here hx rfl (hb hby at_1) k) ?_
  show Go _ _ _ _ _ _ _ s₁ (mkF m 3 #[.val (.long p1), .second, .val (.int p2), .unset, .unset, .unset, .unset, .unset, .unset, .unset, .unset, .unset] [(.int (7 : Int32)), (.int p2)])
  refine Go.step (fun t k => XS.iand X0.here hx rfl (hb hby at_3) rfl k) ?_
  show Go _ _ _ _ _ _ _ s₁ (mkF m 4 #[.val (.long p1), .second, .val (.int p2), .unset, .unset, .unset, .unset, .unset, .unset, .unset, .unset, .unset] [(.int (p2 &&& (7 : Int32)))])
  refine Go.step (fun t k => XS.iconst X0.here hx rfl (hb hby at_4) k) ?_
  show Go _ _ _ _ _ _ _ s₁ (mkF m 5 #[.val (.long p1), .second, .val (.int p2), .unset, .unset, .unset, .unset, .unset, .unset, .unset, .unset, .unset] [(.int (3 : Int32)), (.int (p2 &&& (7 : Int32)))])
  refine Go.step (fun t k => XS.isub X0.here hx rfl (hb hby at_5) rfl k) ?_
  show Go _ _ _ _ _ _ _ s₁ (mkF m 6 #[.val (.long p1), .second, .val (.int p2), .unset, .unset, .unset, .unset, .unset, .unset, .unset, .unset, .unset] [(.int ((p2 &&& (7 : Int32)) - (3 : Int32)))])
  generalize ho1 : ((p2 &&& (7 : Int32)) - (3 : Int32)) = o1
  show Go _ _ _ _ _ _ _ s₁ (mkF m 6 #[.val (.long p1), .second, .val (.int p2), .unset, .unset, .unset, .unset, .unset, .unset, .unset, .unset, .unset] [(.int o1)])
  refine Go.step (fun t k => XS.istoreN X0.here hx rfl (hb hby at_6) rfl (l' := #[.val (.long p1), .second, .val (.int p2), .val (.int o1), .unset, .unset, .unset, .unset, .unset, .unset, .unset, .unset]) rfl k) ?_
  show Go _ _ _ _ _ _ _ s₁ (mkF m 7 #[.val (.long p1), .second, .val (.int p2), .val (.int o1), .unset, .unset, .unset, .unset, .unset, .unset, .unset, .unset] [])
  have ho1r : -3 ≤ o1.toInt ∧ o1.toInt ≤ 4 := by rw [← ho1]; exact own_off _
  refine Go.step (fun t k => X0.ldc2J hx hown (mvT hZ (hw _ (List.mem_of_getElem? (i := 0) rfl))) rfl (hb hby at_7) k) ?_
  show Go _ _ _ _ _ _ _ s₁ (mkF m 10 #[.val (.long p1), .second, .val (.int p2), .val (.int o1), .unset, .unset, .unset, .unset, .unset, .unset, .unset, .unset] [(.long (1000000000000000000 : Int64))])
  refine Go.step (fun t k => XS.iloadN X0.here hx rfl (hb hby at_10) rfl k) ?_
  show Go _ _ _ _ _ _ _ s₁ (mkF m 11 #[.val (.long p1), .second, .val (.int p2), .val (.int o1), .unset, .unset, .unset, .unset, .unset, .unset, .unset, .unset] [(.int o1), (.long (1000000000000000000 : Int64))])
  refine Go.step (fun t k => XT.i2l X0.here hx rfl (hb hby at_11) rfl k) ?_
  show Go _ _ _ _ _ _ _ s₁ (mkF m 12 #[.val (.long p1), .second, .val (.int p2), .val (.int o1), .unset, .unset, .unset, .unset, .unset, .unset, .unset, .unset] [(.long (o1.toInt64)), (.long (1000000000000000000 : Int64))])
  refine Go.step (fun t k => XT.ladd X0.here hx rfl (hb hby at_12) rfl k) ?_
  show Go _ _ _ _ _ _ _ s₁ (mkF m 13 #[.val (.long p1), .second, .val (.int p2), .val (.int o1), .unset, .unset, .unset, .unset, .unset, .unset, .unset, .unset] [(.long ((1000000000000000000 : Int64) + (o1.toInt64)))])
  refine Go.step (fun t k => XT.lstore X0.here hx rfl (hb hby at_13) rfl (l' := #[.val (.long p1), .second, .val (.int p2), .val (.int o1), .val (.long ((1000000000000000000 : Int64) + (o1.toInt64))), .second, .unset, .unset, .unset, .unset, .unset, .unset]) rfl k) ?_
  show Go _ _ _ _ _ _ _ s₁ (mkF m 15 #[.val (.long p1), .second, .val (.int p2), .val (.int o1), .val (.long ((1000000000000000000 : Int64) + (o1.toInt64))), .second, .unset, .unset, .unset, .unset, .unset, .unset] [])
  refine Go.step (fun t k => XS.iloadN X0.here hx rfl (hb hby at_15) rfl k) ?_
  show Go _ _ _ _ _ _ _ s₁ (mkF m 16 #[.val (.long p1), .second, .val (.int p2), .val (.int o1), .val (.long ((1000000000000000000 : Int64) + (o1.toInt64))), .second, .unset, .unset, .unset, .unset, .unset, .unset] [(.int p2)])
  refine Go.step (fun t k => XS.bipush X0.here hx rfl (hb hby at_16) k) ?_
  show Go _ _ _ _ _ _ _ s₁ (mkF m 18 #[.val (.long p1), .second, .val (.int p2), .val (.int o1), .val (.long ((1000000000000000000 : Int64) + (o1.toInt64))), .second, .unset, .unset, .unset, .unset, .unset, .unset] [(.int (8 : Int32)), (.int p2)])
  refine Go.step (fun t k => XS.iand X0.here hx rfl (hb hby at_18) rfl k) ?_
  show Go _ _ _ _ _ _ _ s₁ (mkF m 19 #[.val (.long p1), .second, .val (.int p2), .val (.int o1), .val (.long ((1000000000000000000 : Int64) + (o1.toInt64))), .second, .unset, .unset, .unset, .unset, .unset, .unset] [(.int (p2 &&& (8 : Int32)))])
  by_cases hb19_1 : (p2 &&& (8 : Int32)) = (0 : Int32)
  · refine Go.step (fun t k => XS.ifYes X0.here hx rfl (pc0 := 19) (pc' := 28) rfl (hb hby at_19) rfl (XT.i0_eq_t hb19_1) (by decide) (by decide) k) ?_
    show Go _ _ _ _ _ _ _ s₁ (mkF m 28 #[.val (.long p1), .second, .val (.int p2), .val (.int o1), .val (.long ((1000000000000000000 : Int64) + (o1.toInt64))), .second, .unset, .unset, .unset, .unset, .unset, .unset] [])
    refine Go.step (fun t k => XT.lload X0.here hx rfl (hb hby at_28) rfl k) ?_
    show Go _ _ _ _ _ _ _ s₁ (mkF m 30 #[.val (.long p1), .second, .val (.int p2), .val (.int o1), .val (.long ((1000000000000000000 : Int64) + (o1.toInt64))), .second, .unset, .unset, .unset, .unset, .unset, .unset] [(.long ((1000000000000000000 : Int64) + (o1.toInt64)))])
    refine Go.step (fun t k => XT.lstore X0.here hx rfl (hb hby at_30) rfl (l' := #[.val (.long p1), .second, .val (.int p2), .val (.int o1), .val (.long ((1000000000000000000 : Int64) + (o1.toInt64))), .second, .val (.long ((1000000000000000000 : Int64) + (o1.toInt64))), .second, .unset, .unset, .unset, .unset]) rfl k) ?_
    show Go _ _ _ _ _ _ _ s₁ (mkF m 32 #[.val (.long p1), .second, .val (.int p2), .val (.int o1), .val (.long ((1000000000000000000 : Int64) + (o1.toInt64))), .second, .val (.long ((1000000000000000000 : Int64) + (o1.toInt64))), .second, .unset, .unset, .unset, .unset] [])
    refine Go.step (fun t k => XS.iloadN X0.here hx rfl (hb hby at_32) rfl k) ?_
    show Go _ _ _ _ _ _ _ s₁ (mkF m 33 #[.val (.long p1), .second, .val (.int p2), .val (.int o1), .val (.long ((1000000000000000000 : Int64) + (o1.toInt64))), .second, .val (.long ((1000000000000000000 : Int64) + (o1.toInt64))), .second, .unset, .unset, .unset, .unset] [(.int o1)])
    by_cases hb33_2 : o1 = (0 : Int32)
    · refine Go.step (fun t k => XS.ifNo X0.here hx rfl (hb hby at_33) rfl (XT.i0_ne_f hb33_2) k) ?_
      show Go _ _ _ _ _ _ _ s₁ (mkF m 36 #[.val (.long p1), .second, .val (.int p2), .val (.int o1), .val (.long ((1000000000000000000 : Int64) + (o1.toInt64))), .second, .val (.long ((1000000000000000000 : Int64) + (o1.toInt64))), .second, .unset, .unset, .unset, .unset] [])
      refine Go.step (fun t k => XS.iconst X0.here hx rfl (hb hby at_36) k) ?_
      show Go _ _ _ _ _ _ _ s₁ (mkF m 37 #[.val (.long p1), .second, .val (.int p2), .val (.int o1), .val (.long ((1000000000000000000 : Int64) + (o1.toInt64))), .second, .val (.long ((1000000000000000000 : Int64) + (o1.toInt64))), .second, .unset, .unset, .unset, .unset] [(.int (1 : Int32))])
      refine Go.step (fun t k => XS.goto X0.here hx rfl (pc0 := 37) (pc' := 41) rfl (hb hby at_37) (by decide) (by decide) k) ?_
      show Go _ _ _ _ _ _ _ s₁ (mkF m 41 #[.val (.long p1), .second, .val (.int p2), .val (.int o1), .val (.long ((1000000000000000000 : Int64) + (o1.toInt64))), .second, .val (.long ((1000000000000000000 : Int64) + (o1.toInt64))), .second, .unset, .unset, .unset, .unset] [(.int (1 : Int32))])
      refine Go.step (fun t k => XS.istore X0.here hx rfl (hb hby at_41) rfl (l' := #[.val (.long p1), .second, .val (.int p2), .val (.int o1), .val (.long ((1000000000000000000 : Int64) + (o1.toInt64))), .second, .val (.long ((1000000000000000000 : Int64) + (o1.toInt64))), .second, .val (.int (1 : Int32)), .unset, .unset, .unset]) rfl k) ?_
      show Go _ _ _ _ _ _ _ s₁ (mkF m 43 #[.val (.long p1), .second, .val (.int p2), .val (.int o1), .val (.long ((1000000000000000000 : Int64) + (o1.toInt64))), .second, .val (.long ((1000000000000000000 : Int64) + (o1.toInt64))), .second, .val (.int (1 : Int32)), .unset, .unset, .unset] [])
      refine Go.step (fun t k => XT.lloadN X0.here hx rfl (hb hby at_43) rfl k) ?_
      show Go _ _ _ _ _ _ _ s₁ (mkF m 44 #[.val (.long p1), .second, .val (.int p2), .val (.int o1), .val (.long ((1000000000000000000 : Int64) + (o1.toInt64))), .second, .val (.long ((1000000000000000000 : Int64) + (o1.toInt64))), .second, .val (.int (1 : Int32)), .unset, .unset, .unset] [(.long p1)])
      obtain ⟨_, _, ⟨T3, L3, k3, n3⟩, -, X3, ⟨Lc3, hQ3, l3, y3, z3⟩, st3⟩ := Jvm.LawKit.callS X0 hx (y := (⟨"java/lang/Math", "abs", "(J)J"⟩ : MethodName)) hown (mvT hZ (hw _ (List.mem_of_getElem? (i := 1) rfl))) (mvT hZ (hw _ (List.mem_of_getElem? (i := 2) rfl))) (mvT hZ (hw _ (List.mem_of_getElem? (i := 3) rfl))) (mvT hZ (hw _ (List.mem_of_getElem? (i := 4) rfl))) (by decide) (backOf (W := 0) (rm1 l Z a0 hw [] p1 h0 n0 Z0 ) hZ (hw _ (List.mem_of_getElem? (i := 4) rfl)) (hw _ (List.mem_of_getElem? (i := 3) rfl)) (by decide) (by decide)) (g := (mkF m 44 #[.val (.long p1), .second, .val (.int p2), .val (.int o1), .val (.long ((1000000000000000000 : Int64) + (o1.toInt64))), .second, .val (.long ((1000000000000000000 : Int64) + (o1.toInt64))), .second, .val (.int (1 : Int32)), .unset, .unset, .unset] [(.long p1)])) rfl (by rw [hml]; rfl) (argsL := [(.long p1)]) (rest := []) (lenOf pd_0 rfl) rfl (by show 2 * 0 + _ ≤ _; exact Nat.le_of_eq rfl) (hb hby at_44) (fun _ _ => ⟨rfl, e0, (by decide : 0 + 0 ≤ _), (by decide : 0 + 0 ≤ _)⟩)
      dsimp only [Pt.U, Pt.locs, Pt.cells, Pt.slots] at X3 l3 y3 z3 st3 hQ3
      subst l3 y3 z3
      obtain ⟨rfl, N3q, e3⟩ := hQ3
      have N3 := Fr.app N0 N3q
      refine Go.step st3 ?_
      show Go _ _ _ _ _ _ _ T3 (mkF m 47 #[.val (.long p1), .second, .val (.int p2), .val (.int o1), .val (.long ((1000000000000000000 : Int64) + (o1.toInt64))), .second, .val (.long ((1000000000000000000 : Int64) + (o1.toInt64))), .second, .val (.int (1 : Int32)), .unset, .unset, .unset] [(.long (own_abs p1))])
      refine Go.step (fun t k => X3.ldc2J hx hown (mvT hZ (hw _ (List.mem_of_getElem? (i := 0) rfl))) rfl (hb hby at_47) k) ?_
      show Go _ _ _ _ _ _ _ T3 (mkF m 50 #[.val (.long p1), .second, .val (.int p2), .val (.int o1), .val (.long ((1000000000000000000 : Int64) + (o1.toInt64))), .second, .val (.long ((1000000000000000000 : Int64) + (o1.toInt64))), .second, .val (.int (1 : Int32)), .unset, .unset, .unset] [(.long (1000000000000000000 : Int64)), (.long (own_abs p1))])
      refine Go.step (fun t k => XT.lcmp X3.here hx rfl (hb hby at_50) rfl k) ?_
      show Go _ _ _ _ _ _ _ T3 (mkF m 51 #[.val (.long p1), .second, .val (.int p2), .val (.int o1), .val (.long ((1000000000000000000 : Int64) + (o1.toInt64))), .second, .val (.long ((1000000000000000000 : Int64) + (o1.toInt64))), .second, .val (.int (1 : Int32)), .unset, .unset, .unset] [(.int (XT.cmpL (own_abs p1) (1000000000000000000 : Int64)))])
      by_cases hb51_4 : (own_abs p1) = (1000000000000000000 : Int64)
      · refine Go.step (fun t k => XS.ifNo X3.here hx rfl (hb hby at_51) rfl (XT.ll_ne_f hb51_4) k) ?_
        show Go _ _ _ _ _ _ _ T3 (mkF m 54 #[.val (.long p1), .second, .val (.int p2), .val (.int o1), .val (.long ((1000000000000000000 : Int64) + (o1.toInt64))), .second, .val (.long ((1000000000000000000 : Int64) + (o1.toInt64))), .second, .val (.int (1 : Int32)), .unset, .unset, .unset] [])
        refine Go.step (fun t k => XS.iconst X3.here hx rfl (hb hby at_54) k) ?_
        show Go _ _ _ _ _ _ _ T3 (mkF m 55 #[.val (.long p1), .second, .val (.int p2), .val (.int o1), .val (.long ((1000000000000000000 : Int64) + (o1.toInt64))), .second, .val (.long ((1000000000000000000 : Int64) + (o1.toInt64))), .second, .val (.int (1 : Int32)), .unset, .unset, .unset] [(.int (1 : Int32))])
        refine Go.step (fun t k => XS.goto X3.here hx rfl (pc0 := 55) (pc' := 59) rfl (hb hby at_55) (by decide) (by decide) k) ?_
        show Go _ _ _ _ _ _ _ T3 (mkF m 59 #[.val (.long p1), .second, .val (.int p2), .val (.int o1), .val (.long ((1000000000000000000 : Int64) + (o1.toInt64))), .second, .val (.long ((1000000000000000000 : Int64) + (o1.toInt64))), .second, .val (.int (1 : Int32)), .unset, .unset, .unset] [(.int (1 : Int32))])
        refine Go.step (fun t k => XS.istore X3.here hx rfl (hb hby at_59) rfl (l' := #[.val (.long p1), .second, .val (.int p2), .val (.int o1), .val (.long ((1000000000000000000 : Int64) + (o1.toInt64))), .second, .val (.long ((1000000000000000000 : Int64) + (o1.toInt64))), .second, .val (.int (1 : Int32)), .val (.int (1 : Int32)), .unset, .unset]) rfl k) ?_
        show Go _ _ _ _ _ _ _ T3 (mkF m 61 #[.val (.long p1), .second, .val (.int p2), .val (.int o1), .val (.long ((1000000000000000000 : Int64) + (o1.toInt64))), .second, .val (.long ((1000000000000000000 : Int64) + (o1.toInt64))), .second, .val (.int (1 : Int32)), .val (.int (1 : Int32)), .unset, .unset] [])
        refine Go.step (fun t k => XT.lloadN X3.here hx rfl (hb hby at_61) rfl k) ?_
        show Go _ _ _ _ _ _ _ T3 (mkF m 62 #[.val (.long p1), .second, .val (.int p2), .val (.int o1), .val (.long ((1000000000000000000 : Int64) + (o1.toInt64))), .second, .val (.long ((1000000000000000000 : Int64) + (o1.toInt64))), .second, .val (.int (1 : Int32)), .val (.int (1 : Int32)), .unset, .unset] [(.long p1)])
        obtain ⟨_, _, ⟨T5, L5, k5, n5⟩, -, X5, ⟨Lc5, hQ5, l5, y5, z5⟩, st5⟩ := Jvm.LawKit.callS X3 hx (y := (⟨"com/example/limitbook/limitbook/rules/PriceKeys", "atBound", "(J)Z"⟩ : MethodName)) hown (mvT hZ (hw _ (List.mem_of_getElem? (i := 5) rfl))) (mvT hZ (hw _ (List.mem_of_getElem? (i := 6) rfl))) (mvT hZ (hw _ (List.mem_of_getElem? (i := 7) rfl))) (mvT hZ (hw _ (List.mem_of_getElem? (i := 8) rfl))) (by decide) (backOf (W := 0) (rm2 l Z a0 hw [] p1 h0 n0 Z0 ) hZ (hw _ (List.mem_of_getElem? (i := 8) rfl)) (hw _ (List.mem_of_getElem? (i := 7) rfl)) (by decide) (by decide)) (g := (mkF m 62 #[.val (.long p1), .second, .val (.int p2), .val (.int o1), .val (.long ((1000000000000000000 : Int64) + (o1.toInt64))), .second, .val (.long ((1000000000000000000 : Int64) + (o1.toInt64))), .second, .val (.int (1 : Int32)), .val (.int (1 : Int32)), .unset, .unset] [(.long p1)])) rfl (by rw [hml]; rfl) (argsL := [(.long p1)]) (rest := []) (lenOf pd_1 rfl) rfl (by show 2 * 0 + _ ≤ _; exact Nat.le_of_eq rfl) (hb hby at_62) (fun _ _ => ⟨rfl, (e3), (by decide : 0 + 0 + 0 ≤ _), (by decide : 0 + 0 + 0 ≤ _)⟩)
        dsimp only [Pt.U, Pt.locs, Pt.cells, Pt.slots] at X5 l5 y5 z5 st5 hQ5
        subst l5 y5 z5
        obtain ⟨rfl, N5q, e5⟩ := hQ5
        have N5 := Fr.app N3 N5q
        refine Go.step st5 ?_
        show Go _ _ _ _ _ _ _ T5 (mkF m 65 #[.val (.long p1), .second, .val (.int p2), .val (.int o1), .val (.long ((1000000000000000000 : Int64) + (o1.toInt64))), .second, .val (.long ((1000000000000000000 : Int64) + (o1.toInt64))), .second, .val (.int (1 : Int32)), .val (.int (1 : Int32)), .unset, .unset] [(.int (own_at p1))])
        refine Go.step (fun t k => XS.iload X5.here hx rfl (hb hby at_65) rfl k) ?_
        show Go _ _ _ _ _ _ _ T5 (mkF m 67 #[.val (.long p1), .second, .val (.int p2), .val (.int o1), .val (.long ((1000000000000000000 : Int64) + (o1.toInt64))), .second, .val (.long ((1000000000000000000 : Int64) + (o1.toInt64))), .second, .val (.int (1 : Int32)), .val (.int (1 : Int32)), .unset, .unset] [(.int (1 : Int32)), (.int (own_at p1))])
        have hb67_6 : (own_at p1) = (1 : Int32) := by first | exact own_k1 hb51_4 | exact own_k0 hb51_4
        refine Go.step (fun t k => XS.icmpNo X5.here hx rfl (hb hby at_67) rfl (XT.ii_ne_f hb67_6) k) ?_
        show Go _ _ _ _ _ _ _ T5 (mkF m 70 #[.val (.long p1), .second, .val (.int p2), .val (.int o1), .val (.long ((1000000000000000000 : Int64) + (o1.toInt64))), .second, .val (.long ((1000000000000000000 : Int64) + (o1.toInt64))), .second, .val (.int (1 : Int32)), .val (.int (1 : Int32)), .unset, .unset] [])
        refine Go.step (fun t k => XS.iconst X5.here hx rfl (hb hby at_70) k) ?_
        show Go _ _ _ _ _ _ _ T5 (mkF m 71 #[.val (.long p1), .second, .val (.int p2), .val (.int o1), .val (.long ((1000000000000000000 : Int64) + (o1.toInt64))), .second, .val (.long ((1000000000000000000 : Int64) + (o1.toInt64))), .second, .val (.int (1 : Int32)), .val (.int (1 : Int32)), .unset, .unset] [(.int (1 : Int32))])
        refine Go.step (fun t k => XS.goto X5.here hx rfl (pc0 := 71) (pc' := 75) rfl (hb hby at_71) (by decide) (by decide) k) ?_
        show Go _ _ _ _ _ _ _ T5 (mkF m 75 #[.val (.long p1), .second, .val (.int p2), .val (.int o1), .val (.long ((1000000000000000000 : Int64) + (o1.toInt64))), .second, .val (.long ((1000000000000000000 : Int64) + (o1.toInt64))), .second, .val (.int (1 : Int32)), .val (.int (1 : Int32)), .unset, .unset] [(.int (1 : Int32))])
        refine Go.step (fun t k => XS.istore X5.here hx rfl (hb hby at_75) rfl (l' := #[.val (.long p1), .second, .val (.int p2), .val (.int o1), .val (.long ((1000000000000000000 : Int64) + (o1.toInt64))), .second, .val (.long ((1000000000000000000 : Int64) + (o1.toInt64))), .second, .val (.int (1 : Int32)), .val (.int (1 : Int32)), .val (.int (1 : Int32)), .unset]) rfl k) ?_
        show Go _ _ _ _ _ _ _ T5 (mkF m 77 #[.val (.long p1), .second, .val (.int p2), .val (.int o1), .val (.long ((1000000000000000000 : Int64) + (o1.toInt64))), .second, .val (.long ((1000000000000000000 : Int64) + (o1.toInt64))), .second, .val (.int (1 : Int32)), .val (.int (1 : Int32)), .val (.int (1 : Int32)), .unset] [])
        refine Go.step (fun t k => XT.lload X5.here hx rfl (hb hby at_77) rfl k) ?_
        show Go _ _ _ _ _ _ _ T5 (mkF m 79 #[.val (.long p1), .second, .val (.int p2), .val (.int o1), .val (.long ((1000000000000000000 : Int64) + (o1.toInt64))), .second, .val (.long ((1000000000000000000 : Int64) + (o1.toInt64))), .second, .val (.int (1 : Int32)), .val (.int (1 : Int32)), .val (.int (1 : Int32)), .unset] [(.long ((1000000000000000000 : Int64) + (o1.toInt64)))])
        obtain ⟨_, _, ⟨T7, L7, k7, n7⟩, -, X7, ⟨Lc7, hQ7, l7, y7, z7⟩, st7⟩ := Jvm.LawKit.callS X5 hx (y := (⟨"com/example/limitbook/limitbook/rules/PriceKeys", "atBound", "(J)Z"⟩ : MethodName)) hown (mvT hZ (hw _ (List.mem_of_getElem? (i := 5) rfl))) (mvT hZ (hw _ (List.mem_of_getElem? (i := 6) rfl))) (mvT hZ (hw _ (List.mem_of_getElem? (i := 7) rfl))) (mvT hZ (hw _ (List.mem_of_getElem? (i := 8) rfl))) (by decide) (backOf (W := 0) (rm2 l Z a0 hw [] ((1000000000000000000 : Int64) + (o1.toInt64)) h0 n0 Z0 ) hZ (hw _ (List.mem_of_getElem? (i := 8) rfl)) (hw _ (List.mem_of_getElem? (i := 7) rfl)) (by decide) (by decide)) (g := (mkF m 79 #[.val (.long p1), .second, .val (.int p2), .val (.int o1), .val (.long ((1000000000000000000 : Int64) + (o1.toInt64))), .second, .val (.long ((1000000000000000000 : Int64) + (o1.toInt64))), .second, .val (.int (1 : Int32)), .val (.int (1 : Int32)), .val (.int (1 : Int32)), .unset] [(.long ((1000000000000000000 : Int64) + (o1.toInt64)))])) rfl (by rw [hml]; rfl) (argsL := [(.long ((1000000000000000000 : Int64) + (o1.toInt64)))]) (rest := []) (lenOf pd_1 rfl) rfl (by show 2 * 0 + _ ≤ _; exact Nat.le_of_eq rfl) (hb hby at_79) (fun _ _ => ⟨rfl, (e5), (by decide : 0 + 0 + 0 + 0 ≤ _), (by decide : 0 + 0 + 0 + 0 ≤ _)⟩)
        dsimp only [Pt.U, Pt.locs, Pt.cells, Pt.slots] at X7 l7 y7 z7 st7 hQ7
        subst l7 y7 z7
        obtain ⟨rfl, N7q, e7⟩ := hQ7
        have N7 := Fr.app N5 N7q
        refine Go.step st7 ?_
        show Go _ _ _ _ _ _ _ T7 (mkF m 82 #[.val (.long p1), .second, .val (.int p2), .val (.int o1), .val (.long ((1000000000000000000 : Int64) + (o1.toInt64))), .second, .val (.long ((1000000000000000000 : Int64) + (o1.toInt64))), .second, .val (.int (1 : Int32)), .val (.int (1 : Int32)), .val (.int (1 : Int32)), .unset] [(.int (own_at ((1000000000000000000 : Int64) + (o1.toInt64))))])
        refine Go.step (fun t k => XS.iload X7.here hx rfl (hb hby at_82) rfl k) ?_
        show Go _ _ _ _ _ _ _ T7 (mkF m 84 #[.val (.long p1), .second, .val (.int p2), .val (.int o1), .val (.long ((1000000000000000000 : Int64) + (o1.toInt64))), .second, .val (.long ((1000000000000000000 : Int64) + (o1.toInt64))), .second, .val (.int (1 : Int32)), .val (.int (1 : Int32)), .val (.int (1 : Int32)), .unset] [(.int (1 : Int32)), (.int (own_at ((1000000000000000000 : Int64) + (o1.toInt64))))])
        have hb84_8 : (own_at ((1000000000000000000 : Int64) + (o1.toInt64))) = (1 : Int32) := by first | exact (own_n1 hb33_2).1 | exact (own_n1 hb33_2).2 | exact (own_n0 ho1r hb33_2).1 | exact (own_n0 ho1r hb33_2).2
        refine Go.step (fun t k => XS.icmpNo X7.here hx rfl (hb hby at_84) rfl (XT.ii_ne_f hb84_8) k) ?_
        show Go _ _ _ _ _ _ _ T7 (mkF m 87 #[.val (.long p1), .second, .val (.int p2), .val (.int o1), .val (.long ((1000000000000000000 : Int64) + (o1.toInt64))), .second, .val (.long ((1000000000000000000 : Int64) + (o1.toInt64))), .second, .val (.int (1 : Int32)), .val (.int (1 : Int32)), .val (.int (1 : Int32)), .unset] [])
        refine Go.step (fun t k => XS.iconst X7.here hx rfl (hb hby at_87) k) ?_
        show Go _ _ _ _ _ _ _ T7 (mkF m 88 #[.val (.long p1), .second, .val (.int p2), .val (.int o1), .val (.long ((1000000000000000000 : Int64) + (o1.toInt64))), .second, .val (.long ((1000000000000000000 : Int64) + (o1.toInt64))), .second, .val (.int (1 : Int32)), .val (.int (1 : Int32)), .val (.int (1 : Int32)), .unset] [(.int (1 : Int32))])
        refine Go.step (fun t k => XS.goto X7.here hx rfl (pc0 := 88) (pc' := 92) rfl (hb hby at_88) (by decide) (by decide) k) ?_
        show Go _ _ _ _ _ _ _ T7 (mkF m 92 #[.val (.long p1), .second, .val (.int p2), .val (.int o1), .val (.long ((1000000000000000000 : Int64) + (o1.toInt64))), .second, .val (.long ((1000000000000000000 : Int64) + (o1.toInt64))), .second, .val (.int (1 : Int32)), .val (.int (1 : Int32)), .val (.int (1 : Int32)), .unset] [(.int (1 : Int32))])
        refine Go.step (fun t k => XS.istore X7.here hx rfl (hb hby at_92) rfl (l' := #[.val (.long p1), .second, .val (.int p2), .val (.int o1), .val (.long ((1000000000000000000 : Int64) + (o1.toInt64))), .second, .val (.long ((1000000000000000000 : Int64) + (o1.toInt64))), .second, .val (.int (1 : Int32)), .val (.int (1 : Int32)), .val (.int (1 : Int32)), .val (.int (1 : Int32))]) rfl k) ?_
        show Go _ _ _ _ _ _ _ T7 (mkF m 94 #[.val (.long p1), .second, .val (.int p2), .val (.int o1), .val (.long ((1000000000000000000 : Int64) + (o1.toInt64))), .second, .val (.long ((1000000000000000000 : Int64) + (o1.toInt64))), .second, .val (.int (1 : Int32)), .val (.int (1 : Int32)), .val (.int (1 : Int32)), .val (.int (1 : Int32))] [])
        refine Go.step (fun t k => XS.iload X7.here hx rfl (hb hby at_94) rfl k) ?_
        show Go _ _ _ _ _ _ _ T7 (mkF m 96 #[.val (.long p1), .second, .val (.int p2), .val (.int o1), .val (.long ((1000000000000000000 : Int64) + (o1.toInt64))), .second, .val (.long ((1000000000000000000 : Int64) + (o1.toInt64))), .second, .val (.int (1 : Int32)), .val (.int (1 : Int32)), .val (.int (1 : Int32)), .val (.int (1 : Int32))] [(.int (1 : Int32))])
        have hb96_9 : ¬ ((1 : Int32) = (0 : Int32)) := by decide
        refine Go.step (fun t k => XS.ifNo X7.here hx rfl (hb hby at_96) rfl (XT.i0_eq_f hb96_9) k) ?_
        show Go _ _ _ _ _ _ _ T7 (mkF m 99 #[.val (.long p1), .second, .val (.int p2), .val (.int o1), .val (.long ((1000000000000000000 : Int64) + (o1.toInt64))), .second, .val (.long ((1000000000000000000 : Int64) + (o1.toInt64))), .second, .val (.int (1 : Int32)), .val (.int (1 : Int32)), .val (.int (1 : Int32)), .val (.int (1 : Int32))] [])
        refine Go.step (fun t k => XS.iload X7.here hx rfl (hb hby at_99) rfl k) ?_
        show Go _ _ _ _ _ _ _ T7 (mkF m 101 #[.val (.long p1), .second, .val (.int p2), .val (.int o1), .val (.long ((1000000000000000000 : Int64) + (o1.toInt64))), .second, .val (.long ((1000000000000000000 : Int64) + (o1.toInt64))), .second, .val (.int (1 : Int32)), .val (.int (1 : Int32)), .val (.int (1 : Int32)), .val (.int (1 : Int32))] [(.int (1 : Int32))])
        have hb101_10 : ¬ ((1 : Int32) = (0 : Int32)) := by decide
        refine Go.step (fun t k => XS.ifNo X7.here hx rfl (hb hby at_101) rfl (XT.i0_eq_f hb101_10) k) ?_
        show Go _ _ _ _ _ _ _ T7 (mkF m 104 #[.val (.long p1), .second, .val (.int p2), .val (.int o1), .val (.long ((1000000000000000000 : Int64) + (o1.toInt64))), .second, .val (.long ((1000000000000000000 : Int64) + (o1.toInt64))), .second, .val (.int (1 : Int32)), .val (.int (1 : Int32)), .val (.int (1 : Int32)), .val (.int (1 : Int32))] [])
        refine Go.step (fun t k => XS.iconst X7.here hx rfl (hb hby at_104) k) ?_
        show Go _ _ _ _ _ _ _ T7 (mkF m 105 #[.val (.long p1), .second, .val (.int p2), .val (.int o1), .val (.long ((1000000000000000000 : Int64) + (o1.toInt64))), .second, .val (.long ((1000000000000000000 : Int64) + (o1.toInt64))), .second, .val (.int (1 : Int32)), .val (.int (1 : Int32)), .val (.int (1 : Int32)), .val (.int (1 : Int32))] [(.int (1 : Int32))])
        refine Go.step (fun t k => XS.goto X7.here hx rfl (pc0 := 105) (pc' := 109) rfl (hb hby at_105) (by decide) (by decide) k) ?_
        show Go _ _ _ _ _ _ _ T7 (mkF m 109 #[.val (.long p1), .second, .val (.int p2), .val (.int o1), .val (.long ((1000000000000000000 : Int64) + (o1.toInt64))), .second, .val (.long ((1000000000000000000 : Int64) + (o1.toInt64))), .second, .val (.int (1 : Int32)), .val (.int (1 : Int32)), .val (.int (1 : Int32)), .val (.int (1 : Int32))] [(.int (1 : Int32))])
        refine Go.ret X7 hx hlk Bd.returns rfl (Or.inl ⟨rfl, Or.inr (Or.inl rfl), _, rfl⟩) (hb hby at_109) ?_ (by decide) (by decide)
        show Q0 Z _ _ _ _ _ T7.heap _
        exact ⟨rfl, N7⟩
      · refine Go.step (fun t k => XS.ifYes X3.here hx rfl (pc0 := 51) (pc' := 58) rfl (hb hby at_51) rfl (XT.ll_ne_t hb51_4) (by decide) (by decide) k) ?_
        show Go _ _ _ _ _ _ _ T3 (mkF m 58 #[.val (.long p1), .second, .val (.int p2), .val (.int o1), .val (.long ((1000000000000000000 : Int64) + (o1.toInt64))), .second, .val (.long ((1000000000000000000 : Int64) + (o1.toInt64))), .second, .val (.int (1 : Int32)), .unset, .unset, .unset] [])
        refine Go.step (fun t k => XS.iconst X3.here hx rfl (hb hby at_58) k) ?_
        show Go _ _ _ _ _ _ _ T3 (mkF m 59 #[.val (.long p1), .second, .val (.int p2), .val (.int o1), .val (.long ((1000000000000000000 : Int64) + (o1.toInt64))), .second, .val (.long ((1000000000000000000 : Int64) + (o1.toInt64))), .second, .val (.int (1 : Int32)), .unset, .unset, .unset] [(.int (0 : Int32))])
        refine Go.step (fun t k => XS.istore X3.here hx rfl (hb hby at_59) rfl (l' := #[.val (.long p1), .second, .val (.int p2), .val (.int o1), .val (.long ((1000000000000000000 : Int64) + (o1.toInt64))), .second, .val (.long ((1000000000000000000 : Int64) + (o1.toInt64))), .second, .val (.int (1 : Int32)), .val (.int (0 : Int32)), .unset, .unset]) rfl k) ?_
        show Go _ _ _ _ _ _ _ T3 (mkF m 61 #[.val (.long p1), .second, .val (.int p2), .val (.int o1), .val (.long ((1000000000000000000 : Int64) + (o1.toInt64))), .second, .val (.long ((1000000000000000000 : Int64) + (o1.toInt64))), .second, .val (.int (1 : Int32)), .val (.int (0 : Int32)), .unset, .unset] [])
        refine Go.step (fun t k => XT.lloadN X3.here hx rfl (hb hby at_61) rfl k) ?_
        show Go _ _ _ _ _ _ _ T3 (mkF m 62 #[.val (.long p1), .second, .val (.int p2), .val (.int o1), .val (.long ((1000000000000000000 : Int64) + (o1.toInt64))), .second, .val (.long ((1000000000000000000 : Int64) + (o1.toInt64))), .second, .val (.int (1 : Int32)), .val (.int (0 : Int32)), .unset, .unset] [(.long p1)])
        obtain ⟨_, _, ⟨T11, L11, k11, n11⟩, -, X11, ⟨Lc11, hQ11, l11, y11, z11⟩, st11⟩ := Jvm.LawKit.callS X3 hx (y := (⟨"com/example/limitbook/limitbook/rules/PriceKeys", "atBound", "(J)Z"⟩ : MethodName)) hown (mvT hZ (hw _ (List.mem_of_getElem? (i := 5) rfl))) (mvT hZ (hw _ (List.mem_of_getElem? (i := 6) rfl))) (mvT hZ (hw _ (List.mem_of_getElem? (i := 7) rfl))) (mvT hZ (hw _ (List.mem_of_getElem? (i := 8) rfl))) (by decide) (backOf (W := 0) (rm2 l Z a0 hw [] p1 h0 n0 Z0 ) hZ (hw _ (List.mem_of_getElem? (i := 8) rfl)) (hw _ (List.mem_of_getElem? (i := 7) rfl)) (by decide) (by decide)) (g := (mkF m 62 #[.val (.long p1), .second, .val (.int p2), .val (.int o1), .val (.long ((1000000000000000000 : Int64) + (o1.toInt64))), .second, .val (.long ((1000000000000000000 : Int64) + (o1.toInt64))), .second, .val (.int (1 : Int32)), .val (.int (0 : Int32)), .unset, .unset] [(.long p1)])) rfl (by rw [hml]; rfl) (argsL := [(.long p1)]) (rest := []) (lenOf pd_1 rfl) rfl (by show 2 * 0 + _ ≤ _; exact Nat.le_of_eq rfl) (hb hby at_62) (fun _ _ => ⟨rfl, (e3), (by decide : 0 + 0 + 0 ≤ _), (by decide : 0 + 0 + 0 ≤ _)⟩)
        dsimp only [Pt.U, Pt.locs, Pt.cells, Pt.slots] at X11 l11 y11 z11 st11 hQ11
        subst l11 y11 z11
        obtain ⟨rfl, N11q, e11⟩ := hQ11
        have N11 := Fr.app N3 N11q
        refine Go.step st11 ?_
        show Go _ _ _ _ _ _ _ T11 (mkF m 65 #[.val (.long p1), .second, .val (.int p2), .val (.int o1), .val (.long ((1000000000000000000 : Int64) + (o1.toInt64))), .second, .val (.long ((1000000000000000000 : Int64) + (o1.toInt64))), .second, .val (.int (1 : Int32)), .val (.int (0 : Int32)), .unset, .unset] [(.int (own_at p1))])
        refine Go.step (fun t k => XS.iload X11.here hx rfl (hb hby at_65) rfl k) ?_
        show Go _ _ _ _ _ _ _ T11 (mkF m 67 #[.val (.long p1), .second, .val (.int p2), .val (.int o1), .val (.long ((1000000000000000000 : Int64) + (o1.toInt64))), .second, .val (.long ((1000000000000000000 : Int64) + (o1.toInt64))), .second, .val (.int (1 : Int32)), .val (.int (0 : Int32)), .unset, .unset] [(.int (0 : Int32)), (.int (own_at p1))])
        have hb67_12 : (own_at p1) = (0 : Int32) := by first | exact own_k1 hb51_4 | exact own_k0 hb51_4
        refine Go.step (fun t k => XS.icmpNo X11.here hx rfl (hb hby at_67) rfl (XT.ii_ne_f hb67_12) k) ?_
        show Go _ _ _ _ _ _ _ T11 (mkF m 70 #[.val (.long p1), .second, .val (.int p2), .val (.int o1), .val (.long ((1000000000000000000 : Int64) + (o1.toInt64))), .second, .val (.long ((1000000000000000000 : Int64) + (o1.toInt64))), .second, .val (.int (1 : Int32)), .val (.int (0 : Int32)), .unset, .unset] [])
        refine Go.step (fun t k => XS.iconst X11.here hx rfl (hb hby at_70) k) ?_
        show Go _ _ _ _ _ _ _ T11 (mkF m 71 #[.val (.long p1), .second, .val (.int p2), .val (.int o1), .val (.long ((1000000000000000000 : Int64) + (o1.toInt64))), .second, .val (.long ((1000000000000000000 : Int64) + (o1.toInt64))), .second, .val (.int (1 : Int32)), .val (.int (0 : Int32)), .unset, .unset] [(.int (1 : Int32))])
        refine Go.step (fun t k => XS.goto X11.here hx rfl (pc0 := 71) (pc' := 75) rfl (hb hby at_71) (by decide) (by decide) k) ?_
        show Go _ _ _ _ _ _ _ T11 (mkF m 75 #[.val (.long p1), .second, .val (.int p2), .val (.int o1), .val (.long ((1000000000000000000 : Int64) + (o1.toInt64))), .second, .val (.long ((1000000000000000000 : Int64) + (o1.toInt64))), .second, .val (.int (1 : Int32)), .val (.int (0 : Int32)), .unset, .unset] [(.int (1 : Int32))])
        refine Go.step (fun t k => XS.istore X11.here hx rfl (hb hby at_75) rfl (l' := #[.val (.long p1), .second, .val (.int p2), .val (.int o1), .val (.long ((1000000000000000000 : Int64) + (o1.toInt64))), .second, .val (.long ((1000000000000000000 : Int64) + (o1.toInt64))), .second, .val (.int (1 : Int32)), .val (.int (0 : Int32)), .val (.int (1 : Int32)), .unset]) rfl k) ?_
        show Go _ _ _ _ _ _ _ T11 (mkF m 77 #[.val (.long p1), .second, .val (.int p2), .val (.int o1), .val (.long ((1000000000000000000 : Int64) + (o1.toInt64))), .second, .val (.long ((1000000000000000000 : Int64) + (o1.toInt64))), .second, .val (.int (1 : Int32)), .val (.int (0 : Int32)), .val (.int (1 : Int32)), .unset] [])
        refine Go.step (fun t k => XT.lload X11.here hx rfl (hb hby at_77) rfl k) ?_
        show Go _ _ _ _ _ _ _ T11 (mkF m 79 #[.val (.long p1), .second, .val (.int p2), .val (.int o1), .val (.long ((1000000000000000000 : Int64) + (o1.toInt64))), .second, .val (.long ((1000000000000000000 : Int64) + (o1.toInt64))), .second, .val (.int (1 : Int32)), .val (.int (0 : Int32)), .val (.int (1 : Int32)), .unset] [(.long ((1000000000000000000 : Int64) + (o1.toInt64)))])
        obtain ⟨_, _, ⟨T13, L13, k13, n13⟩, -, X13, ⟨Lc13, hQ13, l13, y13, z13⟩, st13⟩ := Jvm.LawKit.callS X11 hx (y := (⟨"com/example/limitbook/limitbook/rules/PriceKeys", "atBound", "(J)Z"⟩ : MethodName)) hown (mvT hZ (hw _ (List.mem_of_getElem? (i := 5) rfl))) (mvT hZ (hw _ (List.mem_of_getElem? (i := 6) rfl))) (mvT hZ (hw _ (List.mem_of_getElem? (i := 7) rfl))) (mvT hZ (hw _ (List.mem_of_getElem? (i := 8) rfl))) (by decide) (backOf (W := 0) (rm2 l Z a0 hw [] ((1000000000000000000 : Int64) + (o1.toInt64)) h0 n0 Z0 ) hZ (hw _ (List.mem_of_getElem? (i := 8) rfl)) (hw _ (List.mem_of_getElem? (i := 7) rfl)) (by decide) (by decide)) (g := (mkF m 79 #[.val (.long p1), .second, .val (.int p2), .val (.int o1), .val (.long ((1000000000000000000 : Int64) + (o1.toInt64))), .second, .val (.long ((1000000000000000000 : Int64) + (o1.toInt64))), .second, .val (.int (1 : Int32)), .val (.int (0 : Int32)), .val (.int (1 : Int32)), .unset] [(.long ((1000000000000000000 : Int64) + (o1.toInt64)))])) rfl (by rw [hml]; rfl) (argsL := [(.long ((1000000000000000000 : Int64) + (o1.toInt64)))]) (rest := []) (lenOf pd_1 rfl) rfl (by show 2 * 0 + _ ≤ _; exact Nat.le_of_eq rfl) (hb hby at_79) (fun _ _ => ⟨rfl, (e11), (by decide : 0 + 0 + 0 + 0 ≤ _), (by decide : 0 + 0 + 0 + 0 ≤ _)⟩)
        dsimp only [Pt.U, Pt.locs, Pt.cells, Pt.slots] at X13 l13 y13 z13 st13 hQ13
        subst l13 y13 z13
        obtain ⟨rfl, N13q, e13⟩ := hQ13
        have N13 := Fr.app N11 N13q
        refine Go.step st13 ?_
        show Go _ _ _ _ _ _ _ T13 (mkF m 82 #[.val (.long p1), .second, .val (.int p2), .val (.int o1), .val (.long ((1000000000000000000 : Int64) + (o1.toInt64))), .second, .val (.long ((1000000000000000000 : Int64) + (o1.toInt64))), .second, .val (.int (1 : Int32)), .val (.int (0 : Int32)), .val (.int (1 : Int32)), .unset] [(.int (own_at ((1000000000000000000 : Int64) + (o1.toInt64))))])
        refine Go.step (fun t k => XS.iload X13.here hx rfl (hb hby at_82) rfl k) ?_
        show Go _ _ _ _ _ _ _ T13 (mkF m 84 #[.val (.long p1), .second, .val (.int p2), .val (.int o1), .val (.long ((1000000000000000000 : Int64) + (o1.toInt64))), .second, .val (.long ((1000000000000000000 : Int64) + (o1.toInt64))), .second, .val (.int (1 : Int32)), .val (.int (0 : Int32)), .val (.int (1 : Int32)), .unset] [(.int (1 : Int32)), (.int (own_at ((1000000000000000000 : Int64) + (o1.toInt64))))])
        have hb84_14 : (own_at ((1000000000000000000 : Int64) + (o1.toInt64))) = (1 : Int32) := by first | exact (own_n1 hb33_2).1 | exact (own_n1 hb33_2).2 | exact (own_n0 ho1r hb33_2).1 | exact (own_n0 ho1r hb33_2).2
        refine Go.step (fun t k => XS.icmpNo X13.here hx rfl (hb hby at_84) rfl (XT.ii_ne_f hb84_14) k) ?_
        show Go _ _ _ _ _ _ _ T13 (mkF m 87 #[.val (.long p1), .second, .val (.int p2), .val (.int o1), .val (.long ((1000000000000000000 : Int64) + (o1.toInt64))), .second, .val (.long ((1000000000000000000 : Int64) + (o1.toInt64))), .second, .val (.int (1 : Int32)), .val (.int (0 : Int32)), .val (.int (1 : Int32)), .unset] [])
        refine Go.step (fun t k => XS.iconst X13.here hx rfl (hb hby at_87) k) ?_
        show Go _ _ _ _ _ _ _ T13 (mkF m 88 #[.val (.long p1), .second, .val (.int p2), .val (.int o1), .val (.long ((1000000000000000000 : Int64) + (o1.toInt64))), .second, .val (.long ((1000000000000000000 : Int64) + (o1.toInt64))), .second, .val (.int (1 : Int32)), .val (.int (0 : Int32)), .val (.int (1 : Int32)), .unset] [(.int (1 : Int32))])
        refine Go.step (fun t k => XS.goto X13.here hx rfl (pc0 := 88) (pc' := 92) rfl (hb hby at_88) (by decide) (by decide) k) ?_
        show Go _ _ _ _ _ _ _ T13 (mkF m 92 #[.val (.long p1), .second, .val (.int p2), .val (.int o1), .val (.long ((1000000000000000000 : Int64) + (o1.toInt64))), .second, .val (.long ((1000000000000000000 : Int64) + (o1.toInt64))), .second, .val (.int (1 : Int32)), .val (.int (0 : Int32)), .val (.int (1 : Int32)), .unset] [(.int (1 : Int32))])
        refine Go.step (fun t k => XS.istore X13.here hx rfl (hb hby at_92) rfl (l' := #[.val (.long p1), .second, .val (.int p2), .val (.int o1), .val (.long ((1000000000000000000 : Int64) + (o1.toInt64))), .second, .val (.long ((1000000000000000000 : Int64) + (o1.toInt64))), .second, .val (.int (1 : Int32)), .val (.int (0 : Int32)), .val (.int (1 : Int32)), .val (.int (1 : Int32))]) rfl k) ?_
        show Go _ _ _ _ _ _ _ T13 (mkF m 94 #[.val (.long p1), .second, .val (.int p2), .val (.int o1), .val (.long ((1000000000000000000 : Int64) + (o1.toInt64))), .second, .val (.long ((1000000000000000000 : Int64) + (o1.toInt64))), .second, .val (.int (1 : Int32)), .val (.int (0 : Int32)), .val (.int (1 : Int32)), .val (.int (1 : Int32))] [])
        refine Go.step (fun t k => XS.iload X13.here hx rfl (hb hby at_94) rfl k) ?_
        show Go _ _ _ _ _ _ _ T13 (mkF m 96 #[.val (.long p1), .second, .val (.int p2), .val (.int o1), .val (.long ((1000000000000000000 : Int64) + (o1.toInt64))), .second, .val (.long ((1000000000000000000 : Int64) + (o1.toInt64))), .second, .val (.int (1 : Int32)), .val (.int (0 : Int32)), .val (.int (1 : Int32)), .val (.int (1 : Int32))] [(.int (1 : Int32))])
        have hb96_15 : ¬ ((1 : Int32) = (0 : Int32)) := by decide
        refine Go.step (fun t k => XS.ifNo X13.here hx rfl (hb hby at_96) rfl (XT.i0_eq_f hb96_15) k) ?_
        show Go _ _ _ _ _ _ _ T13 (mkF m 99 #[.val (.long p1), .second, .val (.int p2), .val (.int o1), .val (.long ((1000000000000000000 : Int64) + (o1.toInt64))), .second, .val (.long ((1000000000000000000 : Int64) + (o1.toInt64))), .second, .val (.int (1 : Int32)), .val (.int (0 : Int32)), .val (.int (1 : Int32)), .val (.int (1 : Int32))] [])
        refine Go.step (fun t k => XS.iload X13.here hx rfl (hb hby at_99) rfl k) ?_
        show Go _ _ _ _ _ _ _ T13 (mkF m 101 #[.val (.long p1), .second, .val (.int p2), .val (.int o1), .val (.long ((1000000000000000000 : Int64) + (o1.toInt64))), .second, .val (.long ((1000000000000000000 : Int64) + (o1.toInt64))), .second, .val (.int (1 : Int32)), .val (.int (0 : Int32)), .val (.int (1 : Int32)), .val (.int (1 : Int32))] [(.int (1 : Int32))])
        have hb101_16 : ¬ ((1 : Int32) = (0 : Int32)) := by decide
        refine Go.step (fun t k => XS.ifNo X13.here hx rfl (hb hby at_101) rfl (XT.i0_eq_f hb101_16) k) ?_
        show Go _ _ _ _ _ _ _ T13 (mkF m 104 #[.val (.long p1), .second, .val (.int p2), .val (.int o1), .val (.long ((1000000000000000000 : Int64) + (o1.toInt64))), .second, .val (.long ((1000000000000000000 : Int64) + (o1.toInt64))), .second, .val (.int (1 : Int32)), .val (.int (0 : Int32)), .val (.int (1 : Int32)), .val (.int (1 : Int32))] [])
        refine Go.step (fun t k => XS.iconst X13.here hx rfl (hb hby at_104) k) ?_
        show Go _ _ _ _ _ _ _ T13 (mkF m 105 #[.val (.long p1), .second, .val (.int p2), .val (.int o1), .val (.long ((1000000000000000000 : Int64) + (o1.toInt64))), .second, .val (.long ((1000000000000000000 : Int64) + (o1.toInt64))), .second, .val (.int (1 : Int32)), .val (.int (0 : Int32)), .val (.int (1 : Int32)), .val (.int (1 : Int32))] [(.int (1 : Int32))])
        refine Go.step (fun t k => XS.goto X13.here hx rfl (pc0 := 105) (pc' := 109) rfl (hb hby at_105) (by decide) (by decide) k) ?_
        show Go _ _ _ _ _ _ _ T13 (mkF m 109 #[.val (.long p1), .second, .val (.int p2), .val (.int o1), .val (.long ((1000000000000000000 : Int64) + (o1.toInt64))), .second, .val (.long ((1000000000000000000 : Int64) + (o1.toInt64))), .second, .val (.int (1 : Int32)), .val (.int (0 : Int32)), .val (.int (1 : Int32)), .val (.int (1 : Int32))] [(.int (1 : Int32))])
        refine Go.ret X13 hx hlk Bd.returns rfl (Or.inl ⟨rfl, Or.inr (Or.inl rfl), _, rfl⟩) (hb hby at_109) ?_ (by decide) (by decide)
        show Q0 Z _ _ _ _ _ T13.heap _
        exact ⟨rfl, N13⟩
    · refine Go.step (fun t k => XS.ifYes X0.here hx rfl (pc0 := 33) (pc' := 40) rfl (hb hby at_33) rfl (XT.i0_ne_t hb33_2) (by decide) (by decide) k) ?_
      show Go _ _ _ _ _ _ _ s₁ (mkF m 40 #[.val (.long p1), .second, .val (.int p2), .val (.int o1), .val (.long ((1000000000000000000 : Int64) + (o1.toInt64))), .second, .val (.long ((1000000000000000000 : Int64) + (o1.toInt64))), .second, .unset, .unset, .unset, .unset] [])
      refine Go.step (fun t k => XS.iconst X0.here hx rfl (hb hby at_40) k) ?_
      show Go _ _ _ _ _ _ _ s₁ (mkF m 41 #[.val (.long p1), .second, .val (.int p2), .val (.int o1), .val (.long ((1000000000000000000 : Int64) + (o1.toInt64))), .second, .val (.long ((1000000000000000000 : Int64) + (o1.toInt64))), .second, .unset, .unset, .unset, .unset] [(.int (0 : Int32))])
      refine Go.step (fun t k => XS.istore X0.here hx rfl (hb hby at_41) rfl (l' := #[.val (.long p1), .second, .val (.int p2), .val (.int o1), .val (.long ((1000000000000000000 : Int64) + (o1.toInt64))), .second, .val (.long ((1000000000000000000 : Int64) + (o1.toInt64))), .second, .val (.int (0 : Int32)), .unset, .unset, .unset]) rfl k) ?_
      show Go _ _ _ _ _ _ _ s₁ (mkF m 43 #[.val (.long p1), .second, .val (.int p2), .val (.int o1), .val (.long ((1000000000000000000 : Int64) + (o1.toInt64))), .second, .val (.long ((1000000000000000000 : Int64) + (o1.toInt64))), .second, .val (.int (0 : Int32)), .unset, .unset, .unset] [])
      refine Go.step (fun t k => XT.lloadN X0.here hx rfl (hb hby at_43) rfl k) ?_
      show Go _ _ _ _ _ _ _ s₁ (mkF m 44 #[.val (.long p1), .second, .val (.int p2), .val (.int o1), .val (.long ((1000000000000000000 : Int64) + (o1.toInt64))), .second, .val (.long ((1000000000000000000 : Int64) + (o1.toInt64))), .second, .val (.int (0 : Int32)), .unset, .unset, .unset] [(.long p1)])
      obtain ⟨_, _, ⟨T17, L17, k17, n17⟩, -, X17, ⟨Lc17, hQ17, l17, y17, z17⟩, st17⟩ := Jvm.LawKit.callS X0 hx (y := (⟨"java/lang/Math", "abs", "(J)J"⟩ : MethodName)) hown (mvT hZ (hw _ (List.mem_of_getElem? (i := 1) rfl))) (mvT hZ (hw _ (List.mem_of_getElem? (i := 2) rfl))) (mvT hZ (hw _ (List.mem_of_getElem? (i := 3) rfl))) (mvT hZ (hw _ (List.mem_of_getElem? (i := 4) rfl))) (by decide) (backOf (W := 0) (rm1 l Z a0 hw [] p1 h0 n0 Z0 ) hZ (hw _ (List.mem_of_getElem? (i := 4) rfl)) (hw _ (List.mem_of_getElem? (i := 3) rfl)) (by decide) (by decide)) (g := (mkF m 44 #[.val (.long p1), .second, .val (.int p2), .val (.int o1), .val (.long ((1000000000000000000 : Int64) + (o1.toInt64))), .second, .val (.long ((1000000000000000000 : Int64) + (o1.toInt64))), .second, .val (.int (0 : Int32)), .unset, .unset, .unset] [(.long p1)])) rfl (by rw [hml]; rfl) (argsL := [(.long p1)]) (rest := []) (lenOf pd_0 rfl) rfl (by show 2 * 0 + _ ≤ _; exact Nat.le_of_eq rfl) (hb hby at_44) (fun _ _ => ⟨rfl, e0, (by decide : 0 + 0 ≤ _), (by decide : 0 + 0 ≤ _)⟩)
      dsimp only [Pt.U, Pt.locs, Pt.cells, Pt.slots] at X17 l17 y17 z17 st17 hQ17
      subst l17 y17 z17
      obtain ⟨rfl, N17q, e17⟩ := hQ17
      have N17 := Fr.app N0 N17q
      refine Go.step st17 ?_
      show Go _ _ _ _ _ _ _ T17 (mkF m 47 #[.val (.long p1), .second, .val (.int p2), .val (.int o1), .val (.long ((1000000000000000000 : Int64) + (o1.toInt64))), .second, .val (.long ((1000000000000000000 : Int64) + (o1.toInt64))), .second, .val (.int (0 : Int32)), .unset, .unset, .unset] [(.long (own_abs p1))])
      refine Go.step (fun t k => X17.ldc2J hx hown (mvT hZ (hw _ (List.mem_of_getElem? (i := 0) rfl))) rfl (hb hby at_47) k) ?_
      show Go _ _ _ _ _ _ _ T17 (mkF m 50 #[.val (.long p1), .second, .val (.int p2), .val (.int o1), .val (.long ((1000000000000000000 : Int64) + (o1.toInt64))), .second, .val (.long ((1000000000000000000 : Int64) + (o1.toInt64))), .second, .val (.int (0 : Int32)), .unset, .unset, .unset] [(.long (1000000000000000000 : Int64)), (.long (own_abs p1))])
      refine Go.step (fun t k => XT.lcmp X17.here hx rfl (hb hby at_50) rfl k) ?_
      show Go _ _ _ _ _ _ _ T17 (mkF m 51 #[.val (.long p1), .second, .val (.int p2), .val (.int o1), .val (.long ((1000000000000000000 : Int64) + (o1.toInt64))), .second, .val (.long ((1000000000000000000 : Int64) + (o1.toInt64))), .second, .val (.int (0 : Int32)), .unset, .unset, .unset] [(.int (XT.cmpL (own_abs p1) (1000000000000000000 : Int64)))])
      by_cases hb51_18 : (own_abs p1) = (1000000000000000000 : Int64)
      · refine Go.step (fun t k => XS.ifNo X17.here hx rfl (hb hby at_51) rfl (XT.ll_ne_f hb51_18) k) ?_
        show Go _ _ _ _ _ _ _ T17 (mkF m 54 #[.val (.long p1), .second, .val (.int p2), .val (.int o1), .val (.long ((1000000000000000000 : Int64) + (o1.toInt64))), .second, .val (.long ((1000000000000000000 : Int64) + (o1.toInt64))), .second, .val (.int (0 : Int32)), .unset, .unset, .unset] [])
        refine Go.step (fun t k => XS.iconst X17.here hx rfl (hb hby at_54) k) ?_
        show Go _ _ _ _ _ _ _ T17 (mkF m 55 #[.val (.long p1), .second, .val (.int p2), .val (.int o1), .val (.long ((1000000000000000000 : Int64) + (o1.toInt64))), .second, .val (.long ((1000000000000000000 : Int64) + (o1.toInt64))), .second, .val (.int (0 : Int32)), .unset, .unset, .unset] [(.int (1 : Int32))])
        refine Go.step (fun t k => XS.goto X17.here hx rfl (pc0 := 55) (pc' := 59) rfl (hb hby at_55) (by decide) (by decide) k) ?_
        show Go _ _ _ _ _ _ _ T17 (mkF m 59 #[.val (.long p1), .second, .val (.int p2), .val (.int o1), .val (.long ((1000000000000000000 : Int64) + (o1.toInt64))), .second, .val (.long ((1000000000000000000 : Int64) + (o1.toInt64))), .second, .val (.int (0 : Int32)), .unset, .unset, .unset] [(.int (1 : Int32))])
        refine Go.step (fun t k => XS.istore X17.here hx rfl (hb hby at_59) rfl (l' := #[.val (.long p1), .second, .val (.int p2), .val (.int o1), .val (.long ((1000000000000000000 : Int64) + (o1.toInt64))), .second, .val (.long ((1000000000000000000 : Int64) + (o1.toInt64))), .second, .val (.int (0 : Int32)), .val (.int (1 : Int32)), .unset, .unset]) rfl k) ?_
        show Go _ _ _ _ _ _ _ T17 (mkF m 61 #[.val (.long p1), .second, .val (.int p2), .val (.int o1), .val (.long ((1000000000000000000 : Int64) + (o1.toInt64))), .second, .val (.long ((1000000000000000000 : Int64) + (o1.toInt64))), .second, .val (.int (0 : Int32)), .val (.int (1 : Int32)), .unset, .unset] [])
        refine Go.step (fun t k => XT.lloadN X17.here hx rfl (hb hby at_61) rfl k) ?_
        show Go _ _ _ _ _ _ _ T17 (mkF m 62 #[.val (.long p1), .second, .val (.int p2), .val (.int o1), .val (.long ((1000000000000000000 : Int64) + (o1.toInt64))), .second, .val (.long ((1000000000000000000 : Int64) + (o1.toInt64))), .second, .val (.int (0 : Int32)), .val (.int (1 : Int32)), .unset, .unset] [(.long p1)])
        obtain ⟨_, _, ⟨T19, L19, k19, n19⟩, -, X19, ⟨Lc19, hQ19, l19, y19, z19⟩, st19⟩ := Jvm.LawKit.callS X17 hx (y := (⟨"com/example/limitbook/limitbook/rules/PriceKeys", "atBound", "(J)Z"⟩ : MethodName)) hown (mvT hZ (hw _ (List.mem_of_getElem? (i := 5) rfl))) (mvT hZ (hw _ (List.mem_of_getElem? (i := 6) rfl))) (mvT hZ (hw _ (List.mem_of_getElem? (i := 7) rfl))) (mvT hZ (hw _ (List.mem_of_getElem? (i := 8) rfl))) (by decide) (backOf (W := 0) (rm2 l Z a0 hw [] p1 h0 n0 Z0 ) hZ (hw _ (List.mem_of_getElem? (i := 8) rfl)) (hw _ (List.mem_of_getElem? (i := 7) rfl)) (by decide) (by decide)) (g := (mkF m 62 #[.val (.long p1), .second, .val (.int p2), .val (.int o1), .val (.long ((1000000000000000000 : Int64) + (o1.toInt64))), .second, .val (.long ((1000000000000000000 : Int64) + (o1.toInt64))), .second, .val (.int (0 : Int32)), .val (.int (1 : Int32)), .unset, .unset] [(.long p1)])) rfl (by rw [hml]; rfl) (argsL := [(.long p1)]) (rest := []) (lenOf pd_1 rfl) rfl (by show 2 * 0 + _ ≤ _; exact Nat.le_of_eq rfl) (hb hby at_62) (fun _ _ => ⟨rfl, (e17), (by decide : 0 + 0 + 0 ≤ _), (by decide : 0 + 0 + 0 ≤ _)⟩)
        dsimp only [Pt.U, Pt.locs, Pt.cells, Pt.slots] at X19 l19 y19 z19 st19 hQ19
        subst l19 y19 z19
        obtain ⟨rfl, N19q, e19⟩ := hQ19
        have N19 := Fr.app N17 N19q
        refine Go.step st19 ?_
        show Go _ _ _ _ _ _ _ T19 (mkF m 65 #[.val (.long p1), .second, .val (.int p2), .val (.int o1), .val (.long ((1000000000000000000 : Int64) + (o1.toInt64))), .second, .val (.long ((1000000000000000000 : Int64) + (o1.toInt64))), .second, .val (.int (0 : Int32)), .val (.int (1 : Int32)), .unset, .unset] [(.int (own_at p1))])
        refine Go.step (fun t k => XS.iload X19.here hx rfl (hb hby at_65) rfl k) ?_
        show Go _ _ _ _ _ _ _ T19 (mkF m 67 #[.val (.long p1), .second, .val (.int p2), .val (.int o1), .val (.long ((1000000000000000000 : Int64) + (o1.toInt64))), .second, .val (.long ((1000000000000000000 : Int64) + (o1.toInt64))), .second, .val (.int (0 : Int32)), .val (.int (1 : Int32)), .unset, .unset] [(.int (1 : Int32)), (.int (own_at p1))])
        have hb67_20 : (own_at p1) = (1 : Int32) := by first | exact own_k1 hb51_18 | exact own_k0 hb51_18
        refine Go.step (fun t k => XS.icmpNo X19.here hx rfl (hb hby at_67) rfl (XT.ii_ne_f hb67_20) k) ?_
        show Go _ _ _ _ _ _ _ T19 (mkF m 70 #[.val (.long p1), .second, .val (.int p2), .val (.int o1), .val (.long ((1000000000000000000 : Int64) + (o1.toInt64))), .second, .val (.long ((1000000000000000000 : Int64) + (o1.toInt64))), .second, .val (.int (0 : Int32)), .val (.int (1 : Int32)), .unset, .unset] [])
        refine Go.step (fun t k => XS.iconst X19.here hx rfl (hb hby at_70) k) ?_
        show Go _ _ _ _ _ _ _ T19 (mkF m 71 #[.val (.long p1), .second, .val (.int p2), .val (.int o1), .val (.long ((1000000000000000000 : Int64) + (o1.toInt64))), .second, .val (.long ((1000000000000000000 : Int64) + (o1.toInt64))), .second, .val (.int (0 : Int32)), .val (.int (1 : Int32)), .unset, .unset] [(.int (1 : Int32))])
        refine Go.step (fun t k => XS.goto X19.here hx rfl (pc0 := 71) (pc' := 75) rfl (hb hby at_71) (by decide) (by decide) k) ?_
        show Go _ _ _ _ _ _ _ T19 (mkF m 75 #[.val (.long p1), .second, .val (.int p2), .val (.int o1), .val (.long ((1000000000000000000 : Int64) + (o1.toInt64))), .second, .val (.long ((1000000000000000000 : Int64) + (o1.toInt64))), .second, .val (.int (0 : Int32)), .val (.int (1 : Int32)), .unset, .unset] [(.int (1 : Int32))])
        refine Go.step (fun t k => XS.istore X19.here hx rfl (hb hby at_75) rfl (l' := #[.val (.long p1), .second, .val (.int p2), .val (.int o1), .val (.long ((1000000000000000000 : Int64) + (o1.toInt64))), .second, .val (.long ((1000000000000000000 : Int64) + (o1.toInt64))), .second, .val (.int (0 : Int32)), .val (.int (1 : Int32)), .val (.int (1 : Int32)), .unset]) rfl k) ?_
        show Go _ _ _ _ _ _ _ T19 (mkF m 77 #[.val (.long p1), .second, .val (.int p2), .val (.int o1), .val (.long ((1000000000000000000 : Int64) + (o1.toInt64))), .second, .val (.long ((1000000000000000000 : Int64) + (o1.toInt64))), .second, .val (.int (0 : Int32)), .val (.int (1 : Int32)), .val (.int (1 : Int32)), .unset] [])
        refine Go.step (fun t k => XT.lload X19.here hx rfl (hb hby at_77) rfl k) ?_
        show Go _ _ _ _ _ _ _ T19 (mkF m 79 #[.val (.long p1), .second, .val (.int p2), .val (.int o1), .val (.long ((1000000000000000000 : Int64) + (o1.toInt64))), .second, .val (.long ((1000000000000000000 : Int64) + (o1.toInt64))), .second, .val (.int (0 : Int32)), .val (.int (1 : Int32)), .val (.int (1 : Int32)), .unset] [(.long ((1000000000000000000 : Int64) + (o1.toInt64)))])
        obtain ⟨_, _, ⟨T21, L21, k21, n21⟩, -, X21, ⟨Lc21, hQ21, l21, y21, z21⟩, st21⟩ := Jvm.LawKit.callS X19 hx (y := (⟨"com/example/limitbook/limitbook/rules/PriceKeys", "atBound", "(J)Z"⟩ : MethodName)) hown (mvT hZ (hw _ (List.mem_of_getElem? (i := 5) rfl))) (mvT hZ (hw _ (List.mem_of_getElem? (i := 6) rfl))) (mvT hZ (hw _ (List.mem_of_getElem? (i := 7) rfl))) (mvT hZ (hw _ (List.mem_of_getElem? (i := 8) rfl))) (by decide) (backOf (W := 0) (rm2 l Z a0 hw [] ((1000000000000000000 : Int64) + (o1.toInt64)) h0 n0 Z0 ) hZ (hw _ (List.mem_of_getElem? (i := 8) rfl)) (hw _ (List.mem_of_getElem? (i := 7) rfl)) (by decide) (by decide)) (g := (mkF m 79 #[.val (.long p1), .second, .val (.int p2), .val (.int o1), .val (.long ((1000000000000000000 : Int64) + (o1.toInt64))), .second, .val (.long ((1000000000000000000 : Int64) + (o1.toInt64))), .second, .val (.int (0 : Int32)), .val (.int (1 : Int32)), .val (.int (1 : Int32)), .unset] [(.long ((1000000000000000000 : Int64) + (o1.toInt64)))])) rfl (by rw [hml]; rfl) (argsL := [(.long ((1000000000000000000 : Int64) + (o1.toInt64)))]) (rest := []) (lenOf pd_1 rfl) rfl (by show 2 * 0 + _ ≤ _; exact Nat.le_of_eq rfl) (hb hby at_79) (fun _ _ => ⟨rfl, (e19), (by decide : 0 + 0 + 0 + 0 ≤ _), (by decide : 0 + 0 + 0 + 0 ≤ _)⟩)
        dsimp only [Pt.U, Pt.locs, Pt.cells, Pt.slots] at X21 l21 y21 z21 st21 hQ21
        subst l21 y21 z21
        obtain ⟨rfl, N21q, e21⟩ := hQ21
        have N21 := Fr.app N19 N21q
        refine Go.step st21 ?_
        show Go _ _ _ _ _ _ _ T21 (mkF m 82 #[.val (.long p1), .second, .val (.int p2), .val (.int o1), .val (.long ((1000000000000000000 : Int64) + (o1.toInt64))), .second, .val (.long ((1000000000000000000 : Int64) + (o1.toInt64))), .second, .val (.int (0 : Int32)), .val (.int (1 : Int32)), .val (.int (1 : Int32)), .unset] [(.int (own_at ((1000000000000000000 : Int64) + (o1.toInt64))))])
        refine Go.step (fun t k => XS.iload X21.here hx rfl (hb hby at_82) rfl k) ?_
        show Go _ _ _ _ _ _ _ T21 (mkF m 84 #[.val (.long p1), .second, .val (.int p2), .val (.int o1), .val (.long ((1000000000000000000 : Int64) + (o1.toInt64))), .second, .val (.long ((1000000000000000000 : Int64) + (o1.toInt64))), .second, .val (.int (0 : Int32)), .val (.int (1 : Int32)), .val (.int (1 : Int32)), .unset] [(.int (0 : Int32)), (.int (own_at ((1000000000000000000 : Int64) + (o1.toInt64))))])
        have hb84_22 : (own_at ((1000000000000000000 : Int64) + (o1.toInt64))) = (0 : Int32) := by first | exact (own_n1 hb33_2).1 | exact (own_n1 hb33_2).2 | exact (own_n0 ho1r hb33_2).1 | exact (own_n0 ho1r hb33_2).2
        refine Go.step (fun t k => XS.icmpNo X21.here hx rfl (hb hby at_84) rfl (XT.ii_ne_f hb84_22) k) ?_
        show Go _ _ _ _ _ _ _ T21 (mkF m 87 #[.val (.long p1), .second, .val (.int p2), .val (.int o1), .val (.long ((1000000000000000000 : Int64) + (o1.toInt64))), .second, .val (.long ((1000000000000000000 : Int64) + (o1.toInt64))), .second, .val (.int (0 : Int32)), .val (.int (1 : Int32)), .val (.int (1 : Int32)), .unset] [])
        refine Go.step (fun t k => XS.iconst X21.here hx rfl (hb hby at_87) k) ?_
        show Go _ _ _ _ _ _ _ T21 (mkF m 88 #[.val (.long p1), .second, .val (.int p2), .val (.int o1), .val (.long ((1000000000000000000 : Int64) + (o1.toInt64))), .second, .val (.long ((1000000000000000000 : Int64) + (o1.toInt64))), .second, .val (.int (0 : Int32)), .val (.int (1 : Int32)), .val (.int (1 : Int32)), .unset] [(.int (1 : Int32))])
        refine Go.step (fun t k => XS.goto X21.here hx rfl (pc0 := 88) (pc' := 92) rfl (hb hby at_88) (by decide) (by decide) k) ?_
        show Go _ _ _ _ _ _ _ T21 (mkF m 92 #[.val (.long p1), .second, .val (.int p2), .val (.int o1), .val (.long ((1000000000000000000 : Int64) + (o1.toInt64))), .second, .val (.long ((1000000000000000000 : Int64) + (o1.toInt64))), .second, .val (.int (0 : Int32)), .val (.int (1 : Int32)), .val (.int (1 : Int32)), .unset] [(.int (1 : Int32))])
        refine Go.step (fun t k => XS.istore X21.here hx rfl (hb hby at_92) rfl (l' := #[.val (.long p1), .second, .val (.int p2), .val (.int o1), .val (.long ((1000000000000000000 : Int64) + (o1.toInt64))), .second, .val (.long ((1000000000000000000 : Int64) + (o1.toInt64))), .second, .val (.int (0 : Int32)), .val (.int (1 : Int32)), .val (.int (1 : Int32)), .val (.int (1 : Int32))]) rfl k) ?_
        show Go _ _ _ _ _ _ _ T21 (mkF m 94 #[.val (.long p1), .second, .val (.int p2), .val (.int o1), .val (.long ((1000000000000000000 : Int64) + (o1.toInt64))), .second, .val (.long ((1000000000000000000 : Int64) + (o1.toInt64))), .second, .val (.int (0 : Int32)), .val (.int (1 : Int32)), .val (.int (1 : Int32)), .val (.int (1 : Int32))] [])
        refine Go.step (fun t k => XS.iload X21.here hx rfl (hb hby at_94) rfl k) ?_
        show Go _ _ _ _ _ _ _ T21 (mkF m 96 #[.val (.long p1), .second, .val (.int p2), .val (.int o1), .val (.long ((1000000000000000000 : Int64) + (o1.toInt64))), .second, .val (.long ((1000000000000000000 : Int64) + (o1.toInt64))), .second, .val (.int (0 : Int32)), .val (.int (1 : Int32)), .val (.int (1 : Int32)), .val (.int (1 : Int32))] [(.int (1 : Int32))])
        have hb96_23 : ¬ ((1 : Int32) = (0 : Int32)) := by decide
        refine Go.step (fun t k => XS.ifNo X21.here hx rfl (hb hby at_96) rfl (XT.i0_eq_f hb96_23) k) ?_
        show Go _ _ _ _ _ _ _ T21 (mkF m 99 #[.val (.long p1), .second, .val (.int p2), .val (.int o1), .val (.long ((1000000000000000000 : Int64) + (o1.toInt64))), .second, .val (.long ((1000000000000000000 : Int64) + (o1.toInt64))), .second, .val (.int (0 : Int32)), .val (.int (1 : Int32)), .val (.int (1 : Int32)), .val (.int (1 : Int32))] [])
        refine Go.step (fun t k => XS.iload X21.here hx rfl (hb hby at_99) rfl k) ?_
        show Go _ _ _ _ _ _ _ T21 (mkF m 101 #[.val (.long p1), .second, .val (.int p2), .val (.int o1), .val (.long ((1000000000000000000 : Int64) + (o1.toInt64))), .second, .val (.long ((1000000000000000000 : Int64) + (o1.toInt64))), .second, .val (.int (0 : Int32)), .val (.int (1 : Int32)), .val (.int (1 : Int32)), .val (.int (1 : Int32))] [(.int (1 : Int32))])
        have hb101_24 : ¬ ((1 : Int32) = (0 : Int32)) := by decide
        refine Go.step (fun t k => XS.ifNo X21.here hx rfl (hb hby at_101) rfl (XT.i0_eq_f hb101_24) k) ?_
        show Go _ _ _ _ _ _ _ T21 (mkF m 104 #[.val (.long p1), .second, .val (.int p2), .val (.int o1), .val (.long ((1000000000000000000 : Int64) + (o1.toInt64))), .second, .val (.long ((1000000000000000000 : Int64) + (o1.toInt64))), .second, .val (.int (0 : Int32)), .val (.int (1 : Int32)), .val (.int (1 : Int32)), .val (.int (1 : Int32))] [])
        refine Go.step (fun t k => XS.iconst X21.here hx rfl (hb hby at_104) k) ?_
        show Go _ _ _ _ _ _ _ T21 (mkF m 105 #[.val (.long p1), .second, .val (.int p2), .val (.int o1), .val (.long ((1000000000000000000 : Int64) + (o1.toInt64))), .second, .val (.long ((1000000000000000000 : Int64) + (o1.toInt64))), .second, .val (.int (0 : Int32)), .val (.int (1 : Int32)), .val (.int (1 : Int32)), .val (.int (1 : Int32))] [(.int (1 : Int32))])
        refine Go.step (fun t k => XS.goto X21.here hx rfl (pc0 := 105) (pc' := 109) rfl (hb hby at_105) (by decide) (by decide) k) ?_
        show Go _ _ _ _ _ _ _ T21 (mkF m 109 #[.val (.long p1), .second, .val (.int p2), .val (.int o1), .val (.long ((1000000000000000000 : Int64) + (o1.toInt64))), .second, .val (.long ((1000000000000000000 : Int64) + (o1.toInt64))), .second, .val (.int (0 : Int32)), .val (.int (1 : Int32)), .val (.int (1 : Int32)), .val (.int (1 : Int32))] [(.int (1 : Int32))])
        refine Go.ret X21 hx hlk Bd.returns rfl (Or.inl ⟨rfl, Or.inr (Or.inl rfl), _, rfl⟩) (hb hby at_109) ?_ (by decide) (by decide)
        show Q0 Z _ _ _ _ _ T21.heap _
        exact ⟨rfl, N21⟩
      · refine Go.step (fun t k => XS.ifYes X17.here hx rfl (pc0 := 51) (pc' := 58) rfl (hb hby at_51) rfl (XT.ll_ne_t hb51_18) (by decide) (by decide) k) ?_
        show Go _ _ _ _ _ _ _ T17 (mkF m 58 #[.val (.long p1), .second, .val (.int p2), .val (.int o1), .val (.long ((1000000000000000000 : Int64) + (o1.toInt64))), .second, .val (.long ((1000000000000000000 : Int64) + (o1.toInt64))), .second, .val (.int (0 : Int32)), .unset, .unset, .unset] [])
        refine Go.step (fun t k => XS.iconst X17.here hx rfl (hb hby at_58) k) ?_
        show Go _ _ _ _ _ _ _ T17 (mkF m 59 #[.val (.long p1), .second, .val (.int p2), .val (.int o1), .val (.long ((1000000000000000000 : Int64) + (o1.toInt64))), .second, .val (.long ((1000000000000000000 : Int64) + (o1.toInt64))), .second, .val (.int (0 : Int32)), .unset, .unset, .unset] [(.int (0 : Int32))])
        refine Go.step (fun t k => XS.istore X17.here hx rfl (hb hby at_59) rfl (l' := #[.val (.long p1), .second, .val (.int p2), .val (.int o1), .val (.long ((1000000000000000000 : Int64) + (o1.toInt64))), .second, .val (.long ((1000000000000000000 : Int64) + (o1.toInt64))), .second, .val (.int (0 : Int32)), .val (.int (0 : Int32)), .unset, .unset]) rfl k) ?_
        show Go _ _ _ _ _ _ _ T17 (mkF m 61 #[.val (.long p1), .second, .val (.int p2), .val (.int o1), .val (.long ((1000000000000000000 : Int64) + (o1.toInt64))), .second, .val (.long ((1000000000000000000 : Int64) + (o1.toInt64))), .second, .val (.int (0 : Int32)), .val (.int (0 : Int32)), .unset, .unset] [])
        refine Go.step (fun t k => XT.lloadN X17.here hx rfl (hb hby at_61) rfl k) ?_
        show Go _ _ _ _ _ _ _ T17 (mkF m 62 #[.val (.long p1), .second, .val (.int p2), .val (.int o1), .val (.long ((1000000000000000000 : Int64) + (o1.toInt64))), .second, .val (.long ((1000000000000000000 : Int64) + (o1.toInt64))), .second, .val (.int (0 : Int32)), .val (.int (0 : Int32)), .unset, .unset] [(.long p1)])
        obtain ⟨_, _, ⟨T25, L25, k25, n25⟩, -, X25, ⟨Lc25, hQ25, l25, y25, z25⟩, st25⟩ := Jvm.LawKit.callS X17 hx (y := (⟨"com/example/limitbook/limitbook/rules/PriceKeys", "atBound", "(J)Z"⟩ : MethodName)) hown (mvT hZ (hw _ (List.mem_of_getElem? (i := 5) rfl))) (mvT hZ (hw _ (List.mem_of_getElem? (i := 6) rfl))) (mvT hZ (hw _ (List.mem_of_getElem? (i := 7) rfl))) (mvT hZ (hw _ (List.mem_of_getElem? (i := 8) rfl))) (by decide) (backOf (W := 0) (rm2 l Z a0 hw [] p1 h0 n0 Z0 ) hZ (hw _ (List.mem_of_getElem? (i := 8) rfl)) (hw _ (List.mem_of_getElem? (i := 7) rfl)) (by decide) (by decide)) (g := (mkF m 62 #[.val (.long p1), .second, .val (.int p2), .val (.int o1), .val (.long ((1000000000000000000 : Int64) + (o1.toInt64))), .second, .val (.long ((1000000000000000000 : Int64) + (o1.toInt64))), .second, .val (.int (0 : Int32)), .val (.int (0 : Int32)), .unset, .unset] [(.long p1)])) rfl (by rw [hml]; rfl) (argsL := [(.long p1)]) (rest := []) (lenOf pd_1 rfl) rfl (by show 2 * 0 + _ ≤ _; exact Nat.le_of_eq rfl) (hb hby at_62) (fun _ _ => ⟨rfl, (e17), (by decide : 0 + 0 + 0 ≤ _), (by decide : 0 + 0 + 0 ≤ _)⟩)
        dsimp only [Pt.U, Pt.locs, Pt.cells, Pt.slots] at X25 l25 y25 z25 st25 hQ25
        subst l25 y25 z25
        obtain ⟨rfl, N25q, e25⟩ := hQ25
        have N25 := Fr.app N17 N25q
        refine Go.step st25 ?_
        show Go _ _ _ _ _ _ _ T25 (mkF m 65 #[.val (.long p1), .second, .val (.int p2), .val (.int o1), .val (.long ((1000000000000000000 : Int64) + (o1.toInt64))), .second, .val (.long ((1000000000000000000 : Int64) + (o1.toInt64))), .second, .val (.int (0 : Int32)), .val (.int (0 : Int32)), .unset, .unset] [(.int (own_at p1))])
        refine Go.step (fun t k => XS.iload X25.here hx rfl (hb hby at_65) rfl k) ?_
        show Go _ _ _ _ _ _ _ T25 (mkF m 67 #[.val (.long p1), .second, .val (.int p2), .val (.int o1), .val (.long ((1000000000000000000 : Int64) + (o1.toInt64))), .second, .val (.long ((1000000000000000000 : Int64) + (o1.toInt64))), .second, .val (.int (0 : Int32)), .val (.int (0 : Int32)), .unset, .unset] [(.int (0 : Int32)), (.int (own_at p1))])
        have hb67_26 : (own_at p1) = (0 : Int32) := by first | exact own_k1 hb51_18 | exact own_k0 hb51_18
        refine Go.step (fun t k => XS.icmpNo X25.here hx rfl (hb hby at_67) rfl (XT.ii_ne_f hb67_26) k) ?_
        show Go _ _ _ _ _ _ _ T25 (mkF m 70 #[.val (.long p1), .second, .val (.int p2), .val (.int o1), .val (.long ((1000000000000000000 : Int64) + (o1.toInt64))), .second, .val (.long ((1000000000000000000 : Int64) + (o1.toInt64))), .second, .val (.int (0 : Int32)), .val (.int (0 : Int32)), .unset, .unset] [])
        refine Go.step (fun t k => XS.iconst X25.here hx rfl (hb hby at_70) k) ?_
        show Go _ _ _ _ _ _ _ T25 (mkF m 71 #[.val (.long p1), .second, .val (.int p2), .val (.int o1), .val (.long ((1000000000000000000 : Int64) + (o1.toInt64))), .second, .val (.long ((1000000000000000000 : Int64) + (o1.toInt64))), .second, .val (.int (0 : Int32)), .val (.int (0 : Int32)), .unset, .unset] [(.int (1 : Int32))])
        refine Go.step (fun t k => XS.goto X25.here hx rfl (pc0 := 71) (pc' := 75) rfl (hb hby at_71) (by decide) (by decide) k) ?_
        show Go _ _ _ _ _ _ _ T25 (mkF m 75 #[.val (.long p1), .second, .val (.int p2), .val (.int o1), .val (.long ((1000000000000000000 : Int64) + (o1.toInt64))), .second, .val (.long ((1000000000000000000 : Int64) + (o1.toInt64))), .second, .val (.int (0 : Int32)), .val (.int (0 : Int32)), .unset, .unset] [(.int (1 : Int32))])
        refine Go.step (fun t k => XS.istore X25.here hx rfl (hb hby at_75) rfl (l' := #[.val (.long p1), .second, .val (.int p2), .val (.int o1), .val (.long ((1000000000000000000 : Int64) + (o1.toInt64))), .second, .val (.long ((1000000000000000000 : Int64) + (o1.toInt64))), .second, .val (.int (0 : Int32)), .val (.int (0 : Int32)), .val (.int (1 : Int32)), .unset]) rfl k) ?_
        show Go _ _ _ _ _ _ _ T25 (mkF m 77 #[.val (.long p1), .second, .val (.int p2), .val (.int o1), .val (.long ((1000000000000000000 : Int64) + (o1.toInt64))), .second, .val (.long ((1000000000000000000 : Int64) + (o1.toInt64))), .second, .val (.int (0 : Int32)), .val (.int (0 : Int32)), .val (.int (1 : Int32)), .unset] [])
        refine Go.step (fun t k => XT.lload X25.here hx rfl (hb hby at_77) rfl k) ?_
        show Go _ _ _ _ _ _ _ T25 (mkF m 79 #[.val (.long p1), .second, .val (.int p2), .val (.int o1), .val (.long ((1000000000000000000 : Int64) + (o1.toInt64))), .second, .val (.long ((1000000000000000000 : Int64) + (o1.toInt64))), .second, .val (.int (0 : Int32)), .val (.int (0 : Int32)), .val (.int (1 : Int32)), .unset] [(.long ((1000000000000000000 : Int64) + (o1.toInt64)))])
        obtain ⟨_, _, ⟨T27, L27, k27, n27⟩, -, X27, ⟨Lc27, hQ27, l27, y27, z27⟩, st27⟩ := Jvm.LawKit.callS X25 hx (y := (⟨"com/example/limitbook/limitbook/rules/PriceKeys", "atBound", "(J)Z"⟩ : MethodName)) hown (mvT hZ (hw _ (List.mem_of_getElem? (i := 5) rfl))) (mvT hZ (hw _ (List.mem_of_getElem? (i := 6) rfl))) (mvT hZ (hw _ (List.mem_of_getElem? (i := 7) rfl))) (mvT hZ (hw _ (List.mem_of_getElem? (i := 8) rfl))) (by decide) (backOf (W := 0) (rm2 l Z a0 hw [] ((1000000000000000000 : Int64) + (o1.toInt64)) h0 n0 Z0 ) hZ (hw _ (List.mem_of_getElem? (i := 8) rfl)) (hw _ (List.mem_of_getElem? (i := 7) rfl)) (by decide) (by decide)) (g := (mkF m 79 #[.val (.long p1), .second, .val (.int p2), .val (.int o1), .val (.long ((1000000000000000000 : Int64) + (o1.toInt64))), .second, .val (.long ((1000000000000000000 : Int64) + (o1.toInt64))), .second, .val (.int (0 : Int32)), .val (.int (0 : Int32)), .val (.int (1 : Int32)), .unset] [(.long ((1000000000000000000 : Int64) + (o1.toInt64)))])) rfl (by rw [hml]; rfl) (argsL := [(.long ((1000000000000000000 : Int64) + (o1.toInt64)))]) (rest := []) (lenOf pd_1 rfl) rfl (by show 2 * 0 + _ ≤ _; exact Nat.le_of_eq rfl) (hb hby at_79) (fun _ _ => ⟨rfl, (e25), (by decide : 0 + 0 + 0 + 0 ≤ _), (by decide : 0 + 0 + 0 + 0 ≤ _)⟩)
        dsimp only [Pt.U, Pt.locs, Pt.cells, Pt.slots] at X27 l27 y27 z27 st27 hQ27
        subst l27 y27 z27
        obtain ⟨rfl, N27q, e27⟩ := hQ27
        have N27 := Fr.app N25 N27q
        refine Go.step st27 ?_
        show Go _ _ _ _ _ _ _ T27 (mkF m 82 #[.val (.long p1), .second, .val (.int p2), .val (.int o1), .val (.long ((1000000000000000000 : Int64) + (o1.toInt64))), .second, .val (.long ((1000000000000000000 : Int64) + (o1.toInt64))), .second, .val (.int (0 : Int32)), .val (.int (0 : Int32)), .val (.int (1 : Int32)), .unset] [(.int (own_at ((1000000000000000000 : Int64) + (o1.toInt64))))])
        refine Go.step (fun t k => XS.iload X27.here hx rfl (hb hby at_82) rfl k) ?_
        show Go _ _ _ _ _ _ _ T27 (mkF m 84 #[.val (.long p1), .second, .val (.int p2), .val (.int o1), .val (.long ((1000000000000000000 : Int64) + (o1.toInt64))), .second, .val (.long ((1000000000000000000 : Int64) + (o1.toInt64))), .second, .val (.int (0 : Int32)), .val (.int (0 : Int32)), .val (.int (1 : Int32)), .unset] [(.int (0 : Int32)), (.int (own_at ((1000000000000000000 : Int64) + (o1.toInt64))))])
        have hb84_28 : (own_at ((1000000000000000000 : Int64) + (o1.toInt64))) = (0 : Int32) := by first | exact (own_n1 hb33_2).1 | exact (own_n1 hb33_2).2 | exact (own_n0 ho1r hb33_2).1 | exact (own_n0 ho1r hb33_2).2
        refine Go.step (fun t k => XS.icmpNo X27.here hx rfl (hb hby at_84) rfl (XT.ii_ne_f hb84_28) k) ?_
        show Go _ _ _ _ _ _ _ T27 (mkF m 87 #[.val (.long p1), .second, .val (.int p2), .val (.int o1), .val (.long ((1000000000000000000 : Int64) + (o1.toInt64))), .second, .val (.long ((1000000000000000000 : Int64) + (o1.toInt64))), .second, .val (.int (0 : Int32)), .val (.int (0 : Int32)), .val (.int (1 : Int32)), .unset] [])
        refine Go.step (fun t k => XS.iconst X27.here hx rfl (hb hby at_87) k) ?_
        show Go _ _ _ _ _ _ _ T27 (mkF m 88 #[.val (.long p1), .second, .val (.int p2), .val (.int o1), .val (.long ((1000000000000000000 : Int64) + (o1.toInt64))), .second, .val (.long ((1000000000000000000 : Int64) + (o1.toInt64))), .second, .val (.int (0 : Int32)), .val (.int (0 : Int32)), .val (.int (1 : Int32)), .unset] [(.int (1 : Int32))])
        refine Go.step (fun t k => XS.goto X27.here hx rfl (pc0 := 88) (pc' := 92) rfl (hb hby at_88) (by decide) (by decide) k) ?_
        show Go _ _ _ _ _ _ _ T27 (mkF m 92 #[.val (.long p1), .second, .val (.int p2), .val (.int o1), .val (.long ((1000000000000000000 : Int64) + (o1.toInt64))), .second, .val (.long ((1000000000000000000 : Int64) + (o1.toInt64))), .second, .val (.int (0 : Int32)), .val (.int (0 : Int32)), .val (.int (1 : Int32)), .unset] [(.int (1 : Int32))])
        refine Go.step (fun t k => XS.istore X27.here hx rfl (hb hby at_92) rfl (l' := #[.val (.long p1), .second, .val (.int p2), .val (.int o1), .val (.long ((1000000000000000000 : Int64) + (o1.toInt64))), .second, .val (.long ((1000000000000000000 : Int64) + (o1.toInt64))), .second, .val (.int (0 : Int32)), .val (.int (0 : Int32)), .val (.int (1 : Int32)), .val (.int (1 : Int32))]) rfl k) ?_
        show Go _ _ _ _ _ _ _ T27 (mkF m 94 #[.val (.long p1), .second, .val (.int p2), .val (.int o1), .val (.long ((1000000000000000000 : Int64) + (o1.toInt64))), .second, .val (.long ((1000000000000000000 : Int64) + (o1.toInt64))), .second, .val (.int (0 : Int32)), .val (.int (0 : Int32)), .val (.int (1 : Int32)), .val (.int (1 : Int32))] [])
        refine Go.step (fun t k => XS.iload X27.here hx rfl (hb hby at_94) rfl k) ?_
        show Go _ _ _ _ _ _ _ T27 (mkF m 96 #[.val (.long p1), .second, .val (.int p2), .val (.int o1), .val (.long ((1000000000000000000 : Int64) + (o1.toInt64))), .second, .val (.long ((1000000000000000000 : Int64) + (o1.toInt64))), .second, .val (.int (0 : Int32)), .val (.int (0 : Int32)), .val (.int (1 : Int32)), .val (.int (1 : Int32))] [(.int (1 : Int32))])
        have hb96_29 : ¬ ((1 : Int32) = (0 : Int32)) := by decide
        refine Go.step (fun t k => XS.ifNo X27.here hx rfl (hb hby at_96) rfl (XT.i0_eq_f hb96_29) k) ?_
        show Go _ _ _ _ _ _ _ T27 (mkF m 99 #[.val (.long p1), .second, .val (.int p2), .val (.int o1), .val (.long ((1000000000000000000 : Int64) + (o1.toInt64))), .second, .val (.long ((1000000000000000000 : Int64) + (o1.toInt64))), .second, .val (.int (0 : Int32)), .val (.int (0 : Int32)), .val (.int (1 : Int32)), .val (.int (1 : Int32))] [])
        refine Go.step (fun t k => XS.iload X27.here hx rfl (hb hby at_99) rfl k) ?_
        show Go _ _ _ _ _ _ _ T27 (mkF m 101 #[.val (.long p1), .second, .val (.int p2), .val (.int o1), .val (.long ((1000000000000000000 : Int64) + (o1.toInt64))), .second, .val (.long ((1000000000000000000 : Int64) + (o1.toInt64))), .second, .val (.int (0 : Int32)), .val (.int (0 : Int32)), .val (.int (1 : Int32)), .val (.int (1 : Int32))] [(.int (1 : Int32))])
        have hb101_30 : ¬ ((1 : Int32) = (0 : Int32)) := by decide
        refine Go.step (fun t k => XS.ifNo X27.here hx rfl (hb hby at_101) rfl (XT.i0_eq_f hb101_30) k) ?_
        show Go _ _ _ _ _ _ _ T27 (mkF m 104 #[.val (.long p1), .second, .val (.int p2), .val (.int o1), .val (.long ((1000000000000000000 : Int64) + (o1.toInt64))), .second, .val (.long ((1000000000000000000 : Int64) + (o1.toInt64))), .second, .val (.int (0 : Int32)), .val (.int (0 : Int32)), .val (.int (1 : Int32)), .val (.int (1 : Int32))] [])
        refine Go.step (fun t k => XS.iconst X27.here hx rfl (hb hby at_104) k) ?_
        show Go _ _ _ _ _ _ _ T27 (mkF m 105 #[.val (.long p1), .second, .val (.int p2), .val (.int o1), .val (.long ((1000000000000000000 : Int64) + (o1.toInt64))), .second, .val (.long ((1000000000000000000 : Int64) + (o1.toInt64))), .second, .val (.int (0 : Int32)), .val (.int (0 : Int32)), .val (.int (1 : Int32)), .val (.int (1 : Int32))] [(.int (1 : Int32))])
        refine Go.step (fun t k => XS.goto X27.here hx rfl (pc0 := 105) (pc' := 109) rfl (hb hby at_105) (by decide) (by decide) k) ?_
        show Go _ _ _ _ _ _ _ T27 (mkF m 109 #[.val (.long p1), .second, .val (.int p2), .val (.int o1), .val (.long ((1000000000000000000 : Int64) + (o1.toInt64))), .second, .val (.long ((1000000000000000000 : Int64) + (o1.toInt64))), .second, .val (.int (0 : Int32)), .val (.int (0 : Int32)), .val (.int (1 : Int32)), .val (.int (1 : Int32))] [(.int (1 : Int32))])
        refine Go.ret X27 hx hlk Bd.returns rfl (Or.inl ⟨rfl, Or.inr (Or.inl rfl), _, rfl⟩) (hb hby at_109) ?_ (by decide) (by decide)
        show Q0 Z _ _ _ _ _ T27.heap _
        exact ⟨rfl, N27⟩
  · refine Go.step (fun t k => XS.ifNo X0.here hx rfl (hb hby at_19) rfl (XT.i0_eq_f hb19_1) k) ?_
    show Go _ _ _ _ _ _ _ s₁ (mkF m 22 #[.val (.long p1), .second, .val (.int p2), .val (.int o1), .val (.long ((1000000000000000000 : Int64) + (o1.toInt64))), .second, .unset, .unset, .unset, .unset, .unset, .unset] [])
    refine Go.step (fun t k => XT.lload X0.here hx rfl (hb hby at_22) rfl k) ?_
    show Go _ _ _ _ _ _ _ s₁ (mkF m 24 #[.val (.long p1), .second, .val (.int p2), .val (.int o1), .val (.long ((1000000000000000000 : Int64) + (o1.toInt64))), .second, .unset, .unset, .unset, .unset, .unset, .unset] [(.long ((1000000000000000000 : Int64) + (o1.toInt64)))])
    refine Go.step (fun t k => XT.lneg X0.here hx rfl (hb hby at_24) rfl k) ?_
    show Go _ _ _ _ _ _ _ s₁ (mkF m 25 #[.val (.long p1), .second, .val (.int p2), .val (.int o1), .val (.long ((1000000000000000000 : Int64) + (o1.toInt64))), .second, .unset, .unset, .unset, .unset, .unset, .unset] [(.long (-((1000000000000000000 : Int64) + (o1.toInt64))))])
    refine Go.step (fun t k => XS.goto X0.here hx rfl (pc0 := 25) (pc' := 30) rfl (hb hby at_25) (by decide) (by decide) k) ?_
    show Go _ _ _ _ _ _ _ s₁ (mkF m 30 #[.val (.long p1), .second, .val (.int p2), .val (.int o1), .val (.long ((1000000000000000000 : Int64) + (o1.toInt64))), .second, .unset, .unset, .unset, .unset, .unset, .unset] [(.long (-((1000000000000000000 : Int64) + (o1.toInt64))))])
    refine Go.step (fun t k => XT.lstore X0.here hx rfl (hb hby at_30) rfl (l' := #[.val (.long p1), .second, .val (.int p2), .val (.int o1), .val (.long ((1000000000000000000 : Int64) + (o1.toInt64))), .second, .val (.long (-((1000000000000000000 : Int64) + (o1.toInt64)))), .second, .unset, .unset, .unset, .unset]) rfl k) ?_
    show Go _ _ _ _ _ _ _ s₁ (mkF m 32 #[.val (.long p1), .second, .val (.int p2), .val (.int o1), .val (.long ((1000000000000000000 : Int64) + (o1.toInt64))), .second, .val (.long (-((1000000000000000000 : Int64) + (o1.toInt64)))), .second, .unset, .unset, .unset, .unset] [])
    refine Go.step (fun t k => XS.iloadN X0.here hx rfl (hb hby at_32) rfl k) ?_
    show Go _ _ _ _ _ _ _ s₁ (mkF m 33 #[.val (.long p1), .second, .val (.int p2), .val (.int o1), .val (.long ((1000000000000000000 : Int64) + (o1.toInt64))), .second, .val (.long (-((1000000000000000000 : Int64) + (o1.toInt64)))), .second, .unset, .unset, .unset, .unset] [(.int o1)])
    by_cases hb33_31 : o1 = (0 : Int32)
    · refine Go.step (fun t k => XS.ifNo X0.here hx rfl (hb hby at_33) rfl (XT.i0_ne_f hb33_31) k) ?_
      show Go _ _ _ _ _ _ _ s₁ (mkF m 36 #[.val (.long p1), .second, .val (.int p2), .val (.int o1), .val (.long ((1000000000000000000 : Int64) + (o1.toInt64))), .second, .val (.long (-((1000000000000000000 : Int64) + (o1.toInt64)))), .second, .unset, .unset, .unset, .unset] [])
      refine Go.step (fun t k => XS.iconst X0.here hx rfl (hb hby at_36) k) ?_
      show Go _ _ _ _ _ _ _ s₁ (mkF m 37 #[.val (.long p1), .second, .val (.int p2), .val (.int o1), .val (.long ((1000000000000000000 : Int64) + (o1.toInt64))), .second, .val (.long (-((1000000000000000000 : Int64) + (o1.toInt64)))), .second, .unset, .unset, .unset, .unset] [(.int (1 : Int32))])
      refine Go.step (fun t k => XS.goto X0.here hx rfl (pc0 := 37) (pc' := 41) rfl (hb hby at_37) (by decide) (by decide) k) ?_
      show Go _ _ _ _ _ _ _ s₁ (mkF m 41 #[.val (.long p1), .second, .val (.int p2), .val (.int o1), .val (.long ((1000000000000000000 : Int64) + (o1.toInt64))), .second, .val (.long (-((1000000000000000000 : Int64) + (o1.toInt64)))), .second, .unset, .unset, .unset, .unset] [(.int (1 : Int32))])
      refine Go.step (fun t k => XS.istore X0.here hx rfl (hb hby at_41) rfl (l' := #[.val (.long p1), .second, .val (.int p2), .val (.int o1), .val (.long ((1000000000000000000 : Int64) + (o1.toInt64))), .second, .val (.long (-((1000000000000000000 : Int64) + (o1.toInt64)))), .second, .val (.int (1 : Int32)), .unset, .unset, .unset]) rfl k) ?_
      show Go _ _ _ _ _ _ _ s₁ (mkF m 43 #[.val (.long p1), .second, .val (.int p2), .val (.int o1), .val (.long ((1000000000000000000 : Int64) + (o1.toInt64))), .second, .val (.long (-((1000000000000000000 : Int64) + (o1.toInt64)))), .second, .val (.int (1 : Int32)), .unset, .unset, .unset] [])
      refine Go.step (fun t k => XT.lloadN X0.here hx rfl (hb hby at_43) rfl k) ?_
      show Go _ _ _ _ _ _ _ s₁ (mkF m 44 #[.val (.long p1), .second, .val (.int p2), .val (.int o1), .val (.long ((1000000000000000000 : Int64) + (o1.toInt64))), .second, .val (.long (-((1000000000000000000 : Int64) + (o1.toInt64)))), .second, .val (.int (1 : Int32)), .unset, .unset, .unset] [(.long p1)])
      obtain ⟨_, _, ⟨T32, L32, k32, n32⟩, -, X32, ⟨Lc32, hQ32, l32, y32, z32⟩, st32⟩ := Jvm.LawKit.callS X0 hx (y := (⟨"java/lang/Math", "abs", "(J)J"⟩ : MethodName)) hown (mvT hZ (hw _ (List.mem_of_getElem? (i := 1) rfl))) (mvT hZ (hw _ (List.mem_of_getElem? (i := 2) rfl))) (mvT hZ (hw _ (List.mem_of_getElem? (i := 3) rfl))) (mvT hZ (hw _ (List.mem_of_getElem? (i := 4) rfl))) (by decide) (backOf (W := 0) (rm1 l Z a0 hw [] p1 h0 n0 Z0 ) hZ (hw _ (List.mem_of_getElem? (i := 4) rfl)) (hw _ (List.mem_of_getElem? (i := 3) rfl)) (by decide) (by decide)) (g := (mkF m 44 #[.val (.long p1), .second, .val (.int p2), .val (.int o1), .val (.long ((1000000000000000000 : Int64) + (o1.toInt64))), .second, .val (.long (-((1000000000000000000 : Int64) + (o1.toInt64)))), .second, .val (.int (1 : Int32)), .unset, .unset, .unset] [(.long p1)])) rfl (by rw [hml]; rfl) (argsL := [(.long p1)]) (rest := []) (lenOf pd_0 rfl) rfl (by show 2 * 0 + _ ≤ _; exact Nat.le_of_eq rfl) (hb hby at_44) (fun _ _ => ⟨rfl, e0, (by decide : 0 + 0 ≤ _), (by decide : 0 + 0 ≤ _)⟩)
      dsimp only [Pt.U, Pt.locs, Pt.cells, Pt.slots] at X32 l32 y32 z32 st32 hQ32
      subst l32 y32 z32
      obtain ⟨rfl, N32q, e32⟩ := hQ32
      have N32 := Fr.app N0 N32q
      refine Go.step st32 ?_
      show Go _ _ _ _ _ _ _ T32 (mkF m 47 #[.val (.long p1), .second, .val (.int p2), .val (.int o1), .val (.long ((1000000000000000000 : Int64) + (o1.toInt64))), .second, .val (.long (-((1000000000000000000 : Int64) + (o1.toInt64)))), .second, .val (.int (1 : Int32)), .unset, .unset, .unset] [(.long (own_abs p1))])
      refine Go.step (fun t k => X32.ldc2J hx hown (mvT hZ (hw _ (List.mem_of_getElem? (i := 0) rfl))) rfl (hb hby at_47) k) ?_
      show Go _ _ _ _ _ _ _ T32 (mkF m 50 #[.val (.long p1), .second, .val (.int p2), .val (.int o1), .val (.long ((1000000000000000000 : Int64) + (o1.toInt64))), .second, .val (.long (-((1000000000000000000 : Int64) + (o1.toInt64)))), .second, .val (.int (1 : Int32)), .unset, .unset, .unset] [(.long (1000000000000000000 : Int64)), (.long (own_abs p1))])
      refine Go.step (fun t k => XT.lcmp X32.here hx rfl (hb hby at_50) rfl k) ?_
      show Go _ _ _ _ _ _ _ T32 (mkF m 51 #[.val (.long p1), .second, .val (.int p2), .val (.int o1), .val (.long ((1000000000000000000 : Int64) + (o1.toInt64))), .second, .val (.long (-((1000000000000000000 : Int64) + (o1.toInt64)))), .second, .val (.int (1 : Int32)), .unset, .unset, .unset] [(.int (XT.cmpL (own_abs p1) (1000000000000000000 : Int64)))])
      by_cases hb51_33 : (own_abs p1) = (1000000000000000000 : Int64)
      · refine Go.step (fun t k => XS.ifNo X32.here hx rfl (hb hby at_51) rfl (XT.ll_ne_f hb51_33) k) ?_
        show Go _ _ _ _ _ _ _ T32 (mkF m 54 #[.val (.long p1), .second, .val (.int p2), .val (.int o1), .val (.long ((1000000000000000000 : Int64) + (o1.toInt64))), .second, .val (.long (-((1000000000000000000 : Int64) + (o1.toInt64)))), .second, .val (.int (1 : Int32)), .unset, .unset, .unset] [])
        refine Go.step (fun t k => XS.iconst X32.here hx rfl (hb hby at_54) k) ?_
        show Go _ _ _ _ _ _ _ T32 (mkF m 55 #[.val (.long p1), .second, .val (.int p2), .val (.int o1), .val (.long ((1000000000000000000 : Int64) + (o1.toInt64))), .second, .val (.long (-((1000000000000000000 : Int64) + (o1.toInt64)))), .second, .val (.int (1 : Int32)), .unset, .unset, .unset] [(.int (1 : Int32))])
        refine Go.step (fun t k => XS.goto X32.here hx rfl (pc0 := 55) (pc' := 59) rfl (hb hby at_55) (by decide) (by decide) k) ?_
        show Go _ _ _ _ _ _ _ T32 (mkF m 59 #[.val (.long p1), .second, .val (.int p2), .val (.int o1), .val (.long ((1000000000000000000 : Int64) + (o1.toInt64))), .second, .val (.long (-((1000000000000000000 : Int64) + (o1.toInt64)))), .second, .val (.int (1 : Int32)), .unset, .unset, .unset] [(.int (1 : Int32))])
        refine Go.step (fun t k => XS.istore X32.here hx rfl (hb hby at_59) rfl (l' := #[.val (.long p1), .second, .val (.int p2), .val (.int o1), .val (.long ((1000000000000000000 : Int64) + (o1.toInt64))), .second, .val (.long (-((1000000000000000000 : Int64) + (o1.toInt64)))), .second, .val (.int (1 : Int32)), .val (.int (1 : Int32)), .unset, .unset]) rfl k) ?_
        show Go _ _ _ _ _ _ _ T32 (mkF m 61 #[.val (.long p1), .second, .val (.int p2), .val (.int o1), .val (.long ((1000000000000000000 : Int64) + (o1.toInt64))), .second, .val (.long (-((1000000000000000000 : Int64) + (o1.toInt64)))), .second, .val (.int (1 : Int32)), .val (.int (1 : Int32)), .unset, .unset] [])
        refine Go.step (fun t k => XT.lloadN X32.here hx rfl (hb hby at_61) rfl k) ?_
        show Go _ _ _ _ _ _ _ T32 (mkF m 62 #[.val (.long p1), .second, .val (.int p2), .val (.int o1), .val (.long ((1000000000000000000 : Int64) + (o1.toInt64))), .second, .val (.long (-((1000000000000000000 : Int64) + (o1.toInt64)))), .second, .val (.int (1 : Int32)), .val (.int (1 : Int32)), .unset, .unset] [(.long p1)])
        obtain ⟨_, _, ⟨T34, L34, k34, n34⟩, -, X34, ⟨Lc34, hQ34, l34, y34, z34⟩, st34⟩ := Jvm.LawKit.callS X32 hx (y := (⟨"com/example/limitbook/limitbook/rules/PriceKeys", "atBound", "(J)Z"⟩ : MethodName)) hown (mvT hZ (hw _ (List.mem_of_getElem? (i := 5) rfl))) (mvT hZ (hw _ (List.mem_of_getElem? (i := 6) rfl))) (mvT hZ (hw _ (List.mem_of_getElem? (i := 7) rfl))) (mvT hZ (hw _ (List.mem_of_getElem? (i := 8) rfl))) (by decide) (backOf (W := 0) (rm2 l Z a0 hw [] p1 h0 n0 Z0 ) hZ (hw _ (List.mem_of_getElem? (i := 8) rfl)) (hw _ (List.mem_of_getElem? (i := 7) rfl)) (by decide) (by decide)) (g := (mkF m 62 #[.val (.long p1), .second, .val (.int p2), .val (.int o1), .val (.long ((1000000000000000000 : Int64) + (o1.toInt64))), .second, .val (.long (-((1000000000000000000 : Int64) + (o1.toInt64)))), .second, .val (.int (1 : Int32)), .val (.int (1 : Int32)), .unset, .unset] [(.long p1)])) rfl (by rw [hml]; rfl) (argsL := [(.long p1)]) (rest := []) (lenOf pd_1 rfl) rfl (by show 2 * 0 + _ ≤ _; exact Nat.le_of_eq rfl) (hb hby at_62) (fun _ _ => ⟨rfl, (e32), (by decide : 0 + 0 + 0 ≤ _), (by decide : 0 + 0 + 0 ≤ _)⟩)
        dsimp only [Pt.U, Pt.locs, Pt.cells, Pt.slots] at X34 l34 y34 z34 st34 hQ34
        subst l34 y34 z34
        obtain ⟨rfl, N34q, e34⟩ := hQ34
        have N34 := Fr.app N32 N34q
        refine Go.step st34 ?_
        show Go _ _ _ _ _ _ _ T34 (mkF m 65 #[.val (.long p1), .second, .val (.int p2), .val (.int o1), .val (.long ((1000000000000000000 : Int64) + (o1.toInt64))), .second, .val (.long (-((1000000000000000000 : Int64) + (o1.toInt64)))), .second, .val (.int (1 : Int32)), .val (.int (1 : Int32)), .unset, .unset] [(.int (own_at p1))])
        refine Go.step (fun t k => XS.iload X34.here hx rfl (hb hby at_65) rfl k) ?_
        show Go _ _ _ _ _ _ _ T34 (mkF m 67 #[.val (.long p1), .second, .val (.int p2), .val (.int o1), .val (.long ((1000000000000000000 : Int64) + (o1.toInt64))), .second, .val (.long (-((1000000000000000000 : Int64) + (o1.toInt64)))), .second, .val (.int (1 : Int32)), .val (.int (1 : Int32)), .unset, .unset] [(.int (1 : Int32)), (.int (own_at p1))])
        have hb67_35 : (own_at p1) = (1 : Int32) := by first | exact own_k1 hb51_33 | exact own_k0 hb51_33
        refine Go.step (fun t k => XS.icmpNo X34.here hx rfl (hb hby at_67) rfl (XT.ii_ne_f hb67_35) k) ?_
        show Go _ _ _ _ _ _ _ T34 (mkF m 70 #[.val (.long p1), .second, .val (.int p2), .val (.int o1), .val (.long ((1000000000000000000 : Int64) + (o1.toInt64))), .second, .val (.long (-((1000000000000000000 : Int64) + (o1.toInt64)))), .second, .val (.int (1 : Int32)), .val (.int (1 : Int32)), .unset, .unset] [])
        refine Go.step (fun t k => XS.iconst X34.here hx rfl (hb hby at_70) k) ?_
        show Go _ _ _ _ _ _ _ T34 (mkF m 71 #[.val (.long p1), .second, .val (.int p2), .val (.int o1), .val (.long ((1000000000000000000 : Int64) + (o1.toInt64))), .second, .val (.long (-((1000000000000000000 : Int64) + (o1.toInt64)))), .second, .val (.int (1 : Int32)), .val (.int (1 : Int32)), .unset, .unset] [(.int (1 : Int32))])
        refine Go.step (fun t k => XS.goto X34.here hx rfl (pc0 := 71) (pc' := 75) rfl (hb hby at_71) (by decide) (by decide) k) ?_
        show Go _ _ _ _ _ _ _ T34 (mkF m 75 #[.val (.long p1), .second, .val (.int p2), .val (.int o1), .val (.long ((1000000000000000000 : Int64) + (o1.toInt64))), .second, .val (.long (-((1000000000000000000 : Int64) + (o1.toInt64)))), .second, .val (.int (1 : Int32)), .val (.int (1 : Int32)), .unset, .unset] [(.int (1 : Int32))])
        refine Go.step (fun t k => XS.istore X34.here hx rfl (hb hby at_75) rfl (l' := #[.val (.long p1), .second, .val (.int p2), .val (.int o1), .val (.long ((1000000000000000000 : Int64) + (o1.toInt64))), .second, .val (.long (-((1000000000000000000 : Int64) + (o1.toInt64)))), .second, .val (.int (1 : Int32)), .val (.int (1 : Int32)), .val (.int (1 : Int32)), .unset]) rfl k) ?_
        show Go _ _ _ _ _ _ _ T34 (mkF m 77 #[.val (.long p1), .second, .val (.int p2), .val (.int o1), .val (.long ((1000000000000000000 : Int64) + (o1.toInt64))), .second, .val (.long (-((1000000000000000000 : Int64) + (o1.toInt64)))), .second, .val (.int (1 : Int32)), .val (.int (1 : Int32)), .val (.int (1 : Int32)), .unset] [])
        refine Go.step (fun t k => XT.lload X34.here hx rfl (hb hby at_77) rfl k) ?_
        show Go _ _ _ _ _ _ _ T34 (mkF m 79 #[.val (.long p1), .second, .val (.int p2), .val (.int o1), .val (.long ((1000000000000000000 : Int64) + (o1.toInt64))), .second, .val (.long (-((1000000000000000000 : Int64) + (o1.toInt64)))), .second, .val (.int (1 : Int32)), .val (.int (1 : Int32)), .val (.int (1 : Int32)), .unset] [(.long (-((1000000000000000000 : Int64) + (o1.toInt64))))])
        obtain ⟨_, _, ⟨T36, L36, k36, n36⟩, -, X36, ⟨Lc36, hQ36, l36, y36, z36⟩, st36⟩ := Jvm.LawKit.callS X34 hx (y := (⟨"com/example/limitbook/limitbook/rules/PriceKeys", "atBound", "(J)Z"⟩ : MethodName)) hown (mvT hZ (hw _ (List.mem_of_getElem? (i := 5) rfl))) (mvT hZ (hw _ (List.mem_of_getElem? (i := 6) rfl))) (mvT hZ (hw _ (List.mem_of_getElem? (i := 7) rfl))) (mvT hZ (hw _ (List.mem_of_getElem? (i := 8) rfl))) (by decide) (backOf (W := 0) (rm2 l Z a0 hw [] (-((1000000000000000000 : Int64) + (o1.toInt64))) h0 n0 Z0 ) hZ (hw _ (List.mem_of_getElem? (i := 8) rfl)) (hw _ (List.mem_of_getElem? (i := 7) rfl)) (by decide) (by decide)) (g := (mkF m 79 #[.val (.long p1), .second, .val (.int p2), .val (.int o1), .val (.long ((1000000000000000000 : Int64) + (o1.toInt64))), .second, .val (.long (-((1000000000000000000 : Int64) + (o1.toInt64)))), .second, .val (.int (1 : Int32)), .val (.int (1 : Int32)), .val (.int (1 : Int32)), .unset] [(.long (-((1000000000000000000 : Int64) + (o1.toInt64))))])) rfl (by rw [hml]; rfl) (argsL := [(.long (-((1000000000000000000 : Int64) + (o1.toInt64))))]) (rest := []) (lenOf pd_1 rfl) rfl (by show 2 * 0 + _ ≤ _; exact Nat.le_of_eq rfl) (hb hby at_79) (fun _ _ => ⟨rfl, (e34), (by decide : 0 + 0 + 0 + 0 ≤ _), (by decide : 0 + 0 + 0 + 0 ≤ _)⟩)
        dsimp only [Pt.U, Pt.locs, Pt.cells, Pt.slots] at X36 l36 y36 z36 st36 hQ36
        subst l36 y36 z36
        obtain ⟨rfl, N36q, e36⟩ := hQ36
        have N36 := Fr.app N34 N36q
        refine Go.step st36 ?_
        show Go _ _ _ _ _ _ _ T36 (mkF m 82 #[.val (.long p1), .second, .val (.int p2), .val (.int o1), .val (.long ((1000000000000000000 : Int64) + (o1.toInt64))), .second, .val (.long (-((1000000000000000000 : Int64) + (o1.toInt64)))), .second, .val (.int (1 : Int32)), .val (.int (1 : Int32)), .val (.int (1 : Int32)), .unset] [(.int (own_at (-((1000000000000000000 : Int64) + (o1.toInt64)))))])
        refine Go.step (fun t k => XS.iload X36.here hx rfl (hb hby at_82) rfl k) ?_
        show Go _ _ _ _ _ _ _ T36 (mkF m 84 #[.val (.long p1), .second, .val (.int p2), .val (.int o1), .val (.long ((1000000000000000000 : Int64) + (o1.toInt64))), .second, .val (.long (-((1000000000000000000 : Int64) + (o1.toInt64)))), .second, .val (.int (1 : Int32)), .val (.int (1 : Int32)), .val (.int (1 : Int32)), .unset] [(.int (1 : Int32)), (.int (own_at (-((1000000000000000000 : Int64) + (o1.toInt64)))))])
        have hb84_37 : (own_at (-((1000000000000000000 : Int64) + (o1.toInt64)))) = (1 : Int32) := by first | exact (own_n1 hb33_31).1 | exact (own_n1 hb33_31).2 | exact (own_n0 ho1r hb33_31).1 | exact (own_n0 ho1r hb33_31).2
        refine Go.step (fun t k => XS.icmpNo X36.here hx rfl (hb hby at_84) rfl (XT.ii_ne_f hb84_37) k) ?_
        show Go _ _ _ _ _ _ _ T36 (mkF m 87 #[.val (.long p1), .second, .val (.int p2), .val (.int o1), .val (.long ((1000000000000000000 : Int64) + (o1.toInt64))), .second, .val (.long (-((1000000000000000000 : Int64) + (o1.toInt64)))), .second, .val (.int (1 : Int32)), .val (.int (1 : Int32)), .val (.int (1 : Int32)), .unset] [])
        refine Go.step (fun t k => XS.iconst X36.here hx rfl (hb hby at_87) k) ?_
        show Go _ _ _ _ _ _ _ T36 (mkF m 88 #[.val (.long p1), .second, .val (.int p2), .val (.int o1), .val (.long ((1000000000000000000 : Int64) + (o1.toInt64))), .second, .val (.long (-((1000000000000000000 : Int64) + (o1.toInt64)))), .second, .val (.int (1 : Int32)), .val (.int (1 : Int32)), .val (.int (1 : Int32)), .unset] [(.int (1 : Int32))])
        refine Go.step (fun t k => XS.goto X36.here hx rfl (pc0 := 88) (pc' := 92) rfl (hb hby at_88) (by decide) (by decide) k) ?_
        show Go _ _ _ _ _ _ _ T36 (mkF m 92 #[.val (.long p1), .second, .val (.int p2), .val (.int o1), .val (.long ((1000000000000000000 : Int64) + (o1.toInt64))), .second, .val (.long (-((1000000000000000000 : Int64) + (o1.toInt64)))), .second, .val (.int (1 : Int32)), .val (.int (1 : Int32)), .val (.int (1 : Int32)), .unset] [(.int (1 : Int32))])
        refine Go.step (fun t k => XS.istore X36.here hx rfl (hb hby at_92) rfl (l' := #[.val (.long p1), .second, .val (.int p2), .val (.int o1), .val (.long ((1000000000000000000 : Int64) + (o1.toInt64))), .second, .val (.long (-((1000000000000000000 : Int64) + (o1.toInt64)))), .second, .val (.int (1 : Int32)), .val (.int (1 : Int32)), .val (.int (1 : Int32)), .val (.int (1 : Int32))]) rfl k) ?_
        show Go _ _ _ _ _ _ _ T36 (mkF m 94 #[.val (.long p1), .second, .val (.int p2), .val (.int o1), .val (.long ((1000000000000000000 : Int64) + (o1.toInt64))), .second, .val (.long (-((1000000000000000000 : Int64) + (o1.toInt64)))), .second, .val (.int (1 : Int32)), .val (.int (1 : Int32)), .val (.int (1 : Int32)), .val (.int (1 : Int32))] [])
        refine Go.step (fun t k => XS.iload X36.here hx rfl (hb hby at_94) rfl k) ?_
        show Go _ _ _ _ _ _ _ T36 (mkF m 96 #[.val (.long p1), .second, .val (.int p2), .val (.int o1), .val (.long ((1000000000000000000 : Int64) + (o1.toInt64))), .second, .val (.long (-((1000000000000000000 : Int64) + (o1.toInt64)))), .second, .val (.int (1 : Int32)), .val (.int (1 : Int32)), .val (.int (1 : Int32)), .val (.int (1 : Int32))] [(.int (1 : Int32))])
        have hb96_38 : ¬ ((1 : Int32) = (0 : Int32)) := by decide
        refine Go.step (fun t k => XS.ifNo X36.here hx rfl (hb hby at_96) rfl (XT.i0_eq_f hb96_38) k) ?_
        show Go _ _ _ _ _ _ _ T36 (mkF m 99 #[.val (.long p1), .second, .val (.int p2), .val (.int o1), .val (.long ((1000000000000000000 : Int64) + (o1.toInt64))), .second, .val (.long (-((1000000000000000000 : Int64) + (o1.toInt64)))), .second, .val (.int (1 : Int32)), .val (.int (1 : Int32)), .val (.int (1 : Int32)), .val (.int (1 : Int32))] [])
        refine Go.step (fun t k => XS.iload X36.here hx rfl (hb hby at_99) rfl k) ?_
        show Go _ _ _ _ _ _ _ T36 (mkF m 101 #[.val (.long p1), .second, .val (.int p2), .val (.int o1), .val (.long ((1000000000000000000 : Int64) + (o1.toInt64))), .second, .val (.long (-((1000000000000000000 : Int64) + (o1.toInt64)))), .second, .val (.int (1 : Int32)), .val (.int (1 : Int32)), .val (.int (1 : Int32)), .val (.int (1 : Int32))] [(.int (1 : Int32))])
        have hb101_39 : ¬ ((1 : Int32) = (0 : Int32)) := by decide
        refine Go.step (fun t k => XS.ifNo X36.here hx rfl (hb hby at_101) rfl (XT.i0_eq_f hb101_39) k) ?_
        show Go _ _ _ _ _ _ _ T36 (mkF m 104 #[.val (.long p1), .second, .val (.int p2), .val (.int o1), .val (.long ((1000000000000000000 : Int64) + (o1.toInt64))), .second, .val (.long (-((1000000000000000000 : Int64) + (o1.toInt64)))), .second, .val (.int (1 : Int32)), .val (.int (1 : Int32)), .val (.int (1 : Int32)), .val (.int (1 : Int32))] [])
        refine Go.step (fun t k => XS.iconst X36.here hx rfl (hb hby at_104) k) ?_
        show Go _ _ _ _ _ _ _ T36 (mkF m 105 #[.val (.long p1), .second, .val (.int p2), .val (.int o1), .val (.long ((1000000000000000000 : Int64) + (o1.toInt64))), .second, .val (.long (-((1000000000000000000 : Int64) + (o1.toInt64)))), .second, .val (.int (1 : Int32)), .val (.int (1 : Int32)), .val (.int (1 : Int32)), .val (.int (1 : Int32))] [(.int (1 : Int32))])
        refine Go.step (fun t k => XS.goto X36.here hx rfl (pc0 := 105) (pc' := 109) rfl (hb hby at_105) (by decide) (by decide) k) ?_
        show Go _ _ _ _ _ _ _ T36 (mkF m 109 #[.val (.long p1), .second, .val (.int p2), .val (.int o1), .val (.long ((1000000000000000000 : Int64) + (o1.toInt64))), .second, .val (.long (-((1000000000000000000 : Int64) + (o1.toInt64)))), .second, .val (.int (1 : Int32)), .val (.int (1 : Int32)), .val (.int (1 : Int32)), .val (.int (1 : Int32))] [(.int (1 : Int32))])
        refine Go.ret X36 hx hlk Bd.returns rfl (Or.inl ⟨rfl, Or.inr (Or.inl rfl), _, rfl⟩) (hb hby at_109) ?_ (by decide) (by decide)
        show Q0 Z _ _ _ _ _ T36.heap _
        exact ⟨rfl, N36⟩
      · refine Go.step (fun t k => XS.ifYes X32.here hx rfl (pc0 := 51) (pc' := 58) rfl (hb hby at_51) rfl (XT.ll_ne_t hb51_33) (by decide) (by decide) k) ?_
        show Go _ _ _ _ _ _ _ T32 (mkF m 58 #[.val (.long p1), .second, .val (.int p2), .val (.int o1), .val (.long ((1000000000000000000 : Int64) + (o1.toInt64))), .second, .val (.long (-((1000000000000000000 : Int64) + (o1.toInt64)))), .second, .val (.int (1 : Int32)), .unset, .unset, .unset] [])
        refine Go.step (fun t k => XS.iconst X32.here hx rfl (hb hby at_58) k) ?_
        show Go _ _ _ _ _ _ _ T32 (mkF m 59 #[.val (.long p1), .second, .val (.int p2), .val (.int o1), .val (.long ((1000000000000000000 : Int64) + (o1.toInt64))), .second, .val (.long (-((1000000000000000000 : Int64) + (o1.toInt64)))), .second, .val (.int (1 : Int32)), .unset, .unset, .unset] [(.int (0 : Int32))])
        refine Go.step (fun t k => XS.istore X32.here hx rfl (hb hby at_59) rfl (l' := #[.val (.long p1), .second, .val (.int p2), .val (.int o1), .val (.long ((1000000000000000000 : Int64) + (o1.toInt64))), .second, .val (.long (-((1000000000000000000 : Int64) + (o1.toInt64)))), .second, .val (.int (1 : Int32)), .val (.int (0 : Int32)), .unset, .unset]) rfl k) ?_
        show Go _ _ _ _ _ _ _ T32 (mkF m 61 #[.val (.long p1), .second, .val (.int p2), .val (.int o1), .val (.long ((1000000000000000000 : Int64) + (o1.toInt64))), .second, .val (.long (-((1000000000000000000 : Int64) + (o1.toInt64)))), .second, .val (.int (1 : Int32)), .val (.int (0 : Int32)), .unset, .unset] [])
        refine Go.step (fun t k => XT.lloadN X32.here hx rfl (hb hby at_61) rfl k) ?_
        show Go _ _ _ _ _ _ _ T32 (mkF m 62 #[.val (.long p1), .second, .val (.int p2), .val (.int o1), .val (.long ((1000000000000000000 : Int64) + (o1.toInt64))), .second, .val (.long (-((1000000000000000000 : Int64) + (o1.toInt64)))), .second, .val (.int (1 : Int32)), .val (.int (0 : Int32)), .unset, .unset] [(.long p1)])
        obtain ⟨_, _, ⟨T40, L40, k40, n40⟩, -, X40, ⟨Lc40, hQ40, l40, y40, z40⟩, st40⟩ := Jvm.LawKit.callS X32 hx (y := (⟨"com/example/limitbook/limitbook/rules/PriceKeys", "atBound", "(J)Z"⟩ : MethodName)) hown (mvT hZ (hw _ (List.mem_of_getElem? (i := 5) rfl))) (mvT hZ (hw _ (List.mem_of_getElem? (i := 6) rfl))) (mvT hZ (hw _ (List.mem_of_getElem? (i := 7) rfl))) (mvT hZ (hw _ (List.mem_of_getElem? (i := 8) rfl))) (by decide) (backOf (W := 0) (rm2 l Z a0 hw [] p1 h0 n0 Z0 ) hZ (hw _ (List.mem_of_getElem? (i := 8) rfl)) (hw _ (List.mem_of_getElem? (i := 7) rfl)) (by decide) (by decide)) (g := (mkF m 62 #[.val (.long p1), .second, .val (.int p2), .val (.int o1), .val (.long ((1000000000000000000 : Int64) + (o1.toInt64))), .second, .val (.long (-((1000000000000000000 : Int64) + (o1.toInt64)))), .second, .val (.int (1 : Int32)), .val (.int (0 : Int32)), .unset, .unset] [(.long p1)])) rfl (by rw [hml]; rfl) (argsL := [(.long p1)]) (rest := []) (lenOf pd_1 rfl) rfl (by show 2 * 0 + _ ≤ _; exact Nat.le_of_eq rfl) (hb hby at_62) (fun _ _ => ⟨rfl, (e32), (by decide : 0 + 0 + 0 ≤ _), (by decide : 0 + 0 + 0 ≤ _)⟩)
        dsimp only [Pt.U, Pt.locs, Pt.cells, Pt.slots] at X40 l40 y40 z40 st40 hQ40
        subst l40 y40 z40
        obtain ⟨rfl, N40q, e40⟩ := hQ40
        have N40 := Fr.app N32 N40q
        refine Go.step st40 ?_
        show Go _ _ _ _ _ _ _ T40 (mkF m 65 #[.val (.long p1), .second, .val (.int p2), .val (.int o1), .val (.long ((1000000000000000000 : Int64) + (o1.toInt64))), .second, .val (.long (-((1000000000000000000 : Int64) + (o1.toInt64)))), .second, .val (.int (1 : Int32)), .val (.int (0 : Int32)), .unset, .unset] [(.int (own_at p1))])
        refine Go.step (fun t k => XS.iload X40.here hx rfl (hb hby at_65) rfl k) ?_
        show Go _ _ _ _ _ _ _ T40 (mkF m 67 #[.val (.long p1), .second, .val (.int p2), .val (.int o1), .val (.long ((1000000000000000000 : Int64) + (o1.toInt64))), .second, .val (.long (-((1000000000000000000 : Int64) + (o1.toInt64)))), .second, .val (.int (1 : Int32)), .val (.int (0 : Int32)), .unset, .unset] [(.int (0 : Int32)), (.int (own_at p1))])
        have hb67_41 : (own_at p1) = (0 : Int32) := by first | exact own_k1 hb51_33 | exact own_k0 hb51_33
        refine Go.step (fun t k => XS.icmpNo X40.here hx rfl (hb hby at_67) rfl (XT.ii_ne_f hb67_41) k) ?_
        show Go _ _ _ _ _ _ _ T40 (mkF m 70 #[.val (.long p1), .second, .val (.int p2), .val (.int o1), .val (.long ((1000000000000000000 : Int64) + (o1.toInt64))), .second, .val (.long (-((1000000000000000000 : Int64) + (o1.toInt64)))), .second, .val (.int (1 : Int32)), .val (.int (0 : Int32)), .unset, .unset] [])
        refine Go.step (fun t k => XS.iconst X40.here hx rfl (hb hby at_70) k) ?_
        show Go _ _ _ _ _ _ _ T40 (mkF m 71 #[.val (.long p1), .second, .val (.int p2), .val (.int o1), .val (.long ((1000000000000000000 : Int64) + (o1.toInt64))), .second, .val (.long (-((1000000000000000000 : Int64) + (o1.toInt64)))), .second, .val (.int (1 : Int32)), .val (.int (0 : Int32)), .unset, .unset] [(.int (1 : Int32))])
        refine Go.step (fun t k => XS.goto X40.here hx rfl (pc0 := 71) (pc' := 75) rfl (hb hby at_71) (by decide) (by decide) k) ?_
        show Go _ _ _ _ _ _ _ T40 (mkF m 75 #[.val (.long p1), .second, .val (.int p2), .val (.int o1), .val (.long ((1000000000000000000 : Int64) + (o1.toInt64))), .second, .val (.long (-((1000000000000000000 : Int64) + (o1.toInt64)))), .second, .val (.int (1 : Int32)), .val (.int (0 : Int32)), .unset, .unset] [(.int (1 : Int32))])
        refine Go.step (fun t k => XS.istore X40.here hx rfl (hb hby at_75) rfl (l' := #[.val (.long p1), .second, .val (.int p2), .val (.int o1), .val (.long ((1000000000000000000 : Int64) + (o1.toInt64))), .second, .val (.long (-((1000000000000000000 : Int64) + (o1.toInt64)))), .second, .val (.int (1 : Int32)), .val (.int (0 : Int32)), .val (.int (1 : Int32)), .unset]) rfl k) ?_
        show Go _ _ _ _ _ _ _ T40 (mkF m 77 #[.val (.long p1), .second, .val (.int p2), .val (.int o1), .val (.long ((1000000000000000000 : Int64) + (o1.toInt64))), .second, .val (.long (-((1000000000000000000 : Int64) + (o1.toInt64)))), .second, .val (.int (1 : Int32)), .val (.int (0 : Int32)), .val (.int (1 : Int32)), .unset] [])
        refine Go.step (fun t k => XT.lload X40.here hx rfl (hb hby at_77) rfl k) ?_
        show Go _ _ _ _ _ _ _ T40 (mkF m 79 #[.val (.long p1), .second, .val (.int p2), .val (.int o1), .val (.long ((1000000000000000000 : Int64) + (o1.toInt64))), .second, .val (.long (-((1000000000000000000 : Int64) + (o1.toInt64)))), .second, .val (.int (1 : Int32)), .val (.int (0 : Int32)), .val (.int (1 : Int32)), .unset] [(.long (-((1000000000000000000 : Int64) + (o1.toInt64))))])
        obtain ⟨_, _, ⟨T42, L42, k42, n42⟩, -, X42, ⟨Lc42, hQ42, l42, y42, z42⟩, st42⟩ := Jvm.LawKit.callS X40 hx (y := (⟨"com/example/limitbook/limitbook/rules/PriceKeys", "atBound", "(J)Z"⟩ : MethodName)) hown (mvT hZ (hw _ (List.mem_of_getElem? (i := 5) rfl))) (mvT hZ (hw _ (List.mem_of_getElem? (i := 6) rfl))) (mvT hZ (hw _ (List.mem_of_getElem? (i := 7) rfl))) (mvT hZ (hw _ (List.mem_of_getElem? (i := 8) rfl))) (by decide) (backOf (W := 0) (rm2 l Z a0 hw [] (-((1000000000000000000 : Int64) + (o1.toInt64))) h0 n0 Z0 ) hZ (hw _ (List.mem_of_getElem? (i := 8) rfl)) (hw _ (List.mem_of_getElem? (i := 7) rfl)) (by decide) (by decide)) (g := (mkF m 79 #[.val (.long p1), .second, .val (.int p2), .val (.int o1), .val (.long ((1000000000000000000 : Int64) + (o1.toInt64))), .second, .val (.long (-((1000000000000000000 : Int64) + (o1.toInt64)))), .second, .val (.int (1 : Int32)), .val (.int (0 : Int32)), .val (.int (1 : Int32)), .unset] [(.long (-((1000000000000000000 : Int64) + (o1.toInt64))))])) rfl (by rw [hml]; rfl) (argsL := [(.long (-((1000000000000000000 : Int64) + (o1.toInt64))))]) (rest := []) (lenOf pd_1 rfl) rfl (by show 2 * 0 + _ ≤ _; exact Nat.le_of_eq rfl) (hb hby at_79) (fun _ _ => ⟨rfl, (e40), (by decide : 0 + 0 + 0 + 0 ≤ _), (by decide : 0 + 0 + 0 + 0 ≤ _)⟩)
        dsimp only [Pt.U, Pt.locs, Pt.cells, Pt.slots] at X42 l42 y42 z42 st42 hQ42
        subst l42 y42 z42
        obtain ⟨rfl, N42q, e42⟩ := hQ42
        have N42 := Fr.app N40 N42q
        refine Go.step st42 ?_
        show Go _ _ _ _ _ _ _ T42 (mkF m 82 #[.val (.long p1), .second, .val (.int p2), .val (.int o1), .val (.long ((1000000000000000000 : Int64) + (o1.toInt64))), .second, .val (.long (-((1000000000000000000 : Int64) + (o1.toInt64)))), .second, .val (.int (1 : Int32)), .val (.int (0 : Int32)), .val (.int (1 : Int32)), .unset] [(.int (own_at (-((1000000000000000000 : Int64) + (o1.toInt64)))))])
        refine Go.step (fun t k => XS.iload X42.here hx rfl (hb hby at_82) rfl k) ?_
        show Go _ _ _ _ _ _ _ T42 (mkF m 84 #[.val (.long p1), .second, .val (.int p2), .val (.int o1), .val (.long ((1000000000000000000 : Int64) + (o1.toInt64))), .second, .val (.long (-((1000000000000000000 : Int64) + (o1.toInt64)))), .second, .val (.int (1 : Int32)), .val (.int (0 : Int32)), .val (.int (1 : Int32)), .unset] [(.int (1 : Int32)), (.int (own_at (-((1000000000000000000 : Int64) + (o1.toInt64)))))])
        have hb84_43 : (own_at (-((1000000000000000000 : Int64) + (o1.toInt64)))) = (1 : Int32) := by first | exact (own_n1 hb33_31).1 | exact (own_n1 hb33_31).2 | exact (own_n0 ho1r hb33_31).1 | exact (own_n0 ho1r hb33_31).2
        refine Go.step (fun t k => XS.icmpNo X42.here hx rfl (hb hby at_84) rfl (XT.ii_ne_f hb84_43) k) ?_
        show Go _ _ _ _ _ _ _ T42 (mkF m 87 #[.val (.long p1), .second, .val (.int p2), .val (.int o1), .val (.long ((1000000000000000000 : Int64) + (o1.toInt64))), .second, .val (.long (-((1000000000000000000 : Int64) + (o1.toInt64)))), .second, .val (.int (1 : Int32)), .val (.int (0 : Int32)), .val (.int (1 : Int32)), .unset] [])
        refine Go.step (fun t k => XS.iconst X42.here hx rfl (hb hby at_87) k) ?_
        show Go _ _ _ _ _ _ _ T42 (mkF m 88 #[.val (.long p1), .second, .val (.int p2), .val (.int o1), .val (.long ((1000000000000000000 : Int64) + (o1.toInt64))), .second, .val (.long (-((1000000000000000000 : Int64) + (o1.toInt64)))), .second, .val (.int (1 : Int32)), .val (.int (0 : Int32)), .val (.int (1 : Int32)), .unset] [(.int (1 : Int32))])
        refine Go.step (fun t k => XS.goto X42.here hx rfl (pc0 := 88) (pc' := 92) rfl (hb hby at_88) (by decide) (by decide) k) ?_
        show Go _ _ _ _ _ _ _ T42 (mkF m 92 #[.val (.long p1), .second, .val (.int p2), .val (.int o1), .val (.long ((1000000000000000000 : Int64) + (o1.toInt64))), .second, .val (.long (-((1000000000000000000 : Int64) + (o1.toInt64)))), .second, .val (.int (1 : Int32)), .val (.int (0 : Int32)), .val (.int (1 : Int32)), .unset] [(.int (1 : Int32))])
        refine Go.step (fun t k => XS.istore X42.here hx rfl (hb hby at_92) rfl (l' := #[.val (.long p1), .second, .val (.int p2), .val (.int o1), .val (.long ((1000000000000000000 : Int64) + (o1.toInt64))), .second, .val (.long (-((1000000000000000000 : Int64) + (o1.toInt64)))), .second, .val (.int (1 : Int32)), .val (.int (0 : Int32)), .val (.int (1 : Int32)), .val (.int (1 : Int32))]) rfl k) ?_
        show Go _ _ _ _ _ _ _ T42 (mkF m 94 #[.val (.long p1), .second, .val (.int p2), .val (.int o1), .val (.long ((1000000000000000000 : Int64) + (o1.toInt64))), .second, .val (.long (-((1000000000000000000 : Int64) + (o1.toInt64)))), .second, .val (.int (1 : Int32)), .val (.int (0 : Int32)), .val (.int (1 : Int32)), .val (.int (1 : Int32))] [])
        refine Go.step (fun t k => XS.iload X42.here hx rfl (hb hby at_94) rfl k) ?_
        show Go _ _ _ _ _ _ _ T42 (mkF m 96 #[.val (.long p1), .second, .val (.int p2), .val (.int o1), .val (.long ((1000000000000000000 : Int64) + (o1.toInt64))), .second, .val (.long (-((1000000000000000000 : Int64) + (o1.toInt64)))), .second, .val (.int (1 : Int32)), .val (.int (0 : Int32)), .val (.int (1 : Int32)), .val (.int (1 : Int32))] [(.int (1 : Int32))])
        have hb96_44 : ¬ ((1 : Int32) = (0 : Int32)) := by decide
        refine Go.step (fun t k => XS.ifNo X42.here hx rfl (hb hby at_96) rfl (XT.i0_eq_f hb96_44) k) ?_
        show Go _ _ _ _ _ _ _ T42 (mkF m 99 #[.val (.long p1), .second, .val (.int p2), .val (.int o1), .val (.long ((1000000000000000000 : Int64) + (o1.toInt64))), .second, .val (.long (-((1000000000000000000 : Int64) + (o1.toInt64)))), .second, .val (.int (1 : Int32)), .val (.int (0 : Int32)), .val (.int (1 : Int32)), .val (.int (1 : Int32))] [])
        refine Go.step (fun t k => XS.iload X42.here hx rfl (hb hby at_99) rfl k) ?_
        show Go _ _ _ _ _ _ _ T42 (mkF m 101 #[.val (.long p1), .second, .val (.int p2), .val (.int o1), .val (.long ((1000000000000000000 : Int64) + (o1.toInt64))), .second, .val (.long (-((1000000000000000000 : Int64) + (o1.toInt64)))), .second, .val (.int (1 : Int32)), .val (.int (0 : Int32)), .val (.int (1 : Int32)), .val (.int (1 : Int32))] [(.int (1 : Int32))])
        have hb101_45 : ¬ ((1 : Int32) = (0 : Int32)) := by decide
        refine Go.step (fun t k => XS.ifNo X42.here hx rfl (hb hby at_101) rfl (XT.i0_eq_f hb101_45) k) ?_
        show Go _ _ _ _ _ _ _ T42 (mkF m 104 #[.val (.long p1), .second, .val (.int p2), .val (.int o1), .val (.long ((1000000000000000000 : Int64) + (o1.toInt64))), .second, .val (.long (-((1000000000000000000 : Int64) + (o1.toInt64)))), .second, .val (.int (1 : Int32)), .val (.int (0 : Int32)), .val (.int (1 : Int32)), .val (.int (1 : Int32))] [])
        refine Go.step (fun t k => XS.iconst X42.here hx rfl (hb hby at_104) k) ?_
        show Go _ _ _ _ _ _ _ T42 (mkF m 105 #[.val (.long p1), .second, .val (.int p2), .val (.int o1), .val (.long ((1000000000000000000 : Int64) + (o1.toInt64))), .second, .val (.long (-((1000000000000000000 : Int64) + (o1.toInt64)))), .second, .val (.int (1 : Int32)), .val (.int (0 : Int32)), .val (.int (1 : Int32)), .val (.int (1 : Int32))] [(.int (1 : Int32))])
        refine Go.step (fun t k => XS.goto X42.here hx rfl (pc0 := 105) (pc' := 109) rfl (hb hby at_105) (by decide) (by decide) k) ?_
        show Go _ _ _ _ _ _ _ T42 (mkF m 109 #[.val (.long p1), .second, .val (.int p2), .val (.int o1), .val (.long ((1000000000000000000 : Int64) + (o1.toInt64))), .second, .val (.long (-((1000000000000000000 : Int64) + (o1.toInt64)))), .second, .val (.int (1 : Int32)), .val (.int (0 : Int32)), .val (.int (1 : Int32)), .val (.int (1 : Int32))] [(.int (1 : Int32))])
        refine Go.ret X42 hx hlk Bd.returns rfl (Or.inl ⟨rfl, Or.inr (Or.inl rfl), _, rfl⟩) (hb hby at_109) ?_ (by decide) (by decide)
        show Q0 Z _ _ _ _ _ T42.heap _
        exact ⟨rfl, N42⟩
    · refine Go.step (fun t k => XS.ifYes X0.here hx rfl (pc0 := 33) (pc' := 40) rfl (hb hby at_33) rfl (XT.i0_ne_t hb33_31) (by decide) (by decide) k) ?_
      show Go _ _ _ _ _ _ _ s₁ (mkF m 40 #[.val (.long p1), .second, .val (.int p2), .val (.int o1), .val (.long ((1000000000000000000 : Int64) + (o1.toInt64))), .second, .val (.long (-((1000000000000000000 : Int64) + (o1.toInt64)))), .second, .unset, .unset, .unset, .unset] [])
      refine Go.step (fun t k => XS.iconst X0.here hx rfl (hb hby at_40) k) ?_
      show Go _ _ _ _ _ _ _ s₁ (mkF m 41 #[.val (.long p1), .second, .val (.int p2), .val (.int o1), .val (.long ((1000000000000000000 : Int64) + (o1.toInt64))), .second, .val (.long (-((1000000000000000000 : Int64) + (o1.toInt64)))), .second, .unset, .unset, .unset, .unset] [(.int (0 : Int32))])
      refine Go.step (fun t k => XS.istore X0.here hx rfl (hb hby at_41) rfl (l' := #[.val (.long p1), .second, .val (.int p2), .val (.int o1), .val (.long ((1000000000000000000 : Int64) + (o1.toInt64))), .second, .val (.long (-((1000000000000000000 : Int64) + (o1.toInt64)))), .second, .val (.int (0 : Int32)), .unset, .unset, .unset]) rfl k) ?_
      show Go _ _ _ _ _ _ _ s₁ (mkF m 43 #[.val (.long p1), .second, .val (.int p2), .val (.int o1), .val (.long ((1000000000000000000 : Int64) + (o1.toInt64))), .second, .val (.long (-((1000000000000000000 : Int64) + (o1.toInt64)))), .second, .val (.int (0 : Int32)), .unset, .unset, .unset] [])
      refine Go.step (fun t k => XT.lloadN X0.here hx rfl (hb hby at_43) rfl k) ?_
      show Go _ _ _ _ _ _ _ s₁ (mkF m 44 #[.val (.long p1), .second, .val (.int p2), .val (.int o1), .val (.long ((1000000000000000000 : Int64) + (o1.toInt64))), .second, .val (.long (-((1000000000000000000 : Int64) + (o1.toInt64)))), .second, .val (.int (0 : Int32)), .unset, .unset, .unset] [(.long p1)])
      obtain ⟨_, _, ⟨T46, L46, k46, n46⟩, -, X46, ⟨Lc46, hQ46, l46, y46, z46⟩, st46⟩ := Jvm.LawKit.callS X0 hx (y := (⟨"java/lang/Math", "abs", "(J)J"⟩ : MethodName)) hown (mvT hZ (hw _ (List.mem_of_getElem? (i := 1) rfl))) (mvT hZ (hw _ (List.mem_of_getElem? (i := 2) rfl))) (mvT hZ (hw _ (List.mem_of_getElem? (i := 3) rfl))) (mvT hZ (hw _ (List.mem_of_getElem? (i := 4) rfl))) (by decide) (backOf (W := 0) (rm1 l Z a0 hw [] p1 h0 n0 Z0 ) hZ (hw _ (List.mem_of_getElem? (i := 4) rfl)) (hw _ (List.mem_of_getElem? (i := 3) rfl)) (by decide) (by decide)) (g := (mkF m 44 #[.val (.long p1), .second, .val (.int p2), .val (.int o1), .val (.long ((1000000000000000000 : Int64) + (o1.toInt64))), .second, .val (.long (-((1000000000000000000 : Int64) + (o1.toInt64)))), .second, .val (.int (0 : Int32)), .unset, .unset, .unset] [(.long p1)])) rfl (by rw [hml]; rfl) (argsL := [(.long p1)]) (rest := []) (lenOf pd_0 rfl) rfl (by show 2 * 0 + _ ≤ _; exact Nat.le_of_eq rfl) (hb hby at_44) (fun _ _ => ⟨rfl, e0, (by decide : 0 + 0 ≤ _), (by decide : 0 + 0 ≤ _)⟩)
      dsimp only [Pt.U, Pt.locs, Pt.cells, Pt.slots] at X46 l46 y46 z46 st46 hQ46
      subst l46 y46 z46
      obtain ⟨rfl, N46q, e46⟩ := hQ46
      have N46 := Fr.app N0 N46q
      refine Go.step st46 ?_
      show Go _ _ _ _ _ _ _ T46 (mkF m 47 #[.val (.long p1), .second, .val (.int p2), .val (.int o1), .val (.long ((1000000000000000000 : Int64) + (o1.toInt64))), .second, .val (.long (-((1000000000000000000 : Int64) + (o1.toInt64)))), .second, .val (.int (0 : Int32)), .unset, .unset, .unset] [(.long (own_abs p1))])
      refine Go.step (fun t k => X46.ldc2J hx hown (mvT hZ (hw _ (List.mem_of_getElem? (i := 0) rfl))) rfl (hb hby at_47) k) ?_
      show Go _ _ _ _ _ _ _ T46 (mkF m 50 #[.val (.long p1), .second, .val (.int p2), .val (.int o1), .val (.long ((1000000000000000000 : Int64) + (o1.toInt64))), .second, .val (.long (-((1000000000000000000 : Int64) + (o1.toInt64)))), .second, .val (.int (0 : Int32)), .unset, .unset, .unset] [(.long (1000000000000000000 : Int64)), (.long (own_abs p1))])
      refine Go.step (fun t k => XT.lcmp X46.here hx rfl (hb hby at_50) rfl k) ?_
      show Go _ _ _ _ _ _ _ T46 (mkF m 51 #[.val (.long p1), .second, .val (.int p2), .val (.int o1), .val (.long ((1000000000000000000 : Int64) + (o1.toInt64))), .second, .val (.long (-((1000000000000000000 : Int64) + (o1.toInt64)))), .second, .val (.int (0 : Int32)), .unset, .unset, .unset] [(.int (XT.cmpL (own_abs p1) (1000000000000000000 : Int64)))])
      by_cases hb51_47 : (own_abs p1) = (1000000000000000000 : Int64)
      · refine Go.step (fun t k => XS.ifNo X46.here hx rfl (hb hby at_51) rfl (XT.ll_ne_f hb51_47) k) ?_
        show Go _ _ _ _ _ _ _ T46 (mkF m 54 #[.val (.long p1), .second, .val (.int p2), .val (.int o1), .val (.long ((1000000000000000000 : Int64) + (o1.toInt64))), .second, .val (.long (-((1000000000000000000 : Int64) + (o1.toInt64)))), .second, .val (.int (0 : Int32)), .unset, .unset, .unset] [])
        refine Go.step (fun t k => XS.iconst X46.here hx rfl (hb hby at_54) k) ?_
        show Go _ _ _ _ _ _ _ T46 (mkF m 55 #[.val (.long p1), .second, .val (.int p2), .val (.int o1), .val (.long ((1000000000000000000 : Int64) + (o1.toInt64))), .second, .val (.long (-((1000000000000000000 : Int64) + (o1.toInt64)))), .second, .val (.int (0 : Int32)), .unset, .unset, .unset] [(.int (1 : Int32))])
        refine Go.step (fun t k => XS.goto X46.here hx rfl (pc0 := 55) (pc' := 59) rfl (hb hby at_55) (by decide) (by decide) k) ?_
        show Go _ _ _ _ _ _ _ T46 (mkF m 59 #[.val (.long p1), .second, .val (.int p2), .val (.int o1), .val (.long ((1000000000000000000 : Int64) + (o1.toInt64))), .second, .val (.long (-((1000000000000000000 : Int64) + (o1.toInt64)))), .second, .val (.int (0 : Int32)), .unset, .unset, .unset] [(.int (1 : Int32))])
        refine Go.step (fun t k => XS.istore X46.here hx rfl (hb hby at_59) rfl (l' := #[.val (.long p1), .second, .val (.int p2), .val (.int o1), .val (.long ((1000000000000000000 : Int64) + (o1.toInt64))), .second, .val (.long (-((1000000000000000000 : Int64) + (o1.toInt64)))), .second, .val (.int (0 : Int32)), .val (.int (1 : Int32)), .unset, .unset]) rfl k) ?_
        show Go _ _ _ _ _ _ _ T46 (mkF m 61 #[.val (.long p1), .second, .val (.int p2), .val (.int o1), .val (.long ((1000000000000000000 : Int64) + (o1.toInt64))), .second, .val (.long (-((1000000000000000000 : Int64) + (o1.toInt64)))), .second, .val (.int (0 : Int32)), .val (.int (1 : Int32)), .unset, .unset] [])
        refine Go.step (fun t k => XT.lloadN X46.here hx rfl (hb hby at_61) rfl k) ?_
        show Go _ _ _ _ _ _ _ T46 (mkF m 62 #[.val (.long p1), .second, .val (.int p2), .val (.int o1), .val (.long ((1000000000000000000 : Int64) + (o1.toInt64))), .second, .val (.long (-((1000000000000000000 : Int64) + (o1.toInt64)))), .second, .val (.int (0 : Int32)), .val (.int (1 : Int32)), .unset, .unset] [(.long p1)])
        obtain ⟨_, _, ⟨T48, L48, k48, n48⟩, -, X48, ⟨Lc48, hQ48, l48, y48, z48⟩, st48⟩ := Jvm.LawKit.callS X46 hx (y := (⟨"com/example/limitbook/limitbook/rules/PriceKeys", "atBound", "(J)Z"⟩ : MethodName)) hown (mvT hZ (hw _ (List.mem_of_getElem? (i := 5) rfl))) (mvT hZ (hw _ (List.mem_of_getElem? (i := 6) rfl))) (mvT hZ (hw _ (List.mem_of_getElem? (i := 7) rfl))) (mvT hZ (hw _ (List.mem_of_getElem? (i := 8) rfl))) (by decide) (backOf (W := 0) (rm2 l Z a0 hw [] p1 h0 n0 Z0 ) hZ (hw _ (List.mem_of_getElem? (i := 8) rfl)) (hw _ (List.mem_of_getElem? (i := 7) rfl)) (by decide) (by decide)) (g := (mkF m 62 #[.val (.long p1), .second, .val (.int p2), .val (.int o1), .val (.long ((1000000000000000000 : Int64) + (o1.toInt64))), .second, .val (.long (-((1000000000000000000 : Int64) + (o1.toInt64)))), .second, .val (.int (0 : Int32)), .val (.int (1 : Int32)), .unset, .unset] [(.long p1)])) rfl (by rw [hml]; rfl) (argsL := [(.long p1)]) (rest := []) (lenOf pd_1 rfl) rfl (by show 2 * 0 + _ ≤ _; exact Nat.le_of_eq rfl) (hb hby at_62) (fun _ _ => ⟨rfl, (e46), (by decide : 0 + 0 + 0 ≤ _), (by decide : 0 + 0 + 0 ≤ _)⟩)
        dsimp only [Pt.U, Pt.locs, Pt.cells, Pt.slots] at X48 l48 y48 z48 st48 hQ48
        subst l48 y48 z48
        obtain ⟨rfl, N48q, e48⟩ := hQ48
        have N48 := Fr.app N46 N48q
        refine Go.step st48 ?_
        show Go _ _ _ _ _ _ _ T48 (mkF m 65 #[.val (.long p1), .second, .val (.int p2), .val (.int o1), .val (.long ((1000000000000000000 : Int64) + (o1.toInt64))), .second, .val (.long (-((1000000000000000000 : Int64) + (o1.toInt64)))), .second, .val (.int (0 : Int32)), .val (.int (1 : Int32)), .unset, .unset] [(.int (own_at p1))])
        refine Go.step (fun t k => XS.iload X48.here hx rfl (hb hby at_65) rfl k) ?_
        show Go _ _ _ _ _ _ _ T48 (mkF m 67 #[.val (.long p1), .second, .val (.int p2), .val (.int o1), .val (.long ((1000000000000000000 : Int64) + (o1.toInt64))), .second, .val (.long (-((1000000000000000000 : Int64) + (o1.toInt64)))), .second, .val (.int (0 : Int32)), .val (.int (1 : Int32)), .unset, .unset] [(.int (1 : Int32)), (.int (own_at p1))])
        have hb67_49 : (own_at p1) = (1 : Int32) := by first | exact own_k1 hb51_47 | exact own_k0 hb51_47
        refine Go.step (fun t k => XS.icmpNo X48.here hx rfl (hb hby at_67) rfl (XT.ii_ne_f hb67_49) k) ?_
        show Go _ _ _ _ _ _ _ T48 (mkF m 70 #[.val (.long p1), .second, .val (.int p2), .val (.int o1), .val (.long ((1000000000000000000 : Int64) + (o1.toInt64))), .second, .val (.long (-((1000000000000000000 : Int64) + (o1.toInt64)))), .second, .val (.int (0 : Int32)), .val (.int (1 : Int32)), .unset, .unset] [])
        refine Go.step (fun t k => XS.iconst X48.here hx rfl (hb hby at_70) k) ?_
        show Go _ _ _ _ _ _ _ T48 (mkF m 71 #[.val (.long p1), .second, .val (.int p2), .val (.int o1), .val (.long ((1000000000000000000 : Int64) + (o1.toInt64))), .second, .val (.long (-((1000000000000000000 : Int64) + (o1.toInt64)))), .second, .val (.int (0 : Int32)), .val (.int (1 : Int32)), .unset, .unset] [(.int (1 : Int32))])
        refine Go.step (fun t k => XS.goto X48.here hx rfl (pc0 := 71) (pc' := 75) rfl (hb hby at_71) (by decide) (by decide) k) ?_
        show Go _ _ _ _ _ _ _ T48 (mkF m 75 #[.val (.long p1), .second, .val (.int p2), .val (.int o1), .val (.long ((1000000000000000000 : Int64) + (o1.toInt64))), .second, .val (.long (-((1000000000000000000 : Int64) + (o1.toInt64)))), .second, .val (.int (0 : Int32)), .val (.int (1 : Int32)), .unset, .unset] [(.int (1 : Int32))])
        refine Go.step (fun t k => XS.istore X48.here hx rfl (hb hby at_75) rfl (l' := #[.val (.long p1), .second, .val (.int p2), .val (.int o1), .val (.long ((1000000000000000000 : Int64) + (o1.toInt64))), .second, .val (.long (-((1000000000000000000 : Int64) + (o1.toInt64)))), .second, .val (.int (0 : Int32)), .val (.int (1 : Int32)), .val (.int (1 : Int32)), .unset]) rfl k) ?_
        show Go _ _ _ _ _ _ _ T48 (mkF m 77 #[.val (.long p1), .second, .val (.int p2), .val (.int o1), .val (.long ((1000000000000000000 : Int64) + (o1.toInt64))), .second, .val (.long (-((1000000000000000000 : Int64) + (o1.toInt64)))), .second, .val (.int (0 : Int32)), .val (.int (1 : Int32)), .val (.int (1 : Int32)), .unset] [])
        refine Go.step (fun t k => XT.lload X48.here hx rfl (hb hby at_77) rfl k) ?_
        show Go _ _ _ _ _ _ _ T48 (mkF m 79 #[.val (.long p1), .second, .val (.int p2), .val (.int o1), .val (.long ((1000000000000000000 : Int64) + (o1.toInt64))), .second, .val (.long (-((1000000000000000000 : Int64) + (o1.toInt64)))), .second, .val (.int (0 : Int32)), .val (.int (1 : Int32)), .val (.int (1 : Int32)), .unset] [(.long (-((1000000000000000000 : Int64) + (o1.toInt64))))])
        obtain ⟨_, _, ⟨T50, L50, k50, n50⟩, -, X50, ⟨Lc50, hQ50, l50, y50, z50⟩, st50⟩ := Jvm.LawKit.callS X48 hx (y := (⟨"com/example/limitbook/limitbook/rules/PriceKeys", "atBound", "(J)Z"⟩ : MethodName)) hown (mvT hZ (hw _ (List.mem_of_getElem? (i := 5) rfl))) (mvT hZ (hw _ (List.mem_of_getElem? (i := 6) rfl))) (mvT hZ (hw _ (List.mem_of_getElem? (i := 7) rfl))) (mvT hZ (hw _ (List.mem_of_getElem? (i := 8) rfl))) (by decide) (backOf (W := 0) (rm2 l Z a0 hw [] (-((1000000000000000000 : Int64) + (o1.toInt64))) h0 n0 Z0 ) hZ (hw _ (List.mem_of_getElem? (i := 8) rfl)) (hw _ (List.mem_of_getElem? (i := 7) rfl)) (by decide) (by decide)) (g := (mkF m 79 #[.val (.long p1), .second, .val (.int p2), .val (.int o1), .val (.long ((1000000000000000000 : Int64) + (o1.toInt64))), .second, .val (.long (-((1000000000000000000 : Int64) + (o1.toInt64)))), .second, .val (.int (0 : Int32)), .val (.int (1 : Int32)), .val (.int (1 : Int32)), .unset] [(.long (-((1000000000000000000 : Int64) + (o1.toInt64))))])) rfl (by rw [hml]; rfl) (argsL := [(.long (-((1000000000000000000 : Int64) + (o1.toInt64))))]) (rest := []) (lenOf pd_1 rfl) rfl (by show 2 * 0 + _ ≤ _; exact Nat.le_of_eq rfl) (hb hby at_79) (fun _ _ => ⟨rfl, (e48), (by decide : 0 + 0 + 0 + 0 ≤ _), (by decide : 0 + 0 + 0 + 0 ≤ _)⟩)
        dsimp only [Pt.U, Pt.locs, Pt.cells, Pt.slots] at X50 l50 y50 z50 st50 hQ50
        subst l50 y50 z50
        obtain ⟨rfl, N50q, e50⟩ := hQ50
        have N50 := Fr.app N48 N50q
        refine Go.step st50 ?_
        show Go _ _ _ _ _ _ _ T50 (mkF m 82 #[.val (.long p1), .second, .val (.int p2), .val (.int o1), .val (.long ((1000000000000000000 : Int64) + (o1.toInt64))), .second, .val (.long (-((1000000000000000000 : Int64) + (o1.toInt64)))), .second, .val (.int (0 : Int32)), .val (.int (1 : Int32)), .val (.int (1 : Int32)), .unset] [(.int (own_at (-((1000000000000000000 : Int64) + (o1.toInt64)))))])
        refine Go.step (fun t k => XS.iload X50.here hx rfl (hb hby at_82) rfl k) ?_
        show Go _ _ _ _ _ _ _ T50 (mkF m 84 #[.val (.long p1), .second, .val (.int p2), .val (.int o1), .val (.long ((1000000000000000000 : Int64) + (o1.toInt64))), .second, .val (.long (-((1000000000000000000 : Int64) + (o1.toInt64)))), .second, .val (.int (0 : Int32)), .val (.int (1 : Int32)), .val (.int (1 : Int32)), .unset] [(.int (0 : Int32)), (.int (own_at (-((1000000000000000000 : Int64) + (o1.toInt64)))))])
        have hb84_51 : (own_at (-((1000000000000000000 : Int64) + (o1.toInt64)))) = (0 : Int32) := by first | exact (own_n1 hb33_31).1 | exact (own_n1 hb33_31).2 | exact (own_n0 ho1r hb33_31).1 | exact (own_n0 ho1r hb33_31).2
        refine Go.step (fun t k => XS.icmpNo X50.here hx rfl (hb hby at_84) rfl (XT.ii_ne_f hb84_51) k) ?_
        show Go _ _ _ _ _ _ _ T50 (mkF m 87 #[.val (.long p1), .second, .val (.int p2), .val (.int o1), .val (.long ((1000000000000000000 : Int64) + (o1.toInt64))), .second, .val (.long (-((1000000000000000000 : Int64) + (o1.toInt64)))), .second, .val (.int (0 : Int32)), .val (.int (1 : Int32)), .val (.int (1 : Int32)), .unset] [])
        refine Go.step (fun t k => XS.iconst X50.here hx rfl (hb hby at_87) k) ?_
        show Go _ _ _ _ _ _ _ T50 (mkF m 88 #[.val (.long p1), .second, .val (.int p2), .val (.int o1), .val (.long ((1000000000000000000 : Int64) + (o1.toInt64))), .second, .val (.long (-((1000000000000000000 : Int64) + (o1.toInt64)))), .second, .val (.int (0 : Int32)), .val (.int (1 : Int32)), .val (.int (1 : Int32)), .unset] [(.int (1 : Int32))])
        refine Go.step (fun t k => XS.goto X50.here hx rfl (pc0 := 88) (pc' := 92) rfl (hb hby at_88) (by decide) (by decide) k) ?_
        show Go _ _ _ _ _ _ _ T50 (mkF m 92 #[.val (.long p1), .second, .val (.int p2), .val (.int o1), .val (.long ((1000000000000000000 : Int64) + (o1.toInt64))), .second, .val (.long (-((1000000000000000000 : Int64) + (o1.toInt64)))), .second, .val (.int (0 : Int32)), .val (.int (1 : Int32)), .val (.int (1 : Int32)), .unset] [(.int (1 : Int32))])
        refine Go.step (fun t k => XS.istore X50.here hx rfl (hb hby at_92) rfl (l' := #[.val (.long p1), .second, .val (.int p2), .val (.int o1), .val (.long ((1000000000000000000 : Int64) + (o1.toInt64))), .second, .val (.long (-((1000000000000000000 : Int64) + (o1.toInt64)))), .second, .val (.int (0 : Int32)), .val (.int (1 : Int32)), .val (.int (1 : Int32)), .val (.int (1 : Int32))]) rfl k) ?_
        show Go _ _ _ _ _ _ _ T50 (mkF m 94 #[.val (.long p1), .second, .val (.int p2), .val (.int o1), .val (.long ((1000000000000000000 : Int64) + (o1.toInt64))), .second, .val (.long (-((1000000000000000000 : Int64) + (o1.toInt64)))), .second, .val (.int (0 : Int32)), .val (.int (1 : Int32)), .val (.int (1 : Int32)), .val (.int (1 : Int32))] [])
        refine Go.step (fun t k => XS.iload X50.here hx rfl (hb hby at_94) rfl k) ?_
        show Go _ _ _ _ _ _ _ T50 (mkF m 96 #[.val (.long p1), .second, .val (.int p2), .val (.int o1), .val (.long ((1000000000000000000 : Int64) + (o1.toInt64))), .second, .val (.long (-((1000000000000000000 : Int64) + (o1.toInt64)))), .second, .val (.int (0 : Int32)), .val (.int (1 : Int32)), .val (.int (1 : Int32)), .val (.int (1 : Int32))] [(.int (1 : Int32))])
        have hb96_52 : ¬ ((1 : Int32) = (0 : Int32)) := by decide
        refine Go.step (fun t k => XS.ifNo X50.here hx rfl (hb hby at_96) rfl (XT.i0_eq_f hb96_52) k) ?_
        show Go _ _ _ _ _ _ _ T50 (mkF m 99 #[.val (.long p1), .second, .val (.int p2), .val (.int o1), .val (.long ((1000000000000000000 : Int64) + (o1.toInt64))), .second, .val (.long (-((1000000000000000000 : Int64) + (o1.toInt64)))), .second, .val (.int (0 : Int32)), .val (.int (1 : Int32)), .val (.int (1 : Int32)), .val (.int (1 : Int32))] [])
        refine Go.step (fun t k => XS.iload X50.here hx rfl (hb hby at_99) rfl k) ?_
        show Go _ _ _ _ _ _ _ T50 (mkF m 101 #[.val (.long p1), .second, .val (.int p2), .val (.int o1), .val (.long ((1000000000000000000 : Int64) + (o1.toInt64))), .second, .val (.long (-((1000000000000000000 : Int64) + (o1.toInt64)))), .second, .val (.int (0 : Int32)), .val (.int (1 : Int32)), .val (.int (1 : Int32)), .val (.int (1 : Int32))] [(.int (1 : Int32))])
        have hb101_53 : ¬ ((1 : Int32) = (0 : Int32)) := by decide
        refine Go.step (fun t k => XS.ifNo X50.here hx rfl (hb hby at_101) rfl (XT.i0_eq_f hb101_53) k) ?_
        show Go _ _ _ _ _ _ _ T50 (mkF m 104 #[.val (.long p1), .second, .val (.int p2), .val (.int o1), .val (.long ((1000000000000000000 : Int64) + (o1.toInt64))), .second, .val (.long (-((1000000000000000000 : Int64) + (o1.toInt64)))), .second, .val (.int (0 : Int32)), .val (.int (1 : Int32)), .val (.int (1 : Int32)), .val (.int (1 : Int32))] [])
        refine Go.step (fun t k => XS.iconst X50.here hx rfl (hb hby at_104) k) ?_
        show Go _ _ _ _ _ _ _ T50 (mkF m 105 #[.val (.long p1), .second, .val (.int p2), .val (.int o1), .val (.long ((1000000000000000000 : Int64) + (o1.toInt64))), .second, .val (.long (-((1000000000000000000 : Int64) + (o1.toInt64)))), .second, .val (.int (0 : Int32)), .val (.int (1 : Int32)), .val (.int (1 : Int32)), .val (.int (1 : Int32))] [(.int (1 : Int32))])
        refine Go.step (fun t k => XS.goto X50.here hx rfl (pc0 := 105) (pc' := 109) rfl (hb hby at_105) (by decide) (by decide) k) ?_
        show Go _ _ _ _ _ _ _ T50 (mkF m 109 #[.val (.long p1), .second, .val (.int p2), .val (.int o1), .val (.long ((1000000000000000000 : Int64) + (o1.toInt64))), .second, .val (.long (-((1000000000000000000 : Int64) + (o1.toInt64)))), .second, .val (.int (0 : Int32)), .val (.int (1 : Int32)), .val (.int (1 : Int32)), .val (.int (1 : Int32))] [(.int (1 : Int32))])
        refine Go.ret X50 hx hlk Bd.returns rfl (Or.inl ⟨rfl, Or.inr (Or.inl rfl), _, rfl⟩) (hb hby at_109) ?_ (by decide) (by decide)
        show Q0 Z _ _ _ _ _ T50.heap _
        exact ⟨rfl, N50⟩
      · refine Go.step (fun t k => XS.ifYes X46.here hx rfl (pc0 := 51) (pc' := 58) rfl (hb hby at_51) rfl (XT.ll_ne_t hb51_47) (by decide) (by decide) k) ?_
        show Go _ _ _ _ _ _ _ T46 (mkF m 58 #[.val (.long p1), .second, .val (.int p2), .val (.int o1), .val (.long ((1000000000000000000 : Int64) + (o1.toInt64))), .second, .val (.long (-((1000000000000000000 : Int64) + (o1.toInt64)))), .second, .val (.int (0 : Int32)), .unset, .unset, .unset] [])
        refine Go.step (fun t k => XS.iconst X46.here hx rfl (hb hby at_58) k) ?_
        show Go _ _ _ _ _ _ _ T46 (mkF m 59 #[.val (.long p1), .second, .val (.int p2), .val (.int o1), .val (.long ((1000000000000000000 : Int64) + (o1.toInt64))), .second, .val (.long (-((1000000000000000000 : Int64) + (o1.toInt64)))), .second, .val (.int (0 : Int32)), .unset, .unset, .unset] [(.int (0 : Int32))])
        refine Go.step (fun t k => XS.istore X46.here hx rfl (hb hby at_59) rfl (l' := #[.val (.long p1), .second, .val (.int p2), .val (.int o1), .val (.long ((1000000000000000000 : Int64) + (o1.toInt64))), .second, .val (.long (-((1000000000000000000 : Int64) + (o1.toInt64)))), .second, .val (.int (0 : Int32)), .val (.int (0 : Int32)), .unset, .unset]) rfl k) ?_
        show Go _ _ _ _ _ _ _ T46 (mkF m 61 #[.val (.long p1), .second, .val (.int p2), .val (.int o1), .val (.long ((1000000000000000000 : Int64) + (o1.toInt64))), .second, .val (.long (-((1000000000000000000 : Int64) + (o1.toInt64)))), .second, .val (.int (0 : Int32)), .val (.int (0 : Int32)), .unset, .unset] [])
        refine Go.step (fun t k => XT.lloadN X46.here hx rfl (hb hby at_61) rfl k) ?_
        show Go _ _ _ _ _ _ _ T46 (mkF m 62 #[.val (.long p1), .second, .val (.int p2), .val (.int o1), .val (.long ((1000000000000000000 : Int64) + (o1.toInt64))), .second, .val (.long (-((1000000000000000000 : Int64) + (o1.toInt64)))), .second, .val (.int (0 : Int32)), .val (.int (0 : Int32)), .unset, .unset] [(.long p1)])
        obtain ⟨_, _, ⟨T54, L54, k54, n54⟩, -, X54, ⟨Lc54, hQ54, l54, y54, z54⟩, st54⟩ := Jvm.LawKit.callS X46 hx (y := (⟨"com/example/limitbook/limitbook/rules/PriceKeys", "atBound", "(J)Z"⟩ : MethodName)) hown (mvT hZ (hw _ (List.mem_of_getElem? (i := 5) rfl))) (mvT hZ (hw _ (List.mem_of_getElem? (i := 6) rfl))) (mvT hZ (hw _ (List.mem_of_getElem? (i := 7) rfl))) (mvT hZ (hw _ (List.mem_of_getElem? (i := 8) rfl))) (by decide) (backOf (W := 0) (rm2 l Z a0 hw [] p1 h0 n0 Z0 ) hZ (hw _ (List.mem_of_getElem? (i := 8) rfl)) (hw _ (List.mem_of_getElem? (i := 7) rfl)) (by decide) (by decide)) (g := (mkF m 62 #[.val (.long p1), .second, .val (.int p2), .val (.int o1), .val (.long ((1000000000000000000 : Int64) + (o1.toInt64))), .second, .val (.long (-((1000000000000000000 : Int64) + (o1.toInt64)))), .second, .val (.int (0 : Int32)), .val (.int (0 : Int32)), .unset, .unset] [(.long p1)])) rfl (by rw [hml]; rfl) (argsL := [(.long p1)]) (rest := []) (lenOf pd_1 rfl) rfl (by show 2 * 0 + _ ≤ _; exact Nat.le_of_eq rfl) (hb hby at_62) (fun _ _ => ⟨rfl, (e46), (by decide : 0 + 0 + 0 ≤ _), (by decide : 0 + 0 + 0 ≤ _)⟩)
        dsimp only [Pt.U, Pt.locs, Pt.cells, Pt.slots] at X54 l54 y54 z54 st54 hQ54
        subst l54 y54 z54
        obtain ⟨rfl, N54q, e54⟩ := hQ54
        have N54 := Fr.app N46 N54q
        refine Go.step st54 ?_
        show Go _ _ _ _ _ _ _ T54 (mkF m 65 #[.val (.long p1), .second, .val (.int p2), .val (.int o1), .val (.long ((1000000000000000000 : Int64) + (o1.toInt64))), .second, .val (.long (-((1000000000000000000 : Int64) + (o1.toInt64)))), .second, .val (.int (0 : Int32)), .val (.int (0 : Int32)), .unset, .unset] [(.int (own_at p1))])
        refine Go.step (fun t k => XS.iload X54.here hx rfl (hb hby at_65) rfl k) ?_
        show Go _ _ _ _ _ _ _ T54 (mkF m 67 #[.val (.long p1), .second, .val (.int p2), .val (.int o1), .val (.long ((1000000000000000000 : Int64) + (o1.toInt64))), .second, .val (.long (-((1000000000000000000 : Int64) + (o1.toInt64)))), .second, .val (.int (0 : Int32)), .val (.int (0 : Int32)), .unset, .unset] [(.int (0 : Int32)), (.int (own_at p1))])
        have hb67_55 : (own_at p1) = (0 : Int32) := by first | exact own_k1 hb51_47 | exact own_k0 hb51_47
        refine Go.step (fun t k => XS.icmpNo X54.here hx rfl (hb hby at_67) rfl (XT.ii_ne_f hb67_55) k) ?_
        show Go _ _ _ _ _ _ _ T54 (mkF m 70 #[.val (.long p1), .second, .val (.int p2), .val (.int o1), .val (.long ((1000000000000000000 : Int64) + (o1.toInt64))), .second, .val (.long (-((1000000000000000000 : Int64) + (o1.toInt64)))), .second, .val (.int (0 : Int32)), .val (.int (0 : Int32)), .unset, .unset] [])
        refine Go.step (fun t k => XS.iconst X54.here hx rfl (hb hby at_70) k) ?_
        show Go _ _ _ _ _ _ _ T54 (mkF m 71 #[.val (.long p1), .second, .val (.int p2), .val (.int o1), .val (.long ((1000000000000000000 : Int64) + (o1.toInt64))), .second, .val (.long (-((1000000000000000000 : Int64) + (o1.toInt64)))), .second, .val (.int (0 : Int32)), .val (.int (0 : Int32)), .unset, .unset] [(.int (1 : Int32))])
        refine Go.step (fun t k => XS.goto X54.here hx rfl (pc0 := 71) (pc' := 75) rfl (hb hby at_71) (by decide) (by decide) k) ?_
        show Go _ _ _ _ _ _ _ T54 (mkF m 75 #[.val (.long p1), .second, .val (.int p2), .val (.int o1), .val (.long ((1000000000000000000 : Int64) + (o1.toInt64))), .second, .val (.long (-((1000000000000000000 : Int64) + (o1.toInt64)))), .second, .val (.int (0 : Int32)), .val (.int (0 : Int32)), .unset, .unset] [(.int (1 : Int32))])
        refine Go.step (fun t k => XS.istore X54.here hx rfl (hb hby at_75) rfl (l' := #[.val (.long p1), .second, .val (.int p2), .val (.int o1), .val (.long ((1000000000000000000 : Int64) + (o1.toInt64))), .second, .val (.long (-((1000000000000000000 : Int64) + (o1.toInt64)))), .second, .val (.int (0 : Int32)), .val (.int (0 : Int32)), .val (.int (1 : Int32)), .unset]) rfl k) ?_
        show Go _ _ _ _ _ _ _ T54 (mkF m 77 #[.val (.long p1), .second, .val (.int p2), .val (.int o1), .val (.long ((1000000000000000000 : Int64) + (o1.toInt64))), .second, .val (.long (-((1000000000000000000 : Int64) + (o1.toInt64)))), .second, .val (.int (0 : Int32)), .val (.int (0 : Int32)), .val (.int (1 : Int32)), .unset] [])
        refine Go.step (fun t k => XT.lload X54.here hx rfl (hb hby at_77) rfl k) ?_
        show Go _ _ _ _ _ _ _ T54 (mkF m 79 #[.val (.long p1), .second, .val (.int p2), .val (.int o1), .val (.long ((1000000000000000000 : Int64) + (o1.toInt64))), .second, .val (.long (-((1000000000000000000 : Int64) + (o1.toInt64)))), .second, .val (.int (0 : Int32)), .val (.int (0 : Int32)), .val (.int (1 : Int32)), .unset] [(.long (-((1000000000000000000 : Int64) + (o1.toInt64))))])
        obtain ⟨_, _, ⟨T56, L56, k56, n56⟩, -, X56, ⟨Lc56, hQ56, l56, y56, z56⟩, st56⟩ := Jvm.LawKit.callS X54 hx (y := (⟨"com/example/limitbook/limitbook/rules/PriceKeys", "atBound", "(J)Z"⟩ : MethodName)) hown (mvT hZ (hw _ (List.mem_of_getElem? (i := 5) rfl))) (mvT hZ (hw _ (List.mem_of_getElem? (i := 6) rfl))) (mvT hZ (hw _ (List.mem_of_getElem? (i := 7) rfl))) (mvT hZ (hw _ (List.mem_of_getElem? (i := 8) rfl))) (by decide) (backOf (W := 0) (rm2 l Z a0 hw [] (-((1000000000000000000 : Int64) + (o1.toInt64))) h0 n0 Z0 ) hZ (hw _ (List.mem_of_getElem? (i := 8) rfl)) (hw _ (List.mem_of_getElem? (i := 7) rfl)) (by decide) (by decide)) (g := (mkF m 79 #[.val (.long p1), .second, .val (.int p2), .val (.int o1), .val (.long ((1000000000000000000 : Int64) + (o1.toInt64))), .second, .val (.long (-((1000000000000000000 : Int64) + (o1.toInt64)))), .second, .val (.int (0 : Int32)), .val (.int (0 : Int32)), .val (.int (1 : Int32)), .unset] [(.long (-((1000000000000000000 : Int64) + (o1.toInt64))))])) rfl (by rw [hml]; rfl) (argsL := [(.long (-((1000000000000000000 : Int64) + (o1.toInt64))))]) (rest := []) (lenOf pd_1 rfl) rfl (by show 2 * 0 + _ ≤ _; exact Nat.le_of_eq rfl) (hb hby at_79) (fun _ _ => ⟨rfl, (e54), (by decide : 0 + 0 + 0 + 0 ≤ _), (by decide : 0 + 0 + 0 + 0 ≤ _)⟩)
        dsimp only [Pt.U, Pt.locs, Pt.cells, Pt.slots] at X56 l56 y56 z56 st56 hQ56
        subst l56 y56 z56
        obtain ⟨rfl, N56q, e56⟩ := hQ56
        have N56 := Fr.app N54 N56q
        refine Go.step st56 ?_
        show Go _ _ _ _ _ _ _ T56 (mkF m 82 #[.val (.long p1), .second, .val (.int p2), .val (.int o1), .val (.long ((1000000000000000000 : Int64) + (o1.toInt64))), .second, .val (.long (-((1000000000000000000 : Int64) + (o1.toInt64)))), .second, .val (.int (0 : Int32)), .val (.int (0 : Int32)), .val (.int (1 : Int32)), .unset] [(.int (own_at (-((1000000000000000000 : Int64) + (o1.toInt64)))))])
        refine Go.step (fun t k => XS.iload X56.here hx rfl (hb hby at_82) rfl k) ?_
        show Go _ _ _ _ _ _ _ T56 (mkF m 84 #[.val (.long p1), .second, .val (.int p2), .val (.int o1), .val (.long ((1000000000000000000 : Int64) + (o1.toInt64))), .second, .val (.long (-((1000000000000000000 : Int64) + (o1.toInt64)))), .second, .val (.int (0 : Int32)), .val (.int (0 : Int32)), .val (.int (1 : Int32)), .unset] [(.int (0 : Int32)), (.int (own_at (-((1000000000000000000 : Int64) + (o1.toInt64)))))])
        have hb84_57 : (own_at (-((1000000000000000000 : Int64) + (o1.toInt64)))) = (0 : Int32) := by first | exact (own_n1 hb33_31).1 | exact (own_n1 hb33_31).2 | exact (own_n0 ho1r hb33_31).1 | exact (own_n0 ho1r hb33_31).2
        refine Go.step (fun t k => XS.icmpNo X56.here hx rfl (hb hby at_84) rfl (XT.ii_ne_f hb84_57) k) ?_
        show Go _ _ _ _ _ _ _ T56 (mkF m 87 #[.val (.long p1), .second, .val (.int p2), .val (.int o1), .val (.long ((1000000000000000000 : Int64) + (o1.toInt64))), .second, .val (.long (-((1000000000000000000 : Int64) + (o1.toInt64)))), .second, .val (.int (0 : Int32)), .val (.int (0 : Int32)), .val (.int (1 : Int32)), .unset] [])
        refine Go.step (fun t k => XS.iconst X56.here hx rfl (hb hby at_87) k) ?_
        show Go _ _ _ _ _ _ _ T56 (mkF m 88 #[.val (.long p1), .second, .val (.int p2), .val (.int o1), .val (.long ((1000000000000000000 : Int64) + (o1.toInt64))), .second, .val (.long (-((1000000000000000000 : Int64) + (o1.toInt64)))), .second, .val (.int (0 : Int32)), .val (.int (0 : Int32)), .val (.int (1 : Int32)), .unset] [(.int (1 : Int32))])
        refine Go.step (fun t k => XS.goto X56.here hx rfl (pc0 := 88) (pc' := 92) rfl (hb hby at_88) (by decide) (by decide) k) ?_
        show Go _ _ _ _ _ _ _ T56 (mkF m 92 #[.val (.long p1), .second, .val (.int p2), .val (.int o1), .val (.long ((1000000000000000000 : Int64) + (o1.toInt64))), .second, .val (.long (-((1000000000000000000 : Int64) + (o1.toInt64)))), .second, .val (.int (0 : Int32)), .val (.int (0 : Int32)), .val (.int (1 : Int32)), .unset] [(.int (1 : Int32))])
        refine Go.step (fun t k => XS.istore X56.here hx rfl (hb hby at_92) rfl (l' := #[.val (.long p1), .second, .val (.int p2), .val (.int o1), .val (.long ((1000000000000000000 : Int64) + (o1.toInt64))), .second, .val (.long (-((1000000000000000000 : Int64) + (o1.toInt64)))), .second, .val (.int (0 : Int32)), .val (.int (0 : Int32)), .val (.int (1 : Int32)), .val (.int (1 : Int32))]) rfl k) ?_
        show Go _ _ _ _ _ _ _ T56 (mkF m 94 #[.val (.long p1), .second, .val (.int p2), .val (.int o1), .val (.long ((1000000000000000000 : Int64) + (o1.toInt64))), .second, .val (.long (-((1000000000000000000 : Int64) + (o1.toInt64)))), .second, .val (.int (0 : Int32)), .val (.int (0 : Int32)), .val (.int (1 : Int32)), .val (.int (1 : Int32))] [])
        refine Go.step (fun t k => XS.iload X56.here hx rfl (hb hby at_94) rfl k) ?_
        show Go _ _ _ _ _ _ _ T56 (mkF m 96 #[.val (.long p1), .second, .val (.int p2), .val (.int o1), .val (.long ((1000000000000000000 : Int64) + (o1.toInt64))), .second, .val (.long (-((1000000000000000000 : Int64) + (o1.toInt64)))), .second, .val (.int (0 : Int32)), .val (.int (0 : Int32)), .val (.int (1 : Int32)), .val (.int (1 : Int32))] [(.int (1 : Int32))])
        have hb96_58 : ¬ ((1 : Int32) = (0 : Int32)) := by decide
        refine Go.step (fun t k => XS.ifNo X56.here hx rfl (hb hby at_96) rfl (XT.i0_eq_f hb96_58) k) ?_
        show Go _ _ _ _ _ _ _ T56 (mkF m 99 #[.val (.long p1), .second, .val (.int p2), .val (.int o1), .val (.long ((1000000000000000000 : Int64) + (o1.toInt64))), .second, .val (.long (-((1000000000000000000 : Int64) + (o1.toInt64)))), .second, .val (.int (0 : Int32)), .val (.int (0 : Int32)), .val (.int (1 : Int32)), .val (.int (1 : Int32))] [])
        refine Go.step (fun t k => XS.iload X56.here hx rfl (hb hby at_99) rfl k) ?_
        show Go _ _ _ _ _ _ _ T56 (mkF m 101 #[.val (.long p1), .second, .val (.int p2), .val (.int o1), .val (.long ((1000000000000000000 : Int64) + (o1.toInt64))), .second, .val (.long (-((1000000000000000000 : Int64) + (o1.toInt64)))), .second, .val (.int (0 : Int32)), .val (.int (0 : Int32)), .val (.int (1 : Int32)), .val (.int (1 : Int32))] [(.int (1 : Int32))])
        have hb101_59 : ¬ ((1 : Int32) = (0 : Int32)) := by decide
        refine Go.step (fun t k => XS.ifNo X56.here hx rfl (hb hby at_101) rfl (XT.i0_eq_f hb101_59) k) ?_
        show Go _ _ _ _ _ _ _ T56 (mkF m 104 #[.val (.long p1), .second, .val (.int p2), .val (.int o1), .val (.long ((1000000000000000000 : Int64) + (o1.toInt64))), .second, .val (.long (-((1000000000000000000 : Int64) + (o1.toInt64)))), .second, .val (.int (0 : Int32)), .val (.int (0 : Int32)), .val (.int (1 : Int32)), .val (.int (1 : Int32))] [])
        refine Go.step (fun t k => XS.iconst X56.here hx rfl (hb hby at_104) k) ?_
        show Go _ _ _ _ _ _ _ T56 (mkF m 105 #[.val (.long p1), .second, .val (.int p2), .val (.int o1), .val (.long ((1000000000000000000 : Int64) + (o1.toInt64))), .second, .val (.long (-((1000000000000000000 : Int64) + (o1.toInt64)))), .second, .val (.int (0 : Int32)), .val (.int (0 : Int32)), .val (.int (1 : Int32)), .val (.int (1 : Int32))] [(.int (1 : Int32))])
        refine Go.step (fun t k => XS.goto X56.here hx rfl (pc0 := 105) (pc' := 109) rfl (hb hby at_105) (by decide) (by decide) k) ?_
        show Go _ _ _ _ _ _ _ T56 (mkF m 109 #[.val (.long p1), .second, .val (.int p2), .val (.int o1), .val (.long ((1000000000000000000 : Int64) + (o1.toInt64))), .second, .val (.long (-((1000000000000000000 : Int64) + (o1.toInt64)))), .second, .val (.int (0 : Int32)), .val (.int (0 : Int32)), .val (.int (1 : Int32)), .val (.int (1 : Int32))] [(.int (1 : Int32))])
        refine Go.ret X56 hx hlk Bd.returns rfl (Or.inl ⟨rfl, Or.inr (Or.inl rfl), _, rfl⟩) (hb hby at_109) ?_ (by decide) (by decide)
        show Q0 Z _ _ _ _ _ T56.heap _
        exact ⟨rfl, N56⟩
set_option maxRecDepth 65536 in
set_option maxHeartbeats 40000000 in
theorem comes_1 {Post : Tables → Env → Array Value → State → Outcome → State → Prop} (hpost : ∀ tb e args s v u, (limb_1_1.after args s (.returned v) u = true ∧ limb_1_2.after args s (.returned v) u = true ∧ True) → FrameEnd s (.returned v) u (Jvm.fieldLocs frame_1_writes args s ++ Jvm.arrayLocs frame_1_arrays args s ++ Jvm.staticLocs frame_1_statics s) 0 0 → Post tb e args s (.returned v) u) :
    ArmFor flags0 classFile x code maxLocals ret World_1 tables_1 room_1 Calls_1 rest_1 Pre_1 Post := by
  intro l hfl _ _ p e ha hc hk s m args below hf hA hF happ hP
  obtain ⟨hcalls, hrest, hpre⟩ := hP
  obtain ⟨-, -, -, hnamed, -, -, -, hat⟩ := (Spec.applies_iff hf).mp happ
  obtain ⟨hg, hn⟩ := and_e (Cond.before_iff.mp (show (Jvm.Cond.and given_1 narrow_1).before args s = true from hpre))
  obtain ⟨gc, gA0⟩ := and_e hg
  obtain ⟨gi0, gA1⟩ := and_e gA0
  obtain ⟨w0, w1, rfl⟩ : ∃ w0 w1 : Value, args = #[w0, w1] := by
    have hs : args.size = 2 := by simpa [Cond.value, given_1] using gc
    obtain ⟨L⟩ := args
    match L, hs with
    | [w0, w1], _ => exact ⟨w0, w1, rfl⟩
  have hw := fun d (hd : d ∈ tables_1) => atoms_spec (ws := Jvm.Cond.code x code maxLocals ret :: tables_1) hat d (List.mem_cons_of_mem _ hd)
  have hfit : Fit s := fun {y c} hc i hi => by
    obtain ⟨ha, rfl⟩ := Array.getElem?_eq_some_iff.mp hc
    have q := List.all_eq_true.mp ((Array.all_eq_true_iff_forall_mem.mp hF) _ (Array.getElem_mem ha)) i (List.mem_range.mpr hi)
    simpa [Array.getElem?_eq_getElem hi] using q
  obtain ⟨i0, ei0⟩ := isL_v gi0
  obtain rfl : w0 = (.long i0) := Option.some.inj ei0
  obtain ⟨i1, ei1⟩ := is_v gA1
  obtain rfl : w1 = (.int i1) := Option.some.inj ei1
  obtain ⟨n, o, h1, h2, h3, _, L, rfl, ⟨rfl, N⟩, hq⟩ := rm0 l s _ hw tables_1 i0 i1  s.heap s.heap.size (Nat.le_refl _)  p e ha hc hk s m _ below hf ((Spec.applies_iff_loose hf).mp happ).1 ⟨rfl, State.Warmed39.refl s, rfl⟩ trivial
  refine ⟨n, _, h1, h2, h3, hpost _ _ _ _ _ _ ⟨Cond.after_iff.mpr rfl, Cond.after_iff.mpr (eq_i res_at (Term.int_eval (1)) rfl), trivial⟩ ⟨hq.1, hq.2.1, (hq.2.2.sift fun y hy => Or.inr (N y hy)).mono (by decide) (by decide)⟩⟩
theorem main_1_1 : Claimed_1_1 := comes_1 fun _ _ _ _ _ _ h hF => ⟨h.1, hF⟩
theorem main_1_2 : Claimed_1_2 := comes_1 fun _ _ _ _ _ _ h hF => ⟨h.2.1, hF⟩
end Jvm.Pilot.@@N@@
namespace Jvm.Pilot.@@N@@
open Jvm Jvm.ClassFile Sem Op Lib Jvm.Free Jvm.Stand Jvm.Pilot.@@N@@.Jvm.D
/-! MADE BY PROGRAM (witnessworld.py) out of the Statement's table words and the real class files: 10 classes; the members and pool entries that the words name. The judged class is class 1, her method 1. -/
namespace start1
open Jvm.ClassFile
def u (s : String) : CpInfo := .utf8 (stringToUtf16 s)
/-- a pool by its gaps: so many unusable entries, then the entry; so many at the end -/
def gap : Nat → List CpInfo → List CpInfo
  | 0, r => r
  | n + 1, r => .unusable :: gap n r
def poolList (es : List (Nat × CpInfo)) (last : Nat) : List CpInfo := es.foldr (fun e r => gap e.1 (e.2 :: r)) (gap last [])
def pool (es : List (Nat × CpInfo)) (last : Nat) : Array CpInfo := ⟨poolList es last⟩
def fileOf (pool : Array CpInfo) (this : Nat) (attrs : Array Attribute := #[]) (ms : Array MethodInfo := #[]) (fl : Nat := 33) (sup : Nat := 0) (ifs : Array Nat := #[]) (fds : Array FieldInfo := #[]) : ClassFile where
  minorVersion := 0
  majorVersion := 65
  constantPool := pool
  accessFlags := fl
  thisClass := this
  superClass := sup
  interfaces := ifs
  fields := fds
  methods := ms
  attributes := attrs
def plain (name : String) (sup : Option ClassId) : Class where
  name := name
  kind := .ordinary
  loader := none
  accessFlags := 33
  super := sup
  interfaces := #[]
  cf := none
  fields := #[]
  methods := #[]
  instanceTypes := #[]
  staticTypes := #[]
  resolved := #[]
  callSites := []
  init := .initialized
  statics := none
  mirror := none

def pool0 : Array CpInfo := pool [(5, u "<init>"), (0, u "()V"), (1, .class_ 10), (1, u "java/lang/Object")] 113

def k0m0 : Method := { name := "<init>", desc := "()V", sig := { parameters := [], returnType := none }, accessFlags := 1, code := none }
/-- java/lang/Object -/
def k0 : Class := { plain "java/lang/Object" none with
  accessFlags := 33
  interfaces := #[]
  cf := some (fileOf pool0 8 #[] #[{ accessFlags := 1, nameIndex := 5, descriptorIndex := 6, attributes := #[] }] 33 0 #[] #[])
  fields := #[]
  methods := #[k0m0]
  instanceTypes := #[]
  staticTypes := #[]
  resolved := Array.replicate 124 none
  statics := none }

def pool1 : Array CpInfo := pool [(2, .class_ 4), (1, u "java/lang/Object"), (0, u "<init>"), (0, u "()V"), (0, .long 1000000000000000000), (1, .methodref 10 11), (0, .class_ 12), (0, .nameAndType 13 14), (0, u "java/lang/Math"), (0, u "abs"), (0, u "(J)J"), (0, .methodref 16 17), (0, .class_ 18), (0, .nameAndType 19 20), (0, u "com/example/limitbook/limitbook/rules/PriceKeys"), (0, u "atBound"), (0, u "(J)Z"), (0, .class_ 22), (0, u "com/example/limitbook/limitbook/rules/PriceKeysAtBoundPinLaw"), (2, u "law"), (0, u "(JI)Z")] 3

def k1m0 : Method := { name := "<init>", desc := "()V", sig := { parameters := [], returnType := none }, accessFlags := 2, code := none }
def k1c1 : Code := { maxStack := 4, maxLocals := 12, code := code, exceptionTable := #[], attributes := #[] }
def k1m1 : Method := { name := "law", desc := "(JI)Z", sig := { parameters := [.long, .int], returnType := some .boolean }, accessFlags := 9, code := some k1c1 }
/-- com/example/limitbook/limitbook/rules/PriceKeysAtBoundPinLaw -/
def k1 : Class := { plain "com/example/limitbook/limitbook/rules/PriceKeysAtBoundPinLaw" (some 0) with
  accessFlags := 49
  interfaces := #[]
  cf := some (fileOf pool1 21 #[] #[{ accessFlags := 2, nameIndex := 5, descriptorIndex := 6, attributes := #[] }, { accessFlags := 9, nameIndex := 25, descriptorIndex := 26, attributes := #[] }] 49 2 #[] #[])
  fields := #[]
  methods := #[k1m0, k1m1]
  instanceTypes := #[]
  staticTypes := #[]
  resolved := Array.replicate 30 none
  statics := none }

def pool2 : Array CpInfo := pool [(1, .class_ 2), (0, u "java/lang/Math"), (1, .class_ 6), (1, u "java/lang/Object"), (0, u "<init>"), (0, u "()V"), (89, .class_ 100), (1, u "java/lang/Math$RandomNumberGeneratorHolder"), (23, u "abs"), (0, u "(J)J"), (46, u "negativeZeroFloatBits"), (0, u "J"), (2, u "negativeZeroDoubleBits"), (68, u "$assertionsDisabled"), (0, u "Z"), (91, u "twoToTheDoubleScaleDown"), (0, u "D"), (4, u "twoToTheDoubleScaleUp"), (9, u "E"), (3, u "PI"), (2, u "TAU"), (2, u "DEGREES_TO_RADIANS"), (0, u "RADIANS_TO_DEGREES")] 94

def k2m0 : Method := { name := "<init>", desc := "()V", sig := { parameters := [], returnType := none }, accessFlags := 2, code := none }
def k2c1 : Code := { maxStack := 4, maxLocals := 2, code := jdk_29_method_61_code, exceptionTable := #[], attributes := #[] }
def k2m1 : Method := { name := "abs", desc := "(J)J", sig := { parameters := [.long], returnType := some .long }, accessFlags := 9, code := some k2c1 }
/-- java/lang/Math -/
def k2 : Class := { plain "java/lang/Math" (some 0) with
  accessFlags := 49
  interfaces := #[]
  cf := some (fileOf pool2 1 #[.nestMembers #[98]] #[{ accessFlags := 2, nameIndex := 7, descriptorIndex := 8, attributes := #[] }, { accessFlags := 9, nameIndex := 124, descriptorIndex := 125, attributes := #[] }] 49 4 #[] #[{ accessFlags := 25, nameIndex := 354, descriptorIndex := 339, attributes := #[] }, { accessFlags := 25, nameIndex := 358, descriptorIndex := 339, attributes := #[] }, { accessFlags := 25, nameIndex := 361, descriptorIndex := 339, attributes := #[] }, { accessFlags := 26, nameIndex := 364, descriptorIndex := 339, attributes := #[] }, { accessFlags := 26, nameIndex := 365, descriptorIndex := 339, attributes := #[] }, { accessFlags := 26, nameIndex := 172, descriptorIndex := 173, attributes := #[] }, { accessFlags := 26, nameIndex := 176, descriptorIndex := 173, attributes := #[] }, { accessFlags := 8, nameIndex := 344, descriptorIndex := 339, attributes := #[] }, { accessFlags := 8, nameIndex := 338, descriptorIndex := 339, attributes := #[] }, { accessFlags := 4120, nameIndex := 245, descriptorIndex := 246, attributes := #[] }])
  fields := #[{ name := "E", type := .double, accessFlags := 25, slot := 0, constantValue := 0 }, { name := "PI", type := .double, accessFlags := 25, slot := 1, constantValue := 0 }, { name := "TAU", type := .double, accessFlags := 25, slot := 2, constantValue := 0 }, { name := "DEGREES_TO_RADIANS", type := .double, accessFlags := 26, slot := 3, constantValue := 0 }, { name := "RADIANS_TO_DEGREES", type := .double, accessFlags := 26, slot := 4, constantValue := 0 }, { name := "negativeZeroFloatBits", type := .long, accessFlags := 26, slot := 5, constantValue := 0 }, { name := "negativeZeroDoubleBits", type := .long, accessFlags := 26, slot := 6, constantValue := 0 }, { name := "twoToTheDoubleScaleUp", type := .double, accessFlags := 8, slot := 7, constantValue := 0 }, { name := "twoToTheDoubleScaleDown", type := .double, accessFlags := 8, slot := 8, constantValue := 0 }, { name := "$assertionsDisabled", type := .boolean, accessFlags := 4120, slot := 9, constantValue := 0 }]
  methods := #[k2m0, k2m1]
  instanceTypes := #[]
  staticTypes := #[.double, .double, .double, .double, .double, .long, .long, .double, .double, .boolean]
  resolved := Array.replicate 460 none
  statics := none }

def pool3 : Array CpInfo := pool [(2, .class_ 4), (1, u "java/lang/Object"), (0, u "<init>"), (0, u "()V"), (9, .class_ 17), (0, u "com/example/limitbook/limitbook/rules/PriceKeys"), (12, .long 1000000000000000000), (1, .long 17446744073709551616), (22, u "BOUND_AS_BIG_INTEGER"), (0, u "Ljava/math/BigInteger;"), (12, u "BOUND"), (0, u "J"), (1, u "EXACT_DIGITS"), (0, u "I"), (5, u "atBound"), (0, u "(J)Z")] 3

def k3m0 : Method := { name := "<init>", desc := "()V", sig := { parameters := [], returnType := none }, accessFlags := 2, code := none }
def k3c1 : Code := { maxStack := 4, maxLocals := 2, code := prog_86_method_3_code, exceptionTable := #[], attributes := #[] }
def k3m1 : Method := { name := "atBound", desc := "(J)Z", sig := { parameters := [.long], returnType := some .boolean }, accessFlags := 8, code := some k3c1 }
/-- com/example/limitbook/limitbook/rules/PriceKeys -/
def k3 : Class := { plain "com/example/limitbook/limitbook/rules/PriceKeys" (some 0) with
  accessFlags := 48
  interfaces := #[]
  cf := some (fileOf pool3 16 #[] #[{ accessFlags := 2, nameIndex := 5, descriptorIndex := 6, attributes := #[] }, { accessFlags := 8, nameIndex := 79, descriptorIndex := 80, attributes := #[] }] 48 2 #[] #[{ accessFlags := 24, nameIndex := 69, descriptorIndex := 70, attributes := #[] }, { accessFlags := 26, nameIndex := 72, descriptorIndex := 73, attributes := #[] }, { accessFlags := 26, nameIndex := 55, descriptorIndex := 56, attributes := #[] }])
  fields := #[{ name := "BOUND", type := .long, accessFlags := 24, slot := 0, constantValue := 0 }, { name := "EXACT_DIGITS", type := .int, accessFlags := 26, slot := 1, constantValue := 0 }, { name := "BOUND_AS_BIG_INTEGER", type := (.object "java/math/BigInteger"), accessFlags := 26, slot := 2, constantValue := 0 }]
  methods := #[k3m0, k3m1]
  instanceTypes := #[]
  staticTypes := #[.long, .int, (.object "java/math/BigInteger")]
  resolved := Array.replicate 84 none
  statics := none }

def pool4 : Array CpInfo := pool [(1, u "java/lang/Cloneable"), (0, .class_ 1), (0, u "java/lang/Object"), (0, .class_ 3)] 3

/-- java/lang/Cloneable -/
def k4 : Class := { plain "java/lang/Cloneable" (some 0) with
  accessFlags := 1537
  interfaces := #[]
  cf := some (fileOf pool4 2 #[] #[] 1537 4 #[] #[])
  fields := #[]
  methods := #[]
  instanceTypes := #[]
  staticTypes := #[]
  resolved := Array.replicate 8 none
  statics := none }

def pool5 : Array CpInfo := pool [(1, u "java/io/Serializable"), (0, .class_ 1), (0, u "java/lang/Object"), (0, .class_ 3)] 3

/-- java/io/Serializable -/
def k5 : Class := { plain "java/io/Serializable" (some 0) with
  accessFlags := 1537
  interfaces := #[]
  cf := some (fileOf pool5 2 #[] #[] 1537 4 #[] #[])
  fields := #[]
  methods := #[]
  instanceTypes := #[]
  staticTypes := #[]
  resolved := Array.replicate 8 none
  statics := none }

/-- the primitive byte -/
def k6 : Class := { plain "byte" none with kind := .primitive 'B', accessFlags := 0x411 }
/-- [B -/
def k7 : Class := { plain "[B" (some 0) with kind := .array 6 .byte, interfaces := #[4, 5], accessFlags := 1041 }

/-- the primitive int -/
def k8 : Class := { plain "int" none with kind := .primitive 'I', accessFlags := 0x411 }
/-- [I -/
def k9 : Class := { plain "[I" (some 0) with kind := .array 8 .int, interfaces := #[4, 5], accessFlags := 1041 }

def heap : Heap := #[]
def classes : Array Class := #[k0, k1, k2, k3, k4, k5, k6, k7, k8, k9]
def interned : List (Array UInt16 × Addr) := []
def slotsUsed : Nat := 0
def theMethod : MethodId := ⟨1, 1⟩
def args0 : Array Value := #[.long 5, .int 7]
def aboutOver (below : List Frame) : State where
  vm := { classes := classes, interned := interned.toArray }
  heap := heap
  slotsUsed := slotsUsed
  threads := #[{ frames := .invoking theMethod args0 :: below }]
def below0 : List Frame := [.native { method := ⟨0, 0⟩, args := #[] }]
def about1 : State := aboutOver below0
def p0 : Program := .bare "" "" ""
def e0 : Env := launch0.env 0 0 0
theorem w_frames : about1.frames = Frame.invoking theMethod args0 :: below0 := rfl
set_option maxRecDepth 65536 in
theorem w_args : argsFit about1.vm theMethod args0 = true := by decide +kernel
set_option maxRecDepth 65536 in
theorem w_heap : heapFits about1 = true := by decide +kernel
set_option maxRecDepth 65536 in
theorem w_runnable : about1.curStatus? = some .runnable := by decide +kernel
set_option maxRecDepth 65536 in
theorem w_alone : about1.alone = true := by decide +kernel
set_option maxRecDepth 65536 in
theorem w_named : about1.methodNamed? x = some theMethod := by decide +kernel
set_option maxRecDepth 65536 in
theorem w_hears : about1.hears theMethod below0 = true := by decide +kernel
set_option maxRecDepth 65536 in
theorem w_ripe : about1.ripe theMethod args0 below0 = true := by decide +kernel
theorem w_running : about1.status = .running := rfl
set_option maxRecDepth 65536 in
theorem w_room : about1.hasRoom e0.platform room_1 = true :=
  launch0.hasRoom_least _ room_1 (by decide +kernel) (by decide +kernel) (by decide +kernel) (by decide +kernel) (by decide +kernel) (by decide +kernel)
theorem allAtoms_all (ts : List Jvm.Cond) (a : Array Jvm.Value) (st : Jvm.State) : (allAtoms ts).before a st = ts.all (fun c => c.before a st) := by
  induction ts with
  | nil => rfl
  | cons c t ih =>
    show (Jvm.Cond.and c (allAtoms t)).before a st = _
    rw [Jvm.Cond.before_and, ih, List.all_cons]
def words1 : List Jvm.Cond := Jvm.Cond.code x code maxLocals ret :: tables_1
/-- a 'code' word, met by the world's own term for the bytes: nothing is compared byte by byte -/
theorem code_word {y : MethodName} {bytes : ByteArray} {mx : Nat} {rt : Option FieldType} {a : Array Value} {s : State} {m : MethodId} {meth : Method} {c : Code} (h1 : s.methodNamed? y = some m) (h2 : s.vm.method? m = some meth) (h3 : meth.code = some c) (h4 : c.code = bytes)
    (h5 : (c.maxLocals == mx && c.exceptionTable.isEmpty && decide (c.maxStack ≤ mostOperands) && decide (meth.sig.returnType = rt) && !meth.locks && decide (parseMethodDescriptor y.desc = some meth.sig)) = true) : (Jvm.Cond.code y bytes mx rt).before a s = true := by
  simp only [Bool.and_eq_true, beq_iff_eq, Bool.not_eq_true', decide_eq_true_eq] at h5
  obtain ⟨⟨⟨⟨⟨g1, g2⟩, g3⟩, g4⟩, g5⟩, g6⟩ := h5
  simp [Cond.before, Cond.holds, Cond.value, h1, h2, h3, h4, g1, g2, g3, g4, g5, g6]
def isCode : Jvm.Cond → Bool
  | .code _ _ _ _ => true
  | _ => false
theorem all_split {L : List Jvm.Cond} {P : Jvm.Cond → Bool} (h1 : L.all (fun c => isCode c || P c) = true) (h2 : ∀ c ∈ L.filter isCode, P c = true) : L.all P = true := by
  refine List.all_eq_true.mpr fun c hc => ?_
  have h := List.all_eq_true.mp h1 c hc
  rcases Bool.eq_false_or_eq_true (isCode c) with hi | hi
  · exact h2 c (List.mem_filter.mpr ⟨hc, hi⟩)
  · simpa [hi] using h
set_option maxRecDepth 65536 in
theorem w_c0 : (Jvm.Cond.code x code maxLocals ret).before args0 about1 = true := code_word (m := ⟨1, 1⟩) (meth := k1m1) (c := k1c1) (by decide +kernel) rfl rfl rfl (by decide +kernel)
set_option maxRecDepth 65536 in
theorem w_c1 : (Jvm.Cond.code ({ cls := "java/lang/Math", name := "abs", desc := "(J)J" } : Jvm.MethodName) jdk_29_method_61_code (2 : Nat) (Option.some Jvm.ClassFile.FieldType.long)).before args0 about1 = true := code_word (m := ⟨2, 1⟩) (meth := k2m1) (c := k2c1) (by decide +kernel) rfl rfl rfl (by decide +kernel)
set_option maxRecDepth 65536 in
theorem w_c2 : (Jvm.Cond.code ({ cls := "com/example/limitbook/limitbook/rules/PriceKeys", name := "atBound", desc := "(J)Z" } : Jvm.MethodName) prog_86_method_3_code (2 : Nat) (Option.some Jvm.ClassFile.FieldType.boolean)).before args0 about1 = true := code_word (m := ⟨3, 1⟩) (meth := k3m1) (c := k3c1) (by decide +kernel) rfl rfl rfl (by decide +kernel)
def codes1 : List Jvm.Cond := [Jvm.Cond.code x code maxLocals ret, Jvm.Cond.code ({ cls := "java/lang/Math", name := "abs", desc := "(J)J" } : Jvm.MethodName) jdk_29_method_61_code (2 : Nat) (Option.some Jvm.ClassFile.FieldType.long), Jvm.Cond.code ({ cls := "com/example/limitbook/limitbook/rules/PriceKeys", name := "atBound", desc := "(J)Z" } : Jvm.MethodName) prog_86_method_3_code (2 : Nat) (Option.some Jvm.ClassFile.FieldType.boolean)]
set_option maxRecDepth 65536 in
theorem codes_eq : words1.filter isCode = codes1 := rfl
theorem w_codes : ∀ c ∈ words1.filter isCode, c.before args0 about1 = true := by
  rw [codes_eq]
  intro c hc
  simp only [codes1, List.mem_cons, List.not_mem_nil, or_false] at hc
  rcases hc with rfl | rfl | rfl
  · exact w_c0
  · exact w_c1
  · exact w_c2
set_option maxRecDepth 65536 in
theorem w_t1 : words1.all (fun c => isCode c || c.before args0 about1) = true := by decide +kernel
theorem w_tables : (allAtoms (Jvm.Cond.code x code maxLocals ret :: tables_1)).before args0 about1 = true := by
  rw [allAtoms_all]
  show words1.all (fun c => c.before args0 about1) = true
  refine all_split ?_ w_codes
  rw [w_t1]
set_option maxRecDepth 65536 in
theorem w_case : (Jvm.Cond.and given_1 narrow_1).before args0 about1 = true := by decide +kernel
theorem w_applies : (headSpec (Jvm.Cond.code x code maxLocals ret :: tables_1) room_1).applies x e0.platform about1 = true :=
  (Spec.applies_iff w_frames).mpr ⟨w_running, w_runnable, w_alone, w_named, w_hears, w_ripe, w_room, w_tables⟩
theorem atStart : AtStart classFile x code maxLocals ret World_1 tables_1 room_1 Calls_1 rest_1 Pre_1 launch0 p0 e0 about1 theMethod args0 below0 :=
  ⟨lists_1, trivial, launch0.admits_env _ _ _, launch0.least_env, fairChoices_fair.cas, fairChoices_fair.clock, w_frames, w_args, w_heap, w_applies, trivial, trivial, w_case⟩
end start1
theorem witness_1 : WitnessClaimed_1 := ⟨start1.p0, start1.e0, start1.about1, start1.theMethod, start1.args0, start1.below0, start1.atStart⟩
end Jvm.Pilot.@@N@@
