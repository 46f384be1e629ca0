import JvmDerived
import JvmDerived.Pilot.@@N@@Statement
import JvmDerived.Pilot.@@N@@Code
set_option linter.unusedVariables false
set_option linter.unusedSimpArgs false
namespace Jvm.OwnWp
open Sem ClassFile Op Lib Jvm.Stand Jvm.Free Jvm.LawKit Jvm.RoadKit
section Own
variable {p : Program} {l : Launch} {e : Env} {R : Room} {s : State} {m : MethodId} {args : Array Value} {below : List Frame} {meth : Method} {c : Code} {T T' : State} {locs : List Loc} {cells slots : Nat} {kc ks : Nat} {Q : Option Value → Heap → List Loc → Prop} {g g' : JFrame}
/-- from T with the frame g on top the invocation returns, and Q holds of what it leaves -/
def Go (p : Program) (e : Env) (below : List Frame) (s : State) (kc ks : Nat) (Q : Option Value → Heap → List Loc → Prop) (T : State) (g : JFrame) : Prop :=
  ∃ s₂ o, Steps p.tables e below (T.setTop g) s₂ ∧ s₂.status = .running ∧ Ended s₂ below o ∧ ∃ v L, o = .returned v ∧ Q v s₂.heap L ∧ FrameEnd s o s₂ L kc ks
theorem Go.step (st : ∀ t, Steps p.tables e below (T'.setTop g') t → Steps p.tables e below (T.setTop g) t) (k : Go p e below s kc ks Q T' g') : Go p e below s kc ks Q T g := by
  obtain ⟨s₂, o, h, r⟩ := k
  exact ⟨s₂, o, st _ h, r⟩
theorem Go.cast (q : g = g') (k : Go p e below s kc ks Q T g') : Go p e below s kc ks Q T g := q ▸ k
theorem Go.weak {Q' : Option Value → Heap → List Loc → Prop} (k : Go p e below s kc ks Q' T g) (h : ∀ v hp L, Q' v hp L → Q v hp L) : Go p e below s kc ks Q T g := by
  obtain ⟨s₂, o, a, b, c, v, L, d, q, f⟩ := k
  exact ⟨s₂, o, a, b, c, v, L, d, h _ _ _ q, f⟩
theorem Go.ret (X : Stand p l e R s m args below meth c T locs cells slots) (hx : p.tables.exec = Jvm.exec) (hlk : meth.locks = false) {pc : Nat} {Ls : Array Slot} {w : Value} {t : FieldType} {i : Instr} {rest : List Value} (hret : meth.sig.returnType = some t) (hn : narrow t w = w)
    (hi : (i = .ireturn ∧ (t = .int ∨ t = .boolean ∨ t = .byte ∨ t = .char ∨ t = .short) ∧ ∃ z, w = .int z) ∨ (i = .lreturn ∧ t = .long ∧ ∃ z, w = .long z) ∨ (i = .dreturn ∧ t = .double ∧ ∃ z, w = .double z) ∨ (i = .freturn ∧ t = .float ∧ ∃ z, w = .float z) ∨ (i = .areturn ∧ t.isReference = true ∧ w.isRef = true))
    (hd : decode c.code pc = .ok (i, 1)) (hq : Q (some w) T.heap locs) (hc : cells ≤ kc) (hs : slots ≤ ks) : Go p e below s kc ks Q T (mkF m pc Ls (w :: rest)) := by
  obtain ⟨fs, hr, hrun, hended, hW, hsame⟩ := X.leave (v := some w) (fun h => by rw [hret] at h; cases h) hlk
  exact ⟨_, _, retOut X hx hret hn hi hd hr, hrun, hended, _, _, rfl, hq, ⟨_, rfl⟩, hW, hsame.mono hc hs⟩
theorem Go.retV (X : Stand p l e R s m args below meth c T locs cells slots) (hx : p.tables.exec = Jvm.exec) (hlk : meth.locks = false) {pc : Nat} {Ls : Array Slot} (hret : meth.sig.returnType = none)
    (hd : decode c.code pc = .ok (.return_, 1)) (hq : Q none T.heap locs) (hc : cells ≤ kc) (hs : slots ≤ ks) : Go p e below s kc ks Q T (mkF m pc Ls []) := by
  obtain ⟨fs, hr, hrun, hended, hW, hsame⟩ := X.leave (v := none) (fun _ => rfl) hlk
  exact ⟨_, _, X.returnOut hx hret hd hr, hrun, hended, _, _, rfl, hq, ⟨_, rfl⟩, hW, hsame.mono hc hs⟩
theorem nar01 {x : Int32} (h : x = 0 ∨ x = 1) : narrow .boolean (.int x) = .int x := by rcases h with rfl | rfl <;> rfl
end Own
end Jvm.OwnWp
namespace Jvm.Pilot.@@N@@
open Jvm Jvm.ClassFile Sem Op Lib Jvm.Free Jvm.Stand Jvm.LawKit Jvm.RoadKit Jvm.OwnWp Bundle Jvm.Pilot.@@N@@.Jvm.D
def own_max (p q : Int32) : Int32 := if p < q then q else p
def own_ch (p q : Int32) : Int32 := if p = q then 0 else 1
theorem own_c1 (a b : Int32) : own_ch a (own_max a b) = (if a < b then (1 : Int32) else 0) := by
  unfold own_ch own_max
  by_cases h : a < b
  · have hn : ¬ a = b := fun q => by subst q; exact absurd h (by rw [Int32.lt_iff_toInt_lt]; omega)
    simp [h, hn]
  · simp [h]
theorem own_c2 (a b : Int32) : b.toInt64 - a.toInt64 = (0 : Int64) ↔ a = b := by
  have h1 : a.toInt64.toInt = a.toInt := Int32.toInt_toInt64 a
  have h2 : b.toInt64.toInt = b.toInt := Int32.toInt_toInt64 b
  have r1 := rng32 a
  have r2 := rng32 b
  have h3 : (b.toInt64 - a.toInt64).toInt = b.toInt - a.toInt := by rw [XT.sub64 (by unfold XT.fits64; rw [h1, h2]; omega), h1, h2]
  constructor
  · intro q
    rw [q] at h3
    have h0 : (0 : Int64).toInt = 0 := by decide
    exact Int32.toInt_inj.mp (by omega)
  · intro q
    exact Int64.toInt_inj.mp (by rw [h3, q]; have h0 : (0 : Int64).toInt = 0 := by decide
                                 omega)
theorem ef_rm1 (m : MethodId) (p1 : Int32) (p2 : Int32) : entryFrame m #[(.int p1), (.int p2)] 2 = mkF m 0 #[.val (.int p1), .val (.int p2)] [] := by first | (simp [entryFrame, mkF, argsToLocals, Value.category]; done) | rfl
def Q1 (Z : State) (p1 : Int32) (p2 : Int32) (h0 : Heap) (n0 : Nat) (v : Option Value) (h : Heap) (L : List Loc) : Prop := v = some (.int (own_max p1 p2)) ∧ Fr n0 L ∧ h = h0
theorem d1_0 : decode jdk_29_method_65_code 0 = .ok (.iload_n 0, 1) := by decide +kernel
theorem d1_1 : decode jdk_29_method_65_code 1 = .ok (.iload_n 1, 1) := by decide +kernel
theorem d1_2 : decode jdk_29_method_65_code 2 = .ok (.if_icmp .lt 7, 3) := by decide +kernel
theorem d1_9 : decode jdk_29_method_65_code 9 = .ok (.iload_n 1, 1) := by decide +kernel
theorem d1_10 : decode jdk_29_method_65_code 10 = .ok (.ireturn, 1) := by decide +kernel
theorem d1_5 : decode jdk_29_method_65_code 5 = .ok (.iload_n 0, 1) := by decide +kernel
theorem d1_6 : decode jdk_29_method_65_code 6 = .ok (.goto 4, 3) := by decide +kernel
set_option maxRecDepth 65536 in
set_option maxHeartbeats 40000000 in
theorem rm1 (l : Launch) (Z : State) (a0 : Array Value) (hw : ∀ d ∈ tables_1, d.before a0 Z = true) (ws : List Jvm.Cond) (p1 : Int32) (p2 : Int32) (h0 : Heap) (n0 : Nat) (Z0 : n0 ≤ h0.size) :
    MetFree l (⟨"java/lang/Math", "max", "(II)I"⟩ : MethodName) (head1 (Jvm.Cond.code (⟨"java/lang/Math", "max", "(II)I"⟩ : MethodName) jdk_29_method_65_code 2 (some .int) :: ws) ({ frames := 0, cells := 0, slots := 0, locals := 0 } : Room)) (fun a U => a = #[(.int p1), (.int p2)] ∧ Z.Warmed39 U.vm ∧ U.heap = h0) (fun _ _ _ _ _ => True) (fun _ U o U' => ∃ v L, o = .returned v ∧ Q1 Z p1 p2  h0 n0 v U'.heap L ∧ FrameEnd U o U' L ({ frames := 0, cells := 0, slots := 0, locals := 0 } : Room).cells ({ frames := 0, cells := 0, slots := 0, locals := 0 } : Room).slots) := by
  refine MetFree.of_bodySF (Jvm.Free.JP.mathPlain rfl (by decide +kernel)) hisR ?_
  intro p e s m args below meth c s₁ Bd hml0 hP hK
  obtain ⟨rfl, hZ, hh⟩ := hP
  have hx := Bd.exec
  have hby := Bd.bytes
  have hlk := BodyLoose.notSynchronized Bd
  have hml : c.maxLocals = 2 := hml0
  have hown : s.vm.findClass "java/lang/Math" = some m.cls := findClass_of_methodNamed Bd.named
  have hnm := (name_of_methodNamed Bd.named Bd.method).1
  have X0 : Stand p l e ({ frames := 0, cells := 0, slots := 0, locals := 0 } : Room) s m #[(.int p1), (.int p2)] below meth c s₁ [] 0 0 := Stand.of_body Bd
  have e0 : s₁.heap = h0 := by rw [← hh, Bd.state]; rfl
  have N0 := Fr.nil n0
  show Go p e below s ({ frames := 0, cells := 0, slots := 0, locals := 0 } : Room).cells ({ frames := 0, cells := 0, slots := 0, locals := 0 } : Room).slots (Q1 Z p1 p2  h0 n0) s₁ (entryFrame m #[(.int p1), (.int p2)] 2)
  refine Go.cast (ef_rm1 m p1 p2) ?_
  show Go _ _ _ _ _ _ _ s₁ (mkF m 0 #[.val (.int p1), .val (.int p2)] [])
  refine Go.step (fun t k => XS.iloadN X0.here hx rfl (hb hby d1_0) rfl k) ?_
  show Go _ _ _ _ _ _ _ s₁ (mkF m 1 #[.val (.int p1), .val (.int p2)] [(.int p1)])
  refine Go.step (fun t k => XS.iloadN X0.here hx rfl (hb hby d1_1) rfl k) ?_
  show Go _ _ _ _ _ _ _ s₁ (mkF m 2 #[.val (.int p1), .val (.int p2)] [(.int p2), (.int p1)])
  by_cases hb2_1 : p1 < p2
  · refine Go.step (fun t k => XS.icmpYes X0.here hx rfl (pc0 := 2) (pc' := 9) rfl (hb hby d1_2) rfl (XT.ii_lt_t hb2_1) (by decide) (by decide) k) ?_
    show Go _ _ _ _ _ _ _ s₁ (mkF m 9 #[.val (.int p1), .val (.int p2)] [])
    refine Go.step (fun t k => XS.iloadN X0.here hx rfl (hb hby d1_9) rfl k) ?_
    show Go _ _ _ _ _ _ _ s₁ (mkF m 10 #[.val (.int p1), .val (.int p2)] [(.int p2)])
    refine Go.ret X0 hx hlk Bd.returns rfl (Or.inl ⟨rfl, Or.inl rfl, _, rfl⟩) (hb hby d1_10) ?_ (by decide) (by decide)
    show Q1 Z _ _ _ _ _ s₁.heap _
    exact ⟨by simp [own_max, hb2_1], N0, e0⟩
  · refine Go.step (fun t k => XS.icmpNo X0.here hx rfl (hb hby d1_2) rfl (XT.ii_lt_f hb2_1) k) ?_
    show Go _ _ _ _ _ _ _ s₁ (mkF m 5 #[.val (.int p1), .val (.int p2)] [])
    refine Go.step (fun t k => XS.iloadN X0.here hx rfl (hb hby d1_5) rfl k) ?_
    show Go _ _ _ _ _ _ _ s₁ (mkF m 6 #[.val (.int p1), .val (.int p2)] [(.int p1)])
    refine Go.step (fun t k => XS.goto X0.here hx rfl (pc0 := 6) (pc' := 10) rfl (hb hby d1_6) (by decide) (by decide) k) ?_
    show Go _ _ _ _ _ _ _ s₁ (mkF m 10 #[.val (.int p1), .val (.int p2)] [(.int p1)])
    refine Go.ret X0 hx hlk Bd.returns rfl (Or.inl ⟨rfl, Or.inl rfl, _, rfl⟩) (hb hby d1_10) ?_ (by decide) (by decide)
    show Q1 Z _ _ _ _ _ s₁.heap _
    exact ⟨by simp [own_max, hb2_1], N0, e0⟩
theorem pn_0 : plainName "java/lang/Record" = true := by first | (simp [plainName, overriddenIn]; done) | decide +kernel
theorem ef_rm3 (m : MethodId) (a1 : Addr) : entryFrame m #[(.ref a1)] 1 = mkF m 0 #[.val (.ref a1)] [] := by first | (simp [entryFrame, mkF, argsToLocals, Value.category]; done) | rfl
def Q3 (Z : State) (a1 : Addr) (h0 : Heap) (n0 : Nat) (v : Option Value) (h : Heap) (L : List Loc) : Prop := v = none ∧ Fr n0 L ∧ h = h0
theorem d3_0 : decode jdk_30_method_1_code 0 = .ok (.aload_n 0, 1) := by decide +kernel
theorem d3_1 : decode jdk_30_method_1_code 1 = .ok (.invokespecial 1, 3) := by decide +kernel
theorem d3_4 : decode jdk_30_method_1_code 4 = .ok (.return_, 1) := by decide +kernel
set_option maxRecDepth 65536 in
set_option maxHeartbeats 40000000 in
theorem rm3 (l : Launch) (Z : State) (a0 : Array Value) (hw : ∀ d ∈ tables_1, d.before a0 Z = true) (ws : List Jvm.Cond) (a1 : Addr) (h0 : Heap) (n0 : Nat) (Z0 : n0 ≤ h0.size) :
    MetFree l (⟨"java/lang/Record", "<init>", "()V"⟩ : MethodName) (head1 (Jvm.Cond.code (⟨"java/lang/Record", "<init>", "()V"⟩ : MethodName) jdk_30_method_1_code 1 none :: ws) ({ frames := 1, cells := 0, slots := 0, locals := 12 } : Room)) (fun a U => a = #[(.ref a1)] ∧ Z.Warmed39 U.vm ∧ U.heap = h0) (fun _ _ _ _ _ => True) (fun _ U o U' => ∃ v L, o = .returned v ∧ Q3 Z a1  h0 n0 v U'.heap L ∧ FrameEnd U o U' L ({ frames := 1, cells := 0, slots := 0, locals := 12 } : Room).cells ({ frames := 1, cells := 0, slots := 0, locals := 12 } : Room).slots) := by
  refine MetFree.of_bodySF (plainFor_of_name pn_0) hisR ?_
  intro p e s m args below meth c s₁ Bd hml0 hP hK
  obtain ⟨rfl, hZ, hh⟩ := hP
  have hx := Bd.exec
  have hby := Bd.bytes
  have hlk := BodyLoose.notSynchronized Bd
  have hml : c.maxLocals = 1 := hml0
  have hown : s.vm.findClass "java/lang/Record" = some m.cls := findClass_of_methodNamed Bd.named
  have hnm := (name_of_methodNamed Bd.named Bd.method).1
  have X0 : Stand p l e ({ frames := 1, cells := 0, slots := 0, locals := 12 } : Room) s m #[(.ref a1)] below meth c s₁ [] 0 0 := Stand.of_body Bd
  have e0 : s₁.heap = h0 := by rw [← hh, Bd.state]; rfl
  have N0 := Fr.nil n0
  show Go p e below s ({ frames := 1, cells := 0, slots := 0, locals := 12 } : Room).cells ({ frames := 1, cells := 0, slots := 0, locals := 12 } : Room).slots (Q3 Z a1  h0 n0) s₁ (entryFrame m #[(.ref a1)] 1)
  refine Go.cast (ef_rm3 m a1) ?_
  show Go _ _ _ _ _ _ _ s₁ (mkF m 0 #[.val (.ref a1)] [])
  refine Go.step (fun t k => XS.aloadN X0.here hx rfl (hb hby d3_0) rfl rfl k) ?_
  show Go _ _ _ _ _ _ _ s₁ (mkF m 1 #[.val (.ref a1)] [(.ref a1)])
  obtain ⟨T1, X1, e1, st1⟩ := initO X0 hx hZ hown (hw _ (List.mem_of_getElem? (i := 15) rfl)) (hw _ (List.mem_of_getElem? (i := 16) rfl)) (hw _ (List.mem_of_getElem? (i := 17) rfl)) e0 (g := (mkF m 1 #[.val (.ref a1)] [(.ref a1)])) rfl (by rw [hml]; rfl) rfl (hb hby d3_1) (by decide) (W := 0) (by show 2 * 0 + _ ≤ _; exact Nat.le_of_eq rfl) (by decide)
  refine Go.step st1 ?_
  show Go _ _ _ _ _ _ _ T1 (mkF m 4 #[.val (.ref a1)] [])
  refine Go.retV X1 hx hlk Bd.returns (hb hby d3_4) ?_ (by decide) (by decide)
  show Q3 Z _ _ _ _ T1.heap _
  exact ⟨rfl, N0, e1⟩
theorem pn_1 : plainName "com/example/grab1/grab1/Migrator$Migration" = true := by first | (simp [plainName, overriddenIn]; done) | decide +kernel
theorem ef_rm2 (m : MethodId) (a1 : Addr) (p1 : Int32) (p2 : Int32) : entryFrame m #[(.ref a1), (.int p1), (.int p2)] 3 = mkF m 0 #[.val (.ref a1), .val (.int p1), .val (.int p2)] [] := by first | (simp [entryFrame, mkF, argsToLocals, Value.category]; done) | rfl
def Q2 (Z : State) (a1 : Addr) (p1 : Int32) (p2 : Int32) (h0 : Heap) (n0 : Nat) (v : Option Value) (h : Heap) (L : List Loc) : Prop := v = none ∧ Fr n0 L ∧ Keep h0 h [a1] ∧ Exa Z h a1 "com/example/grab1/grab1/Migrator$Migration" ∧ Fld Z h a1 "com/example/grab1/grab1/Migrator$Migration" "from" "I" (.int p1) ∧ Fld Z h a1 "com/example/grab1/grab1/Migrator$Migration" "to" "I" (.int p2)
theorem d2_0 : decode prog_10_method_1_code 0 = .ok (.aload_n 0, 1) := by decide +kernel
theorem pd_0 : parseMethodDescriptor "()V" = some ⟨[], none⟩ := by decide +kernel
theorem d2_1 : decode prog_10_method_1_code 1 = .ok (.invokespecial 1, 3) := by decide +kernel
theorem d2_4 : decode prog_10_method_1_code 4 = .ok (.aload_n 0, 1) := by decide +kernel
theorem d2_5 : decode prog_10_method_1_code 5 = .ok (.iload_n 1, 1) := by decide +kernel
theorem d2_6 : decode prog_10_method_1_code 6 = .ok (.putfield 7, 3) := by decide +kernel
theorem d2_9 : decode prog_10_method_1_code 9 = .ok (.aload_n 0, 1) := by decide +kernel
theorem d2_10 : decode prog_10_method_1_code 10 = .ok (.iload_n 2, 1) := by decide +kernel
theorem d2_11 : decode prog_10_method_1_code 11 = .ok (.putfield 13, 3) := by decide +kernel
theorem d2_14 : decode prog_10_method_1_code 14 = .ok (.return_, 1) := by decide +kernel
set_option maxRecDepth 65536 in
set_option maxHeartbeats 40000000 in
theorem rm2 (l : Launch) (Z : State) (a0 : Array Value) (hw : ∀ d ∈ tables_1, d.before a0 Z = true) (ws : List Jvm.Cond) (a1 : Addr) (p1 : Int32) (p2 : Int32) (h0 : Heap) (n0 : Nat) (Z0 : n0 ≤ h0.size) (g1 : n0 ≤ a1) (E1 : Exa Z h0 a1 "com/example/grab1/grab1/Migrator$Migration") (F1 : Fld Z h0 a1 "com/example/grab1/grab1/Migrator$Migration" "from" "I" (.int (0 : Int32))) (F2 : Fld Z h0 a1 "com/example/grab1/grab1/Migrator$Migration" "to" "I" (.int (0 : Int32))) :
    MetFree l (⟨"com/example/grab1/grab1/Migrator$Migration", "<init>", "(II)V"⟩ : MethodName) (head1 (Jvm.Cond.code (⟨"com/example/grab1/grab1/Migrator$Migration", "<init>", "(II)V"⟩ : MethodName) prog_10_method_1_code 3 none :: ws) ({ frames := 2, cells := 0, slots := 0, locals := 24 } : Room)) (fun a U => a = #[(.ref a1), (.int p1), (.int p2)] ∧ Z.Warmed39 U.vm ∧ U.heap = h0) (fun _ _ _ _ _ => True) (fun _ U o U' => ∃ v L, o = .returned v ∧ Q2 Z a1 p1 p2  h0 n0 v U'.heap L ∧ FrameEnd U o U' L ({ frames := 2, cells := 0, slots := 0, locals := 24 } : Room).cells ({ frames := 2, cells := 0, slots := 0, locals := 24 } : Room).slots) := by
  refine MetFree.of_bodySF (plainFor_of_name pn_1) hisR ?_
  intro p e s m args below meth c s₁ Bd hml0 hP hK
  obtain ⟨rfl, hZ, hh⟩ := hP
  have hx := Bd.exec
  have hby := Bd.bytes
  have hlk := BodyLoose.notSynchronized Bd
  have hml : c.maxLocals = 3 := hml0
  have hown : s.vm.findClass "com/example/grab1/grab1/Migrator$Migration" = some m.cls := findClass_of_methodNamed Bd.named
  have hnm := (name_of_methodNamed Bd.named Bd.method).1
  have X0 : Stand p l e ({ frames := 2, cells := 0, slots := 0, locals := 24 } : Room) s m #[(.ref a1), (.int p1), (.int p2)] below meth c s₁ [] 0 0 := Stand.of_body Bd
  have e0 : s₁.heap = h0 := by rw [← hh, Bd.state]; rfl
  have N0 := Fr.nil n0
  show Go p e below s ({ frames := 2, cells := 0, slots := 0, locals := 24 } : Room).cells ({ frames := 2, cells := 0, slots := 0, locals := 24 } : Room).slots (Q2 Z a1 p1 p2  h0 n0) s₁ (entryFrame m #[(.ref a1), (.int p1), (.int p2)] 3)
  refine Go.cast (ef_rm2 m a1 p1 p2) ?_
  have K0 : Keep h0 h0 [a1] := Keep.refl _ _
  show Go _ _ _ _ _ _ _ s₁ (mkF m 0 #[.val (.ref a1), .val (.int p1), .val (.int p2)] [])
  refine Go.step (fun t k => XS.aloadN X0.here hx rfl (hb hby d2_0) rfl rfl k) ?_
  show Go _ _ _ _ _ _ _ s₁ (mkF m 1 #[.val (.ref a1), .val (.int p1), .val (.int p2)] [(.ref a1)])
  obtain ⟨_, _, ⟨T1, L1, k1, n1⟩, -, X1, ⟨Lc1, hQ1, l1, y1, z1⟩, st1⟩ := X0.specialBack hx (y := (⟨"java/lang/Record", "<init>", "()V"⟩ : MethodName)) rfl hown (mvT hZ (hw _ (List.mem_of_getElem? (i := 10) rfl))) (mvT hZ (hw _ (List.mem_of_getElem? (i := 11) rfl))) (mvT hZ (hw _ (List.mem_of_getElem? (i := 14) rfl))) (by decide) (backOf (W := 0) (rm3 l Z a0 hw [] a1 h0 n0 Z0 ) hZ (hw _ (List.mem_of_getElem? (i := 14) rfl)) (hw _ (List.mem_of_getElem? (i := 13) rfl)) (by decide) (by decide)) (g := (mkF m 1 #[.val (.ref a1), .val (.int p1), .val (.int p2)] [(.ref a1)])) rfl (by rw [hml]; rfl) (Steps.refl _) (a := a1) (argsL := []) (rest := []) (lenOf pd_0 rfl) rfl (by show 2 * 0 + _ ≤ _; exact Nat.le_of_eq rfl) (hb hby d2_1) (fun _ _ => ⟨rfl, e0, (by decide : 0 + 0 ≤ _), (by decide : 0 + 0 ≤ _)⟩)
  dsimp only [Pt.U, Pt.locs, Pt.cells, Pt.slots] at X1 l1 y1 z1 st1 hQ1
  subst l1 y1 z1
  obtain ⟨rfl, N1q, e1⟩ := hQ1
  have N1 := Fr.app N0 N1q
  refine Go.step (fun t k => st1.trans k) ?_
  show Go _ _ _ _ _ _ _ T1 (mkF m 4 #[.val (.ref a1), .val (.int p1), .val (.int p2)] [])
  refine Go.step (fun t k => XS.aloadN X1.here hx rfl (hb hby d2_4) rfl rfl k) ?_
  show Go _ _ _ _ _ _ _ T1 (mkF m 5 #[.val (.ref a1), .val (.int p1), .val (.int p2)] [(.ref a1)])
  refine Go.step (fun t k => XS.iloadN X1.here hx rfl (hb hby d2_5) rfl k) ?_
  show Go _ _ _ _ _ _ _ T1 (mkF m 6 #[.val (.ref a1), .val (.int p1), .val (.int p2)] [(.int p1), (.ref a1)])
  obtain ⟨T2, h2, X2, e2, W2, st2⟩ := putF X1 hx hZ hown (host := "") (Or.inl (hw _ (List.mem_of_getElem? (i := 18) rfl))) Via.refl (e1) F1 E1 (Or.inr ⟨(hw _ (List.mem_of_getElem? (i := 19) rfl)), rfl, hnm⟩) (hw _ (List.mem_of_getElem? (i := 1) rfl)) (ty := .int) (by decide) rfl rfl (g := (mkF m 6 #[.val (.ref a1), .val (.int p1), .val (.int p2)] [(.int p1), (.ref a1)])) rfl rfl (hb hby d2_6)
  have N2 := Fr.snoc X2 N1 g1
  refine Go.step st2 ?_
  have f2_0 : Exa Z h2 a1 "com/example/grab1/grab1/Migrator$Migration" := (E1.wr W2)
  have f2_1 : Fld Z h2 a1 "com/example/grab1/grab1/Migrator$Migration" "from" "I" (.int p1) := (F1.same W2)
  have f2_2 : Fld Z h2 a1 "com/example/grab1/grab1/Migrator$Migration" "to" "I" (.int (0 : Int32)) := (F2.other W2 (Or.inr (slot_ne (Or.inr (hw _ (List.mem_of_getElem? (i := 21) rfl))) (Or.inr (hw _ (List.mem_of_getElem? (i := 19) rfl))) (by decide) (t := .int) (t' := .int) (by decide) (by decide))))
  have Zs2 : n0 ≤ h2.size := (Nat.le_trans Z0 (Keep.of_wr W2).1)
  have K2 : Keep h0 h2 [a1] := K0.wr W2 (Or.inl (List.mem_of_getElem? (i := 0) rfl))
  show Go _ _ _ _ _ _ _ T2 (mkF m 9 #[.val (.ref a1), .val (.int p1), .val (.int p2)] [])
  refine Go.step (fun t k => XS.aloadN X2.here hx rfl (hb hby d2_9) rfl rfl k) ?_
  show Go _ _ _ _ _ _ _ T2 (mkF m 10 #[.val (.ref a1), .val (.int p1), .val (.int p2)] [(.ref a1)])
  refine Go.step (fun t k => XS.iloadN X2.here hx rfl (hb hby d2_10) rfl k) ?_
  show Go _ _ _ _ _ _ _ T2 (mkF m 11 #[.val (.ref a1), .val (.int p1), .val (.int p2)] [(.int p2), (.ref a1)])
  obtain ⟨T3, h3, X3, e3, W3, st3⟩ := putF X2 hx hZ hown (host := "") (Or.inl (hw _ (List.mem_of_getElem? (i := 20) rfl))) Via.refl e2 f2_2 f2_0 (Or.inr ⟨(hw _ (List.mem_of_getElem? (i := 21) rfl)), rfl, hnm⟩) (hw _ (List.mem_of_getElem? (i := 1) rfl)) (ty := .int) (by decide) rfl rfl (g := (mkF m 11 #[.val (.ref a1), .val (.int p1), .val (.int p2)] [(.int p2), (.ref a1)])) rfl rfl (hb hby d2_11)
  have N3 := Fr.snoc X3 N2 g1
  refine Go.step st3 ?_
  have f3_0 : Exa Z h3 a1 "com/example/grab1/grab1/Migrator$Migration" := (f2_0.wr W3)
  have f3_1 : Fld Z h3 a1 "com/example/grab1/grab1/Migrator$Migration" "from" "I" (.int p1) := (f2_1.other W3 (Or.inr (slot_ne (Or.inr (hw _ (List.mem_of_getElem? (i := 19) rfl))) (Or.inr (hw _ (List.mem_of_getElem? (i := 21) rfl))) (by decide) (t := .int) (t' := .int) (by decide) (by decide))))
  have f3_2 : Fld Z h3 a1 "com/example/grab1/grab1/Migrator$Migration" "to" "I" (.int p2) := (f2_2.same W3)
  have Zs3 : n0 ≤ h3.size := (Nat.le_trans Zs2 (Keep.of_wr W3).1)
  have K3 : Keep h0 h3 [a1] := K2.wr W3 (Or.inl (List.mem_of_getElem? (i := 0) rfl))
  show Go _ _ _ _ _ _ _ T3 (mkF m 14 #[.val (.ref a1), .val (.int p1), .val (.int p2)] [])
  refine Go.retV X3 hx hlk Bd.returns (hb hby d2_14) ?_ (by decide) (by decide)
  show Q2 Z _ _ _ _ _ _ T3.heap _
  rw [e3]
  exact ⟨rfl, N3, K3, f3_0, f3_1, f3_2⟩
theorem ef_rm5 (m : MethodId) (a1 : Addr) : entryFrame m #[(.ref a1)] 1 = mkF m 0 #[.val (.ref a1)] [] := by first | (simp [entryFrame, mkF, argsToLocals, Value.category]; done) | rfl
def Q5 (Z : State) (a1 : Addr) (p1 : Int32) (p2 : Int32) (h0 : Heap) (n0 : Nat) (v : Option Value) (h : Heap) (L : List Loc) : Prop := v = some (.int (own_ch p1 p2)) ∧ Fr n0 L ∧ h = h0
theorem d5_0 : decode prog_10_method_2_code 0 = .ok (.aload_n 0, 1) := by decide +kernel
theorem d5_1 : decode prog_10_method_2_code 1 = .ok (.getfield 7, 3) := by decide +kernel
theorem d5_4 : decode prog_10_method_2_code 4 = .ok (.aload_n 0, 1) := by decide +kernel
theorem d5_5 : decode prog_10_method_2_code 5 = .ok (.getfield 13, 3) := by decide +kernel
theorem d5_8 : decode prog_10_method_2_code 8 = .ok (.if_icmp .eq 7, 3) := by decide +kernel
theorem d5_15 : decode prog_10_method_2_code 15 = .ok (.iconst 0, 1) := by decide +kernel
theorem d5_16 : decode prog_10_method_2_code 16 = .ok (.ireturn, 1) := by decide +kernel
theorem d5_11 : decode prog_10_method_2_code 11 = .ok (.iconst 1, 1) := by decide +kernel
theorem d5_12 : decode prog_10_method_2_code 12 = .ok (.goto 4, 3) := by decide +kernel
set_option maxRecDepth 65536 in
set_option maxHeartbeats 40000000 in
theorem rm5 (l : Launch) (Z : State) (a0 : Array Value) (hw : ∀ d ∈ tables_1, d.before a0 Z = true) (ws : List Jvm.Cond) (a1 : Addr) (p1 : Int32) (p2 : Int32) (h0 : Heap) (n0 : Nat) (Z0 : n0 ≤ h0.size) (F1 : Fld Z h0 a1 "com/example/grab1/grab1/Migrator$Migration" "from" "I" (.int p1)) (F2 : Fld Z h0 a1 "com/example/grab1/grab1/Migrator$Migration" "to" "I" (.int p2)) :
    MetFree l (⟨"com/example/grab1/grab1/Migrator$Migration", "changed", "()Z"⟩ : MethodName) (head1 (Jvm.Cond.code (⟨"com/example/grab1/grab1/Migrator$Migration", "changed", "()Z"⟩ : MethodName) prog_10_method_2_code 1 (some .boolean) :: ws) ({ frames := 0, cells := 0, slots := 0, locals := 0 } : Room)) (fun a U => a = #[(.ref a1)] ∧ Z.Warmed39 U.vm ∧ U.heap = h0) (fun _ _ _ _ _ => True) (fun _ U o U' => ∃ v L, o = .returned v ∧ Q5 Z a1 p1 p2 h0 n0 v U'.heap L ∧ FrameEnd U o U' L ({ frames := 0, cells := 0, slots := 0, locals := 0 } : Room).cells ({ frames := 0, cells := 0, slots := 0, locals := 0 } : Room).slots) := by
  refine MetFree.of_bodySF (plainFor_of_name pn_1) hisR ?_
  intro p e s m args below meth c s₁ Bd hml0 hP hK
  obtain ⟨rfl, hZ, hh⟩ := hP
  have hx := Bd.exec
  have hby := Bd.bytes
  have hlk := BodyLoose.notSynchronized Bd
  have hml : c.maxLocals = 1 := hml0
  have hown : s.vm.findClass "com/example/grab1/grab1/Migrator$Migration" = some m.cls := findClass_of_methodNamed Bd.named
  have hnm := (name_of_methodNamed Bd.named Bd.method).1
  have X0 : Stand p l e ({ frames := 0, cells := 0, slots := 0, locals := 0 } : Room) s m #[(.ref a1)] below meth c s₁ [] 0 0 := Stand.of_body Bd
  have e0 : s₁.heap = h0 := by rw [← hh, Bd.state]; rfl
  have N0 := Fr.nil n0
  show Go p e below s ({ frames := 0, cells := 0, slots := 0, locals := 0 } : Room).cells ({ frames := 0, cells := 0, slots := 0, locals := 0 } : Room).slots (Q5 Z a1 p1 p2 h0 n0) s₁ (entryFrame m #[(.ref a1)] 1)
  refine Go.cast (ef_rm5 m a1) ?_
  show Go _ _ _ _ _ _ _ s₁ (mkF m 0 #[.val (.ref a1)] [])
  refine Go.step (fun t k => XS.aloadN X0.here hx rfl (hb hby d5_0) rfl rfl k) ?_
  show Go _ _ _ _ _ _ _ s₁ (mkF m 1 #[.val (.ref a1)] [(.ref a1)])
  obtain ⟨T1, X1, e1, st1⟩ := getF X0 hx hZ hown (host := "") (Or.inl (hw _ (List.mem_of_getElem? (i := 18) rfl))) Via.refl e0 F1 (g := (mkF m 1 #[.val (.ref a1)] [(.ref a1)])) rfl rfl (hb hby d5_1)
  refine Go.step st1 ?_
  show Go _ _ _ _ _ _ _ T1 (mkF m 4 #[.val (.ref a1)] [(.int p1)])
  refine Go.step (fun t k => XS.aloadN X1.here hx rfl (hb hby d5_4) rfl rfl k) ?_
  show Go _ _ _ _ _ _ _ T1 (mkF m 5 #[.val (.ref a1)] [(.ref a1), (.int p1)])
  obtain ⟨T2, X2, e2, st2⟩ := getF X1 hx hZ hown (host := "") (Or.inl (hw _ (List.mem_of_getElem? (i := 20) rfl))) Via.refl e1 F2 (g := (mkF m 5 #[.val (.ref a1)] [(.ref a1), (.int p1)])) rfl rfl (hb hby d5_5)
  refine Go.step st2 ?_
  show Go _ _ _ _ _ _ _ T2 (mkF m 8 #[.val (.ref a1)] [(.int p2), (.int p1)])
  by_cases hb8_3 : p1 = p2
  · refine Go.step (fun t k => XS.icmpYes X2.here hx rfl (pc0 := 8) (pc' := 15) rfl (hb hby d5_8) rfl (XT.ii_eq_t hb8_3) (by decide) (by decide) k) ?_
    show Go _ _ _ _ _ _ _ T2 (mkF m 15 #[.val (.ref a1)] [])
    refine Go.step (fun t k => XS.iconst X2.here hx rfl (hb hby d5_15) k) ?_
    show Go _ _ _ _ _ _ _ T2 (mkF m 16 #[.val (.ref a1)] [(.int (0 : Int32))])
    refine Go.ret X2 hx hlk Bd.returns rfl (Or.inl ⟨rfl, Or.inr (Or.inl rfl), _, rfl⟩) (hb hby d5_16) ?_ (by decide) (by decide)
    show Q5 Z _ _ _ _ _ _ T2.heap _
    exact ⟨by simp [own_ch, hb8_3], N0, e2⟩
  · refine Go.step (fun t k => XS.icmpNo X2.here hx rfl (hb hby d5_8) rfl (XT.ii_eq_f hb8_3) k) ?_
    show Go _ _ _ _ _ _ _ T2 (mkF m 11 #[.val (.ref a1)] [])
    refine Go.step (fun t k => XS.iconst X2.here hx rfl (hb hby d5_11) k) ?_
    show Go _ _ _ _ _ _ _ T2 (mkF m 12 #[.val (.ref a1)] [(.int (1 : Int32))])
    refine Go.step (fun t k => XS.goto X2.here hx rfl (pc0 := 12) (pc' := 16) rfl (hb hby d5_12) (by decide) (by decide) k) ?_
    show Go _ _ _ _ _ _ _ T2 (mkF m 16 #[.val (.ref a1)] [(.int (1 : Int32))])
    refine Go.ret X2 hx hlk Bd.returns rfl (Or.inl ⟨rfl, Or.inr (Or.inl rfl), _, rfl⟩) (hb hby d5_16) ?_ (by decide) (by decide)
    show Q5 Z _ _ _ _ _ _ T2.heap _
    exact ⟨by simp [own_ch, hb8_3], N0, e2⟩
theorem pn_2 : plainName "com/example/grab1/grab1/MigrationChangedPinLaw" = true := by first | (simp [plainName, overriddenIn]; done) | decide +kernel
theorem ef_rm0 (m : MethodId) (p1 : Int32) (p2 : Int32) : entryFrame m #[(.int p1), (.int p2)] maxLocals = mkF m 0 #[.val (.int p1), .val (.int p2), .unset, .unset, .unset, .unset] [] := by first | (simp [entryFrame, mkF, argsToLocals, Value.category, maxLocals]; done) | rfl
def Q0 (Z : State) (p1 : Int32) (p2 : Int32) (h0 : Heap) (n0 : Nat) (v : Option Value) (h : Heap) (L : List Loc) : Prop := v = some (.int (1 : Int32)) ∧ Fr n0 L
theorem pd_1 : parseMethodDescriptor "(II)I" = some ⟨[.int, .int], some .int⟩ := by decide +kernel
theorem pd_2 : parseMethodDescriptor "(II)V" = some ⟨[.int, .int], none⟩ := by decide +kernel
theorem pd_3 : parseMethodDescriptor "()Z" = some ⟨[], some .boolean⟩ := by decide +kernel
set_option maxRecDepth 65536 in
set_option maxHeartbeats 40000000 in
theorem rm0 (l : Launch) (Z : State) (a0 : Array Value) (hw : ∀ d ∈ tables_1, d.before a0 Z = true) (ws : List Jvm.Cond) (p1 : Int32) (p2 : Int32) (h0 : Heap) (n0 : Nat) (Z0 : n0 ≤ h0.size) :
    MetFree l x (head1 (Jvm.Cond.code x code maxLocals ret :: ws) room_1) (fun a U => a = #[(.int p1), (.int p2)] ∧ Z.Warmed39 U.vm ∧ U.heap = h0) (fun _ _ _ _ _ => True) (fun _ U o U' => ∃ v L, o = .returned v ∧ Q0 Z p1 p2  h0 n0 v U'.heap L ∧ FrameEnd U o U' L room_1.cells room_1.slots) := by
  refine MetFree.of_bodySF (plainFor_of_name pn_2) hisR ?_
  intro p e s m args below meth c s₁ Bd hml0 hP hK
  obtain ⟨rfl, hZ, hh⟩ := hP
  have hx := Bd.exec
  have hby := Bd.bytes
  have hlk := BodyLoose.notSynchronized Bd
  have hml : c.maxLocals = 6 := hml0
  have hown : s.vm.findClass "com/example/grab1/grab1/MigrationChangedPinLaw" = some m.cls := findClass_of_methodNamed Bd.named
  have hnm := (name_of_methodNamed Bd.named Bd.method).1
  have X0 : Stand p l e room_1 s m #[(.int p1), (.int p2)] below meth c s₁ [] 0 0 := Stand.of_body Bd
  have e0 : s₁.heap = h0 := by rw [← hh, Bd.state]; rfl
  have N0 := Fr.nil n0
  show Go p e below s room_1.cells room_1.slots (Q0 Z p1 p2  h0 n0) s₁ (entryFrame m #[(.int p1), (.int p2)] maxLocals)
  refine Go.cast (ef_rm0 m p1 p2) ?_
  show Go _ _ _ _ _ _ _ s₁ (mkF m 0 #[.val (.int p1), .val (.int p2), .unset, .unset, .unset, .unset] [])
  obtain ⟨T1, h1, X1, e1, E1, A1, D1, -, st1⟩ := newO X0 hx hZ hown (hw _ (List.mem_of_getElem? (i := 0) rfl)) (hw _ (List.mem_of_getElem? (i := 1) rfl)) (hw _ (List.mem_of_getElem? (i := 2) rfl)) e0 (g := (mkF m 0 #[.val (.int p1), .val (.int p2), .unset, .unset, .unset, .unset] [])) rfl (hb hby at_0) (by decide) (by decide)
  obtain ⟨o1, g1⟩ : ∃ z, z = h0.size := ⟨_, rfl⟩
  rw [← g1] at A1 D1 st1
  have ge_o1 : n0 ≤ o1 := Nat.le_trans Z0 (Nat.le_of_eq g1.symm)
  have f1_0 : Exa Z h1 o1 "com/example/grab1/grab1/Migrator$Migration" := A1
  have f1_1 : Fld Z h1 o1 "com/example/grab1/grab1/Migrator$Migration" "from" "I" (.int (0 : Int32)) := (D1 (Or.inr (hw _ (List.mem_of_getElem? (i := 19) rfl))) (ty := .int) (by decide))
  have f1_2 : Fld Z h1 o1 "com/example/grab1/grab1/Migrator$Migration" "to" "I" (.int (0 : Int32)) := (D1 (Or.inr (hw _ (List.mem_of_getElem? (i := 21) rfl))) (ty := .int) (by decide))
  have Zs1 : n0 ≤ h1.size := (Nat.le_trans Z0 E1.1)
  refine Go.step st1 ?_
  show Go _ _ _ _ _ _ _ T1 (mkF m 3 #[.val (.int p1), .val (.int p2), .unset, .unset, .unset, .unset] [(.ref o1)])
  refine Go.step (fun t k => XS.dup X1.here hx rfl (hb hby at_3) rfl rfl k) ?_
  show Go _ _ _ _ _ _ _ T1 (mkF m 4 #[.val (.int p1), .val (.int p2), .unset, .unset, .unset, .unset] [(.ref o1), (.ref o1)])
  refine Go.step (fun t k => XS.iloadN X1.here hx rfl (hb hby at_4) rfl k) ?_
  show Go _ _ _ _ _ _ _ T1 (mkF m 5 #[.val (.int p1), .val (.int p2), .unset, .unset, .unset, .unset] [(.int p1), (.ref o1), (.ref o1)])
  refine Go.step (fun t k => XS.iloadN X1.here hx rfl (hb hby at_5) rfl k) ?_
  show Go _ _ _ _ _ _ _ T1 (mkF m 6 #[.val (.int p1), .val (.int p2), .unset, .unset, .unset, .unset] [(.int p1), (.int p1), (.ref o1), (.ref o1)])
  refine Go.step (fun t k => XS.iloadN X1.here hx rfl (hb hby at_6) rfl k) ?_
  show Go _ _ _ _ _ _ _ T1 (mkF m 7 #[.val (.int p1), .val (.int p2), .unset, .unset, .unset, .unset] [(.int p2), (.int p1), (.int p1), (.ref o1), (.ref o1)])
  obtain ⟨_, _, ⟨T2, L2, k2, n2⟩, -, X2, ⟨Lc2, hQ2, l2, y2, z2⟩, st2⟩ := Jvm.LawKit.callS X1 hx (y := (⟨"java/lang/Math", "max", "(II)I"⟩ : MethodName)) hown (mvT hZ (hw _ (List.mem_of_getElem? (i := 3) rfl))) (mvT hZ (hw _ (List.mem_of_getElem? (i := 4) rfl))) (mvT hZ (hw _ (List.mem_of_getElem? (i := 5) rfl))) (mvT hZ (hw _ (List.mem_of_getElem? (i := 6) rfl))) (by decide) (backOf (W := 3) (rm1 l Z a0 hw [] p1 p2 h1 n0 Zs1 ) hZ (hw _ (List.mem_of_getElem? (i := 6) rfl)) (hw _ (List.mem_of_getElem? (i := 5) rfl)) (by decide) (by decide)) (g := (mkF m 7 #[.val (.int p1), .val (.int p2), .unset, .unset, .unset, .unset] [(.int p2), (.int p1), (.int p1), (.ref o1), (.ref o1)])) rfl (by rw [hml]; rfl) (argsL := [(.int p1), (.int p2)]) (rest := [(.int p1), (.ref o1), (.ref o1)]) (lenOf pd_1 rfl) rfl (by show 2 * 0 + _ ≤ _; exact Nat.le_of_eq rfl) (hb hby at_7) (fun _ _ => ⟨rfl, e1, (by decide : 0 + 1 + 0 ≤ _), (by decide : 0 + 2 + 0 ≤ _)⟩)
  dsimp only [Pt.U, Pt.locs, Pt.cells, Pt.slots] at X2 l2 y2 z2 st2 hQ2
  subst l2 y2 z2
  obtain ⟨rfl, N2q, e2⟩ := hQ2
  have N2 := Fr.app N0 N2q
  refine Go.step st2 ?_
  show Go _ _ _ _ _ _ _ T2 (mkF m 10 #[.val (.int p1), .val (.int p2), .unset, .unset, .unset, .unset] [(.int (own_max p1 p2)), (.int p1), (.ref o1), (.ref o1)])
  obtain ⟨_, _, ⟨T3, L3, k3, n3⟩, -, X3, ⟨Lc3, hQ3, l3, y3, z3⟩, st3⟩ := X2.specialBack hx (y := (⟨"com/example/grab1/grab1/Migrator$Migration", "<init>", "(II)V"⟩ : MethodName)) rfl hown (mvT hZ (hw _ (List.mem_of_getElem? (i := 7) rfl))) (mvT hZ (hw _ (List.mem_of_getElem? (i := 8) rfl))) (mvT hZ (hw _ (List.mem_of_getElem? (i := 9) rfl))) (by decide) (backOf (W := 1) (rm2 l Z a0 hw [] o1 p1 (own_max p1 p2) h1 n0 Zs1 ge_o1 f1_0 f1_1 f1_2) hZ (hw _ (List.mem_of_getElem? (i := 9) rfl)) (hw _ (List.mem_of_getElem? (i := 2) rfl)) (by decide) (by decide)) (g := (mkF m 10 #[.val (.int p1), .val (.int p2), .unset, .unset, .unset, .unset] [(.int (own_max p1 p2)), (.int p1), (.ref o1), (.ref o1)])) rfl (by rw [hml]; rfl) (Steps.refl _) (a := o1) (argsL := [(.int p1), (.int (own_max p1 p2))]) (rest := [(.ref o1)]) (lenOf pd_2 rfl) rfl (by show 2 * 0 + _ ≤ _; exact Nat.le_of_eq rfl) (hb hby at_10) (fun _ _ => ⟨rfl, (e2), (by decide : 0 + 1 + 0 + 0 ≤ _), (by decide : 0 + 2 + 0 + 0 ≤ _)⟩)
  dsimp only [Pt.U, Pt.locs, Pt.cells, Pt.slots] at X3 l3 y3 z3 st3 hQ3
  subst l3 y3 z3
  obtain ⟨rfl, N3q, Kq3, Eq3, Fq3, Gq3⟩ := hQ3
  have N3 := Fr.app N2 N3q
  have f3_0 : Exa Z T3.heap o1 "com/example/grab1/grab1/Migrator$Migration" := Eq3
  have f3_1 : Fld Z T3.heap o1 "com/example/grab1/grab1/Migrator$Migration" "from" "I" (.int p1) := Fq3
  have f3_2 : Fld Z T3.heap o1 "com/example/grab1/grab1/Migrator$Migration" "to" "I" (.int (own_max p1 p2)) := Gq3
  have Zs3 : n0 ≤ T3.heap.size := (Nat.le_trans Zs1 Kq3.1)
  refine Go.step (fun t k => st3.trans k) ?_
  show Go _ _ _ _ _ _ _ T3 (mkF m 13 #[.val (.int p1), .val (.int p2), .unset, .unset, .unset, .unset] [(.ref o1)])
  refine Go.step (fun t k => XS.astoreN X3.here hx rfl (hb hby at_13) rfl rfl (l' := #[.val (.int p1), .val (.int p2), .val (.ref o1), .unset, .unset, .unset]) rfl k) ?_
  show Go _ _ _ _ _ _ _ T3 (mkF m 14 #[.val (.int p1), .val (.int p2), .val (.ref o1), .unset, .unset, .unset] [])
  refine Go.step (fun t k => XS.aloadN X3.here hx rfl (hb hby at_14) rfl rfl k) ?_
  show Go _ _ _ _ _ _ _ T3 (mkF m 15 #[.val (.int p1), .val (.int p2), .val (.ref o1), .unset, .unset, .unset] [(.ref o1)])
  obtain ⟨cq4, kq4, qa4, qb4, qc4⟩ := isOf hZ rfl f3_0
  obtain ⟨_, _, ⟨T4, L4, k4, n4⟩, -, X4, ⟨Lc4, hQ4, l4, y4, z4⟩, st4⟩ := X3.virtualBack hx (y := (⟨"com/example/grab1/grab1/Migrator$Migration", "changed", "()Z"⟩ : MethodName)) (z := (⟨"com/example/grab1/grab1/Migrator$Migration", "changed", "()Z"⟩ : MethodName)) hown (mvT hZ (hw _ (List.mem_of_getElem? (i := 22) rfl))) (mvT hZ (hw _ (List.mem_of_getElem? (i := 23) rfl))) (notFace_of_selects (args := #[]) (mvT hZ (hw _ (List.mem_of_getElem? (i := 25) rfl)))) (mvT hZ (hw _ (List.mem_of_getElem? (i := 25) rfl))) (mvT hZ (hw _ (List.mem_of_getElem? (i := 24) rfl))) (by decide) (backOf (W := 0) (rm5 l Z a0 hw [] o1 p1 (own_max p1 p2) T3.heap n0 Zs3 f3_1 f3_2) hZ (hw _ (List.mem_of_getElem? (i := 26) rfl)) (hw _ (List.mem_of_getElem? (i := 2) rfl)) (by decide) (by decide)) qa4 qc4 (g := (mkF m 15 #[.val (.int p1), .val (.int p2), .val (.ref o1), .unset, .unset, .unset] [(.ref o1)])) rfl (by rw [hml]; rfl) (Steps.refl _) (argsL := []) (rest := []) (lenOf pd_3 rfl) rfl (by show 2 * 0 + _ ≤ _; exact Nat.le_of_eq rfl) (hb hby at_15) (fun _ _ => ⟨rfl, rfl, (by decide : 0 + 1 + 0 + 0 + 0 ≤ _), (by decide : 0 + 2 + 0 + 0 + 0 ≤ _)⟩)
  dsimp only [Pt.U, Pt.locs, Pt.cells, Pt.slots] at X4 l4 y4 z4 st4 hQ4
  subst l4 y4 z4
  obtain ⟨rfl, N4q, e4⟩ := hQ4
  have N4 := Fr.app N3 N4q
  refine Go.step (fun t k => st4.trans k) ?_
  show Go _ _ _ _ _ _ _ T4 (mkF m 18 #[.val (.int p1), .val (.int p2), .val (.ref o1), .unset, .unset, .unset] [(.int (own_ch p1 (own_max p1 p2)))])
  refine Go.step (fun t k => XS.iloadN X4.here hx rfl (hb hby at_18) rfl k) ?_
  show Go _ _ _ _ _ _ _ T4 (mkF m 19 #[.val (.int p1), .val (.int p2), .val (.ref o1), .unset, .unset, .unset] [(.int p2), (.int (own_ch p1 (own_max p1 p2)))])
  refine Go.step (fun t k => XS.iloadN X4.here hx rfl (hb hby at_19) rfl k) ?_
  show Go _ _ _ _ _ _ _ T4 (mkF m 20 #[.val (.int p1), .val (.int p2), .val (.ref o1), .unset, .unset, .unset] [(.int p1), (.int p2), (.int (own_ch p1 (own_max p1 p2)))])
  by_cases hb20_5 : p1 < p2
  · refine Go.step (fun t k => XS.icmpNo X4.here hx rfl (hb hby at_20) rfl (XT.ii_le_f hb20_5) k) ?_
    show Go _ _ _ _ _ _ _ T4 (mkF m 23 #[.val (.int p1), .val (.int p2), .val (.ref o1), .unset, .unset, .unset] [(.int (own_ch p1 (own_max p1 p2)))])
    refine Go.step (fun t k => XS.iconst X4.here hx rfl (hb hby at_23) k) ?_
    show Go _ _ _ _ _ _ _ T4 (mkF m 24 #[.val (.int p1), .val (.int p2), .val (.ref o1), .unset, .unset, .unset] [(.int (1 : Int32)), (.int (own_ch p1 (own_max p1 p2)))])
    refine Go.step (fun t k => XS.goto X4.here hx rfl (pc0 := 24) (pc' := 28) rfl (hb hby at_24) (by decide) (by decide) k) ?_
    show Go _ _ _ _ _ _ _ T4 (mkF m 28 #[.val (.int p1), .val (.int p2), .val (.ref o1), .unset, .unset, .unset] [(.int (1 : Int32)), (.int (own_ch p1 (own_max p1 p2)))])
    have hb28_6 : (own_ch p1 (own_max p1 p2)) = (1 : Int32) := by rw [own_c1]; simp [hb20_5]
    refine Go.step (fun t k => XS.icmpNo X4.here hx rfl (hb hby at_28) rfl (XT.ii_ne_f hb28_6) k) ?_
    show Go _ _ _ _ _ _ _ T4 (mkF m 31 #[.val (.int p1), .val (.int p2), .val (.ref o1), .unset, .unset, .unset] [])
    refine Go.step (fun t k => XS.iconst X4.here hx rfl (hb hby at_31) k) ?_
    show Go _ _ _ _ _ _ _ T4 (mkF m 32 #[.val (.int p1), .val (.int p2), .val (.ref o1), .unset, .unset, .unset] [(.int (1 : Int32))])
    refine Go.step (fun t k => XS.goto X4.here hx rfl (pc0 := 32) (pc' := 36) rfl (hb hby at_32) (by decide) (by decide) k) ?_
    show Go _ _ _ _ _ _ _ T4 (mkF m 36 #[.val (.int p1), .val (.int p2), .val (.ref o1), .unset, .unset, .unset] [(.int (1 : Int32))])
    refine Go.step (fun t k => XS.istoreN X4.here hx rfl (hb hby at_36) rfl (l' := #[.val (.int p1), .val (.int p2), .val (.ref o1), .val (.int (1 : Int32)), .unset, .unset]) rfl k) ?_
    show Go _ _ _ _ _ _ _ T4 (mkF m 37 #[.val (.int p1), .val (.int p2), .val (.ref o1), .val (.int (1 : Int32)), .unset, .unset] [])
    obtain ⟨T7, h7, X7, e7, E7, A7, D7, -, st7⟩ := newO X4 hx hZ hown (hw _ (List.mem_of_getElem? (i := 0) rfl)) (hw _ (List.mem_of_getElem? (i := 1) rfl)) (hw _ (List.mem_of_getElem? (i := 2) rfl)) (e4) (g := (mkF m 37 #[.val (.int p1), .val (.int p2), .val (.ref o1), .val (.int (1 : Int32)), .unset, .unset] [])) rfl (hb hby at_37) (by decide) (by decide)
    obtain ⟨o7, g7⟩ : ∃ z, z = T3.heap.size := ⟨_, rfl⟩
    rw [← g7] at A7 D7 st7
    have ne_o1_o7 : o1 ≠ o7 := Nat.ne_of_lt (Nat.lt_of_lt_of_le f3_0.lt (Nat.le_of_eq g7.symm))
    have ge_o7 : n0 ≤ o7 := Nat.le_trans Zs3 (Nat.le_of_eq g7.symm)
    have f7_0 : Exa Z h7 o1 "com/example/grab1/grab1/Migrator$Migration" := (f3_0.ext E7)
    have f7_1 : Fld Z h7 o1 "com/example/grab1/grab1/Migrator$Migration" "from" "I" (.int p1) := (f3_1.ext E7)
    have f7_2 : Fld Z h7 o1 "com/example/grab1/grab1/Migrator$Migration" "to" "I" (.int (own_max p1 p2)) := (f3_2.ext E7)
    have f7_3 : Exa Z h7 o7 "com/example/grab1/grab1/Migrator$Migration" := A7
    have f7_4 : Fld Z h7 o7 "com/example/grab1/grab1/Migrator$Migration" "from" "I" (.int (0 : Int32)) := (D7 (Or.inr (hw _ (List.mem_of_getElem? (i := 19) rfl))) (ty := .int) (by decide))
    have f7_5 : Fld Z h7 o7 "com/example/grab1/grab1/Migrator$Migration" "to" "I" (.int (0 : Int32)) := (D7 (Or.inr (hw _ (List.mem_of_getElem? (i := 21) rfl))) (ty := .int) (by decide))
    have Zs7 : n0 ≤ h7.size := (Nat.le_trans Zs3 E7.1)
    refine Go.step st7 ?_
    show Go _ _ _ _ _ _ _ T7 (mkF m 40 #[.val (.int p1), .val (.int p2), .val (.ref o1), .val (.int (1 : Int32)), .unset, .unset] [(.ref o7)])
    refine Go.step (fun t k => XS.dup X7.here hx rfl (hb hby at_40) rfl rfl k) ?_
    show Go _ _ _ _ _ _ _ T7 (mkF m 41 #[.val (.int p1), .val (.int p2), .val (.ref o1), .val (.int (1 : Int32)), .unset, .unset] [(.ref o7), (.ref o7)])
    refine Go.step (fun t k => XS.iloadN X7.here hx rfl (hb hby at_41) rfl k) ?_
    show Go _ _ _ _ _ _ _ T7 (mkF m 42 #[.val (.int p1), .val (.int p2), .val (.ref o1), .val (.int (1 : Int32)), .unset, .unset] [(.int p1), (.ref o7), (.ref o7)])
    refine Go.step (fun t k => XS.iloadN X7.here hx rfl (hb hby at_42) rfl k) ?_
    show Go _ _ _ _ _ _ _ T7 (mkF m 43 #[.val (.int p1), .val (.int p2), .val (.ref o1), .val (.int (1 : Int32)), .unset, .unset] [(.int p2), (.int p1), (.ref o7), (.ref o7)])
    obtain ⟨_, _, ⟨T8, L8, k8, n8⟩, -, X8, ⟨Lc8, hQ8, l8, y8, z8⟩, st8⟩ := X7.specialBack hx (y := (⟨"com/example/grab1/grab1/Migrator$Migration", "<init>", "(II)V"⟩ : MethodName)) rfl hown (mvT hZ (hw _ (List.mem_of_getElem? (i := 7) rfl))) (mvT hZ (hw _ (List.mem_of_getElem? (i := 8) rfl))) (mvT hZ (hw _ (List.mem_of_getElem? (i := 9) rfl))) (by decide) (backOf (W := 1) (rm2 l Z a0 hw [] o7 p1 p2 h7 n0 Zs7 ge_o7 f7_3 f7_4 f7_5) hZ (hw _ (List.mem_of_getElem? (i := 9) rfl)) (hw _ (List.mem_of_getElem? (i := 2) rfl)) (by decide) (by decide)) (g := (mkF m 43 #[.val (.int p1), .val (.int p2), .val (.ref o1), .val (.int (1 : Int32)), .unset, .unset] [(.int p2), (.int p1), (.ref o7), (.ref o7)])) rfl (by rw [hml]; rfl) (Steps.refl _) (a := o7) (argsL := [(.int p1), (.int p2)]) (rest := [(.ref o7)]) (lenOf pd_2 rfl) rfl (by show 2 * 0 + _ ≤ _; exact Nat.le_of_eq rfl) (hb hby at_43) (fun _ _ => ⟨rfl, e7, (by decide : 0 + 1 + 0 + 0 + 0 + 1 + 0 ≤ _), (by decide : 0 + 2 + 0 + 0 + 0 + 2 + 0 ≤ _)⟩)
    dsimp only [Pt.U, Pt.locs, Pt.cells, Pt.slots] at X8 l8 y8 z8 st8 hQ8
    subst l8 y8 z8
    obtain ⟨rfl, N8q, Kq8, Eq8, Fq8, Gq8⟩ := hQ8
    have N8 := Fr.app N4 N8q
    have f8_0 : Exa Z T8.heap o1 "com/example/grab1/grab1/Migrator$Migration" := (f7_0.keep Kq8)
    have f8_1 : Fld Z T8.heap o1 "com/example/grab1/grab1/Migrator$Migration" "from" "I" (.int p1) := (f7_1.keep Kq8 (ninS ne_o1_o7 nin0))
    have f8_2 : Fld Z T8.heap o1 "com/example/grab1/grab1/Migrator$Migration" "to" "I" (.int (own_max p1 p2)) := (f7_2.keep Kq8 (ninS ne_o1_o7 nin0))
    have f8_3 : Exa Z T8.heap o7 "com/example/grab1/grab1/Migrator$Migration" := Eq8
    have f8_4 : Fld Z T8.heap o7 "com/example/grab1/grab1/Migrator$Migration" "from" "I" (.int p1) := Fq8
    have f8_5 : Fld Z T8.heap o7 "com/example/grab1/grab1/Migrator$Migration" "to" "I" (.int p2) := Gq8
    have Zs8 : n0 ≤ T8.heap.size := (Nat.le_trans Zs7 Kq8.1)
    refine Go.step (fun t k => st8.trans k) ?_
    show Go _ _ _ _ _ _ _ T8 (mkF m 46 #[.val (.int p1), .val (.int p2), .val (.ref o1), .val (.int (1 : Int32)), .unset, .unset] [(.ref o7)])
    refine Go.step (fun t k => XS.astore X8.here hx rfl (hb hby at_46) rfl rfl (l' := #[.val (.int p1), .val (.int p2), .val (.ref o1), .val (.int (1 : Int32)), .val (.ref o7), .unset]) rfl k) ?_
    show Go _ _ _ _ _ _ _ T8 (mkF m 48 #[.val (.int p1), .val (.int p2), .val (.ref o1), .val (.int (1 : Int32)), .val (.ref o7), .unset] [])
    refine Go.step (fun t k => XS.aload X8.here hx rfl (hb hby at_48) rfl rfl k) ?_
    show Go _ _ _ _ _ _ _ T8 (mkF m 50 #[.val (.int p1), .val (.int p2), .val (.ref o1), .val (.int (1 : Int32)), .val (.ref o7), .unset] [(.ref o7)])
    obtain ⟨cq9, kq9, qa9, qb9, qc9⟩ := isOf hZ rfl f8_3
    obtain ⟨_, _, ⟨T9, L9, k9, n9⟩, -, X9, ⟨Lc9, hQ9, l9, y9, z9⟩, st9⟩ := X8.virtualBack hx (y := (⟨"com/example/grab1/grab1/Migrator$Migration", "changed", "()Z"⟩ : MethodName)) (z := (⟨"com/example/grab1/grab1/Migrator$Migration", "changed", "()Z"⟩ : MethodName)) hown (mvT hZ (hw _ (List.mem_of_getElem? (i := 22) rfl))) (mvT hZ (hw _ (List.mem_of_getElem? (i := 23) rfl))) (notFace_of_selects (args := #[]) (mvT hZ (hw _ (List.mem_of_getElem? (i := 25) rfl)))) (mvT hZ (hw _ (List.mem_of_getElem? (i := 25) rfl))) (mvT hZ (hw _ (List.mem_of_getElem? (i := 24) rfl))) (by decide) (backOf (W := 0) (rm5 l Z a0 hw [] o7 p1 p2 T8.heap n0 Zs8 f8_4 f8_5) hZ (hw _ (List.mem_of_getElem? (i := 26) rfl)) (hw _ (List.mem_of_getElem? (i := 2) rfl)) (by decide) (by decide)) qa9 qc9 (g := (mkF m 50 #[.val (.int p1), .val (.int p2), .val (.ref o1), .val (.int (1 : Int32)), .val (.ref o7), .unset] [(.ref o7)])) rfl (by rw [hml]; rfl) (Steps.refl _) (argsL := []) (rest := []) (lenOf pd_3 rfl) rfl (by show 2 * 0 + _ ≤ _; exact Nat.le_of_eq rfl) (hb hby at_50) (fun _ _ => ⟨rfl, rfl, (by decide : 0 + 1 + 0 + 0 + 0 + 1 + 0 + 0 ≤ _), (by decide : 0 + 2 + 0 + 0 + 0 + 2 + 0 + 0 ≤ _)⟩)
    dsimp only [Pt.U, Pt.locs, Pt.cells, Pt.slots] at X9 l9 y9 z9 st9 hQ9
    subst l9 y9 z9
    obtain ⟨rfl, N9q, e9⟩ := hQ9
    have N9 := Fr.app N8 N9q
    refine Go.step (fun t k => st9.trans k) ?_
    show Go _ _ _ _ _ _ _ T9 (mkF m 53 #[.val (.int p1), .val (.int p2), .val (.ref o1), .val (.int (1 : Int32)), .val (.ref o7), .unset] [(.int (own_ch p1 p2))])
    refine Go.step (fun t k => XS.iloadN X9.here hx rfl (hb hby at_53) rfl k) ?_
    show Go _ _ _ _ _ _ _ T9 (mkF m 54 #[.val (.int p1), .val (.int p2), .val (.ref o1), .val (.int (1 : Int32)), .val (.ref o7), .unset] [(.int p2), (.int (own_ch p1 p2))])
    refine Go.step (fun t k => XT.i2l X9.here hx rfl (hb hby at_54) rfl k) ?_
    show Go _ _ _ _ _ _ _ T9 (mkF m 55 #[.val (.int p1), .val (.int p2), .val (.ref o1), .val (.int (1 : Int32)), .val (.ref o7), .unset] [(.long (p2.toInt64)), (.int (own_ch p1 p2))])
    refine Go.step (fun t k => XS.iloadN X9.here hx rfl (hb hby at_55) rfl k) ?_
    show Go _ _ _ _ _ _ _ T9 (mkF m 56 #[.val (.int p1), .val (.int p2), .val (.ref o1), .val (.int (1 : Int32)), .val (.ref o7), .unset] [(.int p1), (.long (p2.toInt64)), (.int (own_ch p1 p2))])
    refine Go.step (fun t k => XT.i2l X9.here hx rfl (hb hby at_56) rfl k) ?_
    show Go _ _ _ _ _ _ _ T9 (mkF m 57 #[.val (.int p1), .val (.int p2), .val (.ref o1), .val (.int (1 : Int32)), .val (.ref o7), .unset] [(.long (p1.toInt64)), (.long (p2.toInt64)), (.int (own_ch p1 p2))])
    refine Go.step (fun t k => XT.lsub X9.here hx rfl (hb hby at_57) rfl k) ?_
    show Go _ _ _ _ _ _ _ T9 (mkF m 58 #[.val (.int p1), .val (.int p2), .val (.ref o1), .val (.int (1 : Int32)), .val (.ref o7), .unset] [(.long ((p2.toInt64) - (p1.toInt64))), (.int (own_ch p1 p2))])
    refine Go.step (fun t k => XT.lconst X9.here hx rfl (hb hby at_58) k) ?_
    show Go _ _ _ _ _ _ _ T9 (mkF m 59 #[.val (.int p1), .val (.int p2), .val (.ref o1), .val (.int (1 : Int32)), .val (.ref o7), .unset] [(.long (0 : Int64)), (.long ((p2.toInt64) - (p1.toInt64))), (.int (own_ch p1 p2))])
    refine Go.step (fun t k => XT.lcmp X9.here hx rfl (hb hby at_59) rfl k) ?_
    show Go _ _ _ _ _ _ _ T9 (mkF m 60 #[.val (.int p1), .val (.int p2), .val (.ref o1), .val (.int (1 : Int32)), .val (.ref o7), .unset] [(.int (XT.cmpL ((p2.toInt64) - (p1.toInt64)) (0 : Int64))), (.int (own_ch p1 p2))])
    by_cases hb60_10 : ((p2.toInt64) - (p1.toInt64)) = (0 : Int64)
    · refine Go.step (fun t k => XS.ifYes X9.here hx rfl (pc0 := 60) (pc' := 67) rfl (hb hby at_60) rfl (XT.ll_eq_t hb60_10) (by decide) (by decide) k) ?_
      show Go _ _ _ _ _ _ _ T9 (mkF m 67 #[.val (.int p1), .val (.int p2), .val (.ref o1), .val (.int (1 : Int32)), .val (.ref o7), .unset] [(.int (own_ch p1 p2))])
      refine Go.step (fun t k => XS.iconst X9.here hx rfl (hb hby at_67) k) ?_
      show Go _ _ _ _ _ _ _ T9 (mkF m 68 #[.val (.int p1), .val (.int p2), .val (.ref o1), .val (.int (1 : Int32)), .val (.ref o7), .unset] [(.int (0 : Int32)), (.int (own_ch p1 p2))])
      have hb68_11 : (own_ch p1 p2) = (0 : Int32) := by rw [own_c2] at hb60_10; simp [own_ch, hb60_10]
      refine Go.step (fun t k => XS.icmpNo X9.here hx rfl (hb hby at_68) rfl (XT.ii_ne_f hb68_11) k) ?_
      show Go _ _ _ _ _ _ _ T9 (mkF m 71 #[.val (.int p1), .val (.int p2), .val (.ref o1), .val (.int (1 : Int32)), .val (.ref o7), .unset] [])
      refine Go.step (fun t k => XS.iconst X9.here hx rfl (hb hby at_71) k) ?_
      show Go _ _ _ _ _ _ _ T9 (mkF m 72 #[.val (.int p1), .val (.int p2), .val (.ref o1), .val (.int (1 : Int32)), .val (.ref o7), .unset] [(.int (1 : Int32))])
      refine Go.step (fun t k => XS.goto X9.here hx rfl (pc0 := 72) (pc' := 76) rfl (hb hby at_72) (by decide) (by decide) k) ?_
      show Go _ _ _ _ _ _ _ T9 (mkF m 76 #[.val (.int p1), .val (.int p2), .val (.ref o1), .val (.int (1 : Int32)), .val (.ref o7), .unset] [(.int (1 : Int32))])
      refine Go.step (fun t k => XS.istore X9.here hx rfl (hb hby at_76) rfl (l' := #[.val (.int p1), .val (.int p2), .val (.ref o1), .val (.int (1 : Int32)), .val (.ref o7), .val (.int (1 : Int32))]) rfl k) ?_
      show Go _ _ _ _ _ _ _ T9 (mkF m 78 #[.val (.int p1), .val (.int p2), .val (.ref o1), .val (.int (1 : Int32)), .val (.ref o7), .val (.int (1 : Int32))] [])
      refine Go.step (fun t k => XS.iloadN X9.here hx rfl (hb hby at_78) rfl k) ?_
      show Go _ _ _ _ _ _ _ T9 (mkF m 79 #[.val (.int p1), .val (.int p2), .val (.ref o1), .val (.int (1 : Int32)), .val (.ref o7), .val (.int (1 : Int32))] [(.int (1 : Int32))])
      have hb79_12 : ¬ ((1 : Int32) = (0 : Int32)) := by decide
      refine Go.step (fun t k => XS.ifNo X9.here hx rfl (hb hby at_79) rfl (XT.i0_eq_f hb79_12) k) ?_
      show Go _ _ _ _ _ _ _ T9 (mkF m 82 #[.val (.int p1), .val (.int p2), .val (.ref o1), .val (.int (1 : Int32)), .val (.ref o7), .val (.int (1 : Int32))] [])
      refine Go.step (fun t k => XS.iload X9.here hx rfl (hb hby at_82) rfl k) ?_
      show Go _ _ _ _ _ _ _ T9 (mkF m 84 #[.val (.int p1), .val (.int p2), .val (.ref o1), .val (.int (1 : Int32)), .val (.ref o7), .val (.int (1 : Int32))] [(.int (1 : Int32))])
      have hb84_13 : ¬ ((1 : Int32) = (0 : Int32)) := by decide
      refine Go.step (fun t k => XS.ifNo X9.here hx rfl (hb hby at_84) rfl (XT.i0_eq_f hb84_13) k) ?_
      show Go _ _ _ _ _ _ _ T9 (mkF m 87 #[.val (.int p1), .val (.int p2), .val (.ref o1), .val (.int (1 : Int32)), .val (.ref o7), .val (.int (1 : Int32))] [])
      refine Go.step (fun t k => XS.iconst X9.here hx rfl (hb hby at_87) k) ?_
      show Go _ _ _ _ _ _ _ T9 (mkF m 88 #[.val (.int p1), .val (.int p2), .val (.ref o1), .val (.int (1 : Int32)), .val (.ref o7), .val (.int (1 : Int32))] [(.int (1 : Int32))])
      refine Go.step (fun t k => XS.goto X9.here hx rfl (pc0 := 88) (pc' := 92) rfl (hb hby at_88) (by decide) (by decide) k) ?_
      show Go _ _ _ _ _ _ _ T9 (mkF m 92 #[.val (.int p1), .val (.int p2), .val (.ref o1), .val (.int (1 : Int32)), .val (.ref o7), .val (.int (1 : Int32))] [(.int (1 : Int32))])
      refine Go.ret X9 hx hlk Bd.returns rfl (Or.inl ⟨rfl, Or.inr (Or.inl rfl), _, rfl⟩) (hb hby at_92) ?_ (by decide) (by decide)
      show Q0 Z _ _ _ _ _ T9.heap _
      exact ⟨rfl, N9⟩
    · refine Go.step (fun t k => XS.ifNo X9.here hx rfl (hb hby at_60) rfl (XT.ll_eq_f hb60_10) k) ?_
      show Go _ _ _ _ _ _ _ T9 (mkF m 63 #[.val (.int p1), .val (.int p2), .val (.ref o1), .val (.int (1 : Int32)), .val (.ref o7), .unset] [(.int (own_ch p1 p2))])
      refine Go.step (fun t k => XS.iconst X9.here hx rfl (hb hby at_63) k) ?_
      show Go _ _ _ _ _ _ _ T9 (mkF m 64 #[.val (.int p1), .val (.int p2), .val (.ref o1), .val (.int (1 : Int32)), .val (.ref o7), .unset] [(.int (1 : Int32)), (.int (own_ch p1 p2))])
      refine Go.step (fun t k => XS.goto X9.here hx rfl (pc0 := 64) (pc' := 68) rfl (hb hby at_64) (by decide) (by decide) k) ?_
      show Go _ _ _ _ _ _ _ T9 (mkF m 68 #[.val (.int p1), .val (.int p2), .val (.ref o1), .val (.int (1 : Int32)), .val (.ref o7), .unset] [(.int (1 : Int32)), (.int (own_ch p1 p2))])
      have hb68_14 : (own_ch p1 p2) = (1 : Int32) := by rw [own_c2] at hb60_10; simp [own_ch, hb60_10]
      refine Go.step (fun t k => XS.icmpNo X9.here hx rfl (hb hby at_68) rfl (XT.ii_ne_f hb68_14) k) ?_
      show Go _ _ _ _ _ _ _ T9 (mkF m 71 #[.val (.int p1), .val (.int p2), .val (.ref o1), .val (.int (1 : Int32)), .val (.ref o7), .unset] [])
      refine Go.step (fun t k => XS.iconst X9.here hx rfl (hb hby at_71) k) ?_
      show Go _ _ _ _ _ _ _ T9 (mkF m 72 #[.val (.int p1), .val (.int p2), .val (.ref o1), .val (.int (1 : Int32)), .val (.ref o7), .unset] [(.int (1 : Int32))])
      refine Go.step (fun t k => XS.goto X9.here hx rfl (pc0 := 72) (pc' := 76) rfl (hb hby at_72) (by decide) (by decide) k) ?_
      show Go _ _ _ _ _ _ _ T9 (mkF m 76 #[.val (.int p1), .val (.int p2), .val (.ref o1), .val (.int (1 : Int32)), .val (.ref o7), .unset] [(.int (1 : Int32))])
      refine Go.step (fun t k => XS.istore X9.here hx rfl (hb hby at_76) rfl (l' := #[.val (.int p1), .val (.int p2), .val (.ref o1), .val (.int (1 : Int32)), .val (.ref o7), .val (.int (1 : Int32))]) rfl k) ?_
      show Go _ _ _ _ _ _ _ T9 (mkF m 78 #[.val (.int p1), .val (.int p2), .val (.ref o1), .val (.int (1 : Int32)), .val (.ref o7), .val (.int (1 : Int32))] [])
      refine Go.step (fun t k => XS.iloadN X9.here hx rfl (hb hby at_78) rfl k) ?_
      show Go _ _ _ _ _ _ _ T9 (mkF m 79 #[.val (.int p1), .val (.int p2), .val (.ref o1), .val (.int (1 : Int32)), .val (.ref o7), .val (.int (1 : Int32))] [(.int (1 : Int32))])
      have hb79_15 : ¬ ((1 : Int32) = (0 : Int32)) := by decide
      refine Go.step (fun t k => XS.ifNo X9.here hx rfl (hb hby at_79) rfl (XT.i0_eq_f hb79_15) k) ?_
      show Go _ _ _ _ _ _ _ T9 (mkF m 82 #[.val (.int p1), .val (.int p2), .val (.ref o1), .val (.int (1 : Int32)), .val (.ref o7), .val (.int (1 : Int32))] [])
      refine Go.step (fun t k => XS.iload X9.here hx rfl (hb hby at_82) rfl k) ?_
      show Go _ _ _ _ _ _ _ T9 (mkF m 84 #[.val (.int p1), .val (.int p2), .val (.ref o1), .val (.int (1 : Int32)), .val (.ref o7), .val (.int (1 : Int32))] [(.int (1 : Int32))])
      have hb84_16 : ¬ ((1 : Int32) = (0 : Int32)) := by decide
      refine Go.step (fun t k => XS.ifNo X9.here hx rfl (hb hby at_84) rfl (XT.i0_eq_f hb84_16) k) ?_
      show Go _ _ _ _ _ _ _ T9 (mkF m 87 #[.val (.int p1), .val (.int p2), .val (.ref o1), .val (.int (1 : Int32)), .val (.ref o7), .val (.int (1 : Int32))] [])
      refine Go.step (fun t k => XS.iconst X9.here hx rfl (hb hby at_87) k) ?_
      show Go _ _ _ _ _ _ _ T9 (mkF m 88 #[.val (.int p1), .val (.int p2), .val (.ref o1), .val (.int (1 : Int32)), .val (.ref o7), .val (.int (1 : Int32))] [(.int (1 : Int32))])
      refine Go.step (fun t k => XS.goto X9.here hx rfl (pc0 := 88) (pc' := 92) rfl (hb hby at_88) (by decide) (by decide) k) ?_
      show Go _ _ _ _ _ _ _ T9 (mkF m 92 #[.val (.int p1), .val (.int p2), .val (.ref o1), .val (.int (1 : Int32)), .val (.ref o7), .val (.int (1 : Int32))] [(.int (1 : Int32))])
      refine Go.ret X9 hx hlk Bd.returns rfl (Or.inl ⟨rfl, Or.inr (Or.inl rfl), _, rfl⟩) (hb hby at_92) ?_ (by decide) (by decide)
      show Q0 Z _ _ _ _ _ T9.heap _
      exact ⟨rfl, N9⟩
  · refine Go.step (fun t k => XS.icmpYes X4.here hx rfl (pc0 := 20) (pc' := 27) rfl (hb hby at_20) rfl (XT.ii_le_t hb20_5) (by decide) (by decide) k) ?_
    show Go _ _ _ _ _ _ _ T4 (mkF m 27 #[.val (.int p1), .val (.int p2), .val (.ref o1), .unset, .unset, .unset] [(.int (own_ch p1 (own_max p1 p2)))])
    refine Go.step (fun t k => XS.iconst X4.here hx rfl (hb hby at_27) k) ?_
    show Go _ _ _ _ _ _ _ T4 (mkF m 28 #[.val (.int p1), .val (.int p2), .val (.ref o1), .unset, .unset, .unset] [(.int (0 : Int32)), (.int (own_ch p1 (own_max p1 p2)))])
    have hb28_17 : (own_ch p1 (own_max p1 p2)) = (0 : Int32) := by rw [own_c1]; simp [hb20_5]
    refine Go.step (fun t k => XS.icmpNo X4.here hx rfl (hb hby at_28) rfl (XT.ii_ne_f hb28_17) k) ?_
    show Go _ _ _ _ _ _ _ T4 (mkF m 31 #[.val (.int p1), .val (.int p2), .val (.ref o1), .unset, .unset, .unset] [])
    refine Go.step (fun t k => XS.iconst X4.here hx rfl (hb hby at_31) k) ?_
    show Go _ _ _ _ _ _ _ T4 (mkF m 32 #[.val (.int p1), .val (.int p2), .val (.ref o1), .unset, .unset, .unset] [(.int (1 : Int32))])
    refine Go.step (fun t k => XS.goto X4.here hx rfl (pc0 := 32) (pc' := 36) rfl (hb hby at_32) (by decide) (by decide) k) ?_
    show Go _ _ _ _ _ _ _ T4 (mkF m 36 #[.val (.int p1), .val (.int p2), .val (.ref o1), .unset, .unset, .unset] [(.int (1 : Int32))])
    refine Go.step (fun t k => XS.istoreN X4.here hx rfl (hb hby at_36) rfl (l' := #[.val (.int p1), .val (.int p2), .val (.ref o1), .val (.int (1 : Int32)), .unset, .unset]) rfl k) ?_
    show Go _ _ _ _ _ _ _ T4 (mkF m 37 #[.val (.int p1), .val (.int p2), .val (.ref o1), .val (.int (1 : Int32)), .unset, .unset] [])
    obtain ⟨T18, h18, X18, e18, E18, A18, D18, -, st18⟩ := newO X4 hx hZ hown (hw _ (List.mem_of_getElem? (i := 0) rfl)) (hw _ (List.mem_of_getElem? (i := 1) rfl)) (hw _ (List.mem_of_getElem? (i := 2) rfl)) (e4) (g := (mkF m 37 #[.val (.int p1), .val (.int p2), .val (.ref o1), .val (.int (1 : Int32)), .unset, .unset] [])) rfl (hb hby at_37) (by decide) (by decide)
    obtain ⟨o18, g18⟩ : ∃ z, z = T3.heap.size := ⟨_, rfl⟩
    rw [← g18] at A18 D18 st18
    have ne_o1_o18 : o1 ≠ o18 := Nat.ne_of_lt (Nat.lt_of_lt_of_le f3_0.lt (Nat.le_of_eq g18.symm))
    have ge_o18 : n0 ≤ o18 := Nat.le_trans Zs3 (Nat.le_of_eq g18.symm)
    have f18_0 : Exa Z h18 o1 "com/example/grab1/grab1/Migrator$Migration" := (f3_0.ext E18)
    have f18_1 : Fld Z h18 o1 "com/example/grab1/grab1/Migrator$Migration" "from" "I" (.int p1) := (f3_1.ext E18)
    have f18_2 : Fld Z h18 o1 "com/example/grab1/grab1/Migrator$Migration" "to" "I" (.int (own_max p1 p2)) := (f3_2.ext E18)
    have f18_3 : Exa Z h18 o18 "com/example/grab1/grab1/Migrator$Migration" := A18
    have f18_4 : Fld Z h18 o18 "com/example/grab1/grab1/Migrator$Migration" "from" "I" (.int (0 : Int32)) := (D18 (Or.inr (hw _ (List.mem_of_getElem? (i := 19) rfl))) (ty := .int) (by decide))
    have f18_5 : Fld Z h18 o18 "com/example/grab1/grab1/Migrator$Migration" "to" "I" (.int (0 : Int32)) := (D18 (Or.inr (hw _ (List.mem_of_getElem? (i := 21) rfl))) (ty := .int) (by decide))
    have Zs18 : n0 ≤ h18.size := (Nat.le_trans Zs3 E18.1)
    refine Go.step st18 ?_
    show Go _ _ _ _ _ _ _ T18 (mkF m 40 #[.val (.int p1), .val (.int p2), .val (.ref o1), .val (.int (1 : Int32)), .unset, .unset] [(.ref o18)])
    refine Go.step (fun t k => XS.dup X18.here hx rfl (hb hby at_40) rfl rfl k) ?_
    show Go _ _ _ _ _ _ _ T18 (mkF m 41 #[.val (.int p1), .val (.int p2), .val (.ref o1), .val (.int (1 : Int32)), .unset, .unset] [(.ref o18), (.ref o18)])
    refine Go.step (fun t k => XS.iloadN X18.here hx rfl (hb hby at_41) rfl k) ?_
    show Go _ _ _ _ _ _ _ T18 (mkF m 42 #[.val (.int p1), .val (.int p2), .val (.ref o1), .val (.int (1 : Int32)), .unset, .unset] [(.int p1), (.ref o18), (.ref o18)])
    refine Go.step (fun t k => XS.iloadN X18.here hx rfl (hb hby at_42) rfl k) ?_
    show Go _ _ _ _ _ _ _ T18 (mkF m 43 #[.val (.int p1), .val (.int p2), .val (.ref o1), .val (.int (1 : Int32)), .unset, .unset] [(.int p2), (.int p1), (.ref o18), (.ref o18)])
    obtain ⟨_, _, ⟨T19, L19, k19, n19⟩, -, X19, ⟨Lc19, hQ19, l19, y19, z19⟩, st19⟩ := X18.specialBack hx (y := (⟨"com/example/grab1/grab1/Migrator$Migration", "<init>", "(II)V"⟩ : MethodName)) rfl hown (mvT hZ (hw _ (List.mem_of_getElem? (i := 7) rfl))) (mvT hZ (hw _ (List.mem_of_getElem? (i := 8) rfl))) (mvT hZ (hw _ (List.mem_of_getElem? (i := 9) rfl))) (by decide) (backOf (W := 1) (rm2 l Z a0 hw [] o18 p1 p2 h18 n0 Zs18 ge_o18 f18_3 f18_4 f18_5) hZ (hw _ (List.mem_of_getElem? (i := 9) rfl)) (hw _ (List.mem_of_getElem? (i := 2) rfl)) (by decide) (by decide)) (g := (mkF m 43 #[.val (.int p1), .val (.int p2), .val (.ref o1), .val (.int (1 : Int32)), .unset, .unset] [(.int p2), (.int p1), (.ref o18), (.ref o18)])) rfl (by rw [hml]; rfl) (Steps.refl _) (a := o18) (argsL := [(.int p1), (.int p2)]) (rest := [(.ref o18)]) (lenOf pd_2 rfl) rfl (by show 2 * 0 + _ ≤ _; exact Nat.le_of_eq rfl) (hb hby at_43) (fun _ _ => ⟨rfl, e18, (by decide : 0 + 1 + 0 + 0 + 0 + 1 + 0 ≤ _), (by decide : 0 + 2 + 0 + 0 + 0 + 2 + 0 ≤ _)⟩)
    dsimp only [Pt.U, Pt.locs, Pt.cells, Pt.slots] at X19 l19 y19 z19 st19 hQ19
    subst l19 y19 z19
    obtain ⟨rfl, N19q, Kq19, Eq19, Fq19, Gq19⟩ := hQ19
    have N19 := Fr.app N4 N19q
    have f19_0 : Exa Z T19.heap o1 "com/example/grab1/grab1/Migrator$Migration" := (f18_0.keep Kq19)
    have f19_1 : Fld Z T19.heap o1 "com/example/grab1/grab1/Migrator$Migration" "from" "I" (.int p1) := (f18_1.keep Kq19 (ninS ne_o1_o18 nin0))
    have f19_2 : Fld Z T19.heap o1 "com/example/grab1/grab1/Migrator$Migration" "to" "I" (.int (own_max p1 p2)) := (f18_2.keep Kq19 (ninS ne_o1_o18 nin0))
    have f19_3 : Exa Z T19.heap o18 "com/example/grab1/grab1/Migrator$Migration" := Eq19
    have f19_4 : Fld Z T19.heap o18 "com/example/grab1/grab1/Migrator$Migration" "from" "I" (.int p1) := Fq19
    have f19_5 : Fld Z T19.heap o18 "com/example/grab1/grab1/Migrator$Migration" "to" "I" (.int p2) := Gq19
    have Zs19 : n0 ≤ T19.heap.size := (Nat.le_trans Zs18 Kq19.1)
    refine Go.step (fun t k => st19.trans k) ?_
    show Go _ _ _ _ _ _ _ T19 (mkF m 46 #[.val (.int p1), .val (.int p2), .val (.ref o1), .val (.int (1 : Int32)), .unset, .unset] [(.ref o18)])
    refine Go.step (fun t k => XS.astore X19.here hx rfl (hb hby at_46) rfl rfl (l' := #[.val (.int p1), .val (.int p2), .val (.ref o1), .val (.int (1 : Int32)), .val (.ref o18), .unset]) rfl k) ?_
    show Go _ _ _ _ _ _ _ T19 (mkF m 48 #[.val (.int p1), .val (.int p2), .val (.ref o1), .val (.int (1 : Int32)), .val (.ref o18), .unset] [])
    refine Go.step (fun t k => XS.aload X19.here hx rfl (hb hby at_48) rfl rfl k) ?_
    show Go _ _ _ _ _ _ _ T19 (mkF m 50 #[.val (.int p1), .val (.int p2), .val (.ref o1), .val (.int (1 : Int32)), .val (.ref o18), .unset] [(.ref o18)])
    obtain ⟨cq20, kq20, qa20, qb20, qc20⟩ := isOf hZ rfl f19_3
    obtain ⟨_, _, ⟨T20, L20, k20, n20⟩, -, X20, ⟨Lc20, hQ20, l20, y20, z20⟩, st20⟩ := X19.virtualBack hx (y := (⟨"com/example/grab1/grab1/Migrator$Migration", "changed", "()Z"⟩ : MethodName)) (z := (⟨"com/example/grab1/grab1/Migrator$Migration", "changed", "()Z"⟩ : MethodName)) hown (mvT hZ (hw _ (List.mem_of_getElem? (i := 22) rfl))) (mvT hZ (hw _ (List.mem_of_getElem? (i := 23) rfl))) (notFace_of_selects (args := #[]) (mvT hZ (hw _ (List.mem_of_getElem? (i := 25) rfl)))) (mvT hZ (hw _ (List.mem_of_getElem? (i := 25) rfl))) (mvT hZ (hw _ (List.mem_of_getElem? (i := 24) rfl))) (by decide) (backOf (W := 0) (rm5 l Z a0 hw [] o18 p1 p2 T19.heap n0 Zs19 f19_4 f19_5) hZ (hw _ (List.mem_of_getElem? (i := 26) rfl)) (hw _ (List.mem_of_getElem? (i := 2) rfl)) (by decide) (by decide)) qa20 qc20 (g := (mkF m 50 #[.val (.int p1), .val (.int p2), .val (.ref o1), .val (.int (1 : Int32)), .val (.ref o18), .unset] [(.ref o18)])) rfl (by rw [hml]; rfl) (Steps.refl _) (argsL := []) (rest := []) (lenOf pd_3 rfl) rfl (by show 2 * 0 + _ ≤ _; exact Nat.le_of_eq rfl) (hb hby at_50) (fun _ _ => ⟨rfl, rfl, (by decide : 0 + 1 + 0 + 0 + 0 + 1 + 0 + 0 ≤ _), (by decide : 0 + 2 + 0 + 0 + 0 + 2 + 0 + 0 ≤ _)⟩)
    dsimp only [Pt.U, Pt.locs, Pt.cells, Pt.slots] at X20 l20 y20 z20 st20 hQ20
    subst l20 y20 z20
    obtain ⟨rfl, N20q, e20⟩ := hQ20
    have N20 := Fr.app N19 N20q
    refine Go.step (fun t k => st20.trans k) ?_
    show Go _ _ _ _ _ _ _ T20 (mkF m 53 #[.val (.int p1), .val (.int p2), .val (.ref o1), .val (.int (1 : Int32)), .val (.ref o18), .unset] [(.int (own_ch p1 p2))])
    refine Go.step (fun t k => XS.iloadN X20.here hx rfl (hb hby at_53) rfl k) ?_
    show Go _ _ _ _ _ _ _ T20 (mkF m 54 #[.val (.int p1), .val (.int p2), .val (.ref o1), .val (.int (1 : Int32)), .val (.ref o18), .unset] [(.int p2), (.int (own_ch p1 p2))])
    refine Go.step (fun t k => XT.i2l X20.here hx rfl (hb hby at_54) rfl k) ?_
    show Go _ _ _ _ _ _ _ T20 (mkF m 55 #[.val (.int p1), .val (.int p2), .val (.ref o1), .val (.int (1 : Int32)), .val (.ref o18), .unset] [(.long (p2.toInt64)), (.int (own_ch p1 p2))])
    refine Go.step (fun t k => XS.iloadN X20.here hx rfl (hb hby at_55) rfl k) ?_
    show Go _ _ _ _ _ _ _ T20 (mkF m 56 #[.val (.int p1), .val (.int p2), .val (.ref o1), .val (.int (1 : Int32)), .val (.ref o18), .unset] [(.int p1), (.long (p2.toInt64)), (.int (own_ch p1 p2))])
    refine Go.step (fun t k => XT.i2l X20.here hx rfl (hb hby at_56) rfl k) ?_
    show Go _ _ _ _ _ _ _ T20 (mkF m 57 #[.val (.int p1), .val (.int p2), .val (.ref o1), .val (.int (1 : Int32)), .val (.ref o18), .unset] [(.long (p1.toInt64)), (.long (p2.toInt64)), (.int (own_ch p1 p2))])
    refine Go.step (fun t k => XT.lsub X20.here hx rfl (hb hby at_57) rfl k) ?_
    show Go _ _ _ _ _ _ _ T20 (mkF m 58 #[.val (.int p1), .val (.int p2), .val (.ref o1), .val (.int (1 : Int32)), .val (.ref o18), .unset] [(.long ((p2.toInt64) - (p1.toInt64))), (.int (own_ch p1 p2))])
    refine Go.step (fun t k => XT.lconst X20.here hx rfl (hb hby at_58) k) ?_
    show Go _ _ _ _ _ _ _ T20 (mkF m 59 #[.val (.int p1), .val (.int p2), .val (.ref o1), .val (.int (1 : Int32)), .val (.ref o18), .unset] [(.long (0 : Int64)), (.long ((p2.toInt64) - (p1.toInt64))), (.int (own_ch p1 p2))])
    refine Go.step (fun t k => XT.lcmp X20.here hx rfl (hb hby at_59) rfl k) ?_
    show Go _ _ _ _ _ _ _ T20 (mkF m 60 #[.val (.int p1), .val (.int p2), .val (.ref o1), .val (.int (1 : Int32)), .val (.ref o18), .unset] [(.int (XT.cmpL ((p2.toInt64) - (p1.toInt64)) (0 : Int64))), (.int (own_ch p1 p2))])
    by_cases hb60_21 : ((p2.toInt64) - (p1.toInt64)) = (0 : Int64)
    · refine Go.step (fun t k => XS.ifYes X20.here hx rfl (pc0 := 60) (pc' := 67) rfl (hb hby at_60) rfl (XT.ll_eq_t hb60_21) (by decide) (by decide) k) ?_
      show Go _ _ _ _ _ _ _ T20 (mkF m 67 #[.val (.int p1), .val (.int p2), .val (.ref o1), .val (.int (1 : Int32)), .val (.ref o18), .unset] [(.int (own_ch p1 p2))])
      refine Go.step (fun t k => XS.iconst X20.here hx rfl (hb hby at_67) k) ?_
      show Go _ _ _ _ _ _ _ T20 (mkF m 68 #[.val (.int p1), .val (.int p2), .val (.ref o1), .val (.int (1 : Int32)), .val (.ref o18), .unset] [(.int (0 : Int32)), (.int (own_ch p1 p2))])
      have hb68_22 : (own_ch p1 p2) = (0 : Int32) := by rw [own_c2] at hb60_21; simp [own_ch, hb60_21]
      refine Go.step (fun t k => XS.icmpNo X20.here hx rfl (hb hby at_68) rfl (XT.ii_ne_f hb68_22) k) ?_
      show Go _ _ _ _ _ _ _ T20 (mkF m 71 #[.val (.int p1), .val (.int p2), .val (.ref o1), .val (.int (1 : Int32)), .val (.ref o18), .unset] [])
      refine Go.step (fun t k => XS.iconst X20.here hx rfl (hb hby at_71) k) ?_
      show Go _ _ _ _ _ _ _ T20 (mkF m 72 #[.val (.int p1), .val (.int p2), .val (.ref o1), .val (.int (1 : Int32)), .val (.ref o18), .unset] [(.int (1 : Int32))])
      refine Go.step (fun t k => XS.goto X20.here hx rfl (pc0 := 72) (pc' := 76) rfl (hb hby at_72) (by decide) (by decide) k) ?_
      show Go _ _ _ _ _ _ _ T20 (mkF m 76 #[.val (.int p1), .val (.int p2), .val (.ref o1), .val (.int (1 : Int32)), .val (.ref o18), .unset] [(.int (1 : Int32))])
      refine Go.step (fun t k => XS.istore X20.here hx rfl (hb hby at_76) rfl (l' := #[.val (.int p1), .val (.int p2), .val (.ref o1), .val (.int (1 : Int32)), .val (.ref o18), .val (.int (1 : Int32))]) rfl k) ?_
      show Go _ _ _ _ _ _ _ T20 (mkF m 78 #[.val (.int p1), .val (.int p2), .val (.ref o1), .val (.int (1 : Int32)), .val (.ref o18), .val (.int (1 : Int32))] [])
      refine Go.step (fun t k => XS.iloadN X20.here hx rfl (hb hby at_78) rfl k) ?_
      show Go _ _ _ _ _ _ _ T20 (mkF m 79 #[.val (.int p1), .val (.int p2), .val (.ref o1), .val (.int (1 : Int32)), .val (.ref o18), .val (.int (1 : Int32))] [(.int (1 : Int32))])
      have hb79_23 : ¬ ((1 : Int32) = (0 : Int32)) := by decide
      refine Go.step (fun t k => XS.ifNo X20.here hx rfl (hb hby at_79) rfl (XT.i0_eq_f hb79_23) k) ?_
      show Go _ _ _ _ _ _ _ T20 (mkF m 82 #[.val (.int p1), .val (.int p2), .val (.ref o1), .val (.int (1 : Int32)), .val (.ref o18), .val (.int (1 : Int32))] [])
      refine Go.step (fun t k => XS.iload X20.here hx rfl (hb hby at_82) rfl k) ?_
      show Go _ _ _ _ _ _ _ T20 (mkF m 84 #[.val (.int p1), .val (.int p2), .val (.ref o1), .val (.int (1 : Int32)), .val (.ref o18), .val (.int (1 : Int32))] [(.int (1 : Int32))])
      have hb84_24 : ¬ ((1 : Int32) = (0 : Int32)) := by decide
      refine Go.step (fun t k => XS.ifNo X20.here hx rfl (hb hby at_84) rfl (XT.i0_eq_f hb84_24) k) ?_
      show Go _ _ _ _ _ _ _ T20 (mkF m 87 #[.val (.int p1), .val (.int p2), .val (.ref o1), .val (.int (1 : Int32)), .val (.ref o18), .val (.int (1 : Int32))] [])
      refine Go.step (fun t k => XS.iconst X20.here hx rfl (hb hby at_87) k) ?_
      show Go _ _ _ _ _ _ _ T20 (mkF m 88 #[.val (.int p1), .val (.int p2), .val (.ref o1), .val (.int (1 : Int32)), .val (.ref o18), .val (.int (1 : Int32))] [(.int (1 : Int32))])
      refine Go.step (fun t k => XS.goto X20.here hx rfl (pc0 := 88) (pc' := 92) rfl (hb hby at_88) (by decide) (by decide) k) ?_
      show Go _ _ _ _ _ _ _ T20 (mkF m 92 #[.val (.int p1), .val (.int p2), .val (.ref o1), .val (.int (1 : Int32)), .val (.ref o18), .val (.int (1 : Int32))] [(.int (1 : Int32))])
      refine Go.ret X20 hx hlk Bd.returns rfl (Or.inl ⟨rfl, Or.inr (Or.inl rfl), _, rfl⟩) (hb hby at_92) ?_ (by decide) (by decide)
      show Q0 Z _ _ _ _ _ T20.heap _
      exact ⟨rfl, N20⟩
    · refine Go.step (fun t k => XS.ifNo X20.here hx rfl (hb hby at_60) rfl (XT.ll_eq_f hb60_21) k) ?_
      show Go _ _ _ _ _ _ _ T20 (mkF m 63 #[.val (.int p1), .val (.int p2), .val (.ref o1), .val (.int (1 : Int32)), .val (.ref o18), .unset] [(.int (own_ch p1 p2))])
      refine Go.step (fun t k => XS.iconst X20.here hx rfl (hb hby at_63) k) ?_
      show Go _ _ _ _ _ _ _ T20 (mkF m 64 #[.val (.int p1), .val (.int p2), .val (.ref o1), .val (.int (1 : Int32)), .val (.ref o18), .unset] [(.int (1 : Int32)), (.int (own_ch p1 p2))])
      refine Go.step (fun t k => XS.goto X20.here hx rfl (pc0 := 64) (pc' := 68) rfl (hb hby at_64) (by decide) (by decide) k) ?_
      show Go _ _ _ _ _ _ _ T20 (mkF m 68 #[.val (.int p1), .val (.int p2), .val (.ref o1), .val (.int (1 : Int32)), .val (.ref o18), .unset] [(.int (1 : Int32)), (.int (own_ch p1 p2))])
      have hb68_25 : (own_ch p1 p2) = (1 : Int32) := by rw [own_c2] at hb60_21; simp [own_ch, hb60_21]
      refine Go.step (fun t k => XS.icmpNo X20.here hx rfl (hb hby at_68) rfl (XT.ii_ne_f hb68_25) k) ?_
      show Go _ _ _ _ _ _ _ T20 (mkF m 71 #[.val (.int p1), .val (.int p2), .val (.ref o1), .val (.int (1 : Int32)), .val (.ref o18), .unset] [])
      refine Go.step (fun t k => XS.iconst X20.here hx rfl (hb hby at_71) k) ?_
      show Go _ _ _ _ _ _ _ T20 (mkF m 72 #[.val (.int p1), .val (.int p2), .val (.ref o1), .val (.int (1 : Int32)), .val (.ref o18), .unset] [(.int (1 : Int32))])
      refine Go.step (fun t k => XS.goto X20.here hx rfl (pc0 := 72) (pc' := 76) rfl (hb hby at_72) (by decide) (by decide) k) ?_
      show Go _ _ _ _ _ _ _ T20 (mkF m 76 #[.val (.int p1), .val (.int p2), .val (.ref o1), .val (.int (1 : Int32)), .val (.ref o18), .unset] [(.int (1 : Int32))])
      refine Go.step (fun t k => XS.istore X20.here hx rfl (hb hby at_76) rfl (l' := #[.val (.int p1), .val (.int p2), .val (.ref o1), .val (.int (1 : Int32)), .val (.ref o18), .val (.int (1 : Int32))]) rfl k) ?_
      show Go _ _ _ _ _ _ _ T20 (mkF m 78 #[.val (.int p1), .val (.int p2), .val (.ref o1), .val (.int (1 : Int32)), .val (.ref o18), .val (.int (1 : Int32))] [])
      refine Go.step (fun t k => XS.iloadN X20.here hx rfl (hb hby at_78) rfl k) ?_
      show Go _ _ _ _ _ _ _ T20 (mkF m 79 #[.val (.int p1), .val (.int p2), .val (.ref o1), .val (.int (1 : Int32)), .val (.ref o18), .val (.int (1 : Int32))] [(.int (1 : Int32))])
      have hb79_26 : ¬ ((1 : Int32) = (0 : Int32)) := by decide
      refine Go.step (fun t k => XS.ifNo X20.here hx rfl (hb hby at_79) rfl (XT.i0_eq_f hb79_26) k) ?_
      show Go _ _ _ _ _ _ _ T20 (mkF m 82 #[.val (.int p1), .val (.int p2), .val (.ref o1), .val (.int (1 : Int32)), .val (.ref o18), .val (.int (1 : Int32))] [])
      refine Go.step (fun t k => XS.iload X20.here hx rfl (hb hby at_82) rfl k) ?_
      show Go _ _ _ _ _ _ _ T20 (mkF m 84 #[.val (.int p1), .val (.int p2), .val (.ref o1), .val (.int (1 : Int32)), .val (.ref o18), .val (.int (1 : Int32))] [(.int (1 : Int32))])
      have hb84_27 : ¬ ((1 : Int32) = (0 : Int32)) := by decide
      refine Go.step (fun t k => XS.ifNo X20.here hx rfl (hb hby at_84) rfl (XT.i0_eq_f hb84_27) k) ?_
      show Go _ _ _ _ _ _ _ T20 (mkF m 87 #[.val (.int p1), .val (.int p2), .val (.ref o1), .val (.int (1 : Int32)), .val (.ref o18), .val (.int (1 : Int32))] [])
      refine Go.step (fun t k => XS.iconst X20.here hx rfl (hb hby at_87) k) ?_
      show Go _ _ _ _ _ _ _ T20 (mkF m 88 #[.val (.int p1), .val (.int p2), .val (.ref o1), .val (.int (1 : Int32)), .val (.ref o18), .val (.int (1 : Int32))] [(.int (1 : Int32))])
      refine Go.step (fun t k => XS.goto X20.here hx rfl (pc0 := 88) (pc' := 92) rfl (hb hby at_88) (by decide) (by decide) k) ?_
      show Go _ _ _ _ _ _ _ T20 (mkF m 92 #[.val (.int p1), .val (.int p2), .val (.ref o1), .val (.int (1 : Int32)), .val (.ref o18), .val (.int (1 : Int32))] [(.int (1 : Int32))])
      refine Go.ret X20 hx hlk Bd.returns rfl (Or.inl ⟨rfl, Or.inr (Or.inl rfl), _, rfl⟩) (hb hby at_92) ?_ (by decide) (by decide)
      show Q0 Z _ _ _ _ _ T20.heap _
      exact ⟨rfl, N20⟩
set_option maxRecDepth 65536 in
set_option maxHeartbeats 40000000 in
theorem comes_1 {Post : Tables → Env → Array Value → State → Outcome → State → Prop} (hpost : ∀ tb e args s v u, (limb_1_1.after args s (.returned v) u = true ∧ limb_1_2.after args s (.returned v) u = true ∧ True) → FrameEnd s (.returned v) u (Jvm.fieldLocs frame_1_writes args s ++ Jvm.arrayLocs frame_1_arrays args s ++ Jvm.staticLocs frame_1_statics s) 16 128 → Post tb e args s (.returned v) u) :
    ArmFor flags0 classFile x code maxLocals ret World_1 tables_1 room_1 Calls_1 rest_1 Pre_1 Post := by
  intro l hfl _ _ p e ha hc hk s m args below hf hA hF happ hP
  obtain ⟨hcalls, hrest, hpre⟩ := hP
  obtain ⟨-, -, -, hnamed, -, -, -, hat⟩ := (Spec.applies_iff hf).mp happ
  obtain ⟨hg, hn⟩ := and_e (Cond.before_iff.mp (show (Jvm.Cond.and given_1 narrow_1).before args s = true from hpre))
  obtain ⟨gc, gA0⟩ := and_e hg
  obtain ⟨gi0, gA1⟩ := and_e gA0
  obtain ⟨w0, w1, rfl⟩ : ∃ w0 w1 : Value, args = #[w0, w1] := by
    have hs : args.size = 2 := by simpa [Cond.value, given_1] using gc
    obtain ⟨L⟩ := args
    match L, hs with
    | [w0, w1], _ => exact ⟨w0, w1, rfl⟩
  have hw := fun d (hd : d ∈ tables_1) => atoms_spec (ws := Jvm.Cond.code x code maxLocals ret :: tables_1) hat d (List.mem_cons_of_mem _ hd)
  have hfit : Fit s := fun {y c} hc i hi => by
    obtain ⟨ha, rfl⟩ := Array.getElem?_eq_some_iff.mp hc
    have q := List.all_eq_true.mp ((Array.all_eq_true_iff_forall_mem.mp hF) _ (Array.getElem_mem ha)) i (List.mem_range.mpr hi)
    simpa [Array.getElem?_eq_getElem hi] using q
  obtain ⟨i0, ei0⟩ := is_v gi0
  obtain rfl : w0 = (.int i0) := Option.some.inj ei0
  obtain ⟨i1, ei1⟩ := is_v gA1
  obtain rfl : w1 = (.int i1) := Option.some.inj ei1
  obtain ⟨n, o, h1, h2, h3, _, L, rfl, ⟨rfl, N⟩, hq⟩ := rm0 l s _ hw tables_1 i0 i1  s.heap s.heap.size (Nat.le_refl _)  p e ha hc hk s m _ below hf ((Spec.applies_iff_loose hf).mp happ).1 ⟨rfl, State.Warmed39.refl s, rfl⟩ trivial
  refine ⟨n, _, h1, h2, h3, hpost _ _ _ _ _ _ ⟨Cond.after_iff.mpr rfl, Cond.after_iff.mpr (eq_i res_at (Term.int_eval (1)) rfl), trivial⟩ ⟨hq.1, hq.2.1, (hq.2.2.sift fun y hy => Or.inr (N y hy)).mono (by decide) (by decide)⟩⟩
theorem main_1_1 : Claimed_1_1 := comes_1 fun _ _ _ _ _ _ h hF => ⟨h.1, hF⟩
theorem main_1_2 : Claimed_1_2 := comes_1 fun _ _ _ _ _ _ h hF => ⟨h.2.1, hF⟩
end Jvm.Pilot.@@N@@
namespace Jvm.Pilot.@@N@@
open Jvm Jvm.ClassFile Sem Op Lib Jvm.Free Jvm.Stand Jvm.Pilot.@@N@@.Jvm.D
/-! MADE BY PROGRAM (witnessworld.py) out of the Statement's table words and the real class files: 11 classes; the members and pool entries that the words name. The judged class is class 1, her method 1. -/
namespace start1
open Jvm.ClassFile
def u (s : String) : CpInfo := .utf8 (stringToUtf16 s)
/-- a pool by its gaps: so many unusable entries, then the entry; so many at the end -/
def gap : Nat → List CpInfo → List CpInfo
  | 0, r => r
  | n + 1, r => .unusable :: gap n r
def poolList (es : List (Nat × CpInfo)) (last : Nat) : List CpInfo := es.foldr (fun e r => gap e.1 (e.2 :: r)) (gap last [])
def pool (es : List (Nat × CpInfo)) (last : Nat) : Array CpInfo := ⟨poolList es last⟩
def fileOf (pool : Array CpInfo) (this : Nat) (attrs : Array Attribute := #[]) (ms : Array MethodInfo := #[]) (fl : Nat := 33) (sup : Nat := 0) (ifs : Array Nat := #[]) (fds : Array FieldInfo := #[]) : ClassFile where
  minorVersion := 0
  majorVersion := 65
  constantPool := pool
  accessFlags := fl
  thisClass := this
  superClass := sup
  interfaces := ifs
  fields := fds
  methods := ms
  attributes := attrs
def plain (name : String) (sup : Option ClassId) : Class where
  name := name
  kind := .ordinary
  loader := none
  accessFlags := 33
  super := sup
  interfaces := #[]
  cf := none
  fields := #[]
  methods := #[]
  instanceTypes := #[]
  staticTypes := #[]
  resolved := #[]
  callSites := []
  init := .initialized
  statics := none
  mirror := none

def pool0 : Array CpInfo := pool [(5, u "<init>"), (0, u "()V"), (1, .class_ 10), (1, u "java/lang/Object")] 113

def k0c0 : Code := { maxStack := 0, maxLocals := 1, code := object_method_1_code, exceptionTable := #[], attributes := #[] }
def k0m0 : Method := { name := "<init>", desc := "()V", sig := { parameters := [], returnType := none }, accessFlags := 1, code := some k0c0 }
/-- java/lang/Object -/
def k0 : Class := { plain "java/lang/Object" none with
  accessFlags := 33
  interfaces := #[]
  cf := some (fileOf pool0 8 #[] #[{ accessFlags := 1, nameIndex := 5, descriptorIndex := 6, attributes := #[] }] 33 0 #[] #[])
  fields := #[]
  methods := #[k0m0]
  instanceTypes := #[]
  staticTypes := #[]
  resolved := Array.replicate 124 none
  statics := none }

def pool1 : Array CpInfo := pool [(2, .class_ 4), (1, u "java/lang/Object"), (0, u "<init>"), (0, u "()V"), (0, .class_ 8), (0, u "com/example/grab1/grab1/Migrator$Migration"), (0, .methodref 10 11), (0, .class_ 12), (0, .nameAndType 13 14), (0, u "java/lang/Math"), (0, u "max"), (0, u "(II)I"), (0, .methodref 7 16), (0, .nameAndType 5 17), (0, u "(II)V"), (0, .methodref 7 19), (0, .nameAndType 20 21), (0, u "changed"), (0, u "()Z"), (0, .class_ 23), (0, u "com/example/grab1/grab1/MigrationChangedPinLaw"), (2, u "law"), (0, u "(II)Z")] 7

def k1m0 : Method := { name := "<init>", desc := "()V", sig := { parameters := [], returnType := none }, accessFlags := 1, code := none }
def k1c1 : Code := { maxStack := 5, maxLocals := 6, code := code, exceptionTable := #[], attributes := #[] }
def k1m1 : Method := { name := "law", desc := "(II)Z", sig := { parameters := [.int, .int], returnType := some .boolean }, accessFlags := 9, code := some k1c1 }
/-- com/example/grab1/grab1/MigrationChangedPinLaw -/
def k1 : Class := { plain "com/example/grab1/grab1/MigrationChangedPinLaw" (some 0) with
  accessFlags := 49
  interfaces := #[]
  cf := some (fileOf pool1 22 #[] #[{ accessFlags := 1, nameIndex := 5, descriptorIndex := 6, attributes := #[] }, { accessFlags := 9, nameIndex := 26, descriptorIndex := 27, attributes := #[] }] 49 2 #[] #[])
  fields := #[]
  methods := #[k1m0, k1m1]
  instanceTypes := #[]
  staticTypes := #[]
  resolved := Array.replicate 35 none
  statics := none }

def pool2 : Array CpInfo := pool [(1, .methodref 2 3), (0, .class_ 4), (0, .nameAndType 5 6), (0, u "java/lang/Object"), (0, u "<init>"), (0, u "()V"), (0, .class_ 8), (0, u "java/lang/Record")] 13

def k2c0 : Code := { maxStack := 1, maxLocals := 1, code := jdk_30_method_1_code, exceptionTable := #[], attributes := #[] }
def k2m0 : Method := { name := "<init>", desc := "()V", sig := { parameters := [], returnType := none }, accessFlags := 4, code := some k2c0 }
/-- java/lang/Record -/
def k2 : Class := { plain "java/lang/Record" (some 0) with
  accessFlags := 1057
  interfaces := #[]
  cf := some (fileOf pool2 7 #[] #[{ accessFlags := 4, nameIndex := 5, descriptorIndex := 6, attributes := #[] }] 1057 2 #[] #[])
  fields := #[]
  methods := #[k2m0]
  instanceTypes := #[]
  staticTypes := #[]
  resolved := Array.replicate 22 none
  statics := none }

def pool3 : Array CpInfo := pool [(1, .methodref 2 3), (0, .class_ 4), (0, .nameAndType 5 6), (0, u "java/lang/Record"), (0, u "<init>"), (0, u "()V"), (0, .fieldref 8 9), (0, .class_ 10), (0, .nameAndType 11 12), (0, u "com/example/grab1/grab1/Migrator$Migration"), (0, u "from"), (0, u "I"), (0, .fieldref 8 14), (0, .nameAndType 15 12), (0, u "to"), (12, u "(II)V"), (3, u "changed"), (0, u "()Z"), (7, .class_ 42), (0, u "com/example/grab1/grab1/Migrator")] 20

def k3c0 : Code := { maxStack := 2, maxLocals := 3, code := prog_10_method_1_code, exceptionTable := #[], attributes := #[] }
def k3m0 : Method := { name := "<init>", desc := "(II)V", sig := { parameters := [.int, .int], returnType := none }, accessFlags := 1, code := some k3c0 }
def k3c1 : Code := { maxStack := 2, maxLocals := 1, code := prog_10_method_2_code, exceptionTable := #[], attributes := #[] }
def k3m1 : Method := { name := "changed", desc := "()Z", sig := { parameters := [], returnType := some .boolean }, accessFlags := 1, code := some k3c1 }
/-- com/example/grab1/grab1/Migrator$Migration -/
def k3 : Class := { plain "com/example/grab1/grab1/Migrator$Migration" (some 2) with
  accessFlags := 49
  interfaces := #[]
  cf := some (fileOf pool3 8 #[.nestHost 41] #[{ accessFlags := 1, nameIndex := 5, descriptorIndex := 28, attributes := #[] }, { accessFlags := 1, nameIndex := 32, descriptorIndex := 33, attributes := #[] }] 49 2 #[] #[{ accessFlags := 18, nameIndex := 11, descriptorIndex := 12, attributes := #[] }, { accessFlags := 18, nameIndex := 15, descriptorIndex := 12, attributes := #[] }])
  fields := #[{ name := "from", type := .int, accessFlags := 18, slot := 0, constantValue := 0 }, { name := "to", type := .int, accessFlags := 18, slot := 1, constantValue := 0 }]
  methods := #[k3m0, k3m1]
  instanceTypes := #[.int, .int]
  staticTypes := #[]
  resolved := Array.replicate 63 none
  statics := none }

def pool4 : Array CpInfo := pool [(1, .class_ 2), (0, u "java/lang/Math"), (1, .class_ 6), (1, u "java/lang/Object"), (0, u "<init>"), (0, u "()V"), (89, .class_ 100), (1, u "java/lang/Math$RandomNumberGeneratorHolder"), (71, u "negativeZeroFloatBits"), (0, u "J"), (2, u "negativeZeroDoubleBits"), (21, u "max"), (46, u "$assertionsDisabled"), (0, u "Z"), (88, u "(II)I"), (2, u "twoToTheDoubleScaleDown"), (0, u "D"), (4, u "twoToTheDoubleScaleUp"), (9, u "E"), (3, u "PI"), (2, u "TAU"), (2, u "DEGREES_TO_RADIANS"), (0, u "RADIANS_TO_DEGREES")] 94

def k4m0 : Method := { name := "<init>", desc := "()V", sig := { parameters := [], returnType := none }, accessFlags := 2, code := none }
def k4c1 : Code := { maxStack := 2, maxLocals := 2, code := jdk_29_method_65_code, exceptionTable := #[], attributes := #[] }
def k4m1 : Method := { name := "max", desc := "(II)I", sig := { parameters := [.int, .int], returnType := some .int }, accessFlags := 9, code := some k4c1 }
/-- java/lang/Math -/
def k4 : Class := { plain "java/lang/Math" (some 0) with
  accessFlags := 49
  interfaces := #[]
  cf := some (fileOf pool4 1 #[.nestMembers #[98]] #[{ accessFlags := 2, nameIndex := 7, descriptorIndex := 8, attributes := #[] }, { accessFlags := 9, nameIndex := 198, descriptorIndex := 335, attributes := #[] }] 49 4 #[] #[{ accessFlags := 25, nameIndex := 354, descriptorIndex := 339, attributes := #[] }, { accessFlags := 25, nameIndex := 358, descriptorIndex := 339, attributes := #[] }, { accessFlags := 25, nameIndex := 361, descriptorIndex := 339, attributes := #[] }, { accessFlags := 26, nameIndex := 364, descriptorIndex := 339, attributes := #[] }, { accessFlags := 26, nameIndex := 365, descriptorIndex := 339, attributes := #[] }, { accessFlags := 26, nameIndex := 172, descriptorIndex := 173, attributes := #[] }, { accessFlags := 26, nameIndex := 176, descriptorIndex := 173, attributes := #[] }, { accessFlags := 8, nameIndex := 344, descriptorIndex := 339, attributes := #[] }, { accessFlags := 8, nameIndex := 338, descriptorIndex := 339, attributes := #[] }, { accessFlags := 4120, nameIndex := 245, descriptorIndex := 246, attributes := #[] }])
  fields := #[{ name := "E", type := .double, accessFlags := 25, slot := 0, constantValue := 0 }, { name := "PI", type := .double, accessFlags := 25, slot := 1, constantValue := 0 }, { name := "TAU", type := .double, accessFlags := 25, slot := 2, constantValue := 0 }, { name := "DEGREES_TO_RADIANS", type := .double, accessFlags := 26, slot := 3, constantValue := 0 }, { name := "RADIANS_TO_DEGREES", type := .double, accessFlags := 26, slot := 4, constantValue := 0 }, { name := "negativeZeroFloatBits", type := .long, accessFlags := 26, slot := 5, constantValue := 0 }, { name := "negativeZeroDoubleBits", type := .long, accessFlags := 26, slot := 6, constantValue := 0 }, { name := "twoToTheDoubleScaleUp", type := .double, accessFlags := 8, slot := 7, constantValue := 0 }, { name := "twoToTheDoubleScaleDown", type := .double, accessFlags := 8, slot := 8, constantValue := 0 }, { name := "$assertionsDisabled", type := .boolean, accessFlags := 4120, slot := 9, constantValue := 0 }]
  methods := #[k4m0, k4m1]
  instanceTypes := #[]
  staticTypes := #[.double, .double, .double, .double, .double, .long, .long, .double, .double, .boolean]
  resolved := Array.replicate 460 none
  statics := none }

def pool5 : Array CpInfo := pool [(1, u "java/lang/Cloneable"), (0, .class_ 1), (0, u "java/lang/Object"), (0, .class_ 3)] 3

/-- java/lang/Cloneable -/
def k5 : Class := { plain "java/lang/Cloneable" (some 0) with
  accessFlags := 1537
  interfaces := #[]
  cf := some (fileOf pool5 2 #[] #[] 1537 4 #[] #[])
  fields := #[]
  methods := #[]
  instanceTypes := #[]
  staticTypes := #[]
  resolved := Array.replicate 8 none
  statics := none }

def pool6 : Array CpInfo := pool [(1, u "java/io/Serializable"), (0, .class_ 1), (0, u "java/lang/Object"), (0, .class_ 3)] 3

/-- java/io/Serializable -/
def k6 : Class := { plain "java/io/Serializable" (some 0) with
  accessFlags := 1537
  interfaces := #[]
  cf := some (fileOf pool6 2 #[] #[] 1537 4 #[] #[])
  fields := #[]
  methods := #[]
  instanceTypes := #[]
  staticTypes := #[]
  resolved := Array.replicate 8 none
  statics := none }

/-- the primitive byte -/
def k7 : Class := { plain "byte" none with kind := .primitive 'B', accessFlags := 0x411 }
/-- [B -/
def k8 : Class := { plain "[B" (some 0) with kind := .array 7 .byte, interfaces := #[5, 6], accessFlags := 1041 }

/-- the primitive int -/
def k9 : Class := { plain "int" none with kind := .primitive 'I', accessFlags := 0x411 }
/-- [I -/
def k10 : Class := { plain "[I" (some 0) with kind := .array 9 .int, interfaces := #[5, 6], accessFlags := 1041 }

def heap : Heap := #[]
def classes : Array Class := #[k0, k1, k2, k3, k4, k5, k6, k7, k8, k9, k10]
def interned : List (Array UInt16 × Addr) := []
def slotsUsed : Nat := 0
def theMethod : MethodId := ⟨1, 1⟩
def args0 : Array Value := #[.int 5, .int 7]
def aboutOver (below : List Frame) : State where
  vm := { classes := classes, interned := interned.toArray }
  heap := heap
  slotsUsed := slotsUsed
  threads := #[{ frames := .invoking theMethod args0 :: below }]
def below0 : List Frame := [.native { method := ⟨0, 0⟩, args := #[] }]
def about1 : State := aboutOver below0
def p0 : Program := .bare "" "" ""
def e0 : Env := launch0.env 0 0 0
theorem w_frames : about1.frames = Frame.invoking theMethod args0 :: below0 := rfl
set_option maxRecDepth 65536 in
theorem w_args : argsFit about1.vm theMethod args0 = true := by decide +kernel
set_option maxRecDepth 65536 in
theorem w_heap : heapFits about1 = true := by decide +kernel
set_option maxRecDepth 65536 in
theorem w_runnable : about1.curStatus? = some .runnable := by decide +kernel
set_option maxRecDepth 65536 in
theorem w_alone : about1.alone = true := by decide +kernel
set_option maxRecDepth 65536 in
theorem w_named : about1.methodNamed? x = some theMethod := by decide +kernel
set_option maxRecDepth 65536 in
theorem w_hears : about1.hears theMethod below0 = true := by decide +kernel
set_option maxRecDepth 65536 in
theorem w_ripe : about1.ripe theMethod args0 below0 = true := by decide +kernel
theorem w_running : about1.status = .running := rfl
set_option maxRecDepth 65536 in
theorem w_room : about1.hasRoom e0.platform room_1 = true :=
  launch0.hasRoom_least _ room_1 (by decide +kernel) (by decide +kernel) (by decide +kernel) (by decide +kernel) (by decide +kernel) (by decide +kernel)
theorem allAtoms_all (ts : List Jvm.Cond) (a : Array Jvm.Value) (st : Jvm.State) : (allAtoms ts).before a st = ts.all (fun c => c.before a st) := by
  induction ts with
  | nil => rfl
  | cons c t ih =>
    show (Jvm.Cond.and c (allAtoms t)).before a st = _
    rw [Jvm.Cond.before_and, ih, List.all_cons]
def words1 : List Jvm.Cond := Jvm.Cond.code x code maxLocals ret :: tables_1
/-- a 'code' word, met by the world's own term for the bytes: nothing is compared byte by byte -/
theorem code_word {y : MethodName} {bytes : ByteArray} {mx : Nat} {rt : Option FieldType} {a : Array Value} {s : State} {m : MethodId} {meth : Method} {c : Code} (h1 : s.methodNamed? y = some m) (h2 : s.vm.method? m = some meth) (h3 : meth.code = some c) (h4 : c.code = bytes)
    (h5 : (c.maxLocals == mx && c.exceptionTable.isEmpty && decide (c.maxStack ≤ mostOperands) && decide (meth.sig.returnType = rt) && !meth.locks && decide (parseMethodDescriptor y.desc = some meth.sig)) = true) : (Jvm.Cond.code y bytes mx rt).before a s = true := by
  simp only [Bool.and_eq_true, beq_iff_eq, Bool.not_eq_true', decide_eq_true_eq] at h5
  obtain ⟨⟨⟨⟨⟨g1, g2⟩, g3⟩, g4⟩, g5⟩, g6⟩ := h5
  simp [Cond.before, Cond.holds, Cond.value, h1, h2, h3, h4, g1, g2, g3, g4, g5, g6]
def isCode : Jvm.Cond → Bool
  | .code _ _ _ _ => true
  | _ => false
theorem all_split {L : List Jvm.Cond} {P : Jvm.Cond → Bool} (h1 : L.all (fun c => isCode c || P c) = true) (h2 : ∀ c ∈ L.filter isCode, P c = true) : L.all P = true := by
  refine List.all_eq_true.mpr fun c hc => ?_
  have h := List.all_eq_true.mp h1 c hc
  rcases Bool.eq_false_or_eq_true (isCode c) with hi | hi
  · exact h2 c (List.mem_filter.mpr ⟨hc, hi⟩)
  · simpa [hi] using h
set_option maxRecDepth 65536 in
theorem w_c0 : (Jvm.Cond.code x code maxLocals ret).before args0 about1 = true := code_word (m := ⟨1, 1⟩) (meth := k1m1) (c := k1c1) (by decide +kernel) rfl rfl rfl (by decide +kernel)
set_option maxRecDepth 65536 in
theorem w_c1 : (Jvm.Cond.code ({ cls := "java/lang/Math", name := "max", desc := "(II)I" } : Jvm.MethodName) jdk_29_method_65_code (2 : Nat) (Option.some Jvm.ClassFile.FieldType.int)).before args0 about1 = true := code_word (m := ⟨4, 1⟩) (meth := k4m1) (c := k4c1) (by decide +kernel) rfl rfl rfl (by decide +kernel)
set_option maxRecDepth 65536 in
theorem w_c2 : (Jvm.Cond.code ({ cls := "com/example/grab1/grab1/Migrator$Migration", name := "<init>", desc := "(II)V" } : Jvm.MethodName) prog_10_method_1_code (3 : Nat) (Option.none : Option Jvm.ClassFile.FieldType)).before args0 about1 = true := code_word (m := ⟨3, 0⟩) (meth := k3m0) (c := k3c0) (by decide +kernel) rfl rfl rfl (by decide +kernel)
set_option maxRecDepth 65536 in
theorem w_c3 : (Jvm.Cond.code ({ cls := "java/lang/Record", name := "<init>", desc := "()V" } : Jvm.MethodName) jdk_30_method_1_code (1 : Nat) (Option.none : Option Jvm.ClassFile.FieldType)).before args0 about1 = true := code_word (m := ⟨2, 0⟩) (meth := k2m0) (c := k2c0) (by decide +kernel) rfl rfl rfl (by decide +kernel)
set_option maxRecDepth 65536 in
theorem w_c4 : (Jvm.Cond.code ({ cls := "java/lang/Object", name := "<init>", desc := "()V" } : Jvm.MethodName) object_method_1_code (1 : Nat) (Option.none : Option Jvm.ClassFile.FieldType)).before args0 about1 = true := code_word (m := ⟨0, 0⟩) (meth := k0m0) (c := k0c0) (by decide +kernel) rfl rfl rfl (by decide +kernel)
set_option maxRecDepth 65536 in
theorem w_c5 : (Jvm.Cond.code ({ cls := "com/example/grab1/grab1/Migrator$Migration", name := "changed", desc := "()Z" } : Jvm.MethodName) prog_10_method_2_code (1 : Nat) (Option.some Jvm.ClassFile.FieldType.boolean)).before args0 about1 = true := code_word (m := ⟨3, 1⟩) (meth := k3m1) (c := k3c1) (by decide +kernel) rfl rfl rfl (by decide +kernel)
def codes1 : List Jvm.Cond := [Jvm.Cond.code x code maxLocals ret, Jvm.Cond.code ({ cls := "java/lang/Math", name := "max", desc := "(II)I" } : Jvm.MethodName) jdk_29_method_65_code (2 : Nat) (Option.some Jvm.ClassFile.FieldType.int), Jvm.Cond.code ({ cls := "com/example/grab1/grab1/Migrator$Migration", name := "<init>", desc := "(II)V" } : Jvm.MethodName) prog_10_method_1_code (3 : Nat) (Option.none : Option Jvm.ClassFile.FieldType), Jvm.Cond.code ({ cls := "java/lang/Record", name := "<init>", desc := "()V" } : Jvm.MethodName) jdk_30_method_1_code (1 : Nat) (Option.none : Option Jvm.ClassFile.FieldType), Jvm.Cond.code ({ cls := "java/lang/Object", name := "<init>", desc := "()V" } : Jvm.MethodName) object_method_1_code (1 : Nat) (Option.none : Option Jvm.ClassFile.FieldType), Jvm.Cond.code ({ cls := "com/example/grab1/grab1/Migrator$Migration", name := "changed", desc := "()Z" } : Jvm.MethodName) prog_10_method_2_code (1 : Nat) (Option.some Jvm.ClassFile.FieldType.boolean)]
set_option maxRecDepth 65536 in
theorem codes_eq : words1.filter isCode = codes1 := rfl
theorem w_codes : ∀ c ∈ words1.filter isCode, c.before args0 about1 = true := by
  rw [codes_eq]
  intro c hc
  simp only [codes1, List.mem_cons, List.not_mem_nil, or_false] at hc
  rcases hc with rfl | rfl | rfl | rfl | rfl | rfl
  · exact w_c0
  · exact w_c1
  · exact w_c2
  · exact w_c3
  · exact w_c4
  · exact w_c5
set_option maxRecDepth 65536 in
theorem w_t1 : (words1.take 24).all (fun c => isCode c || c.before args0 about1) = true := by decide +kernel
set_option maxRecDepth 65536 in
theorem w_t2 : (words1.drop 24).all (fun c => isCode c || c.before args0 about1) = true := by decide +kernel
theorem w_tables : (allAtoms (Jvm.Cond.code x code maxLocals ret :: tables_1)).before args0 about1 = true := by
  rw [allAtoms_all]
  show words1.all (fun c => c.before args0 about1) = true
  refine all_split ?_ w_codes
  rw [← List.take_append_drop 24 words1, List.all_append, w_t1, w_t2]
  rfl
set_option maxRecDepth 65536 in
theorem w_case : (Jvm.Cond.and given_1 narrow_1).before args0 about1 = true := by decide +kernel
theorem w_applies : (headSpec (Jvm.Cond.code x code maxLocals ret :: tables_1) room_1).applies x e0.platform about1 = true :=
  (Spec.applies_iff w_frames).mpr ⟨w_running, w_runnable, w_alone, w_named, w_hears, w_ripe, w_room, w_tables⟩
theorem atStart : AtStart classFile x code maxLocals ret World_1 tables_1 room_1 Calls_1 rest_1 Pre_1 launch0 p0 e0 about1 theMethod args0 below0 :=
  ⟨lists_1, trivial, launch0.admits_env _ _ _, launch0.least_env, fairChoices_fair.cas, fairChoices_fair.clock, w_frames, w_args, w_heap, w_applies, trivial, trivial, w_case⟩
end start1
theorem witness_1 : WitnessClaimed_1 := ⟨start1.p0, start1.e0, start1.about1, start1.theMethod, start1.args0, start1.below0, start1.atStart⟩
end Jvm.Pilot.@@N@@
