import JvmDerived
import JvmDerived.Pilot.@@N@@Statement
import JvmDerived.Pilot.@@N@@Code
set_option linter.unusedVariables false
set_option linter.unusedSimpArgs false
namespace Jvm.OwnWp
open Sem ClassFile Op Lib Jvm.Stand Jvm.Free Jvm.LawKit Jvm.RoadKit
section Own
variable {p : Program} {l : Launch} {e : Env} {R : Room} {s : State} {m : MethodId} {args : Array Value} {below : List Frame} {meth : Method} {c : Code} {T T' : State} {locs : List Loc} {cells slots : Nat} {kc ks : Nat} {Q : Option Value → Heap → List Loc → Prop} {g g' : JFrame}
/-- from T with the frame g on top the invocation returns, and Q holds of what it leaves -/
def Go (p : Program) (e : Env) (below : List Frame) (s : State) (kc ks : Nat) (Q : Option Value → Heap → List Loc → Prop) (T : State) (g : JFrame) : Prop :=
  ∃ s₂ o, Steps p.tables e below (T.setTop g) s₂ ∧ s₂.status = .running ∧ Ended s₂ below o ∧ ∃ v L, o = .returned v ∧ Q v s₂.heap L ∧ FrameEnd s o s₂ L kc ks
theorem Go.step (st : ∀ t, Steps p.tables e below (T'.setTop g') t → Steps p.tables e below (T.setTop g) t) (k : Go p e below s kc ks Q T' g') : Go p e below s kc ks Q T g := by
  obtain ⟨s₂, o, h, r⟩ := k
  exact ⟨s₂, o, st _ h, r⟩
theorem Go.cast (q : g = g') (k : Go p e below s kc ks Q T g') : Go p e below s kc ks Q T g := q ▸ k
theorem Go.weak {Q' : Option Value → Heap → List Loc → Prop} (k : Go p e below s kc ks Q' T g) (h : ∀ v hp L, Q' v hp L → Q v hp L) : Go p e below s kc ks Q T g := by
  obtain ⟨s₂, o, a, b, c, v, L, d, q, f⟩ := k
  exact ⟨s₂, o, a, b, c, v, L, d, h _ _ _ q, f⟩
theorem Go.ret (X : Stand p l e R s m args below meth c T locs cells slots) (hx : p.tables.exec = Jvm.exec) (hlk : meth.locks = false) {pc : Nat} {Ls : Array Slot} {w : Value} {t : FieldType} {i : Instr} {rest : List Value} (hret : meth.sig.returnType = some t) (hn : narrow t w = w)
    (hi : (i = .ireturn ∧ (t = .int ∨ t = .boolean ∨ t = .byte ∨ t = .char ∨ t = .short) ∧ ∃ z, w = .int z) ∨ (i = .lreturn ∧ t = .long ∧ ∃ z, w = .long z) ∨ (i = .dreturn ∧ t = .double ∧ ∃ z, w = .double z) ∨ (i = .freturn ∧ t = .float ∧ ∃ z, w = .float z) ∨ (i = .areturn ∧ t.isReference = true ∧ w.isRef = true))
    (hd : decode c.code pc = .ok (i, 1)) (hq : Q (some w) T.heap locs) (hc : cells ≤ kc) (hs : slots ≤ ks) : Go p e below s kc ks Q T (mkF m pc Ls (w :: rest)) := by
  obtain ⟨fs, hr, hrun, hended, hW, hsame⟩ := X.leave (v := some w) (fun h => by rw [hret] at h; cases h) hlk
  exact ⟨_, _, retOut X hx hret hn hi hd hr, hrun, hended, _, _, rfl, hq, ⟨_, rfl⟩, hW, hsame.mono hc hs⟩
theorem Go.retV (X : Stand p l e R s m args below meth c T locs cells slots) (hx : p.tables.exec = Jvm.exec) (hlk : meth.locks = false) {pc : Nat} {Ls : Array Slot} (hret : meth.sig.returnType = none)
    (hd : decode c.code pc = .ok (.return_, 1)) (hq : Q none T.heap locs) (hc : cells ≤ kc) (hs : slots ≤ ks) : Go p e below s kc ks Q T (mkF m pc Ls []) := by
  obtain ⟨fs, hr, hrun, hended, hW, hsame⟩ := X.leave (v := none) (fun _ => rfl) hlk
  exact ⟨_, _, X.returnOut hx hret hd hr, hrun, hended, _, _, rfl, hq, ⟨_, rfl⟩, hW, hsame.mono hc hs⟩
/-- the wide end: a String constant may have been resolved or interned; the booked constants of EL stand -/
def GoH (p : Program) (e : Env) (below : List Frame) (s : State) (kc ks : Nat) (Z : State) (EL : List (String × Nat)) (h0 : Heap) (Q : Option Value → Heap → List Loc → Prop) (T : State) (g : JFrame) : Prop :=
  ∃ s₂ o, Steps p.tables e below (T.setTop g) s₂ ∧ s₂.status = .running ∧ Ended s₂ below o ∧ ∃ v L, o = .returned v ∧ Q v s₂.heap L ∧ CHr Z EL s.vm h0 s₂.vm s₂.heap ∧ ReturnedEndW s o s₂ L kc ks
variable {Z : State} {EL : List (String × Nat)} {h0 : Heap} {a0 : Array Value} {vm0 : Vm} {k0 : Nat}
theorem GoH.step (st : ∀ t, Steps p.tables e below (T'.setTop g') t → Steps p.tables e below (T.setTop g) t) (k : GoH p e below s kc ks Z EL h0 Q T' g') : GoH p e below s kc ks Z EL h0 Q T g := by
  obtain ⟨s₂, o, h, r⟩ := k
  exact ⟨s₂, o, st _ h, r⟩
theorem GoH.cast (q : g = g') (k : GoH p e below s kc ks Z EL h0 Q T g') : GoH p e below s kc ks Z EL h0 Q T g := q ▸ k
theorem retEndW_mono {t : State} {o : Outcome} {L : List Loc} {k n k' n' : Nat} (h : ReturnedEndW s o t L k n) (h1 : k ≤ k') (h2 : n ≤ n') : ReturnedEndW s o t L k' n' := ⟨h.1, h.2.1, h.2.2.1, h.2.2.2.mono h1 h2⟩
theorem GoH.ret (X : Stand p l e R (s.setVm vm0) m args below meth c T locs cells slots) (hx : p.tables.exec = Jvm.exec) (hlk : meth.locks = false) (hS : s.Since vm0 k0) (hk : k0 ≤ T.heap.size) (hZ : Z.Warmed39 vm0) (hEL : EW Z a0 EL) (hC : CHr Z EL s.vm h0 vm0 T.heap)
    {pc : Nat} {Ls : Array Slot} {w : Value} {t : FieldType} {i : Instr} {rest : List Value} (hret : meth.sig.returnType = some t) (hn : narrow t w = w)
    (hi : (i = .ireturn ∧ (t = .int ∨ t = .boolean ∨ t = .byte ∨ t = .char ∨ t = .short) ∧ ∃ z, w = .int z) ∨ (i = .lreturn ∧ t = .long ∧ ∃ z, w = .long z) ∨ (i = .dreturn ∧ t = .double ∧ ∃ z, w = .double z) ∨ (i = .freturn ∧ t = .float ∧ ∃ z, w = .float z) ∨ (i = .areturn ∧ t.isReference = true ∧ w.isRef = true))
    (hd : decode c.code pc = .ok (i, 1)) (hq : Q (some w) T.heap locs) (hc : cells ≤ kc) (hs : slots ≤ ks) : GoH p e below s kc ks Z EL h0 Q T (mkF m pc Ls (w :: rest)) := by
  have hC' : CHr Z EL s.vm h0 T.vm T.heap := hC.trans (CHv.at X hZ hEL hC.1)
  obtain ⟨fs, hr, hrun, hended, hW⟩ := X.leaveW hS hk (v := some w) (fun h => by rw [hret] at h; cases h) hlk
  exact ⟨_, _, retOut X hx hret hn hi hd hr, hrun, hended, _, _, rfl, hq, hC', retEndW_mono hW hc hs⟩
theorem GoH.retV (X : Stand p l e R (s.setVm vm0) m args below meth c T locs cells slots) (hx : p.tables.exec = Jvm.exec) (hlk : meth.locks = false) (hS : s.Since vm0 k0) (hk : k0 ≤ T.heap.size) (hZ : Z.Warmed39 vm0) (hEL : EW Z a0 EL) (hC : CHr Z EL s.vm h0 vm0 T.heap)
    {pc : Nat} {Ls : Array Slot} (hret : meth.sig.returnType = none) (hd : decode c.code pc = .ok (.return_, 1)) (hq : Q none T.heap locs) (hc : cells ≤ kc) (hs : slots ≤ ks) : GoH p e below s kc ks Z EL h0 Q T (mkF m pc Ls []) := by
  have hC' : CHr Z EL s.vm h0 T.vm T.heap := hC.trans (CHv.at X hZ hEL hC.1)
  obtain ⟨fs, hr, hrun, hended, hW⟩ := X.leaveW hS hk (v := none) (fun _ => rfl) hlk
  exact ⟨_, _, X.returnOut hx hret hd hr, hrun, hended, _, _, rfl, hq, hC', retEndW_mono hW hc hs⟩
theorem nEW : EW Z a0 [] := EW.nil
theorem nCH : CHv Z [] vm0 h0 := fun p hp => nomatch hp
theorem own_ne_arv {Z : State} {h : Heap} {a b : Addr} {C : String} {a0 : Array Value} {k : Nat} {kk : ClassId} {ty : FieldType} {z : Int32} {vs : List Value} {d : Value} (E : Exa Z h a C) (wi : (Cond.instantiable C k).before a0 Z = true) (V : Arv Z h b kk ty z vs d) : a ≠ b := by
  obtain ⟨c, A, -⟩ := V
  exact ne_arr E wi A
theorem nar01 {x : Int32} (h : x = 0 ∨ x = 1) : narrow .boolean (.int x) = .int x := by rcases h with rfl | rfl <;> rfl
end Own
end Jvm.OwnWp
namespace Jvm.Pilot.@@N@@
open Jvm Jvm.ClassFile Sem Op Lib Jvm.Free Jvm.Stand Jvm.LawKit Jvm.RoadKit Jvm.OwnWp Bundle Jvm.Pilot.@@N@@.Jvm.D
theorem own_SA {Z : State} {a0 : Array Value} (hw : ∀ d ∈ tables_1, d.before a0 Z = true) : ∀ d ∈ Bundle.stringAtoms, d.before a0 Z = true := fun d hd => hw d ((by decide +kernel : ∀ d ∈ Bundle.stringAtoms, d ∈ tables_1) d hd)
abbrev own_EL : List (String × Nat) := []
theorem own_EW {Z : State} {a0 : Array Value} (_ : ∀ d ∈ tables_1, d.before a0 Z = true) : EW Z a0 own_EL := EW.nil
theorem own_sel_priv {s : State} {args : Array Value} {y : MethodName} {n : Nat} (wi : (Cond.instantiable y.cls n).before args s = true) (wp : (Cond.privateMethod y).before args s = true) (wim : (Cond.instanceMethod y).before args s = true) (hy : y.cls ≠ "java/lang/invoke/MethodHandle" ∧ y.cls ≠ "java/lang/invoke/VarHandle") : (Cond.selects y.cls y y).before args s = true := by
  obtain ⟨c, k, h1, h2, -, h3, -⟩ := Cond.instantiable_spec wi
  exact selects_self_of_private h1 h2 (by simp at h3; exact h3.1) (Cond.privateMethod_at wp) wim hy
theorem own_ofNat {n : Nat} (h : n ≤ 10) : (Int32.ofNat n).toInt = n := Int32.toInt_ofNat_small (by omega)
theorem own_tnc {n : Nat} (h : n ≤ 10) : (Int32.ofNat n).toNatClampNeg = n := by
  simp only [Int32.toNatClampNeg, own_ofNat h]; rfl
theorem own_lt {i n : Nat} (hi : i ≤ 10) (h : n ≤ 10) : Int32.ofNat i < Int32.ofNat n ↔ i < n := by
  rw [Int32.lt_iff_toInt_lt, own_ofNat hi, own_ofNat h]; omega
theorem own_eqn {m n : Nat} (hm : m ≤ 10) (h : n ≤ 10) (e : Int32.ofNat m = Int32.ofNat n) : m = n := by
  have := congrArg Int32.toInt e
  rw [own_ofNat hm, own_ofNat h] at this; omega
theorem own_inb {n : Nat} (h : n ≤ 5) : ¬ Int32.ofNat n < 0 ∧ Int32.ofNat n < (10 : Int32) := by
  have k0 : (0 : Int32).toInt = 0 := by decide
  have k1 : (10 : Int32).toInt = 10 := by decide
  rw [Int32.lt_iff_toInt_lt, Int32.lt_iff_toInt_lt, own_ofNat (by omega), k0, k1]; omega
theorem own_n10 {n : Nat} (h : n ≤ 5) : ¬ Int32.ofNat n = (10 : Int32) := fun q => by
  have := (own_inb h).2; rw [q] at this; exact absurd this (by decide)
def own_lv (Z : State) (la : Addr) : Prop := Exa Z Z.heap la "com/example/affordance/affordance/Level" ∧ ∃ o : Nat, o ≤ 2 ∧ Fld Z Z.heap la "java/lang/Enum" "ordinal" "I" (.int (Int32.ofNat o))
def own_ent (Z : State) (h : Heap) (n : Nat) (vs : List Value) : Prop := ∀ i, i < n → ∃ f la : Addr, vs.getD i .null = .ref f ∧ Exa Z h f "com/example/affordance/affordance/Finding" ∧ Fld Z h f "com/example/affordance/affordance/Finding" "level" "Lcom/example/affordance/affordance/Level;" (.ref la) ∧ own_lv Z la
def own_in (n : Nat) (vs : List Value) (a b c : Addr) : Prop := ∀ i, i < n → vs.getD i .null = .ref a ∨ vs.getD i .null = .ref b ∨ vs.getD i .null = .ref c
theorem own_in0 {vs : List Value} {a b c : Addr} : own_in 0 vs a b c := fun i hi => absurd hi (Nat.not_lt_zero _)
theorem own_in_set {n : Nat} {vs : List Value} {a b c f : Addr} (H : own_in n vs a b c) (hl : n < vs.length) (hf : f = a ∨ f = b ∨ f = c) : own_in (n + 1) (vs.set n (.ref f)) a b c := fun i hi => by
  by_cases q : n = i
  · subst q
    have e : (vs.set n (.ref f)).getD n .null = .ref f := by simp [List.getD_eq_getElem?_getD, hl]
    rw [e]; rcases hf with rfl | rfl | rfl
    · exact Or.inl rfl
    · exact Or.inr (Or.inl rfl)
    · exact Or.inr (Or.inr rfl)
  · have e : (vs.set n (.ref f)).getD i .null = vs.getD i .null := by simp only [List.getD_eq_getElem?_getD]; rw [List.getElem?_set_ne q]
    rw [e]; exact H i (by omega)
theorem own_ent_of {Z : State} {h : Heap} {n : Nat} {vs : List Value} {a b c la lb lc : Addr} (H : own_in n vs a b c) (Ea : Exa Z h a "com/example/affordance/affordance/Finding") (Eb : Exa Z h b "com/example/affordance/affordance/Finding") (Ec : Exa Z h c "com/example/affordance/affordance/Finding") (Fa : Fld Z h a "com/example/affordance/affordance/Finding" "level" "Lcom/example/affordance/affordance/Level;" (.ref la)) (Fb : Fld Z h b "com/example/affordance/affordance/Finding" "level" "Lcom/example/affordance/affordance/Level;" (.ref lb)) (Fc : Fld Z h c "com/example/affordance/affordance/Finding" "level" "Lcom/example/affordance/affordance/Level;" (.ref lc)) (La : own_lv Z la) (Lb : own_lv Z lb) (Lc : own_lv Z lc) : own_ent Z h n vs := fun i hi => by
  rcases H i hi with q | q | q
  · exact ⟨a, la, q, Ea, Fa, La⟩
  · exact ⟨b, lb, q, Eb, Fb, Lb⟩
  · exact ⟨c, lc, q, Ec, Fc, Lc⟩
theorem own_s0 {a b c d : Int32} {i : Nat} (h : a + b + c = d + Int32.ofNat i) : (a + (1 : Int32)) + b + c = d + Int32.ofNat (i + 1) := by
  have e : (a + (1 : Int32)) + b + c = (a + b + c) + 1 := by ac_rfl
  rw [e, h, inc_ofNat, Int32.add_assoc]
theorem own_s1 {a b c d : Int32} {i : Nat} (h : a + b + c = d + Int32.ofNat i) : a + (b + (1 : Int32)) + c = d + Int32.ofNat (i + 1) := by
  have e : a + (b + (1 : Int32)) + c = (a + b + c) + 1 := by ac_rfl
  rw [e, h, inc_ofNat, Int32.add_assoc]
theorem own_s2 {a b c d : Int32} {i : Nat} (h : a + b + c = d + Int32.ofNat i) : a + b + (c + (1 : Int32)) = d + Int32.ofNat (i + 1) := by
  have e : a + b + (c + (1 : Int32)) = (a + b + c) + 1 := by ac_rfl
  rw [e, h, inc_ofNat, Int32.add_assoc]
theorem own_tot {a b c d : Int32} (h : a + b + c = d) : (((0 : Int32) + a) + b) + c = d := by rw [Int32.zero_add]; exact h
theorem pn_0 : plainName "com/example/affordance/affordance/Message" = true := by first | (simp [plainName, overriddenIn]; done) | decide +kernel
theorem ef_rmMq (m : MethodId) (a1 : Addr) : entryFrame m #[(.ref a1)] 1 = mkF m 0 #[.val (.ref a1)] [] := by first | (simp [entryFrame, mkF, argsToLocals, Value.category]; done) | rfl
def QMq (Z : State) (a1 : Addr) (h0 : Heap) (n0 : Nat) (v : Option Value) (h : Heap) (L : List Loc) : Prop := v = some .null ∧ Fr n0 L ∧ h = h0
theorem d6_0 : decode prog_22_method_5_code 0 = .ok (.aload_n 0, 1) := by decide +kernel
theorem d6_1 : decode prog_22_method_5_code 1 = .ok (.getfield 7, 3) := by decide +kernel
theorem d6_4 : decode prog_22_method_5_code 4 = .ok (.areturn, 1) := by decide +kernel
set_option maxRecDepth 65536 in
set_option maxHeartbeats 40000000 in
theorem rmMq (l : Launch) (Z : State) (a0 : Array Value) (hw : ∀ d ∈ tables_1, d.before a0 Z = true) (ws : List Jvm.Cond) (a1 : Addr) (h0 : Heap) (n0 : Nat) (Z0 : n0 ≤ h0.size) (PF1 : Fld Z h0 a1 "com/example/affordance/affordance/Message" "quoted" "Ljava/lang/String;" .null) :
    MetFree l (⟨"com/example/affordance/affordance/Message", "quoted", "()Ljava/lang/String;"⟩ : MethodName) (head1 (Jvm.Cond.code (⟨"com/example/affordance/affordance/Message", "quoted", "()Ljava/lang/String;"⟩ : MethodName) prog_22_method_5_code 1 (some (.object "java/lang/String")) :: ws) ({ frames := 0, cells := 0, slots := 0, locals := 0 } : Room)) (fun a U => a = #[(.ref a1)] ∧ Z.Warmed39 U.vm ∧ U.heap = h0) (fun _ _ _ _ _ => True) (fun _ U o U' => ∃ v L, o = .returned v ∧ QMq Z a1  h0 n0 v U'.heap L ∧ FrameEnd U o U' L ({ frames := 0, cells := 0, slots := 0, locals := 0 } : Room).cells ({ frames := 0, cells := 0, slots := 0, locals := 0 } : Room).slots) := by
  refine MetFree.of_bodySF (plainFor_of_name pn_0) hisR ?_
  intro p e s m args below meth c s₁ Bd hml0 hP hK
  obtain ⟨rfl, hZ, hh⟩ := hP
  have hx := Bd.exec
  have hby := Bd.bytes
  have hlk := BodyLoose.notSynchronized Bd
  have hml : c.maxLocals = 1 := hml0
  have hret := Bd.returns
  have hown : s.vm.findClass "com/example/affordance/affordance/Message" = some m.cls := findClass_of_methodNamed Bd.named
  have hnm := (name_of_methodNamed Bd.named Bd.method).1
  have X0 : Stand p l e ({ frames := 0, cells := 0, slots := 0, locals := 0 } : Room) s m #[(.ref a1)] below meth c s₁ [] 0 0 := Stand.of_body Bd
  have e0 : s₁.heap = h0 := by rw [← hh, Bd.state]; rfl
  have N0 := Fr.nil n0
  show Go p e below s ({ frames := 0, cells := 0, slots := 0, locals := 0 } : Room).cells ({ frames := 0, cells := 0, slots := 0, locals := 0 } : Room).slots (QMq Z a1  h0 n0) s₁ (entryFrame m #[(.ref a1)] 1)
  refine Go.cast (ef_rmMq m a1) ?_
  show Go _ _ _ _ _ _ _ s₁ (mkF m 0 #[.val (.ref a1)] [])
  refine Go.step (fun t_ k_ => XS.aloadN X0.here hx rfl (hb hby d6_0) rfl rfl k_) ?_
  show Go _ _ _ _ _ _ _ s₁ (mkF m 1 #[.val (.ref a1)] [(.ref a1)])
  obtain ⟨T1, X1, e1, st1⟩ := getF X0 hx hZ hown (host := "") (Or.inl (hw _ (List.mem_of_getElem? (i := 20) rfl))) Via.refl e0 PF1 (g := (mkF m 1 #[.val (.ref a1)] [(.ref a1)])) rfl rfl (hb hby d6_1)
  refine Go.step st1 ?_
  show Go _ _ _ _ _ _ _ T1 (mkF m 4 #[.val (.ref a1)] [.null])
  refine Go.ret X1 hx hlk hret rfl (Or.inr (Or.inr (Or.inr (Or.inr ⟨rfl, rfl, rfl⟩)))) (hb hby d6_4) ?_ (by decide) (by decide)
  show QMq Z _ _ _ _ T1.heap _
  exact ⟨rfl, N0, e1⟩
theorem ef_rmMr (m : MethodId) (a1 : Addr) : entryFrame m #[(.ref a1)] 1 = mkF m 0 #[.val (.ref a1)] [] := by first | (simp [entryFrame, mkF, argsToLocals, Value.category]; done) | rfl
def QMr (Z : State) (a1 : Addr) (r : Addr) (h0 : Heap) (n0 : Nat) (v : Option Value) (h : Heap) (L : List Loc) : Prop := v = some (.ref r) ∧ Fr n0 L ∧ h = h0
theorem d7_0 : decode prog_22_method_6_code 0 = .ok (.aload_n 0, 1) := by decide +kernel
theorem d7_1 : decode prog_22_method_6_code 1 = .ok (.getfield 13, 3) := by decide +kernel
theorem d7_4 : decode prog_22_method_6_code 4 = .ok (.areturn, 1) := by decide +kernel
set_option maxRecDepth 65536 in
set_option maxHeartbeats 40000000 in
theorem rmMr (l : Launch) (Z : State) (a0 : Array Value) (hw : ∀ d ∈ tables_1, d.before a0 Z = true) (ws : List Jvm.Cond) (a1 : Addr) (r : Addr) (h0 : Heap) (n0 : Nat) (Z0 : n0 ≤ h0.size) (PF1 : Fld Z h0 a1 "com/example/affordance/affordance/Message" "rest" "Ljava/lang/String;" (.ref r)) :
    MetFree l (⟨"com/example/affordance/affordance/Message", "rest", "()Ljava/lang/String;"⟩ : MethodName) (head1 (Jvm.Cond.code (⟨"com/example/affordance/affordance/Message", "rest", "()Ljava/lang/String;"⟩ : MethodName) prog_22_method_6_code 1 (some (.object "java/lang/String")) :: ws) ({ frames := 0, cells := 0, slots := 0, locals := 0 } : Room)) (fun a U => a = #[(.ref a1)] ∧ Z.Warmed39 U.vm ∧ U.heap = h0) (fun _ _ _ _ _ => True) (fun _ U o U' => ∃ v L, o = .returned v ∧ QMr Z a1 r h0 n0 v U'.heap L ∧ FrameEnd U o U' L ({ frames := 0, cells := 0, slots := 0, locals := 0 } : Room).cells ({ frames := 0, cells := 0, slots := 0, locals := 0 } : Room).slots) := by
  refine MetFree.of_bodySF (plainFor_of_name pn_0) hisR ?_
  intro p e s m args below meth c s₁ Bd hml0 hP hK
  obtain ⟨rfl, hZ, hh⟩ := hP
  have hx := Bd.exec
  have hby := Bd.bytes
  have hlk := BodyLoose.notSynchronized Bd
  have hml : c.maxLocals = 1 := hml0
  have hret := Bd.returns
  have hown : s.vm.findClass "com/example/affordance/affordance/Message" = some m.cls := findClass_of_methodNamed Bd.named
  have hnm := (name_of_methodNamed Bd.named Bd.method).1
  have X0 : Stand p l e ({ frames := 0, cells := 0, slots := 0, locals := 0 } : Room) s m #[(.ref a1)] below meth c s₁ [] 0 0 := Stand.of_body Bd
  have e0 : s₁.heap = h0 := by rw [← hh, Bd.state]; rfl
  have N0 := Fr.nil n0
  show Go p e below s ({ frames := 0, cells := 0, slots := 0, locals := 0 } : Room).cells ({ frames := 0, cells := 0, slots := 0, locals := 0 } : Room).slots (QMr Z a1 r h0 n0) s₁ (entryFrame m #[(.ref a1)] 1)
  refine Go.cast (ef_rmMr m a1) ?_
  show Go _ _ _ _ _ _ _ s₁ (mkF m 0 #[.val (.ref a1)] [])
  refine Go.step (fun t_ k_ => XS.aloadN X0.here hx rfl (hb hby d7_0) rfl rfl k_) ?_
  show Go _ _ _ _ _ _ _ s₁ (mkF m 1 #[.val (.ref a1)] [(.ref a1)])
  obtain ⟨T1, X1, e1, st1⟩ := getF X0 hx hZ hown (host := "") (Or.inl (hw _ (List.mem_of_getElem? (i := 22) rfl))) Via.refl e0 PF1 (g := (mkF m 1 #[.val (.ref a1)] [(.ref a1)])) rfl rfl (hb hby d7_1)
  refine Go.step st1 ?_
  show Go _ _ _ _ _ _ _ T1 (mkF m 4 #[.val (.ref a1)] [(.ref r)])
  refine Go.ret X1 hx hlk hret rfl (Or.inr (Or.inr (Or.inr (Or.inr ⟨rfl, rfl, rfl⟩)))) (hb hby d7_4) ?_ (by decide) (by decide)
  show QMr Z _ _ _ _ _ T1.heap _
  exact ⟨rfl, N0, e1⟩
theorem pn_1 : plainName "com/example/affordance/affordance/Finding" = true := by first | (simp [plainName, overriddenIn]; done) | decide +kernel
theorem ef_rmFl (m : MethodId) (a1 : Addr) : entryFrame m #[(.ref a1)] 1 = mkF m 0 #[.val (.ref a1)] [] := by first | (simp [entryFrame, mkF, argsToLocals, Value.category]; done) | rfl
def QFl (Z : State) (a1 : Addr) (r : Addr) (h0 : Heap) (n0 : Nat) (v : Option Value) (h : Heap) (L : List Loc) : Prop := v = some (.ref r) ∧ Fr n0 L ∧ h = h0
theorem d25_0 : decode prog_15_method_5_code 0 = .ok (.aload_n 0, 1) := by decide +kernel
theorem d25_1 : decode prog_15_method_5_code 1 = .ok (.getfield 36, 3) := by decide +kernel
theorem d25_4 : decode prog_15_method_5_code 4 = .ok (.areturn, 1) := by decide +kernel
set_option maxRecDepth 65536 in
set_option maxHeartbeats 40000000 in
theorem rmFl (l : Launch) (Z : State) (a0 : Array Value) (hw : ∀ d ∈ tables_1, d.before a0 Z = true) (ws : List Jvm.Cond) (a1 : Addr) (r : Addr) (h0 : Heap) (n0 : Nat) (Z0 : n0 ≤ h0.size) (PF1 : Fld Z h0 a1 "com/example/affordance/affordance/Finding" "level" "Lcom/example/affordance/affordance/Level;" (.ref r)) :
    MetFree l (⟨"com/example/affordance/affordance/Finding", "level", "()Lcom/example/affordance/affordance/Level;"⟩ : MethodName) (head1 (Jvm.Cond.code (⟨"com/example/affordance/affordance/Finding", "level", "()Lcom/example/affordance/affordance/Level;"⟩ : MethodName) prog_15_method_5_code 1 (some (.object "com/example/affordance/affordance/Level")) :: ws) ({ frames := 0, cells := 0, slots := 0, locals := 0 } : Room)) (fun a U => a = #[(.ref a1)] ∧ Z.Warmed39 U.vm ∧ U.heap = h0) (fun _ _ _ _ _ => True) (fun _ U o U' => ∃ v L, o = .returned v ∧ QFl Z a1 r h0 n0 v U'.heap L ∧ FrameEnd U o U' L ({ frames := 0, cells := 0, slots := 0, locals := 0 } : Room).cells ({ frames := 0, cells := 0, slots := 0, locals := 0 } : Room).slots) := by
  refine MetFree.of_bodySF (plainFor_of_name pn_1) hisR ?_
  intro p e s m args below meth c s₁ Bd hml0 hP hK
  obtain ⟨rfl, hZ, hh⟩ := hP
  have hx := Bd.exec
  have hby := Bd.bytes
  have hlk := BodyLoose.notSynchronized Bd
  have hml : c.maxLocals = 1 := hml0
  have hret := Bd.returns
  have hown : s.vm.findClass "com/example/affordance/affordance/Finding" = some m.cls := findClass_of_methodNamed Bd.named
  have hnm := (name_of_methodNamed Bd.named Bd.method).1
  have X0 : Stand p l e ({ frames := 0, cells := 0, slots := 0, locals := 0 } : Room) s m #[(.ref a1)] below meth c s₁ [] 0 0 := Stand.of_body Bd
  have e0 : s₁.heap = h0 := by rw [← hh, Bd.state]; rfl
  have N0 := Fr.nil n0
  show Go p e below s ({ frames := 0, cells := 0, slots := 0, locals := 0 } : Room).cells ({ frames := 0, cells := 0, slots := 0, locals := 0 } : Room).slots (QFl Z a1 r h0 n0) s₁ (entryFrame m #[(.ref a1)] 1)
  refine Go.cast (ef_rmFl m a1) ?_
  show Go _ _ _ _ _ _ _ s₁ (mkF m 0 #[.val (.ref a1)] [])
  refine Go.step (fun t_ k_ => XS.aloadN X0.here hx rfl (hb hby d25_0) rfl rfl k_) ?_
  show Go _ _ _ _ _ _ _ s₁ (mkF m 1 #[.val (.ref a1)] [(.ref a1)])
  obtain ⟨T1, X1, e1, st1⟩ := getF X0 hx hZ hown (host := "") (Or.inl (hw _ (List.mem_of_getElem? (i := 46) rfl))) Via.refl e0 PF1 (g := (mkF m 1 #[.val (.ref a1)] [(.ref a1)])) rfl rfl (hb hby d25_1)
  refine Go.step st1 ?_
  show Go _ _ _ _ _ _ _ T1 (mkF m 4 #[.val (.ref a1)] [(.ref r)])
  refine Go.ret X1 hx hlk hret rfl (Or.inr (Or.inr (Or.inr (Or.inr ⟨rfl, rfl, rfl⟩)))) (hb hby d25_4) ?_ (by decide) (by decide)
  show QFl Z _ _ _ _ _ T1.heap _
  exact ⟨rfl, N0, e1⟩
theorem pn_2 : plainName "java/lang/Enum" = true := by first | (simp [plainName, overriddenIn]; done) | decide +kernel
theorem ef_rmOd (m : MethodId) (a1 : Addr) : entryFrame m #[(.ref a1)] 1 = mkF m 0 #[.val (.ref a1)] [] := by first | (simp [entryFrame, mkF, argsToLocals, Value.category]; done) | rfl
def QOd (Z : State) (a1 : Addr) (r : Int32) (h0 : Heap) (n0 : Nat) (v : Option Value) (h : Heap) (L : List Loc) : Prop := v = some (.int r) ∧ Fr n0 L ∧ h = h0
theorem d26_0 : decode jdk_37_method_2_code 0 = .ok (.aload_n 0, 1) := by decide +kernel
theorem d26_1 : decode jdk_37_method_2_code 1 = .ok (.getfield 7, 3) := by decide +kernel
theorem d26_4 : decode jdk_37_method_2_code 4 = .ok (.ireturn, 1) := by decide +kernel
set_option maxRecDepth 65536 in
set_option maxHeartbeats 40000000 in
theorem rmOd (l : Launch) (Z : State) (a0 : Array Value) (hw : ∀ d ∈ tables_1, d.before a0 Z = true) (ws : List Jvm.Cond) (a1 : Addr) (r : Int32) (h0 : Heap) (n0 : Nat) (Z0 : n0 ≤ h0.size) (PF1 : Fld Z h0 a1 "java/lang/Enum" "ordinal" "I" (.int r)) :
    MetFree l (⟨"java/lang/Enum", "ordinal", "()I"⟩ : MethodName) (head1 (Jvm.Cond.code (⟨"java/lang/Enum", "ordinal", "()I"⟩ : MethodName) jdk_37_method_2_code 1 (some .int) :: ws) ({ frames := 0, cells := 0, slots := 0, locals := 0 } : Room)) (fun a U => a = #[(.ref a1)] ∧ Z.Warmed39 U.vm ∧ U.heap = h0) (fun _ _ _ _ _ => True) (fun _ U o U' => ∃ v L, o = .returned v ∧ QOd Z a1 r h0 n0 v U'.heap L ∧ FrameEnd U o U' L ({ frames := 0, cells := 0, slots := 0, locals := 0 } : Room).cells ({ frames := 0, cells := 0, slots := 0, locals := 0 } : Room).slots) := by
  refine MetFree.of_bodySF (plainFor_of_name pn_2) hisR ?_
  intro p e s m args below meth c s₁ Bd hml0 hP hK
  obtain ⟨rfl, hZ, hh⟩ := hP
  have hx := Bd.exec
  have hby := Bd.bytes
  have hlk := BodyLoose.notSynchronized Bd
  have hml : c.maxLocals = 1 := hml0
  have hret := Bd.returns
  have hown : s.vm.findClass "java/lang/Enum" = some m.cls := findClass_of_methodNamed Bd.named
  have hnm := (name_of_methodNamed Bd.named Bd.method).1
  have X0 : Stand p l e ({ frames := 0, cells := 0, slots := 0, locals := 0 } : Room) s m #[(.ref a1)] below meth c s₁ [] 0 0 := Stand.of_body Bd
  have e0 : s₁.heap = h0 := by rw [← hh, Bd.state]; rfl
  have N0 := Fr.nil n0
  show Go p e below s ({ frames := 0, cells := 0, slots := 0, locals := 0 } : Room).cells ({ frames := 0, cells := 0, slots := 0, locals := 0 } : Room).slots (QOd Z a1 r h0 n0) s₁ (entryFrame m #[(.ref a1)] 1)
  refine Go.cast (ef_rmOd m a1) ?_
  show Go _ _ _ _ _ _ _ s₁ (mkF m 0 #[.val (.ref a1)] [])
  refine Go.step (fun t_ k_ => XS.aloadN X0.here hx rfl (hb hby d26_0) rfl rfl k_) ?_
  show Go _ _ _ _ _ _ _ s₁ (mkF m 1 #[.val (.ref a1)] [(.ref a1)])
  obtain ⟨T1, X1, e1, st1⟩ := getF X0 hx hZ hown (host := "") (Or.inl (hw _ (List.mem_of_getElem? (i := 221) rfl))) Via.refl e0 PF1 (g := (mkF m 1 #[.val (.ref a1)] [(.ref a1)])) rfl rfl (hb hby d26_1)
  refine Go.step st1 ?_
  show Go _ _ _ _ _ _ _ T1 (mkF m 4 #[.val (.ref a1)] [(.int r)])
  refine Go.ret X1 hx hlk hret rfl (Or.inl ⟨rfl, Or.inl rfl, _, rfl⟩) (hb hby d26_4) ?_ (by decide) (by decide)
  show QOd Z _ _ _ _ _ T1.heap _
  exact ⟨rfl, N0, e1⟩
theorem ef_rmMi (m : MethodId) (a1 : Addr) (a2 : Addr) : entryFrame m #[(.ref a1), .null, (.ref a2)] 3 = mkF m 0 #[.val (.ref a1), .val .null, .val (.ref a2)] [] := by first | (simp [entryFrame, mkF, argsToLocals, Value.category]; done) | rfl
def QMi (Z : State) (a1 : Addr) (a2 : Addr) (h0 : Heap) (n0 : Nat) (v : Option Value) (h : Heap) (L : List Loc) : Prop := v = none ∧ Fr n0 L ∧ Keep h0 h [a1] ∧ Exa Z h a1 "com/example/affordance/affordance/Message" ∧ Fld Z h a1 "com/example/affordance/affordance/Message" "quoted" "Ljava/lang/String;" .null ∧ Fld Z h a1 "com/example/affordance/affordance/Message" "rest" "Ljava/lang/String;" (.ref a2)
theorem d2_0 : decode prog_22_method_1_code 0 = .ok (.aload_n 0, 1) := by decide +kernel
theorem d2_1 : decode prog_22_method_1_code 1 = .ok (.invokespecial 1, 3) := by decide +kernel
theorem d2_4 : decode prog_22_method_1_code 4 = .ok (.aload_n 0, 1) := by decide +kernel
theorem d2_5 : decode prog_22_method_1_code 5 = .ok (.aload_n 1, 1) := by decide +kernel
theorem d2_6 : decode prog_22_method_1_code 6 = .ok (.putfield 7, 3) := by decide +kernel
theorem d2_9 : decode prog_22_method_1_code 9 = .ok (.aload_n 0, 1) := by decide +kernel
theorem d2_10 : decode prog_22_method_1_code 10 = .ok (.aload_n 2, 1) := by decide +kernel
theorem d2_11 : decode prog_22_method_1_code 11 = .ok (.putfield 13, 3) := by decide +kernel
theorem d2_14 : decode prog_22_method_1_code 14 = .ok (.return_, 1) := by decide +kernel
set_option maxRecDepth 65536 in
set_option maxHeartbeats 40000000 in
theorem rmMi (l : Launch) (Z : State) (a0 : Array Value) (hw : ∀ d ∈ tables_1, d.before a0 Z = true) (ws : List Jvm.Cond) (a1 : Addr) (a2 : Addr) (h0 : Heap) (n0 : Nat) (Z0 : n0 ≤ h0.size) (g1 : n0 ≤ a1) (QE1 : Exa Z h0 a1 "com/example/affordance/affordance/Message") (Q_quoted : Fld Z h0 a1 "com/example/affordance/affordance/Message" "quoted" "Ljava/lang/String;" .null) (Q_rest : Fld Z h0 a1 "com/example/affordance/affordance/Message" "rest" "Ljava/lang/String;" .null) :
    MetFree l (⟨"com/example/affordance/affordance/Message", "<init>", "(Ljava/lang/String;Ljava/lang/String;)V"⟩ : MethodName) (head1 (Jvm.Cond.code (⟨"com/example/affordance/affordance/Message", "<init>", "(Ljava/lang/String;Ljava/lang/String;)V"⟩ : MethodName) prog_22_method_1_code 3 none :: ws) ({ frames := 1, cells := 0, slots := 0, locals := 12 } : Room)) (fun a U => a = #[(.ref a1), .null, (.ref a2)] ∧ Z.Warmed39 U.vm ∧ U.heap = h0) (fun _ _ _ _ _ => True) (fun _ U o U' => ∃ v L, o = .returned v ∧ QMi Z a1 a2  h0 n0 v U'.heap L ∧ FrameEnd U o U' L ({ frames := 1, cells := 0, slots := 0, locals := 12 } : Room).cells ({ frames := 1, cells := 0, slots := 0, locals := 12 } : Room).slots) := by
  refine MetFree.of_bodySF (plainFor_of_name pn_0) hisR ?_
  intro p e s m args below meth c s₁ Bd hml0 hP hK
  obtain ⟨rfl, hZ, hh⟩ := hP
  have hx := Bd.exec
  have hby := Bd.bytes
  have hlk := BodyLoose.notSynchronized Bd
  have hml : c.maxLocals = 3 := hml0
  have hret := Bd.returns
  have hown : s.vm.findClass "com/example/affordance/affordance/Message" = some m.cls := findClass_of_methodNamed Bd.named
  have hnm := (name_of_methodNamed Bd.named Bd.method).1
  have X0 : Stand p l e ({ frames := 1, cells := 0, slots := 0, locals := 12 } : Room) s m #[(.ref a1), .null, (.ref a2)] below meth c s₁ [] 0 0 := Stand.of_body Bd
  have e0 : s₁.heap = h0 := by rw [← hh, Bd.state]; rfl
  have N0 := Fr.nil n0
  show Go p e below s ({ frames := 1, cells := 0, slots := 0, locals := 12 } : Room).cells ({ frames := 1, cells := 0, slots := 0, locals := 12 } : Room).slots (QMi Z a1 a2  h0 n0) s₁ (entryFrame m #[(.ref a1), .null, (.ref a2)] 3)
  refine Go.cast (ef_rmMi m a1 a2) ?_
  have K0 : Keep h0 h0 [a1] := Keep.refl _ _
  show Go _ _ _ _ _ _ _ s₁ (mkF m 0 #[.val (.ref a1), .val .null, .val (.ref a2)] [])
  refine Go.step (fun t_ k_ => XS.aloadN X0.here hx rfl (hb hby d2_0) rfl rfl k_) ?_
  show Go _ _ _ _ _ _ _ s₁ (mkF m 1 #[.val (.ref a1), .val .null, .val (.ref a2)] [(.ref a1)])
  obtain ⟨T1, X1, e1, st1⟩ := initO X0 hx hZ hown (hw _ (List.mem_of_getElem? (i := 17) rfl)) (hw _ (List.mem_of_getElem? (i := 18) rfl)) (hw _ (List.mem_of_getElem? (i := 19) rfl)) e0 (g := (mkF m 1 #[.val (.ref a1), .val .null, .val (.ref a2)] [(.ref a1)])) rfl (by rw [hml]; rfl) rfl (hb hby d2_1) (by decide) (W := 0) (by show 2 * 0 + _ ≤ _; exact Nat.le_of_eq rfl) (by decide)
  refine Go.step st1 ?_
  show Go _ _ _ _ _ _ _ T1 (mkF m 4 #[.val (.ref a1), .val .null, .val (.ref a2)] [])
  refine Go.step (fun t_ k_ => XS.aloadN X1.here hx rfl (hb hby d2_4) rfl rfl k_) ?_
  show Go _ _ _ _ _ _ _ T1 (mkF m 5 #[.val (.ref a1), .val .null, .val (.ref a2)] [(.ref a1)])
  refine Go.step (fun t_ k_ => XS.aloadN X1.here hx rfl (hb hby d2_5) rfl rfl k_) ?_
  show Go _ _ _ _ _ _ _ T1 (mkF m 6 #[.val (.ref a1), .val .null, .val (.ref a2)] [.null, (.ref a1)])
  obtain ⟨T2, h2, X2, e2, W2, st2⟩ := putF X1 hx hZ hown (host := "") (Or.inl (hw _ (List.mem_of_getElem? (i := 20) rfl))) Via.refl e1 Q_quoted QE1 (Or.inr ⟨(hw _ (List.mem_of_getElem? (i := 21) rfl)), rfl, hnm⟩) (hw _ (List.mem_of_getElem? (i := 13) rfl)) (ty := (.object "java/lang/String")) (by decide) rfl rfl (g := (mkF m 6 #[.val (.ref a1), .val .null, .val (.ref a2)] [.null, (.ref a1)])) rfl rfl (hb hby d2_6)
  have N2 := Fr.snoc X2 N0 g1
  refine Go.step st2 ?_
  have f2_0 : Exa Z h2 a1 "com/example/affordance/affordance/Message" := (QE1.wr W2)
  have f2_1 : Fld Z h2 a1 "com/example/affordance/affordance/Message" "quoted" "Ljava/lang/String;" .null := (Q_quoted.same W2)
  have f2_2 : Fld Z h2 a1 "com/example/affordance/affordance/Message" "rest" "Ljava/lang/String;" .null := (Q_rest.other W2 (Or.inr (slot_ne (Or.inr (hw _ (List.mem_of_getElem? (i := 23) rfl))) (Or.inr (hw _ (List.mem_of_getElem? (i := 21) rfl))) (by decide) (t := (.object "java/lang/String")) (t' := (.object "java/lang/String")) (by decide) (by decide))))
  have Zs2 : n0 ≤ h2.size := (Nat.le_trans Z0 (Keep.of_wr W2).1)
  have K2 : Keep h0 h2 [a1] := K0.wr W2 (Or.inl (List.mem_of_getElem? (i := 0) rfl))
  show Go _ _ _ _ _ _ _ T2 (mkF m 9 #[.val (.ref a1), .val .null, .val (.ref a2)] [])
  refine Go.step (fun t_ k_ => XS.aloadN X2.here hx rfl (hb hby d2_9) rfl rfl k_) ?_
  show Go _ _ _ _ _ _ _ T2 (mkF m 10 #[.val (.ref a1), .val .null, .val (.ref a2)] [(.ref a1)])
  refine Go.step (fun t_ k_ => XS.aloadN X2.here hx rfl (hb hby d2_10) rfl rfl k_) ?_
  show Go _ _ _ _ _ _ _ T2 (mkF m 11 #[.val (.ref a1), .val .null, .val (.ref a2)] [(.ref a2), (.ref a1)])
  obtain ⟨T3, h3, X3, e3, W3, st3⟩ := putF X2 hx hZ hown (host := "") (Or.inl (hw _ (List.mem_of_getElem? (i := 22) rfl))) Via.refl e2 f2_2 f2_0 (Or.inr ⟨(hw _ (List.mem_of_getElem? (i := 23) rfl)), rfl, hnm⟩) (hw _ (List.mem_of_getElem? (i := 13) rfl)) (ty := (.object "java/lang/String")) (by decide) rfl rfl (g := (mkF m 11 #[.val (.ref a1), .val .null, .val (.ref a2)] [(.ref a2), (.ref a1)])) rfl rfl (hb hby d2_11)
  have N3 := Fr.snoc X3 N2 g1
  refine Go.step st3 ?_
  have f3_0 : Exa Z h3 a1 "com/example/affordance/affordance/Message" := (f2_0.wr W3)
  have f3_1 : Fld Z h3 a1 "com/example/affordance/affordance/Message" "quoted" "Ljava/lang/String;" .null := (f2_1.other W3 (Or.inr (slot_ne (Or.inr (hw _ (List.mem_of_getElem? (i := 21) rfl))) (Or.inr (hw _ (List.mem_of_getElem? (i := 23) rfl))) (by decide) (t := (.object "java/lang/String")) (t' := (.object "java/lang/String")) (by decide) (by decide))))
  have f3_2 : Fld Z h3 a1 "com/example/affordance/affordance/Message" "rest" "Ljava/lang/String;" (.ref a2) := (f2_2.same W3)
  have Zs3 : n0 ≤ h3.size := (Nat.le_trans Zs2 (Keep.of_wr W3).1)
  have K3 : Keep h0 h3 [a1] := K2.wr W3 (Or.inl (List.mem_of_getElem? (i := 0) rfl))
  show Go _ _ _ _ _ _ _ T3 (mkF m 14 #[.val (.ref a1), .val .null, .val (.ref a2)] [])
  refine Go.retV X3 hx hlk hret (hb hby d2_14) ?_ (by decide) (by decide)
  show QMi Z _ _ _ _ _ T3.heap _
  rw [e3]
  exact ⟨rfl, N3, K3, f3_0, f3_1, f3_2⟩
theorem ef_rmOf (m : MethodId) (a1 : Addr) : entryFrame m #[(.ref a1)] 1 = mkF m 0 #[.val (.ref a1)] [] := by first | (simp [entryFrame, mkF, argsToLocals, Value.category]; done) | rfl
def QOf (Z : State) (a1 : Addr) (h0 : Heap) (n0 : Nat) (v : Option Value) (h : Heap) (L : List Loc) : Prop := ∃ m : Addr, v = some (.ref m) ∧ Fr n0 L ∧ Keep h0 h [] ∧ h0.size ≤ m ∧ Exa Z h m "com/example/affordance/affordance/Message" ∧ Fld Z h m "com/example/affordance/affordance/Message" "quoted" "Ljava/lang/String;" .null ∧ Fld Z h m "com/example/affordance/affordance/Message" "rest" "Ljava/lang/String;" (.ref a1)
theorem d1_0 : decode prog_22_method_2_code 0 = .ok (.new 8, 3) := by decide +kernel
theorem d1_3 : decode prog_22_method_2_code 3 = .ok (.dup, 1) := by decide +kernel
theorem d1_4 : decode prog_22_method_2_code 4 = .ok (.aconst_null, 1) := by decide +kernel
theorem d1_5 : decode prog_22_method_2_code 5 = .ok (.aload_n 0, 1) := by decide +kernel
theorem pd_0 : parseMethodDescriptor "(Ljava/lang/String;Ljava/lang/String;)V" = some ⟨[(.object "java/lang/String"), (.object "java/lang/String")], none⟩ := by decide +kernel
theorem d1_6 : decode prog_22_method_2_code 6 = .ok (.invokespecial 16, 3) := by decide +kernel
theorem d1_9 : decode prog_22_method_2_code 9 = .ok (.areturn, 1) := by decide +kernel
set_option maxRecDepth 65536 in
set_option maxHeartbeats 40000000 in
theorem rmOf (l : Launch) (Z : State) (a0 : Array Value) (hw : ∀ d ∈ tables_1, d.before a0 Z = true) (ws : List Jvm.Cond) (a1 : Addr) (h0 : Heap) (n0 : Nat) (Z0 : n0 ≤ h0.size) :
    MetFree l (⟨"com/example/affordance/affordance/Message", "of", "(Ljava/lang/String;)Lcom/example/affordance/affordance/Message;"⟩ : MethodName) (head1 (Jvm.Cond.code (⟨"com/example/affordance/affordance/Message", "of", "(Ljava/lang/String;)Lcom/example/affordance/affordance/Message;"⟩ : MethodName) prog_22_method_2_code 1 (some (.object "com/example/affordance/affordance/Message")) :: ws) ({ frames := 2, cells := 1, slots := 2, locals := 30 } : Room)) (fun a U => a = #[(.ref a1)] ∧ Z.Warmed39 U.vm ∧ U.heap = h0) (fun _ _ _ _ _ => True) (fun _ U o U' => ∃ v L, o = .returned v ∧ QOf Z a1  h0 n0 v U'.heap L ∧ FrameEnd U o U' L ({ frames := 2, cells := 1, slots := 2, locals := 30 } : Room).cells ({ frames := 2, cells := 1, slots := 2, locals := 30 } : Room).slots) := by
  refine MetFree.of_bodySF (plainFor_of_name pn_0) hisR ?_
  intro p e s m args below meth c s₁ Bd hml0 hP hK
  obtain ⟨rfl, hZ, hh⟩ := hP
  have hx := Bd.exec
  have hby := Bd.bytes
  have hlk := BodyLoose.notSynchronized Bd
  have hml : c.maxLocals = 1 := hml0
  have hret := Bd.returns
  have hown : s.vm.findClass "com/example/affordance/affordance/Message" = some m.cls := findClass_of_methodNamed Bd.named
  have hnm := (name_of_methodNamed Bd.named Bd.method).1
  have X0 : Stand p l e ({ frames := 2, cells := 1, slots := 2, locals := 30 } : Room) s m #[(.ref a1)] below meth c s₁ [] 0 0 := Stand.of_body Bd
  have e0 : s₁.heap = h0 := by rw [← hh, Bd.state]; rfl
  have N0 := Fr.nil n0
  show Go p e below s ({ frames := 2, cells := 1, slots := 2, locals := 30 } : Room).cells ({ frames := 2, cells := 1, slots := 2, locals := 30 } : Room).slots (QOf Z a1  h0 n0) s₁ (entryFrame m #[(.ref a1)] 1)
  refine Go.cast (ef_rmOf m a1) ?_
  have K0 : Keep h0 h0 [] := Keep.refl _ _
  show Go _ _ _ _ _ _ _ s₁ (mkF m 0 #[.val (.ref a1)] [])
  obtain ⟨T1, h1, X1, e1, E1, A1, D1, -, st1⟩ := newO X0 hx hZ hown (hw _ (List.mem_of_getElem? (i := 12) rfl)) (hw _ (List.mem_of_getElem? (i := 13) rfl)) (hw _ (List.mem_of_getElem? (i := 10) rfl)) e0 (g := (mkF m 0 #[.val (.ref a1)] [])) rfl (hb hby d1_0) (by decide) (by decide)
  obtain ⟨o1, g1⟩ : ∃ z, z = h0.size := ⟨_, rfl⟩
  rw [← g1] at A1 D1 st1
  have ge_o1 : n0 ≤ o1 := Nat.le_trans Z0 (Nat.le_of_eq g1.symm)
  have geh_o1 : h0.size ≤ o1 := Nat.le_trans K0.1 (Nat.le_of_eq g1.symm)
  have f1_0 : Exa Z h1 o1 "com/example/affordance/affordance/Message" := A1
  have f1_1 : Fld Z h1 o1 "com/example/affordance/affordance/Message" "quoted" "Ljava/lang/String;" .null := (D1 (Or.inr (hw _ (List.mem_of_getElem? (i := 21) rfl))) (ty := (.object "java/lang/String")) (by decide))
  have f1_2 : Fld Z h1 o1 "com/example/affordance/affordance/Message" "rest" "Ljava/lang/String;" .null := (D1 (Or.inr (hw _ (List.mem_of_getElem? (i := 23) rfl))) (ty := (.object "java/lang/String")) (by decide))
  have Zs1 : n0 ≤ h1.size := (Nat.le_trans Z0 E1.1)
  have K1 : Keep h0 h1 [] := K0.ext E1
  refine Go.step st1 ?_
  show Go _ _ _ _ _ _ _ T1 (mkF m 3 #[.val (.ref a1)] [(.ref o1)])
  refine Go.step (fun t_ k_ => XS.dup X1.here hx rfl (hb hby d1_3) rfl rfl k_) ?_
  show Go _ _ _ _ _ _ _ T1 (mkF m 4 #[.val (.ref a1)] [(.ref o1), (.ref o1)])
  refine Go.step (fun t_ k_ => XS.aconstNull X1.here hx rfl (hb hby d1_4) k_) ?_
  show Go _ _ _ _ _ _ _ T1 (mkF m 5 #[.val (.ref a1)] [.null, (.ref o1), (.ref o1)])
  refine Go.step (fun t_ k_ => XS.aloadN X1.here hx rfl (hb hby d1_5) rfl rfl k_) ?_
  show Go _ _ _ _ _ _ _ T1 (mkF m 6 #[.val (.ref a1)] [(.ref a1), .null, (.ref o1), (.ref o1)])
  obtain ⟨_, _, ⟨T2, L2, k2, n2⟩, -, X2, ⟨Lc2, hQ2, l2, y2, z2⟩, st2⟩ := X1.specialBack hx (y := (⟨"com/example/affordance/affordance/Message", "<init>", "(Ljava/lang/String;Ljava/lang/String;)V"⟩ : MethodName)) rfl hown (mvT hZ (hw _ (List.mem_of_getElem? (i := 14) rfl))) (mvT hZ (hw _ (List.mem_of_getElem? (i := 15) rfl))) (mvT hZ (hw _ (List.mem_of_getElem? (i := 16) rfl))) (by decide) (backOf (W := 1) (rmMi l Z a0 hw [] o1 a1 h1 n0 Zs1 ge_o1 f1_0 f1_1 f1_2) hZ (hw _ (List.mem_of_getElem? (i := 16) rfl)) (hw _ (List.mem_of_getElem? (i := 10) rfl)) (by decide) (by decide)) (g := (mkF m 6 #[.val (.ref a1)] [(.ref a1), .null, (.ref o1), (.ref o1)])) rfl (by rw [hml]; rfl) (Steps.refl _) (a := o1) (argsL := [.null, (.ref a1)]) (rest := [(.ref o1)]) (lenOf pd_0 rfl) rfl (by show 2 * 0 + _ ≤ _; exact Nat.le_of_eq rfl) (hb hby d1_6) (fun _ _ => ⟨rfl, e1, (by decide : 0 + 1 + 0 ≤ _), (by decide : 0 + 2 + 0 ≤ _)⟩)
  dsimp only [Pt.U, Pt.locs, Pt.cells, Pt.slots] at X2 l2 y2 z2 st2 hQ2
  subst l2 y2 z2
  obtain ⟨rfl, N2q, Kq2, Eq2, Fa2, Fb2⟩ := hQ2
  have N2 := Fr.app N0 N2q
  have f2_0 : Exa Z T2.heap o1 "com/example/affordance/affordance/Message" := Eq2
  have f2_1 : Fld Z T2.heap o1 "com/example/affordance/affordance/Message" "quoted" "Ljava/lang/String;" .null := Fa2
  have f2_2 : Fld Z T2.heap o1 "com/example/affordance/affordance/Message" "rest" "Ljava/lang/String;" (.ref a1) := Fb2
  have Zs2 : n0 ≤ T2.heap.size := (Nat.le_trans Zs1 Kq2.1)
  have K2 : Keep h0 T2.heap [] := K1.trans Kq2 (allS (Or.inr geh_o1) all0)
  refine Go.step (fun t_ k_ => st2.trans k_) ?_
  show Go _ _ _ _ _ _ _ T2 (mkF m 9 #[.val (.ref a1)] [(.ref o1)])
  refine Go.ret X2 hx hlk hret rfl (Or.inr (Or.inr (Or.inr (Or.inr ⟨rfl, rfl, rfl⟩)))) (hb hby d1_9) ?_ (by decide) (by decide)
  show QOf Z _ _ _ _ T2.heap _
  exact ⟨o1, rfl, N2, K2, geh_o1, f2_0, f2_1, f2_2⟩
theorem pn_3 : plainName "com/example/affordance/affordance/FindingCountsTotalPinLaw" = true := by first | (simp [plainName, overriddenIn]; done) | decide +kernel
theorem ef_rmLv (m : MethodId) (p1 : Int32) : entryFrame m #[(.int p1)] 2 = mkF m 0 #[.val (.int p1), .unset] [] := by first | (simp [entryFrame, mkF, argsToLocals, Value.category]; done) | rfl
def QLv (Z : State) (p1 : Int32) (mu : Addr) (sh : Addr) (ma : Addr) (h0 : Heap) (n0 : Nat) (v : Option Value) (h : Heap) (L : List Loc) : Prop := ∃ la : Addr, v = some (.ref la) ∧ own_lv Z la ∧ Fr n0 L ∧ h = h0
theorem d4_0 : decode method_2_code 0 = .ok (.iload_n 0, 1) := by decide +kernel
theorem d4_1 : decode method_2_code 1 = .ok (.ldc 7, 2) := by decide +kernel
theorem d4_3 : decode method_2_code 3 = .ok (.iand, 1) := by decide +kernel
theorem d4_4 : decode method_2_code 4 = .ok (.iconst 3, 1) := by decide +kernel
theorem d4_5 : decode method_2_code 5 = .ok (.irem, 1) := by decide +kernel
theorem d4_6 : decode method_2_code 6 = .ok (.istore_n 1, 1) := by decide +kernel
theorem d4_7 : decode method_2_code 7 = .ok (.iload_n 1, 1) := by decide +kernel
theorem d4_8 : decode method_2_code 8 = .ok (.ifCond .ne 7, 3) := by decide +kernel
theorem d4_11 : decode method_2_code 11 = .ok (.getstatic 8, 3) := by decide +kernel
theorem d4_14 : decode method_2_code 14 = .ok (.areturn, 1) := by decide +kernel
theorem d4_15 : decode method_2_code 15 = .ok (.iload_n 1, 1) := by decide +kernel
theorem d4_16 : decode method_2_code 16 = .ok (.iconst 1, 1) := by decide +kernel
theorem d4_17 : decode method_2_code 17 = .ok (.if_icmp .ne 7, 3) := by decide +kernel
theorem d4_20 : decode method_2_code 20 = .ok (.getstatic 14, 3) := by decide +kernel
theorem d4_23 : decode method_2_code 23 = .ok (.areturn, 1) := by decide +kernel
theorem d4_24 : decode method_2_code 24 = .ok (.getstatic 17, 3) := by decide +kernel
theorem d4_27 : decode method_2_code 27 = .ok (.areturn, 1) := by decide +kernel
set_option maxRecDepth 65536 in
set_option maxHeartbeats 40000000 in
theorem rmLv (l : Launch) (Z : State) (a0 : Array Value) (hw : ∀ d ∈ tables_1, d.before a0 Z = true) (ws : List Jvm.Cond) (p1 : Int32) (mu : Addr) (sh : Addr) (ma : Addr) (h0 : Heap) (n0 : Nat) (Z0 : n0 ≤ h0.size) (O0 : Old Z n0 h0) (S_MUST : Sta Z Z.heap "com/example/affordance/affordance/Level" "MUST" "Lcom/example/affordance/affordance/Level;" (.ref mu)) (S_SHOULD : Sta Z Z.heap "com/example/affordance/affordance/Level" "SHOULD" "Lcom/example/affordance/affordance/Level;" (.ref sh)) (S_MAY : Sta Z Z.heap "com/example/affordance/affordance/Level" "MAY" "Lcom/example/affordance/affordance/Level;" (.ref ma)) (L_MUST : own_lv Z mu) (L_SHOULD : own_lv Z sh) (L_MAY : own_lv Z ma) :
    MetFree l (⟨"com/example/affordance/affordance/FindingCountsTotalPinLaw", "level", "(I)Lcom/example/affordance/affordance/Level;"⟩ : MethodName) (head1 (Jvm.Cond.code (⟨"com/example/affordance/affordance/FindingCountsTotalPinLaw", "level", "(I)Lcom/example/affordance/affordance/Level;"⟩ : MethodName) method_2_code 2 (some (.object "com/example/affordance/affordance/Level")) :: ws) ({ frames := 0, cells := 0, slots := 0, locals := 0 } : Room)) (fun a U => a = #[(.int p1)] ∧ Z.Warmed39 U.vm ∧ U.heap = h0) (fun _ _ _ _ _ => True) (fun _ U o U' => ∃ v L, o = .returned v ∧ QLv Z p1 mu sh ma h0 n0 v U'.heap L ∧ FrameEnd U o U' L ({ frames := 0, cells := 0, slots := 0, locals := 0 } : Room).cells ({ frames := 0, cells := 0, slots := 0, locals := 0 } : Room).slots) := by
  refine MetFree.of_bodySF (plainFor_of_name pn_3) hisR ?_
  intro p e s m args below meth c s₁ Bd hml0 hP hK
  obtain ⟨rfl, hZ, hh⟩ := hP
  have hx := Bd.exec
  have hby := Bd.bytes
  have hlk := BodyLoose.notSynchronized Bd
  have hml : c.maxLocals = 2 := hml0
  have hret := Bd.returns
  have hown : s.vm.findClass "com/example/affordance/affordance/FindingCountsTotalPinLaw" = some m.cls := findClass_of_methodNamed Bd.named
  have hnm := (name_of_methodNamed Bd.named Bd.method).1
  have X0 : Stand p l e ({ frames := 0, cells := 0, slots := 0, locals := 0 } : Room) s m #[(.int p1)] below meth c s₁ [] 0 0 := Stand.of_body Bd
  have e0 : s₁.heap = h0 := by rw [← hh, Bd.state]; rfl
  have N0 := Fr.nil n0
  show Go p e below s ({ frames := 0, cells := 0, slots := 0, locals := 0 } : Room).cells ({ frames := 0, cells := 0, slots := 0, locals := 0 } : Room).slots (QLv Z p1 mu sh ma h0 n0) s₁ (entryFrame m #[(.int p1)] 2)
  refine Go.cast (ef_rmLv m p1) ?_
  show Go _ _ _ _ _ _ _ s₁ (mkF m 0 #[.val (.int p1), .unset] [])
  refine Go.step (fun t_ k_ => XS.iloadN X0.here hx rfl (hb hby d4_0) rfl k_) ?_
  show Go _ _ _ _ _ _ _ s₁ (mkF m 1 #[.val (.int p1), .unset] [(.int p1)])
  refine Go.step (fun t_ k_ => X0.ldcI hx hown (mvT hZ (hw _ (List.mem_of_getElem? (i := 31) rfl))) rfl (hb hby d4_1) k_) ?_
  show Go _ _ _ _ _ _ _ s₁ (mkF m 3 #[.val (.int p1), .unset] [(.int (2147483647 : Int32)), (.int p1)])
  refine Go.step (fun t_ k_ => XS.iand X0.here hx rfl (hb hby d4_3) rfl k_) ?_
  show Go _ _ _ _ _ _ _ s₁ (mkF m 4 #[.val (.int p1), .unset] [(.int (p1 &&& (2147483647 : Int32)))])
  refine Go.step (fun t_ k_ => XS.iconst X0.here hx rfl (hb hby d4_4) k_) ?_
  show Go _ _ _ _ _ _ _ s₁ (mkF m 5 #[.val (.int p1), .unset] [(.int (3 : Int32)), (.int (p1 &&& (2147483647 : Int32)))])
  refine Go.step (fun t_ k_ => iremM X0 hx rfl (hb hby d4_5) rfl (by decide) k_) ?_
  show Go _ _ _ _ _ _ _ s₁ (mkF m 6 #[.val (.int p1), .unset] [(.int ((p1 &&& (2147483647 : Int32)) % (3 : Int32)))])
  refine Go.step (fun t_ k_ => XS.istoreN X0.here hx rfl (hb hby d4_6) rfl (l' := #[.val (.int p1), .val (.int ((p1 &&& (2147483647 : Int32)) % (3 : Int32)))]) rfl k_) ?_
  show Go _ _ _ _ _ _ _ s₁ (mkF m 7 #[.val (.int p1), .val (.int ((p1 &&& (2147483647 : Int32)) % (3 : Int32)))] [])
  refine Go.step (fun t_ k_ => XS.iloadN X0.here hx rfl (hb hby d4_7) rfl k_) ?_
  show Go _ _ _ _ _ _ _ s₁ (mkF m 8 #[.val (.int p1), .val (.int ((p1 &&& (2147483647 : Int32)) % (3 : Int32)))] [(.int ((p1 &&& (2147483647 : Int32)) % (3 : Int32)))])
  by_cases hb8_1 : ((p1 &&& (2147483647 : Int32)) % (3 : Int32)) = (0 : Int32)
  · refine Go.step (fun t_ k_ => XS.ifNo X0.here hx rfl (hb hby d4_8) rfl (XT.i0_ne_f hb8_1) k_) ?_
    show Go _ _ _ _ _ _ _ s₁ (mkF m 11 #[.val (.int p1), .val (.int ((p1 &&& (2147483647 : Int32)) % (3 : Int32)))] [])
    obtain ⟨T2, X2, e2, st2⟩ := getS2 X0 hx hZ hown (host := "") (Or.inl (hw _ (List.mem_of_getElem? (i := 32) rfl))) Via.refl e0 (S_MUST.ext O0.2) (g := (mkF m 11 #[.val (.int p1), .val (.int ((p1 &&& (2147483647 : Int32)) % (3 : Int32)))] [])) rfl (hb hby d4_11)
    refine Go.step st2 ?_
    show Go _ _ _ _ _ _ _ T2 (mkF m 14 #[.val (.int p1), .val (.int ((p1 &&& (2147483647 : Int32)) % (3 : Int32)))] [(.ref mu)])
    refine Go.ret X2 hx hlk hret rfl (Or.inr (Or.inr (Or.inr (Or.inr ⟨rfl, rfl, rfl⟩)))) (hb hby d4_14) ?_ (by decide) (by decide)
    show QLv Z _ _ _ _ _ _ _ T2.heap _
    exact ⟨_, rfl, L_MUST, N0, e2⟩
  · refine Go.step (fun t_ k_ => XS.ifYes X0.here hx rfl (pc0 := 8) (pc' := 15) rfl (hb hby d4_8) rfl (XT.i0_ne_t hb8_1) (by decide) (by decide) k_) ?_
    show Go _ _ _ _ _ _ _ s₁ (mkF m 15 #[.val (.int p1), .val (.int ((p1 &&& (2147483647 : Int32)) % (3 : Int32)))] [])
    refine Go.step (fun t_ k_ => XS.iloadN X0.here hx rfl (hb hby d4_15) rfl k_) ?_
    show Go _ _ _ _ _ _ _ s₁ (mkF m 16 #[.val (.int p1), .val (.int ((p1 &&& (2147483647 : Int32)) % (3 : Int32)))] [(.int ((p1 &&& (2147483647 : Int32)) % (3 : Int32)))])
    refine Go.step (fun t_ k_ => XS.iconst X0.here hx rfl (hb hby d4_16) k_) ?_
    show Go _ _ _ _ _ _ _ s₁ (mkF m 17 #[.val (.int p1), .val (.int ((p1 &&& (2147483647 : Int32)) % (3 : Int32)))] [(.int (1 : Int32)), (.int ((p1 &&& (2147483647 : Int32)) % (3 : Int32)))])
    by_cases hb17_3 : ((p1 &&& (2147483647 : Int32)) % (3 : Int32)) = (1 : Int32)
    · refine Go.step (fun t_ k_ => XS.icmpNo X0.here hx rfl (hb hby d4_17) rfl (XT.ii_ne_f hb17_3) k_) ?_
      show Go _ _ _ _ _ _ _ s₁ (mkF m 20 #[.val (.int p1), .val (.int ((p1 &&& (2147483647 : Int32)) % (3 : Int32)))] [])
      obtain ⟨T4, X4, e4, st4⟩ := getS2 X0 hx hZ hown (host := "") (Or.inl (hw _ (List.mem_of_getElem? (i := 223) rfl))) Via.refl e0 (S_SHOULD.ext O0.2) (g := (mkF m 20 #[.val (.int p1), .val (.int ((p1 &&& (2147483647 : Int32)) % (3 : Int32)))] [])) rfl (hb hby d4_20)
      refine Go.step st4 ?_
      show Go _ _ _ _ _ _ _ T4 (mkF m 23 #[.val (.int p1), .val (.int ((p1 &&& (2147483647 : Int32)) % (3 : Int32)))] [(.ref sh)])
      refine Go.ret X4 hx hlk hret rfl (Or.inr (Or.inr (Or.inr (Or.inr ⟨rfl, rfl, rfl⟩)))) (hb hby d4_23) ?_ (by decide) (by decide)
      show QLv Z _ _ _ _ _ _ _ T4.heap _
      exact ⟨_, rfl, L_SHOULD, N0, e4⟩
    · refine Go.step (fun t_ k_ => XS.icmpYes X0.here hx rfl (pc0 := 17) (pc' := 24) rfl (hb hby d4_17) rfl (XT.ii_ne_t hb17_3) (by decide) (by decide) k_) ?_
      show Go _ _ _ _ _ _ _ s₁ (mkF m 24 #[.val (.int p1), .val (.int ((p1 &&& (2147483647 : Int32)) % (3 : Int32)))] [])
      obtain ⟨T5, X5, e5, st5⟩ := getS2 X0 hx hZ hown (host := "") (Or.inl (hw _ (List.mem_of_getElem? (i := 64) rfl))) Via.refl e0 (S_MAY.ext O0.2) (g := (mkF m 24 #[.val (.int p1), .val (.int ((p1 &&& (2147483647 : Int32)) % (3 : Int32)))] [])) rfl (hb hby d4_24)
      refine Go.step st5 ?_
      show Go _ _ _ _ _ _ _ T5 (mkF m 27 #[.val (.int p1), .val (.int ((p1 &&& (2147483647 : Int32)) % (3 : Int32)))] [(.ref ma)])
      refine Go.ret X5 hx hlk hret rfl (Or.inr (Or.inr (Or.inr (Or.inr ⟨rfl, rfl, rfl⟩)))) (hb hby d4_27) ?_ (by decide) (by decide)
      show QLv Z _ _ _ _ _ _ _ T5.heap _
      exact ⟨_, rfl, L_MAY, N0, e5⟩
theorem ef_rmFi (m : MethodId) (a1 : Addr) (p1 : Int32) (p2 : Int32) (a4 : Addr) (a5 : Addr) (a6 : Addr) : entryFrame m #[(.ref a1), (.int p1), (.int p2), .null, (.ref a4), (.ref a5), (.ref a6)] 7 = mkF m 0 #[.val (.ref a1), .val (.int p1), .val (.int p2), .val .null, .val (.ref a4), .val (.ref a5), .val (.ref a6)] [] := by first | (simp [entryFrame, mkF, argsToLocals, Value.category]; done) | rfl
def QFi (Z : State) (a1 : Addr) (p1 : Int32) (p2 : Int32) (a4 : Addr) (a5 : Addr) (a6 : Addr) (mr : Addr) (h0 : Heap) (n0 : Nat) (v : Option Value) (h : Heap) (L : List Loc) : Prop := v = none ∧ Fr n0 L ∧ Keep h0 h [a1] ∧ Exa Z h a1 "com/example/affordance/affordance/Finding" ∧ Fld Z h a1 "com/example/affordance/affordance/Finding" "level" "Lcom/example/affordance/affordance/Level;" (.ref a4)
theorem d5_0 : decode prog_15_method_2_code 0 = .ok (.aload_n 0, 1) := by decide +kernel
theorem d5_1 : decode prog_15_method_2_code 1 = .ok (.invokespecial 22, 3) := by decide +kernel
theorem d5_4 : decode prog_15_method_2_code 4 = .ok (.aload_n 0, 1) := by decide +kernel
theorem d5_5 : decode prog_15_method_2_code 5 = .ok (.iload_n 1, 1) := by decide +kernel
theorem d5_6 : decode prog_15_method_2_code 6 = .ok (.putfield 27, 3) := by decide +kernel
theorem d5_9 : decode prog_15_method_2_code 9 = .ok (.aload_n 0, 1) := by decide +kernel
theorem d5_10 : decode prog_15_method_2_code 10 = .ok (.iload_n 2, 1) := by decide +kernel
theorem d5_11 : decode prog_15_method_2_code 11 = .ok (.putfield 30, 3) := by decide +kernel
theorem d5_14 : decode prog_15_method_2_code 14 = .ok (.aload_n 0, 1) := by decide +kernel
theorem d5_15 : decode prog_15_method_2_code 15 = .ok (.aload_n 3, 1) := by decide +kernel
theorem d5_16 : decode prog_15_method_2_code 16 = .ok (.putfield 32, 3) := by decide +kernel
theorem d5_19 : decode prog_15_method_2_code 19 = .ok (.aload_n 0, 1) := by decide +kernel
theorem d5_20 : decode prog_15_method_2_code 20 = .ok (.aload 4, 2) := by decide +kernel
theorem d5_22 : decode prog_15_method_2_code 22 = .ok (.putfield 36, 3) := by decide +kernel
theorem d5_25 : decode prog_15_method_2_code 25 = .ok (.aload_n 0, 1) := by decide +kernel
theorem d5_26 : decode prog_15_method_2_code 26 = .ok (.aload 5, 2) := by decide +kernel
theorem d5_28 : decode prog_15_method_2_code 28 = .ok (.putfield 40, 3) := by decide +kernel
theorem d5_31 : decode prog_15_method_2_code 31 = .ok (.aload_n 0, 1) := by decide +kernel
theorem d5_32 : decode prog_15_method_2_code 32 = .ok (.aload 6, 2) := by decide +kernel
theorem pd_1 : parseMethodDescriptor "()Ljava/lang/String;" = some ⟨[], some (.object "java/lang/String")⟩ := by decide +kernel
theorem d5_34 : decode prog_15_method_2_code 34 = .ok (.invokevirtual 44, 3) := by decide +kernel
theorem d5_37 : decode prog_15_method_2_code 37 = .ok (.putfield 48, 3) := by decide +kernel
theorem d5_40 : decode prog_15_method_2_code 40 = .ok (.aload_n 0, 1) := by decide +kernel
theorem d5_41 : decode prog_15_method_2_code 41 = .ok (.aload 6, 2) := by decide +kernel
theorem d5_43 : decode prog_15_method_2_code 43 = .ok (.invokevirtual 50, 3) := by decide +kernel
theorem d5_46 : decode prog_15_method_2_code 46 = .ok (.putfield 53, 3) := by decide +kernel
theorem d5_49 : decode prog_15_method_2_code 49 = .ok (.return_, 1) := by decide +kernel
set_option maxRecDepth 65536 in
set_option maxHeartbeats 40000000 in
theorem rmFi (l : Launch) (Z : State) (a0 : Array Value) (hw : ∀ d ∈ tables_1, d.before a0 Z = true) (ws : List Jvm.Cond) (a1 : Addr) (p1 : Int32) (p2 : Int32) (a4 : Addr) (a5 : Addr) (a6 : Addr) (mr : Addr) (h0 : Heap) (n0 : Nat) (Z0 : n0 ≤ h0.size) (g1 : n0 ≤ a1) (QE1 : Exa Z h0 a1 "com/example/affordance/affordance/Finding") (Q_line : Fld Z h0 a1 "com/example/affordance/affordance/Finding" "line" "I" (.int (0 : Int32))) (Q_column : Fld Z h0 a1 "com/example/affordance/affordance/Finding" "column" "I" (.int (0 : Int32))) (Q_pointer : Fld Z h0 a1 "com/example/affordance/affordance/Finding" "pointer" "Lcom/example/affordance/affordance/JsonPointer;" .null) (Q_level : Fld Z h0 a1 "com/example/affordance/affordance/Finding" "level" "Lcom/example/affordance/affordance/Level;" .null) (Q_rule : Fld Z h0 a1 "com/example/affordance/affordance/Finding" "rule" "Ljava/lang/String;" .null) (Q_quoted : Fld Z h0 a1 "com/example/affordance/affordance/Finding" "quoted" "Ljava/lang/String;" .null) (Q_rest : Fld Z h0 a1 "com/example/affordance/affordance/Finding" "rest" "Ljava/lang/String;" .null) (ME : Exa Z h0 a6 "com/example/affordance/affordance/Message") (MQ : Fld Z h0 a6 "com/example/affordance/affordance/Message" "quoted" "Ljava/lang/String;" .null) (MR : Fld Z h0 a6 "com/example/affordance/affordance/Message" "rest" "Ljava/lang/String;" (.ref mr)) :
    MetFree l (⟨"com/example/affordance/affordance/Finding", "<init>", "(IILcom/example/affordance/affordance/JsonPointer;Lcom/example/affordance/affordance/Level;Ljava/lang/String;Lcom/example/affordance/affordance/Message;)V"⟩ : MethodName) (head1 (Jvm.Cond.code (⟨"com/example/affordance/affordance/Finding", "<init>", "(IILcom/example/affordance/affordance/JsonPointer;Lcom/example/affordance/affordance/Level;Ljava/lang/String;Lcom/example/affordance/affordance/Message;)V"⟩ : MethodName) prog_15_method_2_code 7 none :: ws) ({ frames := 1, cells := 0, slots := 0, locals := 14 } : Room)) (fun a U => a = #[(.ref a1), (.int p1), (.int p2), .null, (.ref a4), (.ref a5), (.ref a6)] ∧ Z.Warmed39 U.vm ∧ U.heap = h0) (fun _ _ _ _ _ => True) (fun _ U o U' => ∃ v L, o = .returned v ∧ QFi Z a1 p1 p2 a4 a5 a6 mr h0 n0 v U'.heap L ∧ FrameEnd U o U' L ({ frames := 1, cells := 0, slots := 0, locals := 14 } : Room).cells ({ frames := 1, cells := 0, slots := 0, locals := 14 } : Room).slots) := by
  refine MetFree.of_bodySF (plainFor_of_name pn_1) hisR ?_
  intro p e s m args below meth c s₁ Bd hml0 hP hK
  obtain ⟨rfl, hZ, hh⟩ := hP
  have hx := Bd.exec
  have hby := Bd.bytes
  have hlk := BodyLoose.notSynchronized Bd
  have hml : c.maxLocals = 7 := hml0
  have hret := Bd.returns
  have hown : s.vm.findClass "com/example/affordance/affordance/Finding" = some m.cls := findClass_of_methodNamed Bd.named
  have hnm := (name_of_methodNamed Bd.named Bd.method).1
  have X0 : Stand p l e ({ frames := 1, cells := 0, slots := 0, locals := 14 } : Room) s m #[(.ref a1), (.int p1), (.int p2), .null, (.ref a4), (.ref a5), (.ref a6)] below meth c s₁ [] 0 0 := Stand.of_body Bd
  have e0 : s₁.heap = h0 := by rw [← hh, Bd.state]; rfl
  have N0 := Fr.nil n0
  show Go p e below s ({ frames := 1, cells := 0, slots := 0, locals := 14 } : Room).cells ({ frames := 1, cells := 0, slots := 0, locals := 14 } : Room).slots (QFi Z a1 p1 p2 a4 a5 a6 mr h0 n0) s₁ (entryFrame m #[(.ref a1), (.int p1), (.int p2), .null, (.ref a4), (.ref a5), (.ref a6)] 7)
  refine Go.cast (ef_rmFi m a1 p1 p2 a4 a5 a6) ?_
  have K0 : Keep h0 h0 [a1] := Keep.refl _ _
  show Go _ _ _ _ _ _ _ s₁ (mkF m 0 #[.val (.ref a1), .val (.int p1), .val (.int p2), .val .null, .val (.ref a4), .val (.ref a5), .val (.ref a6)] [])
  refine Go.step (fun t_ k_ => XS.aloadN X0.here hx rfl (hb hby d5_0) rfl rfl k_) ?_
  show Go _ _ _ _ _ _ _ s₁ (mkF m 1 #[.val (.ref a1), .val (.int p1), .val (.int p2), .val .null, .val (.ref a4), .val (.ref a5), .val (.ref a6)] [(.ref a1)])
  obtain ⟨T1, X1, e1, st1⟩ := initO X0 hx hZ hown (hw _ (List.mem_of_getElem? (i := 39) rfl)) (hw _ (List.mem_of_getElem? (i := 18) rfl)) (hw _ (List.mem_of_getElem? (i := 19) rfl)) e0 (g := (mkF m 1 #[.val (.ref a1), .val (.int p1), .val (.int p2), .val .null, .val (.ref a4), .val (.ref a5), .val (.ref a6)] [(.ref a1)])) rfl (by rw [hml]; rfl) rfl (hb hby d5_1) (by decide) (W := 0) (by show 2 * 0 + _ ≤ _; exact Nat.le_of_eq rfl) (by decide)
  refine Go.step st1 ?_
  show Go _ _ _ _ _ _ _ T1 (mkF m 4 #[.val (.ref a1), .val (.int p1), .val (.int p2), .val .null, .val (.ref a4), .val (.ref a5), .val (.ref a6)] [])
  refine Go.step (fun t_ k_ => XS.aloadN X1.here hx rfl (hb hby d5_4) rfl rfl k_) ?_
  show Go _ _ _ _ _ _ _ T1 (mkF m 5 #[.val (.ref a1), .val (.int p1), .val (.int p2), .val .null, .val (.ref a4), .val (.ref a5), .val (.ref a6)] [(.ref a1)])
  refine Go.step (fun t_ k_ => XS.iloadN X1.here hx rfl (hb hby d5_5) rfl k_) ?_
  show Go _ _ _ _ _ _ _ T1 (mkF m 6 #[.val (.ref a1), .val (.int p1), .val (.int p2), .val .null, .val (.ref a4), .val (.ref a5), .val (.ref a6)] [(.int p1), (.ref a1)])
  obtain ⟨T2, h2, X2, e2, W2, st2⟩ := putF X1 hx hZ hown (host := "") (Or.inl (hw _ (List.mem_of_getElem? (i := 40) rfl))) Via.refl e1 Q_line QE1 (Or.inr ⟨(hw _ (List.mem_of_getElem? (i := 41) rfl)), rfl, hnm⟩) (hw _ (List.mem_of_getElem? (i := 25) rfl)) (ty := .int) (by decide) rfl rfl (g := (mkF m 6 #[.val (.ref a1), .val (.int p1), .val (.int p2), .val .null, .val (.ref a4), .val (.ref a5), .val (.ref a6)] [(.int p1), (.ref a1)])) rfl rfl (hb hby d5_6)
  have N2 := Fr.snoc X2 N0 g1
  refine Go.step st2 ?_
  have f2_0 : Exa Z h2 a1 "com/example/affordance/affordance/Finding" := (QE1.wr W2)
  have f2_1 : Fld Z h2 a1 "com/example/affordance/affordance/Finding" "line" "I" (.int p1) := (Q_line.same W2)
  have f2_2 : Fld Z h2 a1 "com/example/affordance/affordance/Finding" "column" "I" (.int (0 : Int32)) := (Q_column.other W2 (Or.inr (slot_ne (Or.inr (hw _ (List.mem_of_getElem? (i := 43) rfl))) (Or.inr (hw _ (List.mem_of_getElem? (i := 41) rfl))) (by decide) (t := .int) (t' := .int) (by decide) (by decide))))
  have f2_3 : Fld Z h2 a1 "com/example/affordance/affordance/Finding" "pointer" "Lcom/example/affordance/affordance/JsonPointer;" .null := (Q_pointer.other W2 (Or.inr (slot_ne (Or.inr (hw _ (List.mem_of_getElem? (i := 45) rfl))) (Or.inr (hw _ (List.mem_of_getElem? (i := 41) rfl))) (by decide) (t := (.object "com/example/affordance/affordance/JsonPointer")) (t' := .int) (by decide) (by decide))))
  have f2_4 : Fld Z h2 a1 "com/example/affordance/affordance/Finding" "level" "Lcom/example/affordance/affordance/Level;" .null := (Q_level.other W2 (Or.inr (slot_ne (Or.inr (hw _ (List.mem_of_getElem? (i := 47) rfl))) (Or.inr (hw _ (List.mem_of_getElem? (i := 41) rfl))) (by decide) (t := (.object "com/example/affordance/affordance/Level")) (t' := .int) (by decide) (by decide))))
  have f2_5 : Fld Z h2 a1 "com/example/affordance/affordance/Finding" "rule" "Ljava/lang/String;" .null := (Q_rule.other W2 (Or.inr (slot_ne (Or.inr (hw _ (List.mem_of_getElem? (i := 49) rfl))) (Or.inr (hw _ (List.mem_of_getElem? (i := 41) rfl))) (by decide) (t := (.object "java/lang/String")) (t' := .int) (by decide) (by decide))))
  have f2_6 : Fld Z h2 a1 "com/example/affordance/affordance/Finding" "quoted" "Ljava/lang/String;" .null := (Q_quoted.other W2 (Or.inr (slot_ne (Or.inr (hw _ (List.mem_of_getElem? (i := 56) rfl))) (Or.inr (hw _ (List.mem_of_getElem? (i := 41) rfl))) (by decide) (t := (.object "java/lang/String")) (t' := .int) (by decide) (by decide))))
  have f2_7 : Fld Z h2 a1 "com/example/affordance/affordance/Finding" "rest" "Ljava/lang/String;" .null := (Q_rest.other W2 (Or.inr (slot_ne (Or.inr (hw _ (List.mem_of_getElem? (i := 63) rfl))) (Or.inr (hw _ (List.mem_of_getElem? (i := 41) rfl))) (by decide) (t := (.object "java/lang/String")) (t' := .int) (by decide) (by decide))))
  have f2_8 : Exa Z h2 a6 "com/example/affordance/affordance/Message" := (ME.wr W2)
  have f2_9 : Fld Z h2 a6 "com/example/affordance/affordance/Message" "quoted" "Ljava/lang/String;" .null := (MQ.other W2 (Or.inl (ne_exa ME QE1 (by decide))))
  have f2_10 : Fld Z h2 a6 "com/example/affordance/affordance/Message" "rest" "Ljava/lang/String;" (.ref mr) := (MR.other W2 (Or.inl (ne_exa ME QE1 (by decide))))
  have Zs2 : n0 ≤ h2.size := (Nat.le_trans Z0 (Keep.of_wr W2).1)
  have K2 : Keep h0 h2 [a1] := K0.wr W2 (Or.inl (List.mem_of_getElem? (i := 0) rfl))
  show Go _ _ _ _ _ _ _ T2 (mkF m 9 #[.val (.ref a1), .val (.int p1), .val (.int p2), .val .null, .val (.ref a4), .val (.ref a5), .val (.ref a6)] [])
  refine Go.step (fun t_ k_ => XS.aloadN X2.here hx rfl (hb hby d5_9) rfl rfl k_) ?_
  show Go _ _ _ _ _ _ _ T2 (mkF m 10 #[.val (.ref a1), .val (.int p1), .val (.int p2), .val .null, .val (.ref a4), .val (.ref a5), .val (.ref a6)] [(.ref a1)])
  refine Go.step (fun t_ k_ => XS.iloadN X2.here hx rfl (hb hby d5_10) rfl k_) ?_
  show Go _ _ _ _ _ _ _ T2 (mkF m 11 #[.val (.ref a1), .val (.int p1), .val (.int p2), .val .null, .val (.ref a4), .val (.ref a5), .val (.ref a6)] [(.int p2), (.ref a1)])
  obtain ⟨T3, h3, X3, e3, W3, st3⟩ := putF X2 hx hZ hown (host := "") (Or.inl (hw _ (List.mem_of_getElem? (i := 42) rfl))) Via.refl e2 f2_2 f2_0 (Or.inr ⟨(hw _ (List.mem_of_getElem? (i := 43) rfl)), rfl, hnm⟩) (hw _ (List.mem_of_getElem? (i := 25) rfl)) (ty := .int) (by decide) rfl rfl (g := (mkF m 11 #[.val (.ref a1), .val (.int p1), .val (.int p2), .val .null, .val (.ref a4), .val (.ref a5), .val (.ref a6)] [(.int p2), (.ref a1)])) rfl rfl (hb hby d5_11)
  have N3 := Fr.snoc X3 N2 g1
  refine Go.step st3 ?_
  have f3_0 : Exa Z h3 a1 "com/example/affordance/affordance/Finding" := (f2_0.wr W3)
  have f3_1 : Fld Z h3 a1 "com/example/affordance/affordance/Finding" "line" "I" (.int p1) := (f2_1.other W3 (Or.inr (slot_ne (Or.inr (hw _ (List.mem_of_getElem? (i := 41) rfl))) (Or.inr (hw _ (List.mem_of_getElem? (i := 43) rfl))) (by decide) (t := .int) (t' := .int) (by decide) (by decide))))
  have f3_2 : Fld Z h3 a1 "com/example/affordance/affordance/Finding" "column" "I" (.int p2) := (f2_2.same W3)
  have f3_3 : Fld Z h3 a1 "com/example/affordance/affordance/Finding" "pointer" "Lcom/example/affordance/affordance/JsonPointer;" .null := (f2_3.other W3 (Or.inr (slot_ne (Or.inr (hw _ (List.mem_of_getElem? (i := 45) rfl))) (Or.inr (hw _ (List.mem_of_getElem? (i := 43) rfl))) (by decide) (t := (.object "com/example/affordance/affordance/JsonPointer")) (t' := .int) (by decide) (by decide))))
  have f3_4 : Fld Z h3 a1 "com/example/affordance/affordance/Finding" "level" "Lcom/example/affordance/affordance/Level;" .null := (f2_4.other W3 (Or.inr (slot_ne (Or.inr (hw _ (List.mem_of_getElem? (i := 47) rfl))) (Or.inr (hw _ (List.mem_of_getElem? (i := 43) rfl))) (by decide) (t := (.object "com/example/affordance/affordance/Level")) (t' := .int) (by decide) (by decide))))
  have f3_5 : Fld Z h3 a1 "com/example/affordance/affordance/Finding" "rule" "Ljava/lang/String;" .null := (f2_5.other W3 (Or.inr (slot_ne (Or.inr (hw _ (List.mem_of_getElem? (i := 49) rfl))) (Or.inr (hw _ (List.mem_of_getElem? (i := 43) rfl))) (by decide) (t := (.object "java/lang/String")) (t' := .int) (by decide) (by decide))))
  have f3_6 : Fld Z h3 a1 "com/example/affordance/affordance/Finding" "quoted" "Ljava/lang/String;" .null := (f2_6.other W3 (Or.inr (slot_ne (Or.inr (hw _ (List.mem_of_getElem? (i := 56) rfl))) (Or.inr (hw _ (List.mem_of_getElem? (i := 43) rfl))) (by decide) (t := (.object "java/lang/String")) (t' := .int) (by decide) (by decide))))
  have f3_7 : Fld Z h3 a1 "com/example/affordance/affordance/Finding" "rest" "Ljava/lang/String;" .null := (f2_7.other W3 (Or.inr (slot_ne (Or.inr (hw _ (List.mem_of_getElem? (i := 63) rfl))) (Or.inr (hw _ (List.mem_of_getElem? (i := 43) rfl))) (by decide) (t := (.object "java/lang/String")) (t' := .int) (by decide) (by decide))))
  have f3_8 : Exa Z h3 a6 "com/example/affordance/affordance/Message" := (f2_8.wr W3)
  have f3_9 : Fld Z h3 a6 "com/example/affordance/affordance/Message" "quoted" "Ljava/lang/String;" .null := (f2_9.other W3 (Or.inl (ne_exa f2_8 f2_0 (by decide))))
  have f3_10 : Fld Z h3 a6 "com/example/affordance/affordance/Message" "rest" "Ljava/lang/String;" (.ref mr) := (f2_10.other W3 (Or.inl (ne_exa f2_8 f2_0 (by decide))))
  have Zs3 : n0 ≤ h3.size := (Nat.le_trans Zs2 (Keep.of_wr W3).1)
  have K3 : Keep h0 h3 [a1] := K2.wr W3 (Or.inl (List.mem_of_getElem? (i := 0) rfl))
  show Go _ _ _ _ _ _ _ T3 (mkF m 14 #[.val (.ref a1), .val (.int p1), .val (.int p2), .val .null, .val (.ref a4), .val (.ref a5), .val (.ref a6)] [])
  refine Go.step (fun t_ k_ => XS.aloadN X3.here hx rfl (hb hby d5_14) rfl rfl k_) ?_
  show Go _ _ _ _ _ _ _ T3 (mkF m 15 #[.val (.ref a1), .val (.int p1), .val (.int p2), .val .null, .val (.ref a4), .val (.ref a5), .val (.ref a6)] [(.ref a1)])
  refine Go.step (fun t_ k_ => XS.aloadN X3.here hx rfl (hb hby d5_15) rfl rfl k_) ?_
  show Go _ _ _ _ _ _ _ T3 (mkF m 16 #[.val (.ref a1), .val (.int p1), .val (.int p2), .val .null, .val (.ref a4), .val (.ref a5), .val (.ref a6)] [.null, (.ref a1)])
  obtain ⟨T4, h4, X4, e4, W4, st4⟩ := putF X3 hx hZ hown (host := "") (Or.inl (hw _ (List.mem_of_getElem? (i := 44) rfl))) Via.refl e3 f3_3 f3_0 (Or.inr ⟨(hw _ (List.mem_of_getElem? (i := 45) rfl)), rfl, hnm⟩) (hw _ (List.mem_of_getElem? (i := 25) rfl)) (ty := (.object "com/example/affordance/affordance/JsonPointer")) (by decide) rfl rfl (g := (mkF m 16 #[.val (.ref a1), .val (.int p1), .val (.int p2), .val .null, .val (.ref a4), .val (.ref a5), .val (.ref a6)] [.null, (.ref a1)])) rfl rfl (hb hby d5_16)
  have N4 := Fr.snoc X4 N3 g1
  refine Go.step st4 ?_
  have f4_0 : Exa Z h4 a1 "com/example/affordance/affordance/Finding" := (f3_0.wr W4)
  have f4_1 : Fld Z h4 a1 "com/example/affordance/affordance/Finding" "line" "I" (.int p1) := (f3_1.other W4 (Or.inr (slot_ne (Or.inr (hw _ (List.mem_of_getElem? (i := 41) rfl))) (Or.inr (hw _ (List.mem_of_getElem? (i := 45) rfl))) (by decide) (t := .int) (t' := (.object "com/example/affordance/affordance/JsonPointer")) (by decide) (by decide))))
  have f4_2 : Fld Z h4 a1 "com/example/affordance/affordance/Finding" "column" "I" (.int p2) := (f3_2.other W4 (Or.inr (slot_ne (Or.inr (hw _ (List.mem_of_getElem? (i := 43) rfl))) (Or.inr (hw _ (List.mem_of_getElem? (i := 45) rfl))) (by decide) (t := .int) (t' := (.object "com/example/affordance/affordance/JsonPointer")) (by decide) (by decide))))
  have f4_3 : Fld Z h4 a1 "com/example/affordance/affordance/Finding" "pointer" "Lcom/example/affordance/affordance/JsonPointer;" .null := (f3_3.same W4)
  have f4_4 : Fld Z h4 a1 "com/example/affordance/affordance/Finding" "level" "Lcom/example/affordance/affordance/Level;" .null := (f3_4.other W4 (Or.inr (slot_ne (Or.inr (hw _ (List.mem_of_getElem? (i := 47) rfl))) (Or.inr (hw _ (List.mem_of_getElem? (i := 45) rfl))) (by decide) (t := (.object "com/example/affordance/affordance/Level")) (t' := (.object "com/example/affordance/affordance/JsonPointer")) (by decide) (by decide))))
  have f4_5 : Fld Z h4 a1 "com/example/affordance/affordance/Finding" "rule" "Ljava/lang/String;" .null := (f3_5.other W4 (Or.inr (slot_ne (Or.inr (hw _ (List.mem_of_getElem? (i := 49) rfl))) (Or.inr (hw _ (List.mem_of_getElem? (i := 45) rfl))) (by decide) (t := (.object "java/lang/String")) (t' := (.object "com/example/affordance/affordance/JsonPointer")) (by decide) (by decide))))
  have f4_6 : Fld Z h4 a1 "com/example/affordance/affordance/Finding" "quoted" "Ljava/lang/String;" .null := (f3_6.other W4 (Or.inr (slot_ne (Or.inr (hw _ (List.mem_of_getElem? (i := 56) rfl))) (Or.inr (hw _ (List.mem_of_getElem? (i := 45) rfl))) (by decide) (t := (.object "java/lang/String")) (t' := (.object "com/example/affordance/affordance/JsonPointer")) (by decide) (by decide))))
  have f4_7 : Fld Z h4 a1 "com/example/affordance/affordance/Finding" "rest" "Ljava/lang/String;" .null := (f3_7.other W4 (Or.inr (slot_ne (Or.inr (hw _ (List.mem_of_getElem? (i := 63) rfl))) (Or.inr (hw _ (List.mem_of_getElem? (i := 45) rfl))) (by decide) (t := (.object "java/lang/String")) (t' := (.object "com/example/affordance/affordance/JsonPointer")) (by decide) (by decide))))
  have f4_8 : Exa Z h4 a6 "com/example/affordance/affordance/Message" := (f3_8.wr W4)
  have f4_9 : Fld Z h4 a6 "com/example/affordance/affordance/Message" "quoted" "Ljava/lang/String;" .null := (f3_9.other W4 (Or.inl (ne_exa f3_8 f3_0 (by decide))))
  have f4_10 : Fld Z h4 a6 "com/example/affordance/affordance/Message" "rest" "Ljava/lang/String;" (.ref mr) := (f3_10.other W4 (Or.inl (ne_exa f3_8 f3_0 (by decide))))
  have Zs4 : n0 ≤ h4.size := (Nat.le_trans Zs3 (Keep.of_wr W4).1)
  have K4 : Keep h0 h4 [a1] := K3.wr W4 (Or.inl (List.mem_of_getElem? (i := 0) rfl))
  show Go _ _ _ _ _ _ _ T4 (mkF m 19 #[.val (.ref a1), .val (.int p1), .val (.int p2), .val .null, .val (.ref a4), .val (.ref a5), .val (.ref a6)] [])
  refine Go.step (fun t_ k_ => XS.aloadN X4.here hx rfl (hb hby d5_19) rfl rfl k_) ?_
  show Go _ _ _ _ _ _ _ T4 (mkF m 20 #[.val (.ref a1), .val (.int p1), .val (.int p2), .val .null, .val (.ref a4), .val (.ref a5), .val (.ref a6)] [(.ref a1)])
  refine Go.step (fun t_ k_ => XS.aload X4.here hx rfl (hb hby d5_20) rfl rfl k_) ?_
  show Go _ _ _ _ _ _ _ T4 (mkF m 22 #[.val (.ref a1), .val (.int p1), .val (.int p2), .val .null, .val (.ref a4), .val (.ref a5), .val (.ref a6)] [(.ref a4), (.ref a1)])
  obtain ⟨T5, h5, X5, e5, W5, st5⟩ := putF X4 hx hZ hown (host := "") (Or.inl (hw _ (List.mem_of_getElem? (i := 46) rfl))) Via.refl e4 f4_4 f4_0 (Or.inr ⟨(hw _ (List.mem_of_getElem? (i := 47) rfl)), rfl, hnm⟩) (hw _ (List.mem_of_getElem? (i := 25) rfl)) (ty := (.object "com/example/affordance/affordance/Level")) (by decide) rfl rfl (g := (mkF m 22 #[.val (.ref a1), .val (.int p1), .val (.int p2), .val .null, .val (.ref a4), .val (.ref a5), .val (.ref a6)] [(.ref a4), (.ref a1)])) rfl rfl (hb hby d5_22)
  have N5 := Fr.snoc X5 N4 g1
  refine Go.step st5 ?_
  have f5_0 : Exa Z h5 a1 "com/example/affordance/affordance/Finding" := (f4_0.wr W5)
  have f5_1 : Fld Z h5 a1 "com/example/affordance/affordance/Finding" "line" "I" (.int p1) := (f4_1.other W5 (Or.inr (slot_ne (Or.inr (hw _ (List.mem_of_getElem? (i := 41) rfl))) (Or.inr (hw _ (List.mem_of_getElem? (i := 47) rfl))) (by decide) (t := .int) (t' := (.object "com/example/affordance/affordance/Level")) (by decide) (by decide))))
  have f5_2 : Fld Z h5 a1 "com/example/affordance/affordance/Finding" "column" "I" (.int p2) := (f4_2.other W5 (Or.inr (slot_ne (Or.inr (hw _ (List.mem_of_getElem? (i := 43) rfl))) (Or.inr (hw _ (List.mem_of_getElem? (i := 47) rfl))) (by decide) (t := .int) (t' := (.object "com/example/affordance/affordance/Level")) (by decide) (by decide))))
  have f5_3 : Fld Z h5 a1 "com/example/affordance/affordance/Finding" "pointer" "Lcom/example/affordance/affordance/JsonPointer;" .null := (f4_3.other W5 (Or.inr (slot_ne (Or.inr (hw _ (List.mem_of_getElem? (i := 45) rfl))) (Or.inr (hw _ (List.mem_of_getElem? (i := 47) rfl))) (by decide) (t := (.object "com/example/affordance/affordance/JsonPointer")) (t' := (.object "com/example/affordance/affordance/Level")) (by decide) (by decide))))
  have f5_4 : Fld Z h5 a1 "com/example/affordance/affordance/Finding" "level" "Lcom/example/affordance/affordance/Level;" (.ref a4) := (f4_4.same W5)
  have f5_5 : Fld Z h5 a1 "com/example/affordance/affordance/Finding" "rule" "Ljava/lang/String;" .null := (f4_5.other W5 (Or.inr (slot_ne (Or.inr (hw _ (List.mem_of_getElem? (i := 49) rfl))) (Or.inr (hw _ (List.mem_of_getElem? (i := 47) rfl))) (by decide) (t := (.object "java/lang/String")) (t' := (.object "com/example/affordance/affordance/Level")) (by decide) (by decide))))
  have f5_6 : Fld Z h5 a1 "com/example/affordance/affordance/Finding" "quoted" "Ljava/lang/String;" .null := (f4_6.other W5 (Or.inr (slot_ne (Or.inr (hw _ (List.mem_of_getElem? (i := 56) rfl))) (Or.inr (hw _ (List.mem_of_getElem? (i := 47) rfl))) (by decide) (t := (.object "java/lang/String")) (t' := (.object "com/example/affordance/affordance/Level")) (by decide) (by decide))))
  have f5_7 : Fld Z h5 a1 "com/example/affordance/affordance/Finding" "rest" "Ljava/lang/String;" .null := (f4_7.other W5 (Or.inr (slot_ne (Or.inr (hw _ (List.mem_of_getElem? (i := 63) rfl))) (Or.inr (hw _ (List.mem_of_getElem? (i := 47) rfl))) (by decide) (t := (.object "java/lang/String")) (t' := (.object "com/example/affordance/affordance/Level")) (by decide) (by decide))))
  have f5_8 : Exa Z h5 a6 "com/example/affordance/affordance/Message" := (f4_8.wr W5)
  have f5_9 : Fld Z h5 a6 "com/example/affordance/affordance/Message" "quoted" "Ljava/lang/String;" .null := (f4_9.other W5 (Or.inl (ne_exa f4_8 f4_0 (by decide))))
  have f5_10 : Fld Z h5 a6 "com/example/affordance/affordance/Message" "rest" "Ljava/lang/String;" (.ref mr) := (f4_10.other W5 (Or.inl (ne_exa f4_8 f4_0 (by decide))))
  have Zs5 : n0 ≤ h5.size := (Nat.le_trans Zs4 (Keep.of_wr W5).1)
  have K5 : Keep h0 h5 [a1] := K4.wr W5 (Or.inl (List.mem_of_getElem? (i := 0) rfl))
  show Go _ _ _ _ _ _ _ T5 (mkF m 25 #[.val (.ref a1), .val (.int p1), .val (.int p2), .val .null, .val (.ref a4), .val (.ref a5), .val (.ref a6)] [])
  refine Go.step (fun t_ k_ => XS.aloadN X5.here hx rfl (hb hby d5_25) rfl rfl k_) ?_
  show Go _ _ _ _ _ _ _ T5 (mkF m 26 #[.val (.ref a1), .val (.int p1), .val (.int p2), .val .null, .val (.ref a4), .val (.ref a5), .val (.ref a6)] [(.ref a1)])
  refine Go.step (fun t_ k_ => XS.aload X5.here hx rfl (hb hby d5_26) rfl rfl k_) ?_
  show Go _ _ _ _ _ _ _ T5 (mkF m 28 #[.val (.ref a1), .val (.int p1), .val (.int p2), .val .null, .val (.ref a4), .val (.ref a5), .val (.ref a6)] [(.ref a5), (.ref a1)])
  obtain ⟨T6, h6, X6, e6, W6, st6⟩ := putF X5 hx hZ hown (host := "") (Or.inl (hw _ (List.mem_of_getElem? (i := 48) rfl))) Via.refl e5 f5_5 f5_0 (Or.inr ⟨(hw _ (List.mem_of_getElem? (i := 49) rfl)), rfl, hnm⟩) (hw _ (List.mem_of_getElem? (i := 25) rfl)) (ty := (.object "java/lang/String")) (by decide) rfl rfl (g := (mkF m 28 #[.val (.ref a1), .val (.int p1), .val (.int p2), .val .null, .val (.ref a4), .val (.ref a5), .val (.ref a6)] [(.ref a5), (.ref a1)])) rfl rfl (hb hby d5_28)
  have N6 := Fr.snoc X6 N5 g1
  refine Go.step st6 ?_
  have f6_0 : Exa Z h6 a1 "com/example/affordance/affordance/Finding" := (f5_0.wr W6)
  have f6_1 : Fld Z h6 a1 "com/example/affordance/affordance/Finding" "line" "I" (.int p1) := (f5_1.other W6 (Or.inr (slot_ne (Or.inr (hw _ (List.mem_of_getElem? (i := 41) rfl))) (Or.inr (hw _ (List.mem_of_getElem? (i := 49) rfl))) (by decide) (t := .int) (t' := (.object "java/lang/String")) (by decide) (by decide))))
  have f6_2 : Fld Z h6 a1 "com/example/affordance/affordance/Finding" "column" "I" (.int p2) := (f5_2.other W6 (Or.inr (slot_ne (Or.inr (hw _ (List.mem_of_getElem? (i := 43) rfl))) (Or.inr (hw _ (List.mem_of_getElem? (i := 49) rfl))) (by decide) (t := .int) (t' := (.object "java/lang/String")) (by decide) (by decide))))
  have f6_3 : Fld Z h6 a1 "com/example/affordance/affordance/Finding" "pointer" "Lcom/example/affordance/affordance/JsonPointer;" .null := (f5_3.other W6 (Or.inr (slot_ne (Or.inr (hw _ (List.mem_of_getElem? (i := 45) rfl))) (Or.inr (hw _ (List.mem_of_getElem? (i := 49) rfl))) (by decide) (t := (.object "com/example/affordance/affordance/JsonPointer")) (t' := (.object "java/lang/String")) (by decide) (by decide))))
  have f6_4 : Fld Z h6 a1 "com/example/affordance/affordance/Finding" "level" "Lcom/example/affordance/affordance/Level;" (.ref a4) := (f5_4.other W6 (Or.inr (slot_ne (Or.inr (hw _ (List.mem_of_getElem? (i := 47) rfl))) (Or.inr (hw _ (List.mem_of_getElem? (i := 49) rfl))) (by decide) (t := (.object "com/example/affordance/affordance/Level")) (t' := (.object "java/lang/String")) (by decide) (by decide))))
  have f6_5 : Fld Z h6 a1 "com/example/affordance/affordance/Finding" "rule" "Ljava/lang/String;" (.ref a5) := (f5_5.same W6)
  have f6_6 : Fld Z h6 a1 "com/example/affordance/affordance/Finding" "quoted" "Ljava/lang/String;" .null := (f5_6.other W6 (Or.inr (slot_ne (Or.inr (hw _ (List.mem_of_getElem? (i := 56) rfl))) (Or.inr (hw _ (List.mem_of_getElem? (i := 49) rfl))) (by decide) (t := (.object "java/lang/String")) (t' := (.object "java/lang/String")) (by decide) (by decide))))
  have f6_7 : Fld Z h6 a1 "com/example/affordance/affordance/Finding" "rest" "Ljava/lang/String;" .null := (f5_7.other W6 (Or.inr (slot_ne (Or.inr (hw _ (List.mem_of_getElem? (i := 63) rfl))) (Or.inr (hw _ (List.mem_of_getElem? (i := 49) rfl))) (by decide) (t := (.object "java/lang/String")) (t' := (.object "java/lang/String")) (by decide) (by decide))))
  have f6_8 : Exa Z h6 a6 "com/example/affordance/affordance/Message" := (f5_8.wr W6)
  have f6_9 : Fld Z h6 a6 "com/example/affordance/affordance/Message" "quoted" "Ljava/lang/String;" .null := (f5_9.other W6 (Or.inl (ne_exa f5_8 f5_0 (by decide))))
  have f6_10 : Fld Z h6 a6 "com/example/affordance/affordance/Message" "rest" "Ljava/lang/String;" (.ref mr) := (f5_10.other W6 (Or.inl (ne_exa f5_8 f5_0 (by decide))))
  have Zs6 : n0 ≤ h6.size := (Nat.le_trans Zs5 (Keep.of_wr W6).1)
  have K6 : Keep h0 h6 [a1] := K5.wr W6 (Or.inl (List.mem_of_getElem? (i := 0) rfl))
  show Go _ _ _ _ _ _ _ T6 (mkF m 31 #[.val (.ref a1), .val (.int p1), .val (.int p2), .val .null, .val (.ref a4), .val (.ref a5), .val (.ref a6)] [])
  refine Go.step (fun t_ k_ => XS.aloadN X6.here hx rfl (hb hby d5_31) rfl rfl k_) ?_
  show Go _ _ _ _ _ _ _ T6 (mkF m 32 #[.val (.ref a1), .val (.int p1), .val (.int p2), .val .null, .val (.ref a4), .val (.ref a5), .val (.ref a6)] [(.ref a1)])
  refine Go.step (fun t_ k_ => XS.aload X6.here hx rfl (hb hby d5_32) rfl rfl k_) ?_
  show Go _ _ _ _ _ _ _ T6 (mkF m 34 #[.val (.ref a1), .val (.int p1), .val (.int p2), .val .null, .val (.ref a4), .val (.ref a5), .val (.ref a6)] [(.ref a6), (.ref a1)])
  obtain ⟨cq7, kq7, qa7, qb7, qc7⟩ := isOf hZ e6 f6_8
  obtain ⟨_, _, ⟨T7, L7, k7, n7⟩, -, X7, ⟨Lc7, hQ7, l7, y7, z7⟩, st7⟩ := X6.virtualBack hx (y := (⟨"com/example/affordance/affordance/Message", "quoted", "()Ljava/lang/String;"⟩ : MethodName)) (z := (⟨"com/example/affordance/affordance/Message", "quoted", "()Ljava/lang/String;"⟩ : MethodName)) hown (mvT hZ (hw _ (List.mem_of_getElem? (i := 50) rfl))) (mvT hZ (hw _ (List.mem_of_getElem? (i := 51) rfl))) (notFace_of_selects (args := #[]) (mvT hZ (hw _ (List.mem_of_getElem? (i := 53) rfl)))) (mvT hZ (hw _ (List.mem_of_getElem? (i := 53) rfl))) (mvT hZ (hw _ (List.mem_of_getElem? (i := 52) rfl))) (by decide) (backOf (W := 1) (rmMq l Z a0 hw [] a6 h6 n0 Zs6 f6_9) hZ (hw _ (List.mem_of_getElem? (i := 54) rfl)) (hw _ (List.mem_of_getElem? (i := 10) rfl)) (by decide) (by decide)) qa7 qc7 (g := (mkF m 34 #[.val (.ref a1), .val (.int p1), .val (.int p2), .val .null, .val (.ref a4), .val (.ref a5), .val (.ref a6)] [(.ref a6), (.ref a1)])) rfl (by rw [hml]; rfl) (Steps.refl _) (argsL := []) (rest := [(.ref a1)]) (lenOf pd_1 rfl) rfl (by show 2 * 0 + _ ≤ _; exact Nat.le_of_eq rfl) (hb hby d5_34) (fun _ _ => ⟨rfl, e6, (by decide : 0 + 0 ≤ _), (by decide : 0 + 0 ≤ _)⟩)
  dsimp only [Pt.U, Pt.locs, Pt.cells, Pt.slots] at X7 l7 y7 z7 st7 hQ7
  subst l7 y7 z7
  obtain ⟨rfl, N7q, e7⟩ := hQ7
  have N7 := Fr.app N6 N7q
  refine Go.step (fun t_ k_ => st7.trans k_) ?_
  show Go _ _ _ _ _ _ _ T7 (mkF m 37 #[.val (.ref a1), .val (.int p1), .val (.int p2), .val .null, .val (.ref a4), .val (.ref a5), .val (.ref a6)] [.null, (.ref a1)])
  obtain ⟨T8, h8, X8, e8, W8, st8⟩ := putF X7 hx hZ hown (host := "") (Or.inl (hw _ (List.mem_of_getElem? (i := 55) rfl))) Via.refl (e7) f6_6 f6_0 (Or.inr ⟨(hw _ (List.mem_of_getElem? (i := 56) rfl)), rfl, hnm⟩) (hw _ (List.mem_of_getElem? (i := 25) rfl)) (ty := (.object "java/lang/String")) (by decide) rfl rfl (g := (mkF m 37 #[.val (.ref a1), .val (.int p1), .val (.int p2), .val .null, .val (.ref a4), .val (.ref a5), .val (.ref a6)] [.null, (.ref a1)])) rfl rfl (hb hby d5_37)
  have N8 := Fr.snoc X8 N7 g1
  refine Go.step st8 ?_
  have f8_0 : Exa Z h8 a1 "com/example/affordance/affordance/Finding" := (f6_0.wr W8)
  have f8_1 : Fld Z h8 a1 "com/example/affordance/affordance/Finding" "line" "I" (.int p1) := (f6_1.other W8 (Or.inr (slot_ne (Or.inr (hw _ (List.mem_of_getElem? (i := 41) rfl))) (Or.inr (hw _ (List.mem_of_getElem? (i := 56) rfl))) (by decide) (t := .int) (t' := (.object "java/lang/String")) (by decide) (by decide))))
  have f8_2 : Fld Z h8 a1 "com/example/affordance/affordance/Finding" "column" "I" (.int p2) := (f6_2.other W8 (Or.inr (slot_ne (Or.inr (hw _ (List.mem_of_getElem? (i := 43) rfl))) (Or.inr (hw _ (List.mem_of_getElem? (i := 56) rfl))) (by decide) (t := .int) (t' := (.object "java/lang/String")) (by decide) (by decide))))
  have f8_3 : Fld Z h8 a1 "com/example/affordance/affordance/Finding" "pointer" "Lcom/example/affordance/affordance/JsonPointer;" .null := (f6_3.other W8 (Or.inr (slot_ne (Or.inr (hw _ (List.mem_of_getElem? (i := 45) rfl))) (Or.inr (hw _ (List.mem_of_getElem? (i := 56) rfl))) (by decide) (t := (.object "com/example/affordance/affordance/JsonPointer")) (t' := (.object "java/lang/String")) (by decide) (by decide))))
  have f8_4 : Fld Z h8 a1 "com/example/affordance/affordance/Finding" "level" "Lcom/example/affordance/affordance/Level;" (.ref a4) := (f6_4.other W8 (Or.inr (slot_ne (Or.inr (hw _ (List.mem_of_getElem? (i := 47) rfl))) (Or.inr (hw _ (List.mem_of_getElem? (i := 56) rfl))) (by decide) (t := (.object "com/example/affordance/affordance/Level")) (t' := (.object "java/lang/String")) (by decide) (by decide))))
  have f8_5 : Fld Z h8 a1 "com/example/affordance/affordance/Finding" "rule" "Ljava/lang/String;" (.ref a5) := (f6_5.other W8 (Or.inr (slot_ne (Or.inr (hw _ (List.mem_of_getElem? (i := 49) rfl))) (Or.inr (hw _ (List.mem_of_getElem? (i := 56) rfl))) (by decide) (t := (.object "java/lang/String")) (t' := (.object "java/lang/String")) (by decide) (by decide))))
  have f8_6 : Fld Z h8 a1 "com/example/affordance/affordance/Finding" "quoted" "Ljava/lang/String;" .null := (f6_6.same W8)
  have f8_7 : Fld Z h8 a1 "com/example/affordance/affordance/Finding" "rest" "Ljava/lang/String;" .null := (f6_7.other W8 (Or.inr (slot_ne (Or.inr (hw _ (List.mem_of_getElem? (i := 63) rfl))) (Or.inr (hw _ (List.mem_of_getElem? (i := 56) rfl))) (by decide) (t := (.object "java/lang/String")) (t' := (.object "java/lang/String")) (by decide) (by decide))))
  have f8_8 : Exa Z h8 a6 "com/example/affordance/affordance/Message" := (f6_8.wr W8)
  have f8_9 : Fld Z h8 a6 "com/example/affordance/affordance/Message" "quoted" "Ljava/lang/String;" .null := (f6_9.other W8 (Or.inl (ne_exa f6_8 f6_0 (by decide))))
  have f8_10 : Fld Z h8 a6 "com/example/affordance/affordance/Message" "rest" "Ljava/lang/String;" (.ref mr) := (f6_10.other W8 (Or.inl (ne_exa f6_8 f6_0 (by decide))))
  have Zs8 : n0 ≤ h8.size := (Nat.le_trans Zs6 (Keep.of_wr W8).1)
  have K8 : Keep h0 h8 [a1] := K6.wr W8 (Or.inl (List.mem_of_getElem? (i := 0) rfl))
  show Go _ _ _ _ _ _ _ T8 (mkF m 40 #[.val (.ref a1), .val (.int p1), .val (.int p2), .val .null, .val (.ref a4), .val (.ref a5), .val (.ref a6)] [])
  refine Go.step (fun t_ k_ => XS.aloadN X8.here hx rfl (hb hby d5_40) rfl rfl k_) ?_
  show Go _ _ _ _ _ _ _ T8 (mkF m 41 #[.val (.ref a1), .val (.int p1), .val (.int p2), .val .null, .val (.ref a4), .val (.ref a5), .val (.ref a6)] [(.ref a1)])
  refine Go.step (fun t_ k_ => XS.aload X8.here hx rfl (hb hby d5_41) rfl rfl k_) ?_
  show Go _ _ _ _ _ _ _ T8 (mkF m 43 #[.val (.ref a1), .val (.int p1), .val (.int p2), .val .null, .val (.ref a4), .val (.ref a5), .val (.ref a6)] [(.ref a6), (.ref a1)])
  obtain ⟨cq9, kq9, qa9, qb9, qc9⟩ := isOf hZ e8 f8_8
  obtain ⟨_, _, ⟨T9, L9, k9, n9⟩, -, X9, ⟨Lc9, hQ9, l9, y9, z9⟩, st9⟩ := X8.virtualBack hx (y := (⟨"com/example/affordance/affordance/Message", "rest", "()Ljava/lang/String;"⟩ : MethodName)) (z := (⟨"com/example/affordance/affordance/Message", "rest", "()Ljava/lang/String;"⟩ : MethodName)) hown (mvT hZ (hw _ (List.mem_of_getElem? (i := 57) rfl))) (mvT hZ (hw _ (List.mem_of_getElem? (i := 58) rfl))) (notFace_of_selects (args := #[]) (mvT hZ (hw _ (List.mem_of_getElem? (i := 60) rfl)))) (mvT hZ (hw _ (List.mem_of_getElem? (i := 60) rfl))) (mvT hZ (hw _ (List.mem_of_getElem? (i := 59) rfl))) (by decide) (backOf (W := 1) (rmMr l Z a0 hw [] a6 mr h8 n0 Zs8 f8_10) hZ (hw _ (List.mem_of_getElem? (i := 61) rfl)) (hw _ (List.mem_of_getElem? (i := 10) rfl)) (by decide) (by decide)) qa9 qc9 (g := (mkF m 43 #[.val (.ref a1), .val (.int p1), .val (.int p2), .val .null, .val (.ref a4), .val (.ref a5), .val (.ref a6)] [(.ref a6), (.ref a1)])) rfl (by rw [hml]; rfl) (Steps.refl _) (argsL := []) (rest := [(.ref a1)]) (lenOf pd_1 rfl) rfl (by show 2 * 0 + _ ≤ _; exact Nat.le_of_eq rfl) (hb hby d5_43) (fun _ _ => ⟨rfl, e8, (by decide : 0 + 0 + 0 ≤ _), (by decide : 0 + 0 + 0 ≤ _)⟩)
  dsimp only [Pt.U, Pt.locs, Pt.cells, Pt.slots] at X9 l9 y9 z9 st9 hQ9
  subst l9 y9 z9
  obtain ⟨rfl, N9q, e9⟩ := hQ9
  have N9 := Fr.app N8 N9q
  refine Go.step (fun t_ k_ => st9.trans k_) ?_
  show Go _ _ _ _ _ _ _ T9 (mkF m 46 #[.val (.ref a1), .val (.int p1), .val (.int p2), .val .null, .val (.ref a4), .val (.ref a5), .val (.ref a6)] [(.ref mr), (.ref a1)])
  obtain ⟨T10, h10, X10, e10, W10, st10⟩ := putF X9 hx hZ hown (host := "") (Or.inl (hw _ (List.mem_of_getElem? (i := 62) rfl))) Via.refl (e9) f8_7 f8_0 (Or.inr ⟨(hw _ (List.mem_of_getElem? (i := 63) rfl)), rfl, hnm⟩) (hw _ (List.mem_of_getElem? (i := 25) rfl)) (ty := (.object "java/lang/String")) (by decide) rfl rfl (g := (mkF m 46 #[.val (.ref a1), .val (.int p1), .val (.int p2), .val .null, .val (.ref a4), .val (.ref a5), .val (.ref a6)] [(.ref mr), (.ref a1)])) rfl rfl (hb hby d5_46)
  have N10 := Fr.snoc X10 N9 g1
  refine Go.step st10 ?_
  have f10_0 : Exa Z h10 a1 "com/example/affordance/affordance/Finding" := (f8_0.wr W10)
  have f10_1 : Fld Z h10 a1 "com/example/affordance/affordance/Finding" "line" "I" (.int p1) := (f8_1.other W10 (Or.inr (slot_ne (Or.inr (hw _ (List.mem_of_getElem? (i := 41) rfl))) (Or.inr (hw _ (List.mem_of_getElem? (i := 63) rfl))) (by decide) (t := .int) (t' := (.object "java/lang/String")) (by decide) (by decide))))
  have f10_2 : Fld Z h10 a1 "com/example/affordance/affordance/Finding" "column" "I" (.int p2) := (f8_2.other W10 (Or.inr (slot_ne (Or.inr (hw _ (List.mem_of_getElem? (i := 43) rfl))) (Or.inr (hw _ (List.mem_of_getElem? (i := 63) rfl))) (by decide) (t := .int) (t' := (.object "java/lang/String")) (by decide) (by decide))))
  have f10_3 : Fld Z h10 a1 "com/example/affordance/affordance/Finding" "pointer" "Lcom/example/affordance/affordance/JsonPointer;" .null := (f8_3.other W10 (Or.inr (slot_ne (Or.inr (hw _ (List.mem_of_getElem? (i := 45) rfl))) (Or.inr (hw _ (List.mem_of_getElem? (i := 63) rfl))) (by decide) (t := (.object "com/example/affordance/affordance/JsonPointer")) (t' := (.object "java/lang/String")) (by decide) (by decide))))
  have f10_4 : Fld Z h10 a1 "com/example/affordance/affordance/Finding" "level" "Lcom/example/affordance/affordance/Level;" (.ref a4) := (f8_4.other W10 (Or.inr (slot_ne (Or.inr (hw _ (List.mem_of_getElem? (i := 47) rfl))) (Or.inr (hw _ (List.mem_of_getElem? (i := 63) rfl))) (by decide) (t := (.object "com/example/affordance/affordance/Level")) (t' := (.object "java/lang/String")) (by decide) (by decide))))
  have f10_5 : Fld Z h10 a1 "com/example/affordance/affordance/Finding" "rule" "Ljava/lang/String;" (.ref a5) := (f8_5.other W10 (Or.inr (slot_ne (Or.inr (hw _ (List.mem_of_getElem? (i := 49) rfl))) (Or.inr (hw _ (List.mem_of_getElem? (i := 63) rfl))) (by decide) (t := (.object "java/lang/String")) (t' := (.object "java/lang/String")) (by decide) (by decide))))
  have f10_6 : Fld Z h10 a1 "com/example/affordance/affordance/Finding" "quoted" "Ljava/lang/String;" .null := (f8_6.other W10 (Or.inr (slot_ne (Or.inr (hw _ (List.mem_of_getElem? (i := 56) rfl))) (Or.inr (hw _ (List.mem_of_getElem? (i := 63) rfl))) (by decide) (t := (.object "java/lang/String")) (t' := (.object "java/lang/String")) (by decide) (by decide))))
  have f10_7 : Fld Z h10 a1 "com/example/affordance/affordance/Finding" "rest" "Ljava/lang/String;" (.ref mr) := (f8_7.same W10)
  have f10_8 : Exa Z h10 a6 "com/example/affordance/affordance/Message" := (f8_8.wr W10)
  have f10_9 : Fld Z h10 a6 "com/example/affordance/affordance/Message" "quoted" "Ljava/lang/String;" .null := (f8_9.other W10 (Or.inl (ne_exa f8_8 f8_0 (by decide))))
  have f10_10 : Fld Z h10 a6 "com/example/affordance/affordance/Message" "rest" "Ljava/lang/String;" (.ref mr) := (f8_10.other W10 (Or.inl (ne_exa f8_8 f8_0 (by decide))))
  have Zs10 : n0 ≤ h10.size := (Nat.le_trans Zs8 (Keep.of_wr W10).1)
  have K10 : Keep h0 h10 [a1] := K8.wr W10 (Or.inl (List.mem_of_getElem? (i := 0) rfl))
  show Go _ _ _ _ _ _ _ T10 (mkF m 49 #[.val (.ref a1), .val (.int p1), .val (.int p2), .val .null, .val (.ref a4), .val (.ref a5), .val (.ref a6)] [])
  refine Go.retV X10 hx hlk hret (hb hby d5_49) ?_ (by decide) (by decide)
  show QFi Z _ _ _ _ _ _ _ _ _ _ T10.heap _
  rw [e10]
  exact ⟨rfl, N10, K10, f10_0, f10_4⟩
theorem pn_4 : plainName "java/util/AbstractCollection" = true := by first | (simp [plainName, overriddenIn]; done) | decide +kernel
theorem ef_rmCi (m : MethodId) (a1 : Addr) : entryFrame m #[(.ref a1)] 1 = mkF m 0 #[.val (.ref a1)] [] := by first | (simp [entryFrame, mkF, argsToLocals, Value.category]; done) | rfl
def QCi (Z : State) (a1 : Addr) (h0 : Heap) (n0 : Nat) (v : Option Value) (h : Heap) (L : List Loc) : Prop := v = none ∧ Fr n0 L ∧ h = h0
theorem d10_0 : decode jdk_22_method_1_code 0 = .ok (.aload_n 0, 1) := by decide +kernel
theorem d10_1 : decode jdk_22_method_1_code 1 = .ok (.invokespecial 1, 3) := by decide +kernel
theorem d10_4 : decode jdk_22_method_1_code 4 = .ok (.return_, 1) := by decide +kernel
set_option maxRecDepth 65536 in
set_option maxHeartbeats 40000000 in
theorem rmCi (l : Launch) (Z : State) (a0 : Array Value) (hw : ∀ d ∈ tables_1, d.before a0 Z = true) (ws : List Jvm.Cond) (a1 : Addr) (h0 : Heap) (n0 : Nat) (Z0 : n0 ≤ h0.size) :
    MetFree l (⟨"java/util/AbstractCollection", "<init>", "()V"⟩ : MethodName) (head1 (Jvm.Cond.code (⟨"java/util/AbstractCollection", "<init>", "()V"⟩ : MethodName) jdk_22_method_1_code 1 none :: ws) ({ frames := 1, cells := 0, slots := 0, locals := 12 } : Room)) (fun a U => a = #[(.ref a1)] ∧ Z.Warmed39 U.vm ∧ U.heap = h0) (fun _ _ _ _ _ => True) (fun _ U o U' => ∃ v L, o = .returned v ∧ QCi Z a1  h0 n0 v U'.heap L ∧ FrameEnd U o U' L ({ frames := 1, cells := 0, slots := 0, locals := 12 } : Room).cells ({ frames := 1, cells := 0, slots := 0, locals := 12 } : Room).slots) := by
  refine MetFree.of_bodySF (plainFor_of_name pn_4) hisR ?_
  intro p e s m args below meth c s₁ Bd hml0 hP hK
  obtain ⟨rfl, hZ, hh⟩ := hP
  have hx := Bd.exec
  have hby := Bd.bytes
  have hlk := BodyLoose.notSynchronized Bd
  have hml : c.maxLocals = 1 := hml0
  have hret := Bd.returns
  have hown : s.vm.findClass "java/util/AbstractCollection" = some m.cls := findClass_of_methodNamed Bd.named
  have hnm := (name_of_methodNamed Bd.named Bd.method).1
  have X0 : Stand p l e ({ frames := 1, cells := 0, slots := 0, locals := 12 } : Room) s m #[(.ref a1)] below meth c s₁ [] 0 0 := Stand.of_body Bd
  have e0 : s₁.heap = h0 := by rw [← hh, Bd.state]; rfl
  have N0 := Fr.nil n0
  show Go p e below s ({ frames := 1, cells := 0, slots := 0, locals := 12 } : Room).cells ({ frames := 1, cells := 0, slots := 0, locals := 12 } : Room).slots (QCi Z a1  h0 n0) s₁ (entryFrame m #[(.ref a1)] 1)
  refine Go.cast (ef_rmCi m a1) ?_
  show Go _ _ _ _ _ _ _ s₁ (mkF m 0 #[.val (.ref a1)] [])
  refine Go.step (fun t_ k_ => XS.aloadN X0.here hx rfl (hb hby d10_0) rfl rfl k_) ?_
  show Go _ _ _ _ _ _ _ s₁ (mkF m 1 #[.val (.ref a1)] [(.ref a1)])
  obtain ⟨T1, X1, e1, st1⟩ := initO X0 hx hZ hown (hw _ (List.mem_of_getElem? (i := 84) rfl)) (hw _ (List.mem_of_getElem? (i := 18) rfl)) (hw _ (List.mem_of_getElem? (i := 19) rfl)) e0 (g := (mkF m 1 #[.val (.ref a1)] [(.ref a1)])) rfl (by rw [hml]; rfl) rfl (hb hby d10_1) (by decide) (W := 0) (by show 2 * 0 + _ ≤ _; exact Nat.le_of_eq rfl) (by decide)
  refine Go.step st1 ?_
  show Go _ _ _ _ _ _ _ T1 (mkF m 4 #[.val (.ref a1)] [])
  refine Go.retV X1 hx hlk hret (hb hby d10_4) ?_ (by decide) (by decide)
  show QCi Z _ _ _ _ T1.heap _
  exact ⟨rfl, N0, e1⟩
theorem pn_5 : plainName "java/util/AbstractList" = true := by first | (simp [plainName, overriddenIn]; done) | decide +kernel
theorem ef_rmBi (m : MethodId) (a1 : Addr) : entryFrame m #[(.ref a1)] 1 = mkF m 0 #[.val (.ref a1)] [] := by first | (simp [entryFrame, mkF, argsToLocals, Value.category]; done) | rfl
def QBi (Z : State) (a1 : Addr) (h0 : Heap) (n0 : Nat) (v : Option Value) (h : Heap) (L : List Loc) : Prop := v = none ∧ Fr n0 L ∧ Keep h0 h [a1] ∧ Exa Z h a1 "java/util/ArrayList" ∧ Fld Z h a1 "java/util/AbstractList" "modCount" "I" (.int (0 : Int32)) ∧ Fld Z h a1 "java/util/ArrayList" "size" "I" (.int (0 : Int32)) ∧ Fld Z h a1 "java/util/ArrayList" "elementData" "[Ljava/lang/Object;" .null
theorem d9_0 : decode jdk_39_method_1_code 0 = .ok (.aload_n 0, 1) := by decide +kernel
theorem pd_2 : parseMethodDescriptor "()V" = some ⟨[], none⟩ := by decide +kernel
theorem d9_1 : decode jdk_39_method_1_code 1 = .ok (.invokespecial 1, 3) := by decide +kernel
theorem d9_4 : decode jdk_39_method_1_code 4 = .ok (.aload_n 0, 1) := by decide +kernel
theorem d9_5 : decode jdk_39_method_1_code 5 = .ok (.iconst 0, 1) := by decide +kernel
theorem d9_6 : decode jdk_39_method_1_code 6 = .ok (.putfield 7, 3) := by decide +kernel
theorem d9_9 : decode jdk_39_method_1_code 9 = .ok (.return_, 1) := by decide +kernel
set_option maxRecDepth 65536 in
set_option maxHeartbeats 40000000 in
theorem rmBi (l : Launch) (Z : State) (a0 : Array Value) (hw : ∀ d ∈ tables_1, d.before a0 Z = true) (ws : List Jvm.Cond) (a1 : Addr) (h0 : Heap) (n0 : Nat) (Z0 : n0 ≤ h0.size) (g1 : n0 ≤ a1) (QE1 : Exa Z h0 a1 "java/util/ArrayList") (Q_mc : Fld Z h0 a1 "java/util/AbstractList" "modCount" "I" (.int (0 : Int32))) (Q_sz : Fld Z h0 a1 "java/util/ArrayList" "size" "I" (.int (0 : Int32))) (Q_el : Fld Z h0 a1 "java/util/ArrayList" "elementData" "[Ljava/lang/Object;" .null) :
    MetFree l (⟨"java/util/AbstractList", "<init>", "()V"⟩ : MethodName) (head1 (Jvm.Cond.code (⟨"java/util/AbstractList", "<init>", "()V"⟩ : MethodName) jdk_39_method_1_code 1 none :: ws) ({ frames := 2, cells := 0, slots := 0, locals := 26 } : Room)) (fun a U => a = #[(.ref a1)] ∧ Z.Warmed39 U.vm ∧ U.heap = h0) (fun _ _ _ _ _ => True) (fun _ U o U' => ∃ v L, o = .returned v ∧ QBi Z a1  h0 n0 v U'.heap L ∧ FrameEnd U o U' L ({ frames := 2, cells := 0, slots := 0, locals := 26 } : Room).cells ({ frames := 2, cells := 0, slots := 0, locals := 26 } : Room).slots) := by
  refine MetFree.of_bodySF (plainFor_of_name pn_5) hisR ?_
  intro p e s m args below meth c s₁ Bd hml0 hP hK
  obtain ⟨rfl, hZ, hh⟩ := hP
  have hx := Bd.exec
  have hby := Bd.bytes
  have hlk := BodyLoose.notSynchronized Bd
  have hml : c.maxLocals = 1 := hml0
  have hret := Bd.returns
  have hown : s.vm.findClass "java/util/AbstractList" = some m.cls := findClass_of_methodNamed Bd.named
  have hnm := (name_of_methodNamed Bd.named Bd.method).1
  have X0 : Stand p l e ({ frames := 2, cells := 0, slots := 0, locals := 26 } : Room) s m #[(.ref a1)] below meth c s₁ [] 0 0 := Stand.of_body Bd
  have e0 : s₁.heap = h0 := by rw [← hh, Bd.state]; rfl
  have N0 := Fr.nil n0
  show Go p e below s ({ frames := 2, cells := 0, slots := 0, locals := 26 } : Room).cells ({ frames := 2, cells := 0, slots := 0, locals := 26 } : Room).slots (QBi Z a1  h0 n0) s₁ (entryFrame m #[(.ref a1)] 1)
  refine Go.cast (ef_rmBi m a1) ?_
  have K0 : Keep h0 h0 [a1] := Keep.refl _ _
  show Go _ _ _ _ _ _ _ s₁ (mkF m 0 #[.val (.ref a1)] [])
  refine Go.step (fun t_ k_ => XS.aloadN X0.here hx rfl (hb hby d9_0) rfl rfl k_) ?_
  show Go _ _ _ _ _ _ _ s₁ (mkF m 1 #[.val (.ref a1)] [(.ref a1)])
  obtain ⟨_, _, ⟨T1, L1, k1, n1⟩, -, X1, ⟨Lc1, hQ1, l1, y1, z1⟩, st1⟩ := X0.specialBack hx (y := (⟨"java/util/AbstractCollection", "<init>", "()V"⟩ : MethodName)) rfl hown (mvT hZ (hw _ (List.mem_of_getElem? (i := 78) rfl))) (mvT hZ (hw _ (List.mem_of_getElem? (i := 79) rfl))) (mvT hZ (hw _ (List.mem_of_getElem? (i := 83) rfl))) (by decide) (backOf (W := 0) (rmCi l Z a0 hw [] a1 h0 n0 Z0 ) hZ (hw _ (List.mem_of_getElem? (i := 83) rfl)) (hw _ (List.mem_of_getElem? (i := 82) rfl)) (by decide) (by decide)) (g := (mkF m 1 #[.val (.ref a1)] [(.ref a1)])) rfl (by rw [hml]; rfl) (Steps.refl _) (a := a1) (argsL := []) (rest := []) (lenOf pd_2 rfl) rfl (by show 2 * 0 + _ ≤ _; exact Nat.le_of_eq rfl) (hb hby d9_1) (fun _ _ => ⟨rfl, e0, (by decide : 0 + 0 ≤ _), (by decide : 0 + 0 ≤ _)⟩)
  dsimp only [Pt.U, Pt.locs, Pt.cells, Pt.slots] at X1 l1 y1 z1 st1 hQ1
  subst l1 y1 z1
  obtain ⟨rfl, N1q, e1⟩ := hQ1
  have N1 := Fr.app N0 N1q
  refine Go.step (fun t_ k_ => st1.trans k_) ?_
  show Go _ _ _ _ _ _ _ T1 (mkF m 4 #[.val (.ref a1)] [])
  refine Go.step (fun t_ k_ => XS.aloadN X1.here hx rfl (hb hby d9_4) rfl rfl k_) ?_
  show Go _ _ _ _ _ _ _ T1 (mkF m 5 #[.val (.ref a1)] [(.ref a1)])
  refine Go.step (fun t_ k_ => XS.iconst X1.here hx rfl (hb hby d9_5) k_) ?_
  show Go _ _ _ _ _ _ _ T1 (mkF m 6 #[.val (.ref a1)] [(.int (0 : Int32)), (.ref a1)])
  obtain ⟨T2, h2, X2, e2, W2, st2⟩ := putF X1 hx hZ hown (host := "") (Or.inl (hw _ (List.mem_of_getElem? (i := 85) rfl))) Via.refl (e1) Q_mc QE1 (Or.inl (hw _ (List.mem_of_getElem? (i := 86) rfl))) (hw _ (List.mem_of_getElem? (i := 67) rfl)) (ty := .int) (by decide) rfl rfl (g := (mkF m 6 #[.val (.ref a1)] [(.int (0 : Int32)), (.ref a1)])) rfl rfl (hb hby d9_6)
  have N2 := Fr.snoc X2 N1 g1
  refine Go.step st2 ?_
  have f2_0 : Exa Z h2 a1 "java/util/ArrayList" := (QE1.wr W2)
  have f2_1 : Fld Z h2 a1 "java/util/AbstractList" "modCount" "I" (.int (0 : Int32)) := (Q_mc.same W2)
  have f2_2 : Fld Z h2 a1 "java/util/ArrayList" "size" "I" (.int (0 : Int32)) := (Q_sz.other W2 (Or.inr (slot_ne (Or.inl (hw _ (List.mem_of_getElem? (i := 98) rfl))) (Or.inl (hw _ (List.mem_of_getElem? (i := 86) rfl))) (by decide) (t := .int) (t' := .int) (by decide) (by decide))))
  have f2_3 : Fld Z h2 a1 "java/util/ArrayList" "elementData" "[Ljava/lang/Object;" .null := (Q_el.other W2 (Or.inr (slot_ne (Or.inl (hw _ (List.mem_of_getElem? (i := 89) rfl))) (Or.inl (hw _ (List.mem_of_getElem? (i := 86) rfl))) (by decide) (t := (.array (.object "java/lang/Object"))) (t' := .int) (by decide) (by decide))))
  have Zs2 : n0 ≤ h2.size := (Nat.le_trans Z0 (Keep.of_wr W2).1)
  have K2 : Keep h0 h2 [a1] := K0.wr W2 (Or.inl (List.mem_of_getElem? (i := 0) rfl))
  show Go _ _ _ _ _ _ _ T2 (mkF m 9 #[.val (.ref a1)] [])
  refine Go.retV X2 hx hlk hret (hb hby d9_9) ?_ (by decide) (by decide)
  show QBi Z _ _ _ _ T2.heap _
  rw [e2]
  exact ⟨rfl, N2, K2, f2_0, f2_1, f2_2, f2_3⟩
theorem pn_6 : plainName "java/util/ArrayList" = true := by first | (simp [plainName, overriddenIn]; done) | decide +kernel
theorem ef_rmAi (m : MethodId) (a1 : Addr) : entryFrame m #[(.ref a1)] 1 = mkF m 0 #[.val (.ref a1)] [] := by first | (simp [entryFrame, mkF, argsToLocals, Value.category]; done) | rfl
def QAi (Z : State) (a1 : Addr) (dc : Addr) (h0 : Heap) (n0 : Nat) (v : Option Value) (h : Heap) (L : List Loc) : Prop := v = none ∧ Fr n0 L ∧ Keep h0 h [a1] ∧ Exa Z h a1 "java/util/ArrayList" ∧ Fld Z h a1 "java/util/AbstractList" "modCount" "I" (.int (0 : Int32)) ∧ Fld Z h a1 "java/util/ArrayList" "size" "I" (.int (0 : Int32)) ∧ Fld Z h a1 "java/util/ArrayList" "elementData" "[Ljava/lang/Object;" (.ref dc)
theorem d8_0 : decode jdk_38_method_2_code 0 = .ok (.aload_n 0, 1) := by decide +kernel
theorem d8_1 : decode jdk_38_method_2_code 1 = .ok (.invokespecial 1, 3) := by decide +kernel
theorem d8_4 : decode jdk_38_method_2_code 4 = .ok (.aload_n 0, 1) := by decide +kernel
theorem d8_5 : decode jdk_38_method_2_code 5 = .ok (.getstatic 39, 3) := by decide +kernel
theorem d8_8 : decode jdk_38_method_2_code 8 = .ok (.putfield 9, 3) := by decide +kernel
theorem d8_11 : decode jdk_38_method_2_code 11 = .ok (.return_, 1) := by decide +kernel
set_option maxRecDepth 65536 in
set_option maxHeartbeats 40000000 in
theorem rmAi (l : Launch) (Z : State) (a0 : Array Value) (hw : ∀ d ∈ tables_1, d.before a0 Z = true) (ws : List Jvm.Cond) (a1 : Addr) (dc : Addr) (h0 : Heap) (n0 : Nat) (Z0 : n0 ≤ h0.size) (O0 : Old Z n0 h0) (S_DC : Sta Z Z.heap "java/util/ArrayList" "DEFAULTCAPACITY_EMPTY_ELEMENTDATA" "[Ljava/lang/Object;" (.ref dc)) (g1 : n0 ≤ a1) (QE1 : Exa Z h0 a1 "java/util/ArrayList") (Q_mc : Fld Z h0 a1 "java/util/AbstractList" "modCount" "I" (.int (0 : Int32))) (Q_sz : Fld Z h0 a1 "java/util/ArrayList" "size" "I" (.int (0 : Int32))) (Q_el : Fld Z h0 a1 "java/util/ArrayList" "elementData" "[Ljava/lang/Object;" .null) :
    MetFree l (⟨"java/util/ArrayList", "<init>", "()V"⟩ : MethodName) (head1 (Jvm.Cond.code (⟨"java/util/ArrayList", "<init>", "()V"⟩ : MethodName) jdk_38_method_2_code 1 none :: ws) ({ frames := 3, cells := 0, slots := 0, locals := 40 } : Room)) (fun a U => a = #[(.ref a1)] ∧ Z.Warmed39 U.vm ∧ U.heap = h0) (fun _ _ _ _ _ => True) (fun _ U o U' => ∃ v L, o = .returned v ∧ QAi Z a1 dc h0 n0 v U'.heap L ∧ FrameEnd U o U' L ({ frames := 3, cells := 0, slots := 0, locals := 40 } : Room).cells ({ frames := 3, cells := 0, slots := 0, locals := 40 } : Room).slots) := by
  refine MetFree.of_bodySF (plainFor_of_name pn_6) hisR ?_
  intro p e s m args below meth c s₁ Bd hml0 hP hK
  obtain ⟨rfl, hZ, hh⟩ := hP
  have hx := Bd.exec
  have hby := Bd.bytes
  have hlk := BodyLoose.notSynchronized Bd
  have hml : c.maxLocals = 1 := hml0
  have hret := Bd.returns
  have hown : s.vm.findClass "java/util/ArrayList" = some m.cls := findClass_of_methodNamed Bd.named
  have hnm := (name_of_methodNamed Bd.named Bd.method).1
  have X0 : Stand p l e ({ frames := 3, cells := 0, slots := 0, locals := 40 } : Room) s m #[(.ref a1)] below meth c s₁ [] 0 0 := Stand.of_body Bd
  have e0 : s₁.heap = h0 := by rw [← hh, Bd.state]; rfl
  have N0 := Fr.nil n0
  show Go p e below s ({ frames := 3, cells := 0, slots := 0, locals := 40 } : Room).cells ({ frames := 3, cells := 0, slots := 0, locals := 40 } : Room).slots (QAi Z a1 dc h0 n0) s₁ (entryFrame m #[(.ref a1)] 1)
  refine Go.cast (ef_rmAi m a1) ?_
  have K0 : Keep h0 h0 [a1] := Keep.refl _ _
  show Go _ _ _ _ _ _ _ s₁ (mkF m 0 #[.val (.ref a1)] [])
  refine Go.step (fun t_ k_ => XS.aloadN X0.here hx rfl (hb hby d8_0) rfl rfl k_) ?_
  show Go _ _ _ _ _ _ _ s₁ (mkF m 1 #[.val (.ref a1)] [(.ref a1)])
  obtain ⟨_, _, ⟨T1, L1, k1, n1⟩, -, X1, ⟨Lc1, hQ1, l1, y1, z1⟩, st1⟩ := X0.specialBack hx (y := (⟨"java/util/AbstractList", "<init>", "()V"⟩ : MethodName)) rfl hown (mvT hZ (hw _ (List.mem_of_getElem? (i := 72) rfl))) (mvT hZ (hw _ (List.mem_of_getElem? (i := 73) rfl))) (mvT hZ (hw _ (List.mem_of_getElem? (i := 77) rfl))) (by decide) (backOf (W := 0) (rmBi l Z a0 hw [] a1 h0 n0 Z0 g1 QE1 Q_mc Q_sz Q_el) hZ (hw _ (List.mem_of_getElem? (i := 77) rfl)) (hw _ (List.mem_of_getElem? (i := 76) rfl)) (by decide) (by decide)) (g := (mkF m 1 #[.val (.ref a1)] [(.ref a1)])) rfl (by rw [hml]; rfl) (Steps.refl _) (a := a1) (argsL := []) (rest := []) (lenOf pd_2 rfl) rfl (by show 2 * 0 + _ ≤ _; exact Nat.le_of_eq rfl) (hb hby d8_1) (fun _ _ => ⟨rfl, e0, (by decide : 0 + 0 ≤ _), (by decide : 0 + 0 ≤ _)⟩)
  dsimp only [Pt.U, Pt.locs, Pt.cells, Pt.slots] at X1 l1 y1 z1 st1 hQ1
  subst l1 y1 z1
  obtain ⟨rfl, N1q, Kq1, Eq1, Fa1, Fb1, Fc1⟩ := hQ1
  have N1 := Fr.app N0 N1q
  have f1_1 : Exa Z T1.heap a1 "java/util/ArrayList" := Eq1
  have f1_2 : Fld Z T1.heap a1 "java/util/AbstractList" "modCount" "I" (.int (0 : Int32)) := Fa1
  have f1_3 : Fld Z T1.heap a1 "java/util/ArrayList" "size" "I" (.int (0 : Int32)) := Fb1
  have f1_4 : Fld Z T1.heap a1 "java/util/ArrayList" "elementData" "[Ljava/lang/Object;" .null := Fc1
  have Zs1 : n0 ≤ T1.heap.size := (Nat.le_trans Z0 Kq1.1)
  have O1 : Old Z n0 T1.heap := O0.keep Kq1 (allS g1 all0)
  have K1 : Keep h0 T1.heap [a1] := K0.trans Kq1 (allS (Or.inl (List.mem_of_getElem? (i := 0) rfl)) all0)
  refine Go.step (fun t_ k_ => st1.trans k_) ?_
  show Go _ _ _ _ _ _ _ T1 (mkF m 4 #[.val (.ref a1)] [])
  refine Go.step (fun t_ k_ => XS.aloadN X1.here hx rfl (hb hby d8_4) rfl rfl k_) ?_
  show Go _ _ _ _ _ _ _ T1 (mkF m 5 #[.val (.ref a1)] [(.ref a1)])
  obtain ⟨T2, X2, e2, st2⟩ := getS2 X1 hx hZ hown (host := "") (Or.inl (hw _ (List.mem_of_getElem? (i := 87) rfl))) Via.refl rfl (S_DC.ext O1.2) (g := (mkF m 5 #[.val (.ref a1)] [(.ref a1)])) rfl (hb hby d8_5)
  refine Go.step st2 ?_
  show Go _ _ _ _ _ _ _ T2 (mkF m 8 #[.val (.ref a1)] [(.ref dc), (.ref a1)])
  obtain ⟨T3, h3, X3, e3, W3, st3⟩ := putF X2 hx hZ hown (host := "") (Or.inl (hw _ (List.mem_of_getElem? (i := 88) rfl))) Via.refl e2 f1_4 f1_1 (Or.inl (hw _ (List.mem_of_getElem? (i := 89) rfl))) (hw _ (List.mem_of_getElem? (i := 67) rfl)) (ty := (.array (.object "java/lang/Object"))) (by decide) rfl rfl (g := (mkF m 8 #[.val (.ref a1)] [(.ref dc), (.ref a1)])) rfl rfl (hb hby d8_8)
  have N3 := Fr.snoc X3 N1 g1
  refine Go.step st3 ?_
  have f3_1 : Exa Z h3 a1 "java/util/ArrayList" := (f1_1.wr W3)
  have f3_2 : Fld Z h3 a1 "java/util/AbstractList" "modCount" "I" (.int (0 : Int32)) := (f1_2.other W3 (Or.inr (slot_ne (Or.inl (hw _ (List.mem_of_getElem? (i := 86) rfl))) (Or.inl (hw _ (List.mem_of_getElem? (i := 89) rfl))) (by decide) (t := .int) (t' := (.array (.object "java/lang/Object"))) (by decide) (by decide))))
  have f3_3 : Fld Z h3 a1 "java/util/ArrayList" "size" "I" (.int (0 : Int32)) := (f1_3.other W3 (Or.inr (slot_ne (Or.inl (hw _ (List.mem_of_getElem? (i := 98) rfl))) (Or.inl (hw _ (List.mem_of_getElem? (i := 89) rfl))) (by decide) (t := .int) (t' := (.array (.object "java/lang/Object"))) (by decide) (by decide))))
  have f3_4 : Fld Z h3 a1 "java/util/ArrayList" "elementData" "[Ljava/lang/Object;" (.ref dc) := (f1_4.same W3)
  have Zs3 : n0 ≤ h3.size := (Nat.le_trans Zs1 (Keep.of_wr W3).1)
  have O3 : Old Z n0 h3 := O1.wr W3 g1
  have K3 : Keep h0 h3 [a1] := K1.wr W3 (Or.inl (List.mem_of_getElem? (i := 0) rfl))
  show Go _ _ _ _ _ _ _ T3 (mkF m 11 #[.val (.ref a1)] [])
  refine Go.retV X3 hx hlk hret (hb hby d8_11) ?_ (by decide) (by decide)
  show QAi Z _ _ _ _ _ T3.heap _
  rw [e3]
  exact ⟨rfl, N3, K3, f3_1, f3_2, f3_3, f3_4⟩
theorem ef_rmMx (m : MethodId)  : entryFrame m #[(.int (10 : Int32)), (.int (1 : Int32))] 2 = mkF m 0 #[.val (.int (10 : Int32)), .val (.int (1 : Int32))] [] := by first | (simp [entryFrame, mkF, argsToLocals, Value.category]; done) | rfl
def QMx (Z : State)  (h0 : Heap) (n0 : Nat) (v : Option Value) (h : Heap) (L : List Loc) : Prop := v = some (.int (10 : Int32)) ∧ Fr n0 L ∧ h = h0
theorem d15_0 : decode jdk_29_method_65_code 0 = .ok (.iload_n 0, 1) := by decide +kernel
theorem d15_1 : decode jdk_29_method_65_code 1 = .ok (.iload_n 1, 1) := by decide +kernel
theorem d15_2 : decode jdk_29_method_65_code 2 = .ok (.if_icmp .lt 7, 3) := by decide +kernel
theorem d15_5 : decode jdk_29_method_65_code 5 = .ok (.iload_n 0, 1) := by decide +kernel
theorem d15_6 : decode jdk_29_method_65_code 6 = .ok (.goto 4, 3) := by decide +kernel
theorem d15_10 : decode jdk_29_method_65_code 10 = .ok (.ireturn, 1) := by decide +kernel
set_option maxRecDepth 65536 in
set_option maxHeartbeats 40000000 in
theorem rmMx (l : Launch) (Z : State) (a0 : Array Value) (hw : ∀ d ∈ tables_1, d.before a0 Z = true) (ws : List Jvm.Cond)  (h0 : Heap) (n0 : Nat) (Z0 : n0 ≤ h0.size) :
    MetFree l (⟨"java/lang/Math", "max", "(II)I"⟩ : MethodName) (head1 (Jvm.Cond.code (⟨"java/lang/Math", "max", "(II)I"⟩ : MethodName) jdk_29_method_65_code 2 (some .int) :: ws) ({ frames := 0, cells := 0, slots := 0, locals := 0 } : Room)) (fun a U => a = #[(.int (10 : Int32)), (.int (1 : Int32))] ∧ Z.Warmed39 U.vm ∧ U.heap = h0) (fun _ _ _ _ _ => True) (fun _ U o U' => ∃ v L, o = .returned v ∧ QMx Z   h0 n0 v U'.heap L ∧ FrameEnd U o U' L ({ frames := 0, cells := 0, slots := 0, locals := 0 } : Room).cells ({ frames := 0, cells := 0, slots := 0, locals := 0 } : Room).slots) := by
  refine MetFree.of_bodySF (Jvm.Free.JP.mathPlain rfl (by decide +kernel)) hisR ?_
  intro p e s m args below meth c s₁ Bd hml0 hP hK
  obtain ⟨rfl, hZ, hh⟩ := hP
  have hx := Bd.exec
  have hby := Bd.bytes
  have hlk := BodyLoose.notSynchronized Bd
  have hml : c.maxLocals = 2 := hml0
  have hret := Bd.returns
  have hown : s.vm.findClass "java/lang/Math" = some m.cls := findClass_of_methodNamed Bd.named
  have hnm := (name_of_methodNamed Bd.named Bd.method).1
  have X0 : Stand p l e ({ frames := 0, cells := 0, slots := 0, locals := 0 } : Room) s m #[(.int (10 : Int32)), (.int (1 : Int32))] below meth c s₁ [] 0 0 := Stand.of_body Bd
  have e0 : s₁.heap = h0 := by rw [← hh, Bd.state]; rfl
  have N0 := Fr.nil n0
  show Go p e below s ({ frames := 0, cells := 0, slots := 0, locals := 0 } : Room).cells ({ frames := 0, cells := 0, slots := 0, locals := 0 } : Room).slots (QMx Z   h0 n0) s₁ (entryFrame m #[(.int (10 : Int32)), (.int (1 : Int32))] 2)
  refine Go.cast (ef_rmMx m ) ?_
  show Go _ _ _ _ _ _ _ s₁ (mkF m 0 #[.val (.int (10 : Int32)), .val (.int (1 : Int32))] [])
  refine Go.step (fun t_ k_ => XS.iloadN X0.here hx rfl (hb hby d15_0) rfl k_) ?_
  show Go _ _ _ _ _ _ _ s₁ (mkF m 1 #[.val (.int (10 : Int32)), .val (.int (1 : Int32))] [(.int (10 : Int32))])
  refine Go.step (fun t_ k_ => XS.iloadN X0.here hx rfl (hb hby d15_1) rfl k_) ?_
  show Go _ _ _ _ _ _ _ s₁ (mkF m 2 #[.val (.int (10 : Int32)), .val (.int (1 : Int32))] [(.int (1 : Int32)), (.int (10 : Int32))])
  have hb2_1 : ¬ ((10 : Int32) < (1 : Int32)) := by decide
  refine Go.step (fun t_ k_ => XS.icmpNo X0.here hx rfl (hb hby d15_2) rfl (XT.ii_lt_f hb2_1) k_) ?_
  show Go _ _ _ _ _ _ _ s₁ (mkF m 5 #[.val (.int (10 : Int32)), .val (.int (1 : Int32))] [])
  refine Go.step (fun t_ k_ => XS.iloadN X0.here hx rfl (hb hby d15_5) rfl k_) ?_
  show Go _ _ _ _ _ _ _ s₁ (mkF m 6 #[.val (.int (10 : Int32)), .val (.int (1 : Int32))] [(.int (10 : Int32))])
  refine Go.step (fun t_ k_ => XS.goto X0.here hx rfl (pc0 := 6) (pc' := 10) rfl (hb hby d15_6) (by decide) (by decide) k_) ?_
  show Go _ _ _ _ _ _ _ s₁ (mkF m 10 #[.val (.int (10 : Int32)), .val (.int (1 : Int32))] [(.int (10 : Int32))])
  refine Go.ret X0 hx hlk hret rfl (Or.inl ⟨rfl, Or.inl rfl, _, rfl⟩) (hb hby d15_10) ?_ (by decide) (by decide)
  show QMx Z  _ _ _ s₁.heap _
  exact ⟨rfl, N0, e0⟩
theorem ef_rmG1 (m : MethodId) (a1 : Addr) : entryFrame m #[(.ref a1), (.int (1 : Int32))] 4 = mkF m 0 #[.val (.ref a1), .val (.int (1 : Int32)), .unset, .unset] [] := by first | (simp [entryFrame, mkF, argsToLocals, Value.category]; done) | rfl
def QG1 (Z : State) (a1 : Addr) (dc : Addr) (kd : ClassId) (vd : List Value) (mc : Int32) (h0 : Heap) (n0 : Nat) (v : Option Value) (h : Heap) (L : List Loc) : Prop := ∃ (t : Addr) (kt : ClassId), v = some (.ref t) ∧ Fr n0 L ∧ Keep h0 h [a1] ∧ n0 ≤ t ∧ h0.size ≤ t ∧ Exa Z h a1 "java/util/ArrayList" ∧ Fld Z h a1 "java/util/AbstractList" "modCount" "I" (.int mc) ∧ Fld Z h a1 "java/util/ArrayList" "size" "I" (.int (0 : Int32)) ∧ Fld Z h a1 "java/util/ArrayList" "elementData" "[Ljava/lang/Object;" (.ref t) ∧ Arv Z h t kt (.object "java/lang/Object") (10 : Int32) [Value.null, Value.null, Value.null, Value.null, Value.null, Value.null, Value.null, Value.null, Value.null, Value.null] .null ∧ Ovr Z kt "java/lang/Object"
theorem d14_0 : decode jdk_38_method_6_code 0 = .ok (.aload_n 0, 1) := by decide +kernel
theorem d14_1 : decode jdk_38_method_6_code 1 = .ok (.getfield 9, 3) := by decide +kernel
theorem d14_4 : decode jdk_38_method_6_code 4 = .ok (.arraylength, 1) := by decide +kernel
theorem d14_5 : decode jdk_38_method_6_code 5 = .ok (.istore_n 2, 1) := by decide +kernel
theorem d14_6 : decode jdk_38_method_6_code 6 = .ok (.iload_n 2, 1) := by decide +kernel
theorem d14_7 : decode jdk_38_method_6_code 7 = .ok (.ifCond .gt 13, 3) := by decide +kernel
theorem d14_10 : decode jdk_38_method_6_code 10 = .ok (.aload_n 0, 1) := by decide +kernel
theorem d14_11 : decode jdk_38_method_6_code 11 = .ok (.getfield 9, 3) := by decide +kernel
theorem d14_14 : decode jdk_38_method_6_code 14 = .ok (.getstatic 39, 3) := by decide +kernel
theorem d14_17 : decode jdk_38_method_6_code 17 = .ok (.if_acmp .eq 28, 3) := by decide +kernel
theorem d14_45 : decode jdk_38_method_6_code 45 = .ok (.aload_n 0, 1) := by decide +kernel
theorem d14_46 : decode jdk_38_method_6_code 46 = .ok (.bipush 10, 2) := by decide +kernel
theorem d14_48 : decode jdk_38_method_6_code 48 = .ok (.iload_n 1, 1) := by decide +kernel
theorem pd_3 : parseMethodDescriptor "(II)I" = some ⟨[.int, .int], some .int⟩ := by decide +kernel
theorem d14_49 : decode jdk_38_method_6_code 49 = .ok (.invokestatic 79, 3) := by decide +kernel
theorem d14_52 : decode jdk_38_method_6_code 52 = .ok (.anewarray 7, 3) := by decide +kernel
theorem d14_55 : decode jdk_38_method_6_code 55 = .ok (.dup_x1, 1) := by decide +kernel
theorem d14_56 : decode jdk_38_method_6_code 56 = .ok (.putfield 9, 3) := by decide +kernel
theorem d14_59 : decode jdk_38_method_6_code 59 = .ok (.areturn, 1) := by decide +kernel
set_option maxRecDepth 65536 in
set_option maxHeartbeats 40000000 in
theorem rmG1 (l : Launch) (Z : State) (a0 : Array Value) (hw : ∀ d ∈ tables_1, d.before a0 Z = true) (ws : List Jvm.Cond) (a1 : Addr) (dc : Addr) (kd : ClassId) (vd : List Value) (mc : Int32) (h0 : Heap) (n0 : Nat) (Z0 : n0 ≤ h0.size) (O0 : Old Z n0 h0) (S_DC : Sta Z Z.heap "java/util/ArrayList" "DEFAULTCAPACITY_EMPTY_ELEMENTDATA" "[Ljava/lang/Object;" (.ref dc)) (g1 : n0 ≤ a1) (QE1 : Exa Z h0 a1 "java/util/ArrayList") (Q_mc : Fld Z h0 a1 "java/util/AbstractList" "modCount" "I" (.int mc)) (Q_sz : Fld Z h0 a1 "java/util/ArrayList" "size" "I" (.int (0 : Int32))) (Q_el : Fld Z h0 a1 "java/util/ArrayList" "elementData" "[Ljava/lang/Object;" (.ref dc)) (Q_dc : Arv Z h0 dc kd (.object "java/lang/Object") (0 : Int32) vd .null) :
    MetFree l (⟨"java/util/ArrayList", "grow", "(I)[Ljava/lang/Object;"⟩ : MethodName) (head1 (Jvm.Cond.code (⟨"java/util/ArrayList", "grow", "(I)[Ljava/lang/Object;"⟩ : MethodName) jdk_38_method_6_code 4 (some (.array (.object "java/lang/Object"))) :: ws) ({ frames := 1, cells := 1, slots := 10, locals := 16 } : Room)) (fun a U => a = #[(.ref a1), (.int (1 : Int32))] ∧ Z.Warmed39 U.vm ∧ U.heap = h0) (fun _ _ _ _ _ => True) (fun _ U o U' => ∃ v L, o = .returned v ∧ QG1 Z a1 dc kd vd mc h0 n0 v U'.heap L ∧ FrameEnd U o U' L ({ frames := 1, cells := 1, slots := 10, locals := 16 } : Room).cells ({ frames := 1, cells := 1, slots := 10, locals := 16 } : Room).slots) := by
  refine MetFree.of_bodySF (plainFor_of_name pn_6) hisR ?_
  intro p e s m args below meth c s₁ Bd hml0 hP hK
  obtain ⟨rfl, hZ, hh⟩ := hP
  have hx := Bd.exec
  have hby := Bd.bytes
  have hlk := BodyLoose.notSynchronized Bd
  have hml : c.maxLocals = 4 := hml0
  have hret := Bd.returns
  have hown : s.vm.findClass "java/util/ArrayList" = some m.cls := findClass_of_methodNamed Bd.named
  have hnm := (name_of_methodNamed Bd.named Bd.method).1
  have X0 : Stand p l e ({ frames := 1, cells := 1, slots := 10, locals := 16 } : Room) s m #[(.ref a1), (.int (1 : Int32))] below meth c s₁ [] 0 0 := Stand.of_body Bd
  have e0 : s₁.heap = h0 := by rw [← hh, Bd.state]; rfl
  have N0 := Fr.nil n0
  show Go p e below s ({ frames := 1, cells := 1, slots := 10, locals := 16 } : Room).cells ({ frames := 1, cells := 1, slots := 10, locals := 16 } : Room).slots (QG1 Z a1 dc kd vd mc h0 n0) s₁ (entryFrame m #[(.ref a1), (.int (1 : Int32))] 4)
  refine Go.cast (ef_rmG1 m a1) ?_
  have K0 : Keep h0 h0 [a1] := Keep.refl _ _
  show Go _ _ _ _ _ _ _ s₁ (mkF m 0 #[.val (.ref a1), .val (.int (1 : Int32)), .unset, .unset] [])
  refine Go.step (fun t_ k_ => XS.aloadN X0.here hx rfl (hb hby d14_0) rfl rfl k_) ?_
  show Go _ _ _ _ _ _ _ s₁ (mkF m 1 #[.val (.ref a1), .val (.int (1 : Int32)), .unset, .unset] [(.ref a1)])
  obtain ⟨T1, X1, e1, st1⟩ := getF X0 hx hZ hown (host := "") (Or.inl (hw _ (List.mem_of_getElem? (i := 88) rfl))) Via.refl e0 Q_el (g := (mkF m 1 #[.val (.ref a1), .val (.int (1 : Int32)), .unset, .unset] [(.ref a1)])) rfl rfl (hb hby d14_1)
  refine Go.step st1 ?_
  show Go _ _ _ _ _ _ _ T1 (mkF m 4 #[.val (.ref a1), .val (.int (1 : Int32)), .unset, .unset] [(.ref dc)])
  obtain ⟨c2, Ar2, q2, S2, M2, H2, U2⟩ := id Q_dc
  refine Go.step (fun t_ k_ => X1.arraylength hx (by first | exact Ar2.1 | (rw [e1]; exact Ar2.1)) (State.isArrayOf_alike hZ.alike Ar2.2.1) (g := (mkF m 4 #[.val (.ref a1), .val (.int (1 : Int32)), .unset, .unset] [(.ref dc)])) rfl rfl (hb hby d14_4) _ k_) ?_
  rw [len_of S2 M2]
  show Go _ _ _ _ _ _ _ T1 (mkF m 5 #[.val (.ref a1), .val (.int (1 : Int32)), .unset, .unset] [(.int (0 : Int32))])
  refine Go.step (fun t_ k_ => XS.istoreN X1.here hx rfl (hb hby d14_5) rfl (l' := #[.val (.ref a1), .val (.int (1 : Int32)), .val (.int (0 : Int32)), .unset]) rfl k_) ?_
  show Go _ _ _ _ _ _ _ T1 (mkF m 6 #[.val (.ref a1), .val (.int (1 : Int32)), .val (.int (0 : Int32)), .unset] [])
  refine Go.step (fun t_ k_ => XS.iloadN X1.here hx rfl (hb hby d14_6) rfl k_) ?_
  show Go _ _ _ _ _ _ _ T1 (mkF m 7 #[.val (.ref a1), .val (.int (1 : Int32)), .val (.int (0 : Int32)), .unset] [(.int (0 : Int32))])
  have hb7_3 : ¬ ((0 : Int32) < (0 : Int32)) := by decide
  refine Go.step (fun t_ k_ => XS.ifNo X1.here hx rfl (hb hby d14_7) rfl (XT.i0_gt_f hb7_3) k_) ?_
  show Go _ _ _ _ _ _ _ T1 (mkF m 10 #[.val (.ref a1), .val (.int (1 : Int32)), .val (.int (0 : Int32)), .unset] [])
  refine Go.step (fun t_ k_ => XS.aloadN X1.here hx rfl (hb hby d14_10) rfl rfl k_) ?_
  show Go _ _ _ _ _ _ _ T1 (mkF m 11 #[.val (.ref a1), .val (.int (1 : Int32)), .val (.int (0 : Int32)), .unset] [(.ref a1)])
  obtain ⟨T4, X4, e4, st4⟩ := getF X1 hx hZ hown (host := "") (Or.inl (hw _ (List.mem_of_getElem? (i := 88) rfl))) Via.refl e1 Q_el (g := (mkF m 11 #[.val (.ref a1), .val (.int (1 : Int32)), .val (.int (0 : Int32)), .unset] [(.ref a1)])) rfl rfl (hb hby d14_11)
  refine Go.step st4 ?_
  show Go _ _ _ _ _ _ _ T4 (mkF m 14 #[.val (.ref a1), .val (.int (1 : Int32)), .val (.int (0 : Int32)), .unset] [(.ref dc)])
  obtain ⟨T5, X5, e5, st5⟩ := getS2 X4 hx hZ hown (host := "") (Or.inl (hw _ (List.mem_of_getElem? (i := 87) rfl))) Via.refl e4 (S_DC.ext O0.2) (g := (mkF m 14 #[.val (.ref a1), .val (.int (1 : Int32)), .val (.int (0 : Int32)), .unset] [(.ref dc)])) rfl (hb hby d14_14)
  refine Go.step st5 ?_
  show Go _ _ _ _ _ _ _ T5 (mkF m 17 #[.val (.ref a1), .val (.int (1 : Int32)), .val (.int (0 : Int32)), .unset] [(.ref dc), (.ref dc)])
  have hb17_6 : ((.ref dc) : Value) = (.ref dc) := by rfl
  refine Go.step (fun t_ k_ => XT.acmpYes X5.here hx rfl (pc0 := 17) (pc' := 45) rfl (hb hby d14_17) rfl rfl rfl (XT.aa_eq_t hb17_6) (by decide) (by decide) k_) ?_
  show Go _ _ _ _ _ _ _ T5 (mkF m 45 #[.val (.ref a1), .val (.int (1 : Int32)), .val (.int (0 : Int32)), .unset] [])
  refine Go.step (fun t_ k_ => XS.aloadN X5.here hx rfl (hb hby d14_45) rfl rfl k_) ?_
  show Go _ _ _ _ _ _ _ T5 (mkF m 46 #[.val (.ref a1), .val (.int (1 : Int32)), .val (.int (0 : Int32)), .unset] [(.ref a1)])
  refine Go.step (fun t_ k_ => XS.bipush X5.here hx rfl (hb hby d14_46) k_) ?_
  show Go _ _ _ _ _ _ _ T5 (mkF m 48 #[.val (.ref a1), .val (.int (1 : Int32)), .val (.int (0 : Int32)), .unset] [(.int (10 : Int32)), (.ref a1)])
  refine Go.step (fun t_ k_ => XS.iloadN X5.here hx rfl (hb hby d14_48) rfl k_) ?_
  show Go _ _ _ _ _ _ _ T5 (mkF m 49 #[.val (.ref a1), .val (.int (1 : Int32)), .val (.int (0 : Int32)), .unset] [(.int (1 : Int32)), (.int (10 : Int32)), (.ref a1)])
  obtain ⟨_, _, ⟨T7, L7, k7, n7⟩, -, X7, ⟨Lc7, hQ7, l7, y7, z7⟩, st7⟩ := Jvm.LawKit.callS X5 hx (y := (⟨"java/lang/Math", "max", "(II)I"⟩ : MethodName)) hown (mvT hZ (hw _ (List.mem_of_getElem? (i := 114) rfl))) (mvT hZ (hw _ (List.mem_of_getElem? (i := 115) rfl))) (mvT hZ (hw _ (List.mem_of_getElem? (i := 116) rfl))) (mvT hZ (hw _ (List.mem_of_getElem? (i := 117) rfl))) (by decide) (backOf (W := 1) (rmMx l Z a0 hw []  h0 n0 Z0 ) hZ (hw _ (List.mem_of_getElem? (i := 117) rfl)) (hw _ (List.mem_of_getElem? (i := 116) rfl)) (by decide) (by decide)) (g := (mkF m 49 #[.val (.ref a1), .val (.int (1 : Int32)), .val (.int (0 : Int32)), .unset] [(.int (1 : Int32)), (.int (10 : Int32)), (.ref a1)])) rfl (by rw [hml]; rfl) (argsL := [(.int (10 : Int32)), (.int (1 : Int32))]) (rest := [(.ref a1)]) (lenOf pd_3 rfl) rfl (by show 2 * 0 + _ ≤ _; exact Nat.le_of_eq rfl) (hb hby d14_49) (fun _ _ => ⟨rfl, e5, (by decide : 0 + 0 ≤ _), (by decide : 0 + 0 ≤ _)⟩)
  dsimp only [Pt.U, Pt.locs, Pt.cells, Pt.slots] at X7 l7 y7 z7 st7 hQ7
  subst l7 y7 z7
  obtain ⟨rfl, N7q, e7⟩ := hQ7
  have N7 := Fr.app N0 N7q
  refine Go.step st7 ?_
  show Go _ _ _ _ _ _ _ T7 (mkF m 52 #[.val (.ref a1), .val (.int (1 : Int32)), .val (.int (0 : Int32)), .unset] [(.int (10 : Int32)), (.ref a1)])
  obtain ⟨T8, h8, k8, X8, e8, E8, A8, hO8, st8⟩ := newR X7 hx hZ hown (hw _ (List.mem_of_getElem? (i := 118) rfl)) (hw _ (List.mem_of_getElem? (i := 119) rfl)) (e7) (g := (mkF m 52 #[.val (.ref a1), .val (.int (1 : Int32)), .val (.int (0 : Int32)), .unset] [(.int (10 : Int32)), (.ref a1)])) rfl (hb hby d14_52) rfl (by decide) (cap := 10) (by decide) (by decide) (by decide) (by decide)
  obtain ⟨r8, g8⟩ : ∃ z, z = h0.size := ⟨_, rfl⟩
  rw [← g8] at A8 st8
  have ne_a1_r8 : a1 ≠ r8 := Nat.ne_of_lt (Nat.lt_of_lt_of_le QE1.lt (Nat.le_of_eq g8.symm))
  have ne_dc_r8 : dc ≠ r8 := Nat.ne_of_lt (Nat.lt_of_lt_of_le Q_dc.lt (Nat.le_of_eq g8.symm))
  have ge_r8 : n0 ≤ r8 := Nat.le_trans Z0 (Nat.le_of_eq g8.symm)
  have geh_r8 : h0.size ≤ r8 := Nat.le_trans K0.1 (Nat.le_of_eq g8.symm)
  have f8_1 : Exa Z h8 a1 "java/util/ArrayList" := (QE1.ext E8)
  have f8_2 : Fld Z h8 a1 "java/util/AbstractList" "modCount" "I" (.int mc) := (Q_mc.ext E8)
  have f8_3 : Fld Z h8 a1 "java/util/ArrayList" "size" "I" (.int (0 : Int32)) := (Q_sz.ext E8)
  have f8_4 : Fld Z h8 a1 "java/util/ArrayList" "elementData" "[Ljava/lang/Object;" (.ref dc) := (Q_el.ext E8)
  have f8_5 : Arv Z h8 dc kd (.object "java/lang/Object") (0 : Int32) vd .null := (Q_dc.ext E8)
  have f8_6 : Arv Z h8 r8 k8 (.object "java/lang/Object") (10 : Int32) [.null, .null, .null, .null, .null, .null, .null, .null, .null, .null] .null := ((Arv.new A8 (by decide)).pad (pad_rep [] .null 10))
  have Zs8 : n0 ≤ h8.size := (Nat.le_trans Z0 E8.1)
  have O8 : Old Z n0 h8 := O0.ext E8
  have K8 : Keep h0 h8 [a1] := K0.ext E8
  refine Go.step st8 ?_
  show Go _ _ _ _ _ _ _ T8 (mkF m 55 #[.val (.ref a1), .val (.int (1 : Int32)), .val (.int (0 : Int32)), .unset] [(.ref r8), (.ref a1)])
  refine Go.step (fun t_ k_ => XT.dupX1 X8.here hx rfl (hb hby d14_55) rfl rfl rfl k_) ?_
  show Go _ _ _ _ _ _ _ T8 (mkF m 56 #[.val (.ref a1), .val (.int (1 : Int32)), .val (.int (0 : Int32)), .unset] [(.ref r8), (.ref a1), (.ref r8)])
  obtain ⟨T9, h9, X9, e9, W9, st9⟩ := putF X8 hx hZ hown (host := "") (Or.inl (hw _ (List.mem_of_getElem? (i := 88) rfl))) Via.refl e8 f8_4 f8_1 (Or.inl (hw _ (List.mem_of_getElem? (i := 89) rfl))) (hw _ (List.mem_of_getElem? (i := 67) rfl)) (ty := (.array (.object "java/lang/Object"))) (by decide) rfl rfl (g := (mkF m 56 #[.val (.ref a1), .val (.int (1 : Int32)), .val (.int (0 : Int32)), .unset] [(.ref r8), (.ref a1), (.ref r8)])) rfl rfl (hb hby d14_56)
  have N9 := Fr.snoc X9 N7 g1
  refine Go.step st9 ?_
  have f9_1 : Exa Z h9 a1 "java/util/ArrayList" := (f8_1.wr W9)
  have f9_2 : Fld Z h9 a1 "java/util/AbstractList" "modCount" "I" (.int mc) := (f8_2.other W9 (Or.inr (slot_ne (Or.inl (hw _ (List.mem_of_getElem? (i := 86) rfl))) (Or.inl (hw _ (List.mem_of_getElem? (i := 89) rfl))) (by decide) (t := .int) (t' := (.array (.object "java/lang/Object"))) (by decide) (by decide))))
  have f9_3 : Fld Z h9 a1 "java/util/ArrayList" "size" "I" (.int (0 : Int32)) := (f8_3.other W9 (Or.inr (slot_ne (Or.inl (hw _ (List.mem_of_getElem? (i := 98) rfl))) (Or.inl (hw _ (List.mem_of_getElem? (i := 89) rfl))) (by decide) (t := .int) (t' := (.array (.object "java/lang/Object"))) (by decide) (by decide))))
  have f9_4 : Fld Z h9 a1 "java/util/ArrayList" "elementData" "[Ljava/lang/Object;" (.ref r8) := (f8_4.same W9)
  have f9_5 : Arv Z h9 dc kd (.object "java/lang/Object") (0 : Int32) vd .null := (f8_5.other W9 (Ne.symm (own_ne_arv f8_1 (hw _ (List.mem_of_getElem? (i := 67) rfl)) f8_5)))
  have f9_6 : Arv Z h9 r8 k8 (.object "java/lang/Object") (10 : Int32) [.null, .null, .null, .null, .null, .null, .null, .null, .null, .null] .null := (f8_6.other W9 (Ne.symm ne_a1_r8))
  have Zs9 : n0 ≤ h9.size := (Nat.le_trans Zs8 (Keep.of_wr W9).1)
  have O9 : Old Z n0 h9 := O8.wr W9 g1
  have K9 : Keep h0 h9 [a1] := K8.wr W9 (Or.inl (List.mem_of_getElem? (i := 0) rfl))
  show Go _ _ _ _ _ _ _ T9 (mkF m 59 #[.val (.ref a1), .val (.int (1 : Int32)), .val (.int (0 : Int32)), .unset] [(.ref r8)])
  refine Go.ret X9 hx hlk hret rfl (Or.inr (Or.inr (Or.inr (Or.inr ⟨rfl, rfl, rfl⟩)))) (hb hby d14_59) ?_ (by decide) (by decide)
  show QG1 Z _ _ _ _ _ _ _ _ T9.heap _
  rw [e9]
  exact ⟨r8, k8, rfl, N9, K9, ge_r8, geh_r8, f9_1, f9_2, f9_3, f9_4, f9_6, hO8⟩
theorem ef_rmG0 (m : MethodId) (a1 : Addr) : entryFrame m #[(.ref a1)] 1 = mkF m 0 #[.val (.ref a1)] [] := by first | (simp [entryFrame, mkF, argsToLocals, Value.category]; done) | rfl
def QG0 (Z : State) (a1 : Addr) (dc : Addr) (kd : ClassId) (vd : List Value) (mc : Int32) (h0 : Heap) (n0 : Nat) (v : Option Value) (h : Heap) (L : List Loc) : Prop := ∃ (t : Addr) (kt : ClassId), v = some (.ref t) ∧ Fr n0 L ∧ Keep h0 h [a1] ∧ n0 ≤ t ∧ h0.size ≤ t ∧ Exa Z h a1 "java/util/ArrayList" ∧ Fld Z h a1 "java/util/AbstractList" "modCount" "I" (.int mc) ∧ Fld Z h a1 "java/util/ArrayList" "size" "I" (.int (0 : Int32)) ∧ Fld Z h a1 "java/util/ArrayList" "elementData" "[Ljava/lang/Object;" (.ref t) ∧ Arv Z h t kt (.object "java/lang/Object") (10 : Int32) [Value.null, Value.null, Value.null, Value.null, Value.null, Value.null, Value.null, Value.null, Value.null, Value.null] .null ∧ Ovr Z kt "java/lang/Object"
theorem d13_0 : decode jdk_38_method_7_code 0 = .ok (.aload_n 0, 1) := by decide +kernel
theorem d13_1 : decode jdk_38_method_7_code 1 = .ok (.aload_n 0, 1) := by decide +kernel
theorem d13_2 : decode jdk_38_method_7_code 2 = .ok (.getfield 48, 3) := by decide +kernel
theorem d13_5 : decode jdk_38_method_7_code 5 = .ok (.iconst 1, 1) := by decide +kernel
theorem d13_6 : decode jdk_38_method_7_code 6 = .ok (.iadd, 1) := by decide +kernel
theorem pd_4 : parseMethodDescriptor "(I)[Ljava/lang/Object;" = some ⟨[.int], some (.array (.object "java/lang/Object"))⟩ := by decide +kernel
theorem d13_7 : decode jdk_38_method_7_code 7 = .ok (.invokevirtual 69, 3) := by decide +kernel
theorem d13_10 : decode jdk_38_method_7_code 10 = .ok (.areturn, 1) := by decide +kernel
set_option maxRecDepth 65536 in
set_option maxHeartbeats 40000000 in
theorem rmG0 (l : Launch) (Z : State) (a0 : Array Value) (hw : ∀ d ∈ tables_1, d.before a0 Z = true) (ws : List Jvm.Cond) (a1 : Addr) (dc : Addr) (kd : ClassId) (vd : List Value) (mc : Int32) (h0 : Heap) (n0 : Nat) (Z0 : n0 ≤ h0.size) (O0 : Old Z n0 h0) (S_DC : Sta Z Z.heap "java/util/ArrayList" "DEFAULTCAPACITY_EMPTY_ELEMENTDATA" "[Ljava/lang/Object;" (.ref dc)) (g1 : n0 ≤ a1) (QE1 : Exa Z h0 a1 "java/util/ArrayList") (Q_mc : Fld Z h0 a1 "java/util/AbstractList" "modCount" "I" (.int mc)) (Q_sz : Fld Z h0 a1 "java/util/ArrayList" "size" "I" (.int (0 : Int32))) (Q_el : Fld Z h0 a1 "java/util/ArrayList" "elementData" "[Ljava/lang/Object;" (.ref dc)) (Q_dc : Arv Z h0 dc kd (.object "java/lang/Object") (0 : Int32) vd .null) :
    MetFree l (⟨"java/util/ArrayList", "grow", "()[Ljava/lang/Object;"⟩ : MethodName) (head1 (Jvm.Cond.code (⟨"java/util/ArrayList", "grow", "()[Ljava/lang/Object;"⟩ : MethodName) jdk_38_method_7_code 1 (some (.array (.object "java/lang/Object"))) :: ws) ({ frames := 2, cells := 1, slots := 10, locals := 34 } : Room)) (fun a U => a = #[(.ref a1)] ∧ Z.Warmed39 U.vm ∧ U.heap = h0) (fun _ _ _ _ _ => True) (fun _ U o U' => ∃ v L, o = .returned v ∧ QG0 Z a1 dc kd vd mc h0 n0 v U'.heap L ∧ FrameEnd U o U' L ({ frames := 2, cells := 1, slots := 10, locals := 34 } : Room).cells ({ frames := 2, cells := 1, slots := 10, locals := 34 } : Room).slots) := by
  refine MetFree.of_bodySF (plainFor_of_name pn_6) hisR ?_
  intro p e s m args below meth c s₁ Bd hml0 hP hK
  obtain ⟨rfl, hZ, hh⟩ := hP
  have hx := Bd.exec
  have hby := Bd.bytes
  have hlk := BodyLoose.notSynchronized Bd
  have hml : c.maxLocals = 1 := hml0
  have hret := Bd.returns
  have hown : s.vm.findClass "java/util/ArrayList" = some m.cls := findClass_of_methodNamed Bd.named
  have hnm := (name_of_methodNamed Bd.named Bd.method).1
  have X0 : Stand p l e ({ frames := 2, cells := 1, slots := 10, locals := 34 } : Room) s m #[(.ref a1)] below meth c s₁ [] 0 0 := Stand.of_body Bd
  have e0 : s₁.heap = h0 := by rw [← hh, Bd.state]; rfl
  have N0 := Fr.nil n0
  show Go p e below s ({ frames := 2, cells := 1, slots := 10, locals := 34 } : Room).cells ({ frames := 2, cells := 1, slots := 10, locals := 34 } : Room).slots (QG0 Z a1 dc kd vd mc h0 n0) s₁ (entryFrame m #[(.ref a1)] 1)
  refine Go.cast (ef_rmG0 m a1) ?_
  have K0 : Keep h0 h0 [a1] := Keep.refl _ _
  show Go _ _ _ _ _ _ _ s₁ (mkF m 0 #[.val (.ref a1)] [])
  refine Go.step (fun t_ k_ => XS.aloadN X0.here hx rfl (hb hby d13_0) rfl rfl k_) ?_
  show Go _ _ _ _ _ _ _ s₁ (mkF m 1 #[.val (.ref a1)] [(.ref a1)])
  refine Go.step (fun t_ k_ => XS.aloadN X0.here hx rfl (hb hby d13_1) rfl rfl k_) ?_
  show Go _ _ _ _ _ _ _ s₁ (mkF m 2 #[.val (.ref a1)] [(.ref a1), (.ref a1)])
  obtain ⟨T1, X1, e1, st1⟩ := getF X0 hx hZ hown (host := "") (Or.inl (hw _ (List.mem_of_getElem? (i := 97) rfl))) Via.refl e0 Q_sz (g := (mkF m 2 #[.val (.ref a1)] [(.ref a1), (.ref a1)])) rfl rfl (hb hby d13_2)
  refine Go.step st1 ?_
  show Go _ _ _ _ _ _ _ T1 (mkF m 5 #[.val (.ref a1)] [(.int (0 : Int32)), (.ref a1)])
  refine Go.step (fun t_ k_ => XS.iconst X1.here hx rfl (hb hby d13_5) k_) ?_
  show Go _ _ _ _ _ _ _ T1 (mkF m 6 #[.val (.ref a1)] [(.int (1 : Int32)), (.int (0 : Int32)), (.ref a1)])
  refine Go.step (fun t_ k_ => XS.iadd X1.here hx rfl (hb hby d13_6) rfl k_) ?_
  show Go _ _ _ _ _ _ _ T1 (mkF m 7 #[.val (.ref a1)] [(.int (1 : Int32)), (.ref a1)])
  obtain ⟨cq2, kq2, qa2, qb2, qc2⟩ := isOf hZ e1 QE1
  obtain ⟨cc2, cd2, -, ce2⟩ := qc2
  obtain ⟨_, _, ⟨T2, L2, k2, n2⟩, -, X2, ⟨Lc2, hQ2, l2, y2, z2⟩, st2⟩ := X1.privateBack hx (y := (⟨"java/util/ArrayList", "grow", "(I)[Ljava/lang/Object;"⟩ : MethodName)) hown (mvT hZ (hw _ (List.mem_of_getElem? (i := 109) rfl))) (mvT hZ (hw _ (List.mem_of_getElem? (i := 110) rfl))) (own_sel_priv (args := #[]) (mvT hZ (hw _ (List.mem_of_getElem? (i := 67) rfl))) (mvT hZ (hw _ (List.mem_of_getElem? (i := 111) rfl))) (mvT hZ (hw _ (List.mem_of_getElem? (i := 110) rfl))) (by decide)) (Cond.privateMethod_at (args := #[]) (mvT hZ (hw _ (List.mem_of_getElem? (i := 111) rfl)))) (mvT hZ (hw _ (List.mem_of_getElem? (i := 113) rfl))) (by decide) (backOf (W := 0) (rmG1 l Z a0 hw [] a1 dc kd vd mc h0 n0 Z0 O0 S_DC g1 QE1 Q_mc Q_sz Q_el Q_dc) hZ (hw _ (List.mem_of_getElem? (i := 113) rfl)) (hw _ (List.mem_of_getElem? (i := 68) rfl)) (by decide) (by decide)) (g := (mkF m 7 #[.val (.ref a1)] [(.int (1 : Int32)), (.ref a1)])) rfl (by rw [hml]; rfl) (Steps.refl _) (a := a1) cd2 (fun q_ e_ => by rw [e_] at ce2; cases ce2) (argsL := [(.int (1 : Int32))]) (rest := []) (lenOf pd_4 rfl) rfl (by show 2 * 0 + _ ≤ _; exact Nat.le_of_eq rfl) (hb hby d13_7) (fun _ _ => ⟨rfl, e1, (by decide : 0 + 1 ≤ _), (by decide : 0 + 10 ≤ _)⟩)
  dsimp only [Pt.U, Pt.locs, Pt.cells, Pt.slots] at X2 l2 y2 z2 st2 hQ2
  subst l2 y2 z2
  obtain ⟨tg2, kg2, rfl, N2q, Kq2, gq2, gh2, Eq2, Fa2, Fb2, Fc2, Aq2, Oq2⟩ := hQ2
  have N2 := Fr.app N0 N2q
  have gz2 : h0.size ≤ tg2 := Nat.le_trans K0.1 gh2
  have ne_a1_tg2 : a1 ≠ tg2 := Nat.ne_of_lt (Nat.lt_of_lt_of_le QE1.lt gh2)
  have ne_dc_tg2 : dc ≠ tg2 := Nat.ne_of_lt (Nat.lt_of_lt_of_le Q_dc.lt gh2)
  have f2_1 : Arv Z T2.heap dc kd (.object "java/lang/Object") (0 : Int32) vd .null := (Q_dc.keep Kq2 (ninS (Ne.symm (own_ne_arv QE1 (hw _ (List.mem_of_getElem? (i := 67) rfl)) Q_dc)) nin0))
  have f2_2 : Exa Z T2.heap a1 "java/util/ArrayList" := Eq2
  have f2_3 : Fld Z T2.heap a1 "java/util/AbstractList" "modCount" "I" (.int mc) := Fa2
  have f2_4 : Fld Z T2.heap a1 "java/util/ArrayList" "size" "I" (.int (0 : Int32)) := Fb2
  have f2_5 : Fld Z T2.heap a1 "java/util/ArrayList" "elementData" "[Ljava/lang/Object;" (.ref tg2) := Fc2
  have f2_6 : Arv Z T2.heap tg2 kg2 (.object "java/lang/Object") (10 : Int32) [Value.null, Value.null, Value.null, Value.null, Value.null, Value.null, Value.null, Value.null, Value.null, Value.null] .null := Aq2
  have Zs2 : n0 ≤ T2.heap.size := (Nat.le_trans Z0 Kq2.1)
  have O2 : Old Z n0 T2.heap := O0.keep Kq2 (allS g1 all0)
  have K2 : Keep h0 T2.heap [a1] := K0.trans Kq2 (allS (Or.inl (List.mem_of_getElem? (i := 0) rfl)) all0)
  refine Go.step (fun t_ k_ => st2.trans k_) ?_
  show Go _ _ _ _ _ _ _ T2 (mkF m 10 #[.val (.ref a1)] [(.ref tg2)])
  refine Go.ret X2 hx hlk hret rfl (Or.inr (Or.inr (Or.inr (Or.inr ⟨rfl, rfl, rfl⟩)))) (hb hby d13_10) ?_ (by decide) (by decide)
  show QG0 Z _ _ _ _ _ _ _ _ T2.heap _
  exact ⟨tg2, kg2, rfl, N2, K2, gq2, gz2, f2_2, f2_3, f2_4, f2_5, f2_6, Oq2⟩
theorem ef_rmA3 (m : MethodId) (a1 : Addr) (a2 : Addr) (dc : Addr) : entryFrame m #[(.ref a1), (.ref a2), (.ref dc), (.int (0 : Int32))] 4 = mkF m 0 #[.val (.ref a1), .val (.ref a2), .val (.ref dc), .val (.int (0 : Int32))] [] := by first | (simp [entryFrame, mkF, argsToLocals, Value.category]; done) | rfl
def QA3 (Z : State) (a1 : Addr) (a2 : Addr) (dc : Addr) (kd : ClassId) (vd : List Value) (mc : Int32) (h0 : Heap) (n0 : Nat) (v : Option Value) (h : Heap) (L : List Loc) : Prop := v = none ∧ Fr n0 L ∧ Keep h0 h [a1] ∧ ∃ (t : Addr) (kt : ClassId), n0 ≤ t ∧ h0.size ≤ t ∧ Exa Z h a1 "java/util/ArrayList" ∧ Fld Z h a1 "java/util/AbstractList" "modCount" "I" (.int mc) ∧ Fld Z h a1 "java/util/ArrayList" "size" "I" (.int (1 : Int32)) ∧ Fld Z h a1 "java/util/ArrayList" "elementData" "[Ljava/lang/Object;" (.ref t) ∧ Arv Z h t kt (.object "java/lang/Object") (10 : Int32) [(.ref a2), Value.null, Value.null, Value.null, Value.null, Value.null, Value.null, Value.null, Value.null, Value.null] .null ∧ Ovr Z kt "java/lang/Object"
theorem d12_0 : decode jdk_38_method_24_code 0 = .ok (.iload_n 3, 1) := by decide +kernel
theorem d12_1 : decode jdk_38_method_24_code 1 = .ok (.aload_n 2, 1) := by decide +kernel
theorem d12_2 : decode jdk_38_method_24_code 2 = .ok (.arraylength, 1) := by decide +kernel
theorem d12_3 : decode jdk_38_method_24_code 3 = .ok (.if_icmp .ne 8, 3) := by decide +kernel
theorem d12_6 : decode jdk_38_method_24_code 6 = .ok (.aload_n 0, 1) := by decide +kernel
theorem pd_5 : parseMethodDescriptor "()[Ljava/lang/Object;" = some ⟨[], some (.array (.object "java/lang/Object"))⟩ := by decide +kernel
theorem d12_7 : decode jdk_38_method_24_code 7 = .ok (.invokevirtual 129, 3) := by decide +kernel
theorem d12_10 : decode jdk_38_method_24_code 10 = .ok (.astore_n 2, 1) := by decide +kernel
theorem d12_11 : decode jdk_38_method_24_code 11 = .ok (.aload_n 2, 1) := by decide +kernel
theorem d12_12 : decode jdk_38_method_24_code 12 = .ok (.iload_n 3, 1) := by decide +kernel
theorem d12_13 : decode jdk_38_method_24_code 13 = .ok (.aload_n 1, 1) := by decide +kernel
theorem d12_14 : decode jdk_38_method_24_code 14 = .ok (.aastore, 1) := by decide +kernel
theorem d12_15 : decode jdk_38_method_24_code 15 = .ok (.aload_n 0, 1) := by decide +kernel
theorem d12_16 : decode jdk_38_method_24_code 16 = .ok (.iload_n 3, 1) := by decide +kernel
theorem d12_17 : decode jdk_38_method_24_code 17 = .ok (.iconst 1, 1) := by decide +kernel
theorem d12_18 : decode jdk_38_method_24_code 18 = .ok (.iadd, 1) := by decide +kernel
theorem d12_19 : decode jdk_38_method_24_code 19 = .ok (.putfield 48, 3) := by decide +kernel
theorem d12_22 : decode jdk_38_method_24_code 22 = .ok (.return_, 1) := by decide +kernel
set_option maxRecDepth 65536 in
set_option maxHeartbeats 40000000 in
theorem rmA3 (l : Launch) (Z : State) (a0 : Array Value) (hw : ∀ d ∈ tables_1, d.before a0 Z = true) (ws : List Jvm.Cond) (a1 : Addr) (a2 : Addr) (dc : Addr) (kd : ClassId) (vd : List Value) (mc : Int32) (h0 : Heap) (n0 : Nat) (Z0 : n0 ≤ h0.size) (O0 : Old Z n0 h0) (S_DC : Sta Z Z.heap "java/util/ArrayList" "DEFAULTCAPACITY_EMPTY_ELEMENTDATA" "[Ljava/lang/Object;" (.ref dc)) (g1 : n0 ≤ a1) (QE1 : Exa Z h0 a1 "java/util/ArrayList") (Q_mc : Fld Z h0 a1 "java/util/AbstractList" "modCount" "I" (.int mc)) (Q_sz : Fld Z h0 a1 "java/util/ArrayList" "size" "I" (.int (0 : Int32))) (Q_el : Fld Z h0 a1 "java/util/ArrayList" "elementData" "[Ljava/lang/Object;" (.ref dc)) (Q_dc : Arv Z h0 dc kd (.object "java/lang/Object") (0 : Int32) vd .null) (QE2 : Exa Z h0 a2 "com/example/affordance/affordance/Finding") :
    MetFree l (⟨"java/util/ArrayList", "add", "(Ljava/lang/Object;[Ljava/lang/Object;I)V"⟩ : MethodName) (head1 (Jvm.Cond.code (⟨"java/util/ArrayList", "add", "(Ljava/lang/Object;[Ljava/lang/Object;I)V"⟩ : MethodName) jdk_38_method_24_code 4 none :: ws) ({ frames := 3, cells := 1, slots := 10, locals := 50 } : Room)) (fun a U => a = #[(.ref a1), (.ref a2), (.ref dc), (.int (0 : Int32))] ∧ Z.Warmed39 U.vm ∧ U.heap = h0) (fun _ _ _ _ _ => True) (fun _ U o U' => ∃ v L, o = .returned v ∧ QA3 Z a1 a2 dc kd vd mc h0 n0 v U'.heap L ∧ FrameEnd U o U' L ({ frames := 3, cells := 1, slots := 10, locals := 50 } : Room).cells ({ frames := 3, cells := 1, slots := 10, locals := 50 } : Room).slots) := by
  refine MetFree.of_bodySF (plainFor_of_name pn_6) hisR ?_
  intro p e s m args below meth c s₁ Bd hml0 hP hK
  obtain ⟨rfl, hZ, hh⟩ := hP
  have hx := Bd.exec
  have hby := Bd.bytes
  have hlk := BodyLoose.notSynchronized Bd
  have hml : c.maxLocals = 4 := hml0
  have hret := Bd.returns
  have hown : s.vm.findClass "java/util/ArrayList" = some m.cls := findClass_of_methodNamed Bd.named
  have hnm := (name_of_methodNamed Bd.named Bd.method).1
  have X0 : Stand p l e ({ frames := 3, cells := 1, slots := 10, locals := 50 } : Room) s m #[(.ref a1), (.ref a2), (.ref dc), (.int (0 : Int32))] below meth c s₁ [] 0 0 := Stand.of_body Bd
  have e0 : s₁.heap = h0 := by rw [← hh, Bd.state]; rfl
  have N0 := Fr.nil n0
  show Go p e below s ({ frames := 3, cells := 1, slots := 10, locals := 50 } : Room).cells ({ frames := 3, cells := 1, slots := 10, locals := 50 } : Room).slots (QA3 Z a1 a2 dc kd vd mc h0 n0) s₁ (entryFrame m #[(.ref a1), (.ref a2), (.ref dc), (.int (0 : Int32))] 4)
  refine Go.cast (ef_rmA3 m a1 a2 dc) ?_
  have K0 : Keep h0 h0 [a1] := Keep.refl _ _
  show Go _ _ _ _ _ _ _ s₁ (mkF m 0 #[.val (.ref a1), .val (.ref a2), .val (.ref dc), .val (.int (0 : Int32))] [])
  refine Go.step (fun t_ k_ => XS.iloadN X0.here hx rfl (hb hby d12_0) rfl k_) ?_
  show Go _ _ _ _ _ _ _ s₁ (mkF m 1 #[.val (.ref a1), .val (.ref a2), .val (.ref dc), .val (.int (0 : Int32))] [(.int (0 : Int32))])
  refine Go.step (fun t_ k_ => XS.aloadN X0.here hx rfl (hb hby d12_1) rfl rfl k_) ?_
  show Go _ _ _ _ _ _ _ s₁ (mkF m 2 #[.val (.ref a1), .val (.ref a2), .val (.ref dc), .val (.int (0 : Int32))] [(.ref dc), (.int (0 : Int32))])
  obtain ⟨c1, Ar1, q1, S1, M1, H1, U1⟩ := id Q_dc
  refine Go.step (fun t_ k_ => X0.arraylength hx (by first | exact Ar1.1 | (rw [e0]; exact Ar1.1)) (State.isArrayOf_alike hZ.alike Ar1.2.1) (g := (mkF m 2 #[.val (.ref a1), .val (.ref a2), .val (.ref dc), .val (.int (0 : Int32))] [(.ref dc), (.int (0 : Int32))])) rfl rfl (hb hby d12_2) _ k_) ?_
  rw [len_of S1 M1]
  show Go _ _ _ _ _ _ _ s₁ (mkF m 3 #[.val (.ref a1), .val (.ref a2), .val (.ref dc), .val (.int (0 : Int32))] [(.int (0 : Int32)), (.int (0 : Int32))])
  have hb3_2 : (0 : Int32) = (0 : Int32) := by decide
  refine Go.step (fun t_ k_ => XS.icmpNo X0.here hx rfl (hb hby d12_3) rfl (XT.ii_ne_f hb3_2) k_) ?_
  show Go _ _ _ _ _ _ _ s₁ (mkF m 6 #[.val (.ref a1), .val (.ref a2), .val (.ref dc), .val (.int (0 : Int32))] [])
  refine Go.step (fun t_ k_ => XS.aloadN X0.here hx rfl (hb hby d12_6) rfl rfl k_) ?_
  show Go _ _ _ _ _ _ _ s₁ (mkF m 7 #[.val (.ref a1), .val (.ref a2), .val (.ref dc), .val (.int (0 : Int32))] [(.ref a1)])
  obtain ⟨cq3, kq3, qa3, qb3, qc3⟩ := isOf hZ e0 QE1
  obtain ⟨cc3, cd3, -, ce3⟩ := qc3
  obtain ⟨_, _, ⟨T3, L3, k3, n3⟩, -, X3, ⟨Lc3, hQ3, l3, y3, z3⟩, st3⟩ := X0.privateBack hx (y := (⟨"java/util/ArrayList", "grow", "()[Ljava/lang/Object;"⟩ : MethodName)) hown (mvT hZ (hw _ (List.mem_of_getElem? (i := 104) rfl))) (mvT hZ (hw _ (List.mem_of_getElem? (i := 105) rfl))) (own_sel_priv (args := #[]) (mvT hZ (hw _ (List.mem_of_getElem? (i := 67) rfl))) (mvT hZ (hw _ (List.mem_of_getElem? (i := 106) rfl))) (mvT hZ (hw _ (List.mem_of_getElem? (i := 105) rfl))) (by decide)) (Cond.privateMethod_at (args := #[]) (mvT hZ (hw _ (List.mem_of_getElem? (i := 106) rfl)))) (mvT hZ (hw _ (List.mem_of_getElem? (i := 108) rfl))) (by decide) (backOf (W := 0) (rmG0 l Z a0 hw [] a1 dc kd vd mc h0 n0 Z0 O0 S_DC g1 QE1 Q_mc Q_sz Q_el Q_dc) hZ (hw _ (List.mem_of_getElem? (i := 108) rfl)) (hw _ (List.mem_of_getElem? (i := 68) rfl)) (by decide) (by decide)) (g := (mkF m 7 #[.val (.ref a1), .val (.ref a2), .val (.ref dc), .val (.int (0 : Int32))] [(.ref a1)])) rfl (by rw [hml]; rfl) (Steps.refl _) (a := a1) cd3 (fun q_ e_ => by rw [e_] at ce3; cases ce3) (argsL := []) (rest := []) (lenOf pd_5 rfl) rfl (by show 2 * 0 + _ ≤ _; exact Nat.le_of_eq rfl) (hb hby d12_7) (fun _ _ => ⟨rfl, e0, (by decide : 0 + 1 ≤ _), (by decide : 0 + 10 ≤ _)⟩)
  dsimp only [Pt.U, Pt.locs, Pt.cells, Pt.slots] at X3 l3 y3 z3 st3 hQ3
  subst l3 y3 z3
  obtain ⟨tg3, kg3, rfl, N3q, Kq3, gq3, gh3, Eq3, Fa3, Fb3, Fc3, Aq3, Oq3⟩ := hQ3
  have N3 := Fr.app N0 N3q
  have gz3 : h0.size ≤ tg3 := Nat.le_trans K0.1 gh3
  have ne_a1_tg3 : a1 ≠ tg3 := Nat.ne_of_lt (Nat.lt_of_lt_of_le QE1.lt gh3)
  have ne_dc_tg3 : dc ≠ tg3 := Nat.ne_of_lt (Nat.lt_of_lt_of_le Q_dc.lt gh3)
  have ne_a2_tg3 : a2 ≠ tg3 := Nat.ne_of_lt (Nat.lt_of_lt_of_le QE2.lt gh3)
  have f3_1 : Arv Z T3.heap dc kd (.object "java/lang/Object") (0 : Int32) vd .null := (Q_dc.keep Kq3 (ninS (Ne.symm (own_ne_arv QE1 (hw _ (List.mem_of_getElem? (i := 67) rfl)) Q_dc)) nin0))
  have f3_2 : Exa Z T3.heap a2 "com/example/affordance/affordance/Finding" := (QE2.keep Kq3)
  have f3_3 : Exa Z T3.heap a1 "java/util/ArrayList" := Eq3
  have f3_4 : Fld Z T3.heap a1 "java/util/AbstractList" "modCount" "I" (.int mc) := Fa3
  have f3_5 : Fld Z T3.heap a1 "java/util/ArrayList" "size" "I" (.int (0 : Int32)) := Fb3
  have f3_6 : Fld Z T3.heap a1 "java/util/ArrayList" "elementData" "[Ljava/lang/Object;" (.ref tg3) := Fc3
  have f3_7 : Arv Z T3.heap tg3 kg3 (.object "java/lang/Object") (10 : Int32) [Value.null, Value.null, Value.null, Value.null, Value.null, Value.null, Value.null, Value.null, Value.null, Value.null] .null := Aq3
  have Zs3 : n0 ≤ T3.heap.size := (Nat.le_trans Z0 Kq3.1)
  have O3 : Old Z n0 T3.heap := O0.keep Kq3 (allS g1 all0)
  have K3 : Keep h0 T3.heap [a1] := K0.trans Kq3 (allS (Or.inl (List.mem_of_getElem? (i := 0) rfl)) all0)
  refine Go.step (fun t_ k_ => st3.trans k_) ?_
  show Go _ _ _ _ _ _ _ T3 (mkF m 10 #[.val (.ref a1), .val (.ref a2), .val (.ref dc), .val (.int (0 : Int32))] [(.ref tg3)])
  refine Go.step (fun t_ k_ => XS.astoreN X3.here hx rfl (hb hby d12_10) rfl rfl (l' := #[.val (.ref a1), .val (.ref a2), .val (.ref tg3), .val (.int (0 : Int32))]) rfl k_) ?_
  show Go _ _ _ _ _ _ _ T3 (mkF m 11 #[.val (.ref a1), .val (.ref a2), .val (.ref tg3), .val (.int (0 : Int32))] [])
  refine Go.step (fun t_ k_ => XS.aloadN X3.here hx rfl (hb hby d12_11) rfl rfl k_) ?_
  show Go _ _ _ _ _ _ _ T3 (mkF m 12 #[.val (.ref a1), .val (.ref a2), .val (.ref tg3), .val (.int (0 : Int32))] [(.ref tg3)])
  refine Go.step (fun t_ k_ => XS.iloadN X3.here hx rfl (hb hby d12_12) rfl k_) ?_
  show Go _ _ _ _ _ _ _ T3 (mkF m 13 #[.val (.ref a1), .val (.ref a2), .val (.ref tg3), .val (.int (0 : Int32))] [(.int (0 : Int32)), (.ref tg3)])
  refine Go.step (fun t_ k_ => XS.aloadN X3.here hx rfl (hb hby d12_13) rfl rfl k_) ?_
  show Go _ _ _ _ _ _ _ T3 (mkF m 14 #[.val (.ref a1), .val (.ref a2), .val (.ref tg3), .val (.int (0 : Int32))] [(.ref a2), (.int (0 : Int32)), (.ref tg3)])
  obtain ⟨c4, Ar4, q4, S4, M4, H4, U4⟩ := id f3_7
  obtain ⟨T4, h4, X4, e4, W4, st4⟩ := stR X3 hx hZ rfl Ar4 (j := (0 : Int32)) (inb_of S4 ⟨(by decide), (by decide)⟩) rfl (Sto.ofV Ar4 q4 Oq3 (Ins.of_exa f3_2 (hw _ (List.mem_of_getElem? (i := 120) rfl)))) (g := (mkF m 14 #[.val (.ref a1), .val (.ref a2), .val (.ref tg3), .val (.int (0 : Int32))] [(.ref a2), (.int (0 : Int32)), (.ref tg3)])) rfl rfl (hb hby d12_14)
  have N4 := Fr.snoc X4 N3 gq3
  refine Go.step st4 ?_
  have f4_1 : Arv Z h4 dc kd (.object "java/lang/Object") (0 : Int32) vd .null := (f3_1.other W4 ne_dc_tg3)
  have f4_2 : Exa Z h4 a2 "com/example/affordance/affordance/Finding" := (f3_2.wr W4)
  have f4_3 : Exa Z h4 a1 "java/util/ArrayList" := (f3_3.wr W4)
  have f4_4 : Fld Z h4 a1 "java/util/AbstractList" "modCount" "I" (.int mc) := (f3_4.other W4 (Or.inl ne_a1_tg3))
  have f4_5 : Fld Z h4 a1 "java/util/ArrayList" "size" "I" (.int (0 : Int32)) := (f3_5.other W4 (Or.inl ne_a1_tg3))
  have f4_6 : Fld Z h4 a1 "java/util/ArrayList" "elementData" "[Ljava/lang/Object;" (.ref tg3) := (f3_6.other W4 (Or.inl ne_a1_tg3))
  have Zs4 : n0 ≤ h4.size := (Nat.le_trans Zs3 (Keep.of_wr W4).1)
  have O4 : Old Z n0 h4 := O3.wr W4 gq3
  have K4 : Keep h0 h4 [a1] := K3.wr W4 (Or.inr gz3)
  have fA4 : Arv Z h4 tg3 kg3 (.object "java/lang/Object") (10 : Int32) [(.ref a2), Value.null, Value.null, Value.null, Value.null, Value.null, Value.null, Value.null, Value.null, Value.null] .null := (Arv.set Ar4 q4 S4 M4 H4 U4 rfl W4 0 rfl (Nat.le_of_ble_eq_true rfl))
  show Go _ _ _ _ _ _ _ T4 (mkF m 15 #[.val (.ref a1), .val (.ref a2), .val (.ref tg3), .val (.int (0 : Int32))] [])
  refine Go.step (fun t_ k_ => XS.aloadN X4.here hx rfl (hb hby d12_15) rfl rfl k_) ?_
  show Go _ _ _ _ _ _ _ T4 (mkF m 16 #[.val (.ref a1), .val (.ref a2), .val (.ref tg3), .val (.int (0 : Int32))] [(.ref a1)])
  refine Go.step (fun t_ k_ => XS.iloadN X4.here hx rfl (hb hby d12_16) rfl k_) ?_
  show Go _ _ _ _ _ _ _ T4 (mkF m 17 #[.val (.ref a1), .val (.ref a2), .val (.ref tg3), .val (.int (0 : Int32))] [(.int (0 : Int32)), (.ref a1)])
  refine Go.step (fun t_ k_ => XS.iconst X4.here hx rfl (hb hby d12_17) k_) ?_
  show Go _ _ _ _ _ _ _ T4 (mkF m 18 #[.val (.ref a1), .val (.ref a2), .val (.ref tg3), .val (.int (0 : Int32))] [(.int (1 : Int32)), (.int (0 : Int32)), (.ref a1)])
  refine Go.step (fun t_ k_ => XS.iadd X4.here hx rfl (hb hby d12_18) rfl k_) ?_
  show Go _ _ _ _ _ _ _ T4 (mkF m 19 #[.val (.ref a1), .val (.ref a2), .val (.ref tg3), .val (.int (0 : Int32))] [(.int (1 : Int32)), (.ref a1)])
  obtain ⟨T5, h5, X5, e5, W5, st5⟩ := putF X4 hx hZ hown (host := "") (Or.inl (hw _ (List.mem_of_getElem? (i := 97) rfl))) Via.refl e4 f4_5 f4_3 (Or.inl (hw _ (List.mem_of_getElem? (i := 98) rfl))) (hw _ (List.mem_of_getElem? (i := 67) rfl)) (ty := .int) (by decide) rfl rfl (g := (mkF m 19 #[.val (.ref a1), .val (.ref a2), .val (.ref tg3), .val (.int (0 : Int32))] [(.int (1 : Int32)), (.ref a1)])) rfl rfl (hb hby d12_19)
  have N5 := Fr.snoc X5 N4 g1
  refine Go.step st5 ?_
  have f5_1 : Arv Z h5 dc kd (.object "java/lang/Object") (0 : Int32) vd .null := (f4_1.other W5 (Ne.symm (own_ne_arv f4_3 (hw _ (List.mem_of_getElem? (i := 67) rfl)) f4_1)))
  have f5_2 : Exa Z h5 a2 "com/example/affordance/affordance/Finding" := (f4_2.wr W5)
  have f5_3 : Exa Z h5 a1 "java/util/ArrayList" := (f4_3.wr W5)
  have f5_4 : Fld Z h5 a1 "java/util/AbstractList" "modCount" "I" (.int mc) := (f4_4.other W5 (Or.inr (slot_ne (Or.inl (hw _ (List.mem_of_getElem? (i := 86) rfl))) (Or.inl (hw _ (List.mem_of_getElem? (i := 98) rfl))) (by decide) (t := .int) (t' := .int) (by decide) (by decide))))
  have f5_5 : Fld Z h5 a1 "java/util/ArrayList" "size" "I" (.int (1 : Int32)) := (f4_5.same W5)
  have f5_6 : Fld Z h5 a1 "java/util/ArrayList" "elementData" "[Ljava/lang/Object;" (.ref tg3) := (f4_6.other W5 (Or.inr (slot_ne (Or.inl (hw _ (List.mem_of_getElem? (i := 89) rfl))) (Or.inl (hw _ (List.mem_of_getElem? (i := 98) rfl))) (by decide) (t := (.array (.object "java/lang/Object"))) (t' := .int) (by decide) (by decide))))
  have f5_7 : Arv Z h5 tg3 kg3 (.object "java/lang/Object") (10 : Int32) [(.ref a2), Value.null, Value.null, Value.null, Value.null, Value.null, Value.null, Value.null, Value.null, Value.null] .null := (fA4.other W5 (Ne.symm ne_a1_tg3))
  have Zs5 : n0 ≤ h5.size := (Nat.le_trans Zs4 (Keep.of_wr W5).1)
  have O5 : Old Z n0 h5 := O4.wr W5 g1
  have K5 : Keep h0 h5 [a1] := K4.wr W5 (Or.inl (List.mem_of_getElem? (i := 0) rfl))
  show Go _ _ _ _ _ _ _ T5 (mkF m 22 #[.val (.ref a1), .val (.ref a2), .val (.ref tg3), .val (.int (0 : Int32))] [])
  refine Go.retV X5 hx hlk hret (hb hby d12_22) ?_ (by decide) (by decide)
  show QA3 Z _ _ _ _ _ _ _ _ _ T5.heap _
  rw [e5]
  exact ⟨rfl, N5, K5, tg3, kg3, gq3, gz3, f5_3, f5_4, f5_5, f5_6, f5_7, Oq3⟩
theorem ef_rmAdA (m : MethodId) (a1 : Addr) (a2 : Addr) : entryFrame m #[(.ref a1), (.ref a2)] 2 = mkF m 0 #[.val (.ref a1), .val (.ref a2)] [] := by first | (simp [entryFrame, mkF, argsToLocals, Value.category]; done) | rfl
def QAdA (Z : State) (a1 : Addr) (a2 : Addr) (dc : Addr) (kd : ClassId) (vd : List Value) (mc : Int32) (h0 : Heap) (n0 : Nat) (v : Option Value) (h : Heap) (L : List Loc) : Prop := v = some (.int (1 : Int32)) ∧ Fr n0 L ∧ Keep h0 h [a1] ∧ ∃ (t : Addr) (kt : ClassId), n0 ≤ t ∧ h0.size ≤ t ∧ Exa Z h a1 "java/util/ArrayList" ∧ Fld Z h a1 "java/util/AbstractList" "modCount" "I" (.int (mc + (1 : Int32))) ∧ Fld Z h a1 "java/util/ArrayList" "size" "I" (.int (1 : Int32)) ∧ Fld Z h a1 "java/util/ArrayList" "elementData" "[Ljava/lang/Object;" (.ref t) ∧ Arv Z h t kt (.object "java/lang/Object") (10 : Int32) [(.ref a2), Value.null, Value.null, Value.null, Value.null, Value.null, Value.null, Value.null, Value.null, Value.null] .null ∧ Ovr Z kt "java/lang/Object"
theorem d11_0 : decode jdk_38_method_25_code 0 = .ok (.aload_n 0, 1) := by decide +kernel
theorem d11_1 : decode jdk_38_method_25_code 1 = .ok (.dup, 1) := by decide +kernel
theorem d11_2 : decode jdk_38_method_25_code 2 = .ok (.getfield 63, 3) := by decide +kernel
theorem d11_5 : decode jdk_38_method_25_code 5 = .ok (.iconst 1, 1) := by decide +kernel
theorem d11_6 : decode jdk_38_method_25_code 6 = .ok (.iadd, 1) := by decide +kernel
theorem d11_7 : decode jdk_38_method_25_code 7 = .ok (.putfield 63, 3) := by decide +kernel
theorem d11_10 : decode jdk_38_method_25_code 10 = .ok (.aload_n 0, 1) := by decide +kernel
theorem d11_11 : decode jdk_38_method_25_code 11 = .ok (.aload_n 1, 1) := by decide +kernel
theorem d11_12 : decode jdk_38_method_25_code 12 = .ok (.aload_n 0, 1) := by decide +kernel
theorem d11_13 : decode jdk_38_method_25_code 13 = .ok (.getfield 9, 3) := by decide +kernel
theorem d11_16 : decode jdk_38_method_25_code 16 = .ok (.aload_n 0, 1) := by decide +kernel
theorem d11_17 : decode jdk_38_method_25_code 17 = .ok (.getfield 48, 3) := by decide +kernel
theorem pd_6 : parseMethodDescriptor "(Ljava/lang/Object;[Ljava/lang/Object;I)V" = some ⟨[(.object "java/lang/Object"), (.array (.object "java/lang/Object")), .int], none⟩ := by decide +kernel
theorem d11_20 : decode jdk_38_method_25_code 20 = .ok (.invokevirtual 131, 3) := by decide +kernel
theorem d11_23 : decode jdk_38_method_25_code 23 = .ok (.iconst 1, 1) := by decide +kernel
theorem d11_24 : decode jdk_38_method_25_code 24 = .ok (.ireturn, 1) := by decide +kernel
set_option maxRecDepth 65536 in
set_option maxHeartbeats 40000000 in
theorem rmAdA (l : Launch) (Z : State) (a0 : Array Value) (hw : ∀ d ∈ tables_1, d.before a0 Z = true) (ws : List Jvm.Cond) (a1 : Addr) (a2 : Addr) (dc : Addr) (kd : ClassId) (vd : List Value) (mc : Int32) (h0 : Heap) (n0 : Nat) (Z0 : n0 ≤ h0.size) (O0 : Old Z n0 h0) (S_DC : Sta Z Z.heap "java/util/ArrayList" "DEFAULTCAPACITY_EMPTY_ELEMENTDATA" "[Ljava/lang/Object;" (.ref dc)) (g1 : n0 ≤ a1) (QE1 : Exa Z h0 a1 "java/util/ArrayList") (Q_mc : Fld Z h0 a1 "java/util/AbstractList" "modCount" "I" (.int mc)) (Q_sz : Fld Z h0 a1 "java/util/ArrayList" "size" "I" (.int (0 : Int32))) (Q_el : Fld Z h0 a1 "java/util/ArrayList" "elementData" "[Ljava/lang/Object;" (.ref dc)) (Q_dc : Arv Z h0 dc kd (.object "java/lang/Object") (0 : Int32) vd .null) (QE2 : Exa Z h0 a2 "com/example/affordance/affordance/Finding") :
    MetFree l (⟨"java/util/ArrayList", "add", "(Ljava/lang/Object;)Z"⟩ : MethodName) (head1 (Jvm.Cond.code (⟨"java/util/ArrayList", "add", "(Ljava/lang/Object;)Z"⟩ : MethodName) jdk_38_method_25_code 2 (some .boolean) :: ws) ({ frames := 4, cells := 1, slots := 10, locals := 70 } : Room)) (fun a U => a = #[(.ref a1), (.ref a2)] ∧ Z.Warmed39 U.vm ∧ U.heap = h0) (fun _ _ _ _ _ => True) (fun _ U o U' => ∃ v L, o = .returned v ∧ QAdA Z a1 a2 dc kd vd mc h0 n0 v U'.heap L ∧ FrameEnd U o U' L ({ frames := 4, cells := 1, slots := 10, locals := 70 } : Room).cells ({ frames := 4, cells := 1, slots := 10, locals := 70 } : Room).slots) := by
  refine MetFree.of_bodySF (plainFor_of_name pn_6) hisR ?_
  intro p e s m args below meth c s₁ Bd hml0 hP hK
  obtain ⟨rfl, hZ, hh⟩ := hP
  have hx := Bd.exec
  have hby := Bd.bytes
  have hlk := BodyLoose.notSynchronized Bd
  have hml : c.maxLocals = 2 := hml0
  have hret := Bd.returns
  have hown : s.vm.findClass "java/util/ArrayList" = some m.cls := findClass_of_methodNamed Bd.named
  have hnm := (name_of_methodNamed Bd.named Bd.method).1
  have X0 : Stand p l e ({ frames := 4, cells := 1, slots := 10, locals := 70 } : Room) s m #[(.ref a1), (.ref a2)] below meth c s₁ [] 0 0 := Stand.of_body Bd
  have e0 : s₁.heap = h0 := by rw [← hh, Bd.state]; rfl
  have N0 := Fr.nil n0
  show Go p e below s ({ frames := 4, cells := 1, slots := 10, locals := 70 } : Room).cells ({ frames := 4, cells := 1, slots := 10, locals := 70 } : Room).slots (QAdA Z a1 a2 dc kd vd mc h0 n0) s₁ (entryFrame m #[(.ref a1), (.ref a2)] 2)
  refine Go.cast (ef_rmAdA m a1 a2) ?_
  have K0 : Keep h0 h0 [a1] := Keep.refl _ _
  show Go _ _ _ _ _ _ _ s₁ (mkF m 0 #[.val (.ref a1), .val (.ref a2)] [])
  refine Go.step (fun t_ k_ => XS.aloadN X0.here hx rfl (hb hby d11_0) rfl rfl k_) ?_
  show Go _ _ _ _ _ _ _ s₁ (mkF m 1 #[.val (.ref a1), .val (.ref a2)] [(.ref a1)])
  refine Go.step (fun t_ k_ => XS.dup X0.here hx rfl (hb hby d11_1) rfl rfl k_) ?_
  show Go _ _ _ _ _ _ _ s₁ (mkF m 2 #[.val (.ref a1), .val (.ref a2)] [(.ref a1), (.ref a1)])
  obtain ⟨T1, X1, e1, st1⟩ := getF X0 hx hZ hown (host := "") (Or.inl (hw _ (List.mem_of_getElem? (i := 95) rfl))) (Via.of (hw _ (List.mem_of_getElem? (i := 96) rfl))) e0 Q_mc (g := (mkF m 2 #[.val (.ref a1), .val (.ref a2)] [(.ref a1), (.ref a1)])) rfl rfl (hb hby d11_2)
  refine Go.step st1 ?_
  show Go _ _ _ _ _ _ _ T1 (mkF m 5 #[.val (.ref a1), .val (.ref a2)] [(.int mc), (.ref a1)])
  refine Go.step (fun t_ k_ => XS.iconst X1.here hx rfl (hb hby d11_5) k_) ?_
  show Go _ _ _ _ _ _ _ T1 (mkF m 6 #[.val (.ref a1), .val (.ref a2)] [(.int (1 : Int32)), (.int mc), (.ref a1)])
  refine Go.step (fun t_ k_ => XS.iadd X1.here hx rfl (hb hby d11_6) rfl k_) ?_
  show Go _ _ _ _ _ _ _ T1 (mkF m 7 #[.val (.ref a1), .val (.ref a2)] [(.int (mc + (1 : Int32))), (.ref a1)])
  obtain ⟨T2, h2, X2, e2, W2, st2⟩ := putF X1 hx hZ hown (host := "") (Or.inl (hw _ (List.mem_of_getElem? (i := 95) rfl))) (Via.of (hw _ (List.mem_of_getElem? (i := 96) rfl))) e1 Q_mc QE1 (Or.inl (hw _ (List.mem_of_getElem? (i := 86) rfl))) (hw _ (List.mem_of_getElem? (i := 67) rfl)) (ty := .int) (by decide) rfl rfl (g := (mkF m 7 #[.val (.ref a1), .val (.ref a2)] [(.int (mc + (1 : Int32))), (.ref a1)])) rfl rfl (hb hby d11_7)
  have N2 := Fr.snoc X2 N0 g1
  refine Go.step st2 ?_
  have f2_1 : Exa Z h2 a1 "java/util/ArrayList" := (QE1.wr W2)
  have f2_2 : Fld Z h2 a1 "java/util/AbstractList" "modCount" "I" (.int (mc + (1 : Int32))) := (Q_mc.same W2)
  have f2_3 : Fld Z h2 a1 "java/util/ArrayList" "size" "I" (.int (0 : Int32)) := (Q_sz.other W2 (Or.inr (slot_ne (Or.inl (hw _ (List.mem_of_getElem? (i := 98) rfl))) (Or.inl (hw _ (List.mem_of_getElem? (i := 86) rfl))) (by decide) (t := .int) (t' := .int) (by decide) (by decide))))
  have f2_4 : Fld Z h2 a1 "java/util/ArrayList" "elementData" "[Ljava/lang/Object;" (.ref dc) := (Q_el.other W2 (Or.inr (slot_ne (Or.inl (hw _ (List.mem_of_getElem? (i := 89) rfl))) (Or.inl (hw _ (List.mem_of_getElem? (i := 86) rfl))) (by decide) (t := (.array (.object "java/lang/Object"))) (t' := .int) (by decide) (by decide))))
  have f2_5 : Arv Z h2 dc kd (.object "java/lang/Object") (0 : Int32) vd .null := (Q_dc.other W2 (Ne.symm (own_ne_arv QE1 (hw _ (List.mem_of_getElem? (i := 67) rfl)) Q_dc)))
  have f2_6 : Exa Z h2 a2 "com/example/affordance/affordance/Finding" := (QE2.wr W2)
  have Zs2 : n0 ≤ h2.size := (Nat.le_trans Z0 (Keep.of_wr W2).1)
  have O2 : Old Z n0 h2 := O0.wr W2 g1
  have K2 : Keep h0 h2 [a1] := K0.wr W2 (Or.inl (List.mem_of_getElem? (i := 0) rfl))
  show Go _ _ _ _ _ _ _ T2 (mkF m 10 #[.val (.ref a1), .val (.ref a2)] [])
  refine Go.step (fun t_ k_ => XS.aloadN X2.here hx rfl (hb hby d11_10) rfl rfl k_) ?_
  show Go _ _ _ _ _ _ _ T2 (mkF m 11 #[.val (.ref a1), .val (.ref a2)] [(.ref a1)])
  refine Go.step (fun t_ k_ => XS.aloadN X2.here hx rfl (hb hby d11_11) rfl rfl k_) ?_
  show Go _ _ _ _ _ _ _ T2 (mkF m 12 #[.val (.ref a1), .val (.ref a2)] [(.ref a2), (.ref a1)])
  refine Go.step (fun t_ k_ => XS.aloadN X2.here hx rfl (hb hby d11_12) rfl rfl k_) ?_
  show Go _ _ _ _ _ _ _ T2 (mkF m 13 #[.val (.ref a1), .val (.ref a2)] [(.ref a1), (.ref a2), (.ref a1)])
  obtain ⟨T3, X3, e3, st3⟩ := getF X2 hx hZ hown (host := "") (Or.inl (hw _ (List.mem_of_getElem? (i := 88) rfl))) Via.refl e2 f2_4 (g := (mkF m 13 #[.val (.ref a1), .val (.ref a2)] [(.ref a1), (.ref a2), (.ref a1)])) rfl rfl (hb hby d11_13)
  refine Go.step st3 ?_
  show Go _ _ _ _ _ _ _ T3 (mkF m 16 #[.val (.ref a1), .val (.ref a2)] [(.ref dc), (.ref a2), (.ref a1)])
  refine Go.step (fun t_ k_ => XS.aloadN X3.here hx rfl (hb hby d11_16) rfl rfl k_) ?_
  show Go _ _ _ _ _ _ _ T3 (mkF m 17 #[.val (.ref a1), .val (.ref a2)] [(.ref a1), (.ref dc), (.ref a2), (.ref a1)])
  obtain ⟨T4, X4, e4, st4⟩ := getF X3 hx hZ hown (host := "") (Or.inl (hw _ (List.mem_of_getElem? (i := 97) rfl))) Via.refl e3 f2_3 (g := (mkF m 17 #[.val (.ref a1), .val (.ref a2)] [(.ref a1), (.ref dc), (.ref a2), (.ref a1)])) rfl rfl (hb hby d11_17)
  refine Go.step st4 ?_
  show Go _ _ _ _ _ _ _ T4 (mkF m 20 #[.val (.ref a1), .val (.ref a2)] [(.int (0 : Int32)), (.ref dc), (.ref a2), (.ref a1)])
  obtain ⟨cq5, kq5, qa5, qb5, qc5⟩ := isOf hZ e4 f2_1
  obtain ⟨cc5, cd5, -, ce5⟩ := qc5
  obtain ⟨_, _, ⟨T5, L5, k5, n5⟩, -, X5, ⟨Lc5, hQ5, l5, y5, z5⟩, st5⟩ := X4.privateBack hx (y := (⟨"java/util/ArrayList", "add", "(Ljava/lang/Object;[Ljava/lang/Object;I)V"⟩ : MethodName)) hown (mvT hZ (hw _ (List.mem_of_getElem? (i := 99) rfl))) (mvT hZ (hw _ (List.mem_of_getElem? (i := 100) rfl))) (own_sel_priv (args := #[]) (mvT hZ (hw _ (List.mem_of_getElem? (i := 67) rfl))) (mvT hZ (hw _ (List.mem_of_getElem? (i := 101) rfl))) (mvT hZ (hw _ (List.mem_of_getElem? (i := 100) rfl))) (by decide)) (Cond.privateMethod_at (args := #[]) (mvT hZ (hw _ (List.mem_of_getElem? (i := 101) rfl)))) (mvT hZ (hw _ (List.mem_of_getElem? (i := 103) rfl))) (by decide) (backOf (W := 0) (rmA3 l Z a0 hw [] a1 a2 dc kd vd (mc + (1 : Int32)) h2 n0 Zs2 O2 S_DC g1 f2_1 f2_2 f2_3 f2_4 f2_5 f2_6) hZ (hw _ (List.mem_of_getElem? (i := 103) rfl)) (hw _ (List.mem_of_getElem? (i := 68) rfl)) (by decide) (by decide)) (g := (mkF m 20 #[.val (.ref a1), .val (.ref a2)] [(.int (0 : Int32)), (.ref dc), (.ref a2), (.ref a1)])) rfl (by rw [hml]; rfl) (Steps.refl _) (a := a1) cd5 (fun q_ e_ => by rw [e_] at ce5; cases ce5) (argsL := [(.ref a2), (.ref dc), (.int (0 : Int32))]) (rest := []) (lenOf pd_6 rfl) rfl (by show 2 * 0 + _ ≤ _; exact Nat.le_of_eq rfl) (hb hby d11_20) (fun _ _ => ⟨rfl, e4, (by decide : 0 + 1 ≤ _), (by decide : 0 + 10 ≤ _)⟩)
  dsimp only [Pt.U, Pt.locs, Pt.cells, Pt.slots] at X5 l5 y5 z5 st5 hQ5
  subst l5 y5 z5
  obtain ⟨rfl, N5q, Kq5, tg5, kg5, gq5, gh5, Eq5, Fa5, Fb5, Fc5, Aq5, Oq5⟩ := hQ5
  have N5 := Fr.app N2 N5q
  have gz5 : h0.size ≤ tg5 := Nat.le_trans K2.1 gh5
  have ne_a1_tg5 : a1 ≠ tg5 := Nat.ne_of_lt (Nat.lt_of_lt_of_le f2_1.lt gh5)
  have ne_dc_tg5 : dc ≠ tg5 := Nat.ne_of_lt (Nat.lt_of_lt_of_le f2_5.lt gh5)
  have ne_a2_tg5 : a2 ≠ tg5 := Nat.ne_of_lt (Nat.lt_of_lt_of_le f2_6.lt gh5)
  have f5_1 : Arv Z T5.heap dc kd (.object "java/lang/Object") (0 : Int32) vd .null := (f2_5.keep Kq5 (ninS (Ne.symm (own_ne_arv f2_1 (hw _ (List.mem_of_getElem? (i := 67) rfl)) f2_5)) nin0))
  have f5_2 : Exa Z T5.heap a2 "com/example/affordance/affordance/Finding" := (f2_6.keep Kq5)
  have f5_3 : Exa Z T5.heap a1 "java/util/ArrayList" := Eq5
  have f5_4 : Fld Z T5.heap a1 "java/util/AbstractList" "modCount" "I" (.int (mc + (1 : Int32))) := Fa5
  have f5_5 : Fld Z T5.heap a1 "java/util/ArrayList" "size" "I" (.int (1 : Int32)) := Fb5
  have f5_6 : Fld Z T5.heap a1 "java/util/ArrayList" "elementData" "[Ljava/lang/Object;" (.ref tg5) := Fc5
  have f5_7 : Arv Z T5.heap tg5 kg5 (.object "java/lang/Object") (10 : Int32) [(.ref a2), Value.null, Value.null, Value.null, Value.null, Value.null, Value.null, Value.null, Value.null, Value.null] .null := Aq5
  have Zs5 : n0 ≤ T5.heap.size := (Nat.le_trans Zs2 Kq5.1)
  have O5 : Old Z n0 T5.heap := O2.keep Kq5 (allS g1 all0)
  have K5 : Keep h0 T5.heap [a1] := K2.trans Kq5 (allS (Or.inl (List.mem_of_getElem? (i := 0) rfl)) all0)
  refine Go.step (fun t_ k_ => st5.trans k_) ?_
  show Go _ _ _ _ _ _ _ T5 (mkF m 23 #[.val (.ref a1), .val (.ref a2)] [])
  refine Go.step (fun t_ k_ => XS.iconst X5.here hx rfl (hb hby d11_23) k_) ?_
  show Go _ _ _ _ _ _ _ T5 (mkF m 24 #[.val (.ref a1), .val (.ref a2)] [(.int (1 : Int32))])
  refine Go.ret X5 hx hlk hret rfl (Or.inl ⟨rfl, Or.inr (Or.inl rfl), _, rfl⟩) (hb hby d11_24) ?_ (by decide) (by decide)
  show QAdA Z _ _ _ _ _ _ _ _ _ T5.heap _
  exact ⟨rfl, N5, K5, tg5, kg5, gq5, gz5, f5_3, f5_4, f5_5, f5_6, f5_7, Oq5⟩
theorem ef_rmB3 (m : MethodId) (a1 : Addr) (a2 : Addr) (t : Addr) : entryFrame m #[(.ref a1), (.ref a2), (.ref t), (.int (Int32.ofNat nn))] 4 = mkF m 0 #[.val (.ref a1), .val (.ref a2), .val (.ref t), .val (.int (Int32.ofNat nn))] [] := by first | (simp [entryFrame, mkF, argsToLocals, Value.category]; done) | rfl
def QB3 (Z : State) (a1 : Addr) (a2 : Addr) (t : Addr) (kt : ClassId) (vs : List Value) (nn : Nat) (mc : Int32) (h0 : Heap) (n0 : Nat) (v : Option Value) (h : Heap) (L : List Loc) : Prop := v = none ∧ Fr n0 L ∧ Keep h0 h [a1, t] ∧ Exa Z h a1 "java/util/ArrayList" ∧ Fld Z h a1 "java/util/AbstractList" "modCount" "I" (.int mc) ∧ Fld Z h a1 "java/util/ArrayList" "size" "I" (.int (Int32.ofNat (nn + 1))) ∧ Fld Z h a1 "java/util/ArrayList" "elementData" "[Ljava/lang/Object;" (.ref t) ∧ Arv Z h t kt (.object "java/lang/Object") (10 : Int32) (vs.set nn (.ref a2)) .null
set_option maxRecDepth 65536 in
set_option maxHeartbeats 40000000 in
theorem rmB3 (l : Launch) (Z : State) (a0 : Array Value) (hw : ∀ d ∈ tables_1, d.before a0 Z = true) (ws : List Jvm.Cond) (a1 : Addr) (a2 : Addr) (t : Addr) (kt : ClassId) (vs : List Value) (nn : Nat) (mc : Int32) (h0 : Heap) (n0 : Nat) (Z0 : n0 ≤ h0.size) (g1 : n0 ≤ a1) (gt : n0 ≤ t) (QE1 : Exa Z h0 a1 "java/util/ArrayList") (Q_mc : Fld Z h0 a1 "java/util/AbstractList" "modCount" "I" (.int mc)) (Q_sz : Fld Z h0 a1 "java/util/ArrayList" "size" "I" (.int (Int32.ofNat nn))) (Q_el : Fld Z h0 a1 "java/util/ArrayList" "elementData" "[Ljava/lang/Object;" (.ref t)) (Q_t : Arv Z h0 t kt (.object "java/lang/Object") (10 : Int32) vs .null) (OV : Ovr Z kt "java/lang/Object") (hl : vs.length = 10) (hn : nn ≤ 5) (QE2 : Exa Z h0 a2 "com/example/affordance/affordance/Finding") :
    MetFree l (⟨"java/util/ArrayList", "add", "(Ljava/lang/Object;[Ljava/lang/Object;I)V"⟩ : MethodName) (head1 (Jvm.Cond.code (⟨"java/util/ArrayList", "add", "(Ljava/lang/Object;[Ljava/lang/Object;I)V"⟩ : MethodName) jdk_38_method_24_code 4 none :: ws) ({ frames := 0, cells := 0, slots := 0, locals := 0 } : Room)) (fun a U => a = #[(.ref a1), (.ref a2), (.ref t), (.int (Int32.ofNat nn))] ∧ Z.Warmed39 U.vm ∧ U.heap = h0) (fun _ _ _ _ _ => True) (fun _ U o U' => ∃ v L, o = .returned v ∧ QB3 Z a1 a2 t kt vs nn mc h0 n0 v U'.heap L ∧ FrameEnd U o U' L ({ frames := 0, cells := 0, slots := 0, locals := 0 } : Room).cells ({ frames := 0, cells := 0, slots := 0, locals := 0 } : Room).slots) := by
  refine MetFree.of_bodySF (plainFor_of_name pn_6) hisR ?_
  intro p e s m args below meth c s₁ Bd hml0 hP hK
  obtain ⟨rfl, hZ, hh⟩ := hP
  have hx := Bd.exec
  have hby := Bd.bytes
  have hlk := BodyLoose.notSynchronized Bd
  have hml : c.maxLocals = 4 := hml0
  have hret := Bd.returns
  have hown : s.vm.findClass "java/util/ArrayList" = some m.cls := findClass_of_methodNamed Bd.named
  have hnm := (name_of_methodNamed Bd.named Bd.method).1
  have X0 : Stand p l e ({ frames := 0, cells := 0, slots := 0, locals := 0 } : Room) s m #[(.ref a1), (.ref a2), (.ref t), (.int (Int32.ofNat nn))] below meth c s₁ [] 0 0 := Stand.of_body Bd
  have e0 : s₁.heap = h0 := by rw [← hh, Bd.state]; rfl
  have N0 := Fr.nil n0
  show Go p e below s ({ frames := 0, cells := 0, slots := 0, locals := 0 } : Room).cells ({ frames := 0, cells := 0, slots := 0, locals := 0 } : Room).slots (QB3 Z a1 a2 t kt vs nn mc h0 n0) s₁ (entryFrame m #[(.ref a1), (.ref a2), (.ref t), (.int (Int32.ofNat nn))] 4)
  refine Go.cast (ef_rmB3 m a1 a2 t) ?_
  have K0 : Keep h0 h0 [a1, t] := Keep.refl _ _
  show Go _ _ _ _ _ _ _ s₁ (mkF m 0 #[.val (.ref a1), .val (.ref a2), .val (.ref t), .val (.int (Int32.ofNat nn))] [])
  refine Go.step (fun t_ k_ => XS.iloadN X0.here hx rfl (hb hby d12_0) rfl k_) ?_
  show Go _ _ _ _ _ _ _ s₁ (mkF m 1 #[.val (.ref a1), .val (.ref a2), .val (.ref t), .val (.int (Int32.ofNat nn))] [(.int (Int32.ofNat nn))])
  refine Go.step (fun t_ k_ => XS.aloadN X0.here hx rfl (hb hby d12_1) rfl rfl k_) ?_
  show Go _ _ _ _ _ _ _ s₁ (mkF m 2 #[.val (.ref a1), .val (.ref a2), .val (.ref t), .val (.int (Int32.ofNat nn))] [(.ref t), (.int (Int32.ofNat nn))])
  obtain ⟨c1, Ar1, q1, S1, M1, H1, U1⟩ := id Q_t
  refine Go.step (fun t_ k_ => X0.arraylength hx (by first | exact Ar1.1 | (rw [e0]; exact Ar1.1)) (State.isArrayOf_alike hZ.alike Ar1.2.1) (g := (mkF m 2 #[.val (.ref a1), .val (.ref a2), .val (.ref t), .val (.int (Int32.ofNat nn))] [(.ref t), (.int (Int32.ofNat nn))])) rfl rfl (hb hby d12_2) _ k_) ?_
  rw [len_of S1 M1]
  show Go _ _ _ _ _ _ _ s₁ (mkF m 3 #[.val (.ref a1), .val (.ref a2), .val (.ref t), .val (.int (Int32.ofNat nn))] [(.int (10 : Int32)), (.int (Int32.ofNat nn))])
  have hb3_2 : ¬ ((Int32.ofNat nn) = (10 : Int32)) := by exact own_n10 hn
  refine Go.step (fun t_ k_ => XS.icmpYes X0.here hx rfl (pc0 := 3) (pc' := 11) rfl (hb hby d12_3) rfl (XT.ii_ne_t hb3_2) (by decide) (by decide) k_) ?_
  show Go _ _ _ _ _ _ _ s₁ (mkF m 11 #[.val (.ref a1), .val (.ref a2), .val (.ref t), .val (.int (Int32.ofNat nn))] [])
  refine Go.step (fun t_ k_ => XS.aloadN X0.here hx rfl (hb hby d12_11) rfl rfl k_) ?_
  show Go _ _ _ _ _ _ _ s₁ (mkF m 12 #[.val (.ref a1), .val (.ref a2), .val (.ref t), .val (.int (Int32.ofNat nn))] [(.ref t)])
  refine Go.step (fun t_ k_ => XS.iloadN X0.here hx rfl (hb hby d12_12) rfl k_) ?_
  show Go _ _ _ _ _ _ _ s₁ (mkF m 13 #[.val (.ref a1), .val (.ref a2), .val (.ref t), .val (.int (Int32.ofNat nn))] [(.int (Int32.ofNat nn)), (.ref t)])
  refine Go.step (fun t_ k_ => XS.aloadN X0.here hx rfl (hb hby d12_13) rfl rfl k_) ?_
  show Go _ _ _ _ _ _ _ s₁ (mkF m 14 #[.val (.ref a1), .val (.ref a2), .val (.ref t), .val (.int (Int32.ofNat nn))] [(.ref a2), (.int (Int32.ofNat nn)), (.ref t)])
  obtain ⟨c3, Ar3, q3, S3, M3, H3, U3⟩ := id Q_t
  obtain ⟨T3, h3, X3, e3, W3, st3⟩ := stR X0 hx hZ e0 Ar3 (j := (Int32.ofNat nn)) (inb_of S3 (own_inb hn)) rfl (Sto.ofV Ar3 q3 OV (Ins.of_exa QE2 (hw _ (List.mem_of_getElem? (i := 120) rfl)))) (g := (mkF m 14 #[.val (.ref a1), .val (.ref a2), .val (.ref t), .val (.int (Int32.ofNat nn))] [(.ref a2), (.int (Int32.ofNat nn)), (.ref t)])) rfl rfl (hb hby d12_14)
  have N3 := Fr.snoc X3 N0 gt
  refine Go.step st3 ?_
  have f3_0 : Exa Z h3 a1 "java/util/ArrayList" := (QE1.wr W3)
  have f3_1 : Fld Z h3 a1 "java/util/AbstractList" "modCount" "I" (.int mc) := (Q_mc.other W3 (Or.inl (own_ne_arv QE1 (hw _ (List.mem_of_getElem? (i := 67) rfl)) Q_t)))
  have f3_2 : Fld Z h3 a1 "java/util/ArrayList" "size" "I" (.int (Int32.ofNat nn)) := (Q_sz.other W3 (Or.inl (own_ne_arv QE1 (hw _ (List.mem_of_getElem? (i := 67) rfl)) Q_t)))
  have f3_3 : Fld Z h3 a1 "java/util/ArrayList" "elementData" "[Ljava/lang/Object;" (.ref t) := (Q_el.other W3 (Or.inl (own_ne_arv QE1 (hw _ (List.mem_of_getElem? (i := 67) rfl)) Q_t)))
  have f3_4 : Exa Z h3 a2 "com/example/affordance/affordance/Finding" := (QE2.wr W3)
  have Zs3 : n0 ≤ h3.size := (Nat.le_trans Z0 (Keep.of_wr W3).1)
  have K3 : Keep h0 h3 [a1, t] := K0.wr W3 (Or.inl (List.mem_of_getElem? (i := 1) rfl))
  have fA3 : Arv Z h3 t kt (.object "java/lang/Object") (10 : Int32) (vs.set nn (.ref a2)) .null := (Arv.set Ar3 q3 S3 M3 H3 U3 rfl W3 nn (own_tnc (by omega)) (by rw [hl]; omega))
  show Go _ _ _ _ _ _ _ T3 (mkF m 15 #[.val (.ref a1), .val (.ref a2), .val (.ref t), .val (.int (Int32.ofNat nn))] [])
  refine Go.step (fun t_ k_ => XS.aloadN X3.here hx rfl (hb hby d12_15) rfl rfl k_) ?_
  show Go _ _ _ _ _ _ _ T3 (mkF m 16 #[.val (.ref a1), .val (.ref a2), .val (.ref t), .val (.int (Int32.ofNat nn))] [(.ref a1)])
  refine Go.step (fun t_ k_ => XS.iloadN X3.here hx rfl (hb hby d12_16) rfl k_) ?_
  show Go _ _ _ _ _ _ _ T3 (mkF m 17 #[.val (.ref a1), .val (.ref a2), .val (.ref t), .val (.int (Int32.ofNat nn))] [(.int (Int32.ofNat nn)), (.ref a1)])
  refine Go.step (fun t_ k_ => XS.iconst X3.here hx rfl (hb hby d12_17) k_) ?_
  show Go _ _ _ _ _ _ _ T3 (mkF m 18 #[.val (.ref a1), .val (.ref a2), .val (.ref t), .val (.int (Int32.ofNat nn))] [(.int (1 : Int32)), (.int (Int32.ofNat nn)), (.ref a1)])
  refine Go.step (fun t_ k_ => XS.iadd X3.here hx rfl (hb hby d12_18) rfl k_) ?_
  show Go _ _ _ _ _ _ _ T3 (mkF m 19 #[.val (.ref a1), .val (.ref a2), .val (.ref t), .val (.int (Int32.ofNat nn))] [(.int ((Int32.ofNat nn) + (1 : Int32))), (.ref a1)])
  rw [show Int32.ofNat nn + (1 : Int32) = Int32.ofNat (nn + 1) from (inc_ofNat nn).symm]
  show Go _ _ _ _ _ _ _ T3 (mkF m 19 #[.val (.ref a1), .val (.ref a2), .val (.ref t), .val (.int (Int32.ofNat nn))] [(.int (Int32.ofNat (nn + 1))), (.ref a1)])
  obtain ⟨T4, h4, X4, e4, W4, st4⟩ := putF X3 hx hZ hown (host := "") (Or.inl (hw _ (List.mem_of_getElem? (i := 97) rfl))) Via.refl e3 f3_2 f3_0 (Or.inl (hw _ (List.mem_of_getElem? (i := 98) rfl))) (hw _ (List.mem_of_getElem? (i := 67) rfl)) (ty := .int) (by decide) rfl rfl (g := (mkF m 19 #[.val (.ref a1), .val (.ref a2), .val (.ref t), .val (.int (Int32.ofNat nn))] [(.int (Int32.ofNat (nn + 1))), (.ref a1)])) rfl rfl (hb hby d12_19)
  have N4 := Fr.snoc X4 N3 g1
  refine Go.step st4 ?_
  have f4_0 : Exa Z h4 a1 "java/util/ArrayList" := (f3_0.wr W4)
  have f4_1 : Fld Z h4 a1 "java/util/AbstractList" "modCount" "I" (.int mc) := (f3_1.other W4 (Or.inr (slot_ne (Or.inl (hw _ (List.mem_of_getElem? (i := 86) rfl))) (Or.inl (hw _ (List.mem_of_getElem? (i := 98) rfl))) (by decide) (t := .int) (t' := .int) (by decide) (by decide))))
  have f4_2 : Fld Z h4 a1 "java/util/ArrayList" "size" "I" (.int (Int32.ofNat (nn + 1))) := (f3_2.same W4)
  have f4_3 : Fld Z h4 a1 "java/util/ArrayList" "elementData" "[Ljava/lang/Object;" (.ref t) := (f3_3.other W4 (Or.inr (slot_ne (Or.inl (hw _ (List.mem_of_getElem? (i := 89) rfl))) (Or.inl (hw _ (List.mem_of_getElem? (i := 98) rfl))) (by decide) (t := (.array (.object "java/lang/Object"))) (t' := .int) (by decide) (by decide))))
  have f4_4 : Exa Z h4 a2 "com/example/affordance/affordance/Finding" := (f3_4.wr W4)
  have f4_5 : Arv Z h4 t kt (.object "java/lang/Object") (10 : Int32) (vs.set nn (.ref a2)) .null := (fA3.other W4 (Ne.symm (own_ne_arv f3_0 (hw _ (List.mem_of_getElem? (i := 67) rfl)) fA3)))
  have Zs4 : n0 ≤ h4.size := (Nat.le_trans Zs3 (Keep.of_wr W4).1)
  have K4 : Keep h0 h4 [a1, t] := K3.wr W4 (Or.inl (List.mem_of_getElem? (i := 0) rfl))
  show Go _ _ _ _ _ _ _ T4 (mkF m 22 #[.val (.ref a1), .val (.ref a2), .val (.ref t), .val (.int (Int32.ofNat nn))] [])
  refine Go.retV X4 hx hlk hret (hb hby d12_22) ?_ (by decide) (by decide)
  show QB3 Z _ _ _ _ _ _ _ _ _ _ T4.heap _
  rw [e4]
  exact ⟨rfl, N4, K4, f4_0, f4_1, f4_2, f4_3, f4_5⟩
theorem ef_rmAdB (m : MethodId) (a1 : Addr) (a2 : Addr) : entryFrame m #[(.ref a1), (.ref a2)] 2 = mkF m 0 #[.val (.ref a1), .val (.ref a2)] [] := by first | (simp [entryFrame, mkF, argsToLocals, Value.category]; done) | rfl
def QAdB (Z : State) (a1 : Addr) (a2 : Addr) (t : Addr) (kt : ClassId) (vs : List Value) (nn : Nat) (mc : Int32) (h0 : Heap) (n0 : Nat) (v : Option Value) (h : Heap) (L : List Loc) : Prop := v = some (.int (1 : Int32)) ∧ Fr n0 L ∧ Keep h0 h [a1, t] ∧ Exa Z h a1 "java/util/ArrayList" ∧ Fld Z h a1 "java/util/AbstractList" "modCount" "I" (.int (mc + (1 : Int32))) ∧ Fld Z h a1 "java/util/ArrayList" "size" "I" (.int (Int32.ofNat (nn + 1))) ∧ Fld Z h a1 "java/util/ArrayList" "elementData" "[Ljava/lang/Object;" (.ref t) ∧ Arv Z h t kt (.object "java/lang/Object") (10 : Int32) (vs.set nn (.ref a2)) .null
set_option maxRecDepth 65536 in
set_option maxHeartbeats 40000000 in
theorem rmAdB (l : Launch) (Z : State) (a0 : Array Value) (hw : ∀ d ∈ tables_1, d.before a0 Z = true) (ws : List Jvm.Cond) (a1 : Addr) (a2 : Addr) (t : Addr) (kt : ClassId) (vs : List Value) (nn : Nat) (mc : Int32) (h0 : Heap) (n0 : Nat) (Z0 : n0 ≤ h0.size) (g1 : n0 ≤ a1) (gt : n0 ≤ t) (QE1 : Exa Z h0 a1 "java/util/ArrayList") (Q_mc : Fld Z h0 a1 "java/util/AbstractList" "modCount" "I" (.int mc)) (Q_sz : Fld Z h0 a1 "java/util/ArrayList" "size" "I" (.int (Int32.ofNat nn))) (Q_el : Fld Z h0 a1 "java/util/ArrayList" "elementData" "[Ljava/lang/Object;" (.ref t)) (Q_t : Arv Z h0 t kt (.object "java/lang/Object") (10 : Int32) vs .null) (OV : Ovr Z kt "java/lang/Object") (hl : vs.length = 10) (hn : nn ≤ 5) (QE2 : Exa Z h0 a2 "com/example/affordance/affordance/Finding") :
    MetFree l (⟨"java/util/ArrayList", "add", "(Ljava/lang/Object;)Z"⟩ : MethodName) (head1 (Jvm.Cond.code (⟨"java/util/ArrayList", "add", "(Ljava/lang/Object;)Z"⟩ : MethodName) jdk_38_method_25_code 2 (some .boolean) :: ws) ({ frames := 1, cells := 0, slots := 0, locals := 18 } : Room)) (fun a U => a = #[(.ref a1), (.ref a2)] ∧ Z.Warmed39 U.vm ∧ U.heap = h0) (fun _ _ _ _ _ => True) (fun _ U o U' => ∃ v L, o = .returned v ∧ QAdB Z a1 a2 t kt vs nn mc h0 n0 v U'.heap L ∧ FrameEnd U o U' L ({ frames := 1, cells := 0, slots := 0, locals := 18 } : Room).cells ({ frames := 1, cells := 0, slots := 0, locals := 18 } : Room).slots) := by
  refine MetFree.of_bodySF (plainFor_of_name pn_6) hisR ?_
  intro p e s m args below meth c s₁ Bd hml0 hP hK
  obtain ⟨rfl, hZ, hh⟩ := hP
  have hx := Bd.exec
  have hby := Bd.bytes
  have hlk := BodyLoose.notSynchronized Bd
  have hml : c.maxLocals = 2 := hml0
  have hret := Bd.returns
  have hown : s.vm.findClass "java/util/ArrayList" = some m.cls := findClass_of_methodNamed Bd.named
  have hnm := (name_of_methodNamed Bd.named Bd.method).1
  have X0 : Stand p l e ({ frames := 1, cells := 0, slots := 0, locals := 18 } : Room) s m #[(.ref a1), (.ref a2)] below meth c s₁ [] 0 0 := Stand.of_body Bd
  have e0 : s₁.heap = h0 := by rw [← hh, Bd.state]; rfl
  have N0 := Fr.nil n0
  show Go p e below s ({ frames := 1, cells := 0, slots := 0, locals := 18 } : Room).cells ({ frames := 1, cells := 0, slots := 0, locals := 18 } : Room).slots (QAdB Z a1 a2 t kt vs nn mc h0 n0) s₁ (entryFrame m #[(.ref a1), (.ref a2)] 2)
  refine Go.cast (ef_rmAdB m a1 a2) ?_
  have K0 : Keep h0 h0 [a1, t] := Keep.refl _ _
  show Go _ _ _ _ _ _ _ s₁ (mkF m 0 #[.val (.ref a1), .val (.ref a2)] [])
  refine Go.step (fun t_ k_ => XS.aloadN X0.here hx rfl (hb hby d11_0) rfl rfl k_) ?_
  show Go _ _ _ _ _ _ _ s₁ (mkF m 1 #[.val (.ref a1), .val (.ref a2)] [(.ref a1)])
  refine Go.step (fun t_ k_ => XS.dup X0.here hx rfl (hb hby d11_1) rfl rfl k_) ?_
  show Go _ _ _ _ _ _ _ s₁ (mkF m 2 #[.val (.ref a1), .val (.ref a2)] [(.ref a1), (.ref a1)])
  obtain ⟨T1, X1, e1, st1⟩ := getF X0 hx hZ hown (host := "") (Or.inl (hw _ (List.mem_of_getElem? (i := 95) rfl))) (Via.of (hw _ (List.mem_of_getElem? (i := 96) rfl))) e0 Q_mc (g := (mkF m 2 #[.val (.ref a1), .val (.ref a2)] [(.ref a1), (.ref a1)])) rfl rfl (hb hby d11_2)
  refine Go.step st1 ?_
  show Go _ _ _ _ _ _ _ T1 (mkF m 5 #[.val (.ref a1), .val (.ref a2)] [(.int mc), (.ref a1)])
  refine Go.step (fun t_ k_ => XS.iconst X1.here hx rfl (hb hby d11_5) k_) ?_
  show Go _ _ _ _ _ _ _ T1 (mkF m 6 #[.val (.ref a1), .val (.ref a2)] [(.int (1 : Int32)), (.int mc), (.ref a1)])
  refine Go.step (fun t_ k_ => XS.iadd X1.here hx rfl (hb hby d11_6) rfl k_) ?_
  show Go _ _ _ _ _ _ _ T1 (mkF m 7 #[.val (.ref a1), .val (.ref a2)] [(.int (mc + (1 : Int32))), (.ref a1)])
  obtain ⟨T2, h2, X2, e2, W2, st2⟩ := putF X1 hx hZ hown (host := "") (Or.inl (hw _ (List.mem_of_getElem? (i := 95) rfl))) (Via.of (hw _ (List.mem_of_getElem? (i := 96) rfl))) e1 Q_mc QE1 (Or.inl (hw _ (List.mem_of_getElem? (i := 86) rfl))) (hw _ (List.mem_of_getElem? (i := 67) rfl)) (ty := .int) (by decide) rfl rfl (g := (mkF m 7 #[.val (.ref a1), .val (.ref a2)] [(.int (mc + (1 : Int32))), (.ref a1)])) rfl rfl (hb hby d11_7)
  have N2 := Fr.snoc X2 N0 g1
  refine Go.step st2 ?_
  have f2_0 : Exa Z h2 a1 "java/util/ArrayList" := (QE1.wr W2)
  have f2_1 : Fld Z h2 a1 "java/util/AbstractList" "modCount" "I" (.int (mc + (1 : Int32))) := (Q_mc.same W2)
  have f2_2 : Fld Z h2 a1 "java/util/ArrayList" "size" "I" (.int (Int32.ofNat nn)) := (Q_sz.other W2 (Or.inr (slot_ne (Or.inl (hw _ (List.mem_of_getElem? (i := 98) rfl))) (Or.inl (hw _ (List.mem_of_getElem? (i := 86) rfl))) (by decide) (t := .int) (t' := .int) (by decide) (by decide))))
  have f2_3 : Fld Z h2 a1 "java/util/ArrayList" "elementData" "[Ljava/lang/Object;" (.ref t) := (Q_el.other W2 (Or.inr (slot_ne (Or.inl (hw _ (List.mem_of_getElem? (i := 89) rfl))) (Or.inl (hw _ (List.mem_of_getElem? (i := 86) rfl))) (by decide) (t := (.array (.object "java/lang/Object"))) (t' := .int) (by decide) (by decide))))
  have f2_4 : Arv Z h2 t kt (.object "java/lang/Object") (10 : Int32) vs .null := (Q_t.other W2 (Ne.symm (own_ne_arv QE1 (hw _ (List.mem_of_getElem? (i := 67) rfl)) Q_t)))
  have f2_5 : Exa Z h2 a2 "com/example/affordance/affordance/Finding" := (QE2.wr W2)
  have Zs2 : n0 ≤ h2.size := (Nat.le_trans Z0 (Keep.of_wr W2).1)
  have K2 : Keep h0 h2 [a1, t] := K0.wr W2 (Or.inl (List.mem_of_getElem? (i := 0) rfl))
  show Go _ _ _ _ _ _ _ T2 (mkF m 10 #[.val (.ref a1), .val (.ref a2)] [])
  refine Go.step (fun t_ k_ => XS.aloadN X2.here hx rfl (hb hby d11_10) rfl rfl k_) ?_
  show Go _ _ _ _ _ _ _ T2 (mkF m 11 #[.val (.ref a1), .val (.ref a2)] [(.ref a1)])
  refine Go.step (fun t_ k_ => XS.aloadN X2.here hx rfl (hb hby d11_11) rfl rfl k_) ?_
  show Go _ _ _ _ _ _ _ T2 (mkF m 12 #[.val (.ref a1), .val (.ref a2)] [(.ref a2), (.ref a1)])
  refine Go.step (fun t_ k_ => XS.aloadN X2.here hx rfl (hb hby d11_12) rfl rfl k_) ?_
  show Go _ _ _ _ _ _ _ T2 (mkF m 13 #[.val (.ref a1), .val (.ref a2)] [(.ref a1), (.ref a2), (.ref a1)])
  obtain ⟨T3, X3, e3, st3⟩ := getF X2 hx hZ hown (host := "") (Or.inl (hw _ (List.mem_of_getElem? (i := 88) rfl))) Via.refl e2 f2_3 (g := (mkF m 13 #[.val (.ref a1), .val (.ref a2)] [(.ref a1), (.ref a2), (.ref a1)])) rfl rfl (hb hby d11_13)
  refine Go.step st3 ?_
  show Go _ _ _ _ _ _ _ T3 (mkF m 16 #[.val (.ref a1), .val (.ref a2)] [(.ref t), (.ref a2), (.ref a1)])
  refine Go.step (fun t_ k_ => XS.aloadN X3.here hx rfl (hb hby d11_16) rfl rfl k_) ?_
  show Go _ _ _ _ _ _ _ T3 (mkF m 17 #[.val (.ref a1), .val (.ref a2)] [(.ref a1), (.ref t), (.ref a2), (.ref a1)])
  obtain ⟨T4, X4, e4, st4⟩ := getF X3 hx hZ hown (host := "") (Or.inl (hw _ (List.mem_of_getElem? (i := 97) rfl))) Via.refl e3 f2_2 (g := (mkF m 17 #[.val (.ref a1), .val (.ref a2)] [(.ref a1), (.ref t), (.ref a2), (.ref a1)])) rfl rfl (hb hby d11_17)
  refine Go.step st4 ?_
  show Go _ _ _ _ _ _ _ T4 (mkF m 20 #[.val (.ref a1), .val (.ref a2)] [(.int (Int32.ofNat nn)), (.ref t), (.ref a2), (.ref a1)])
  obtain ⟨cq5, kq5, qa5, qb5, qc5⟩ := isOf hZ e4 f2_0
  obtain ⟨cc5, cd5, -, ce5⟩ := qc5
  obtain ⟨_, _, ⟨T5, L5, k5, n5⟩, -, X5, ⟨Lc5, hQ5, l5, y5, z5⟩, st5⟩ := X4.privateBack hx (y := (⟨"java/util/ArrayList", "add", "(Ljava/lang/Object;[Ljava/lang/Object;I)V"⟩ : MethodName)) hown (mvT hZ (hw _ (List.mem_of_getElem? (i := 99) rfl))) (mvT hZ (hw _ (List.mem_of_getElem? (i := 100) rfl))) (own_sel_priv (args := #[]) (mvT hZ (hw _ (List.mem_of_getElem? (i := 67) rfl))) (mvT hZ (hw _ (List.mem_of_getElem? (i := 101) rfl))) (mvT hZ (hw _ (List.mem_of_getElem? (i := 100) rfl))) (by decide)) (Cond.privateMethod_at (args := #[]) (mvT hZ (hw _ (List.mem_of_getElem? (i := 101) rfl)))) (mvT hZ (hw _ (List.mem_of_getElem? (i := 103) rfl))) (by decide) (backOf (W := 0) (rmB3 l Z a0 hw [] a1 a2 t kt vs nn (mc + (1 : Int32)) h2 n0 Zs2 g1 gt f2_0 f2_1 f2_2 f2_3 f2_4 OV hl hn f2_5) hZ (hw _ (List.mem_of_getElem? (i := 103) rfl)) (hw _ (List.mem_of_getElem? (i := 68) rfl)) (by decide) (by decide)) (g := (mkF m 20 #[.val (.ref a1), .val (.ref a2)] [(.int (Int32.ofNat nn)), (.ref t), (.ref a2), (.ref a1)])) rfl (by rw [hml]; rfl) (Steps.refl _) (a := a1) cd5 (fun q_ e_ => by rw [e_] at ce5; cases ce5) (argsL := [(.ref a2), (.ref t), (.int (Int32.ofNat nn))]) (rest := []) (lenOf pd_6 rfl) rfl (by show 2 * 0 + _ ≤ _; exact Nat.le_of_eq rfl) (hb hby d11_20) (fun _ _ => ⟨rfl, e4, (by decide : 0 + 0 ≤ _), (by decide : 0 + 0 ≤ _)⟩)
  dsimp only [Pt.U, Pt.locs, Pt.cells, Pt.slots] at X5 l5 y5 z5 st5 hQ5
  subst l5 y5 z5
  obtain ⟨rfl, N5q, Kq5, Eq5, Fa5, Fb5, Fc5, Aq5⟩ := hQ5
  have N5 := Fr.app N2 N5q
  have f5_0 : Exa Z T5.heap a2 "com/example/affordance/affordance/Finding" := (f2_5.keep Kq5)
  have f5_1 : Exa Z T5.heap a1 "java/util/ArrayList" := Eq5
  have f5_2 : Fld Z T5.heap a1 "java/util/AbstractList" "modCount" "I" (.int (mc + (1 : Int32))) := Fa5
  have f5_3 : Fld Z T5.heap a1 "java/util/ArrayList" "size" "I" (.int (Int32.ofNat (nn + 1))) := Fb5
  have f5_4 : Fld Z T5.heap a1 "java/util/ArrayList" "elementData" "[Ljava/lang/Object;" (.ref t) := Fc5
  have f5_5 : Arv Z T5.heap t kt (.object "java/lang/Object") (10 : Int32) (vs.set nn (.ref a2)) .null := Aq5
  have Zs5 : n0 ≤ T5.heap.size := (Nat.le_trans Zs2 Kq5.1)
  have K5 : Keep h0 T5.heap [a1, t] := K2.trans Kq5 (allS (Or.inl (List.mem_of_getElem? (i := 0) rfl)) (allS (Or.inl (List.mem_of_getElem? (i := 1) rfl)) all0))
  refine Go.step (fun t_ k_ => st5.trans k_) ?_
  show Go _ _ _ _ _ _ _ T5 (mkF m 23 #[.val (.ref a1), .val (.ref a2)] [])
  refine Go.step (fun t_ k_ => XS.iconst X5.here hx rfl (hb hby d11_23) k_) ?_
  show Go _ _ _ _ _ _ _ T5 (mkF m 24 #[.val (.ref a1), .val (.ref a2)] [(.int (1 : Int32))])
  refine Go.ret X5 hx hlk hret rfl (Or.inl ⟨rfl, Or.inr (Or.inl rfl), _, rfl⟩) (hb hby d11_24) ?_ (by decide) (by decide)
  show QAdB Z _ _ _ _ _ _ _ _ _ _ T5.heap _
  exact ⟨rfl, N5, K5, f5_1, f5_2, f5_3, f5_4, f5_5⟩
theorem pn_7 : plainName "com/example/affordance/affordance/Level" = true := by first | (simp [plainName, overriddenIn]; done) | decide +kernel
theorem ef_rmVs (m : MethodId)  : entryFrame m #[] 0 = mkF m 0 #[] [] := by first | (simp [entryFrame, mkF, argsToLocals, Value.category]; done) | rfl
def QVs (Z : State)  (vv : Addr) (kv : ClassId) (vsv : List Value) (h0 : Heap) (n0 : Nat) (v : Option Value) (h : Heap) (L : List Loc) : Prop := ∃ (t : Addr), v = some (.ref t) ∧ Fr n0 L ∧ Keep h0 h [] ∧ Arv Z h t kv (.object "com/example/affordance/affordance/Level") (3 : Int32) vsv .null
theorem d17_0 : decode prog_20_method_1_code 0 = .ok (.getstatic 13, 3) := by decide +kernel
theorem d17_3 : decode prog_20_method_1_code 3 = .ok (.invokevirtual 17, 3) := by decide +kernel
theorem d17_6 : decode prog_20_method_1_code 6 = .ok (.checkcast 18, 3) := by decide +kernel
theorem d17_9 : decode prog_20_method_1_code 9 = .ok (.areturn, 1) := by decide +kernel
set_option maxRecDepth 65536 in
set_option maxHeartbeats 40000000 in
theorem rmVs (l : Launch) (Z : State) (a0 : Array Value) (hw : ∀ d ∈ tables_1, d.before a0 Z = true) (ws : List Jvm.Cond)  (vv : Addr) (kv : ClassId) (vsv : List Value) (h0 : Heap) (n0 : Nat) (Z0 : n0 ≤ h0.size) (O0 : Old Z n0 h0) (S_VV : Sta Z Z.heap "com/example/affordance/affordance/Level" "$VALUES" "[Lcom/example/affordance/affordance/Level;" (.ref vv)) (E_VV : Exa Z Z.heap vv "[Lcom/example/affordance/affordance/Level;") (A_VV : Arv Z Z.heap vv kv (.object "com/example/affordance/affordance/Level") (3 : Int32) vsv .null) :
    MetFree l (⟨"com/example/affordance/affordance/Level", "values", "()[Lcom/example/affordance/affordance/Level;"⟩ : MethodName) (head1 (Jvm.Cond.code (⟨"com/example/affordance/affordance/Level", "values", "()[Lcom/example/affordance/affordance/Level;"⟩ : MethodName) prog_20_method_1_code 0 (some (.array (.object "com/example/affordance/affordance/Level"))) :: ws) ({ frames := 1, cells := 1, slots := 3, locals := 14 } : Room)) (fun a U => a = #[] ∧ Z.Warmed39 U.vm ∧ U.heap = h0) (fun _ _ _ _ _ => True) (fun _ U o U' => ∃ v L, o = .returned v ∧ QVs Z  vv kv vsv h0 n0 v U'.heap L ∧ FrameEnd U o U' L ({ frames := 1, cells := 1, slots := 3, locals := 14 } : Room).cells ({ frames := 1, cells := 1, slots := 3, locals := 14 } : Room).slots) := by
  refine MetFree.of_bodySF (plainFor_of_name pn_7) hisR ?_
  intro p e s m args below meth c s₁ Bd hml0 hP hK
  obtain ⟨rfl, hZ, hh⟩ := hP
  have hx := Bd.exec
  have hby := Bd.bytes
  have hlk := BodyLoose.notSynchronized Bd
  have hml : c.maxLocals = 0 := hml0
  have hret := Bd.returns
  have hown : s.vm.findClass "com/example/affordance/affordance/Level" = some m.cls := findClass_of_methodNamed Bd.named
  have hnm := (name_of_methodNamed Bd.named Bd.method).1
  have X0 : Stand p l e ({ frames := 1, cells := 1, slots := 3, locals := 14 } : Room) s m #[] below meth c s₁ [] 0 0 := Stand.of_body Bd
  have e0 : s₁.heap = h0 := by rw [← hh, Bd.state]; rfl
  have N0 := Fr.nil n0
  show Go p e below s ({ frames := 1, cells := 1, slots := 3, locals := 14 } : Room).cells ({ frames := 1, cells := 1, slots := 3, locals := 14 } : Room).slots (QVs Z  vv kv vsv h0 n0) s₁ (entryFrame m #[] 0)
  refine Go.cast (ef_rmVs m ) ?_
  have K0 : Keep h0 h0 [] := Keep.refl _ _
  show Go _ _ _ _ _ _ _ s₁ (mkF m 0 #[] [])
  obtain ⟨T1, X1, e1, st1⟩ := getS2 X0 hx hZ hown (host := "") (Or.inl (hw _ (List.mem_of_getElem? (i := 131) rfl))) Via.refl e0 (S_VV.ext O0.2) (g := (mkF m 0 #[] [])) rfl (hb hby d17_0)
  refine Go.step st1 ?_
  show Go _ _ _ _ _ _ _ T1 (mkF m 3 #[] [(.ref vv)])
  obtain ⟨T2, h2, X2, e2, E2, A2, xA2, st2⟩ := cloneH X1 hx hZ hown (hw _ (List.mem_of_getElem? (i := 133) rfl)) (hw _ (List.mem_of_getElem? (i := 134) rfl)) (hw _ (List.mem_of_getElem? (i := 138) rfl)) (hw _ (List.mem_of_getElem? (i := 136) rfl)) (hw _ (List.mem_of_getElem? (i := 137) rfl)) (hw _ (List.mem_of_getElem? (i := 139) rfl)) e1 (Arv.arh (A_VV.ext O0.2)) (E_VV.ext O0.2) (g := (mkF m 3 #[] [(.ref vv)])) rfl (by rw [hml]; rfl) (rest := []) rfl (hb hby d17_3) (by decide) (W := 0) (cap := 3) (by show 2 * 0 + _ ≤ _; exact Nat.le_of_eq rfl) (by decide) (by decide) (by decide) (by decide)
  obtain ⟨r2, g2⟩ : ∃ z, z = h0.size := ⟨_, rfl⟩
  rw [← g2] at A2 xA2 st2
  have ne_vv_r2 : vv ≠ r2 := Nat.ne_of_lt (Nat.lt_of_lt_of_le (A_VV.ext O0.2).lt (Nat.le_of_eq g2.symm))
  have ge_r2 : n0 ≤ r2 := Nat.le_trans Z0 (Nat.le_of_eq g2.symm)
  have geh_r2 : h0.size ≤ r2 := Nat.le_trans K0.1 (Nat.le_of_eq g2.symm)
  have f2_1 : Arv Z h2 vv kv (.object "com/example/affordance/affordance/Level") (3 : Int32) vsv .null := ((A_VV.ext O0.2).ext E2)
  have f2_2 : Exa Z h2 vv "[Lcom/example/affordance/affordance/Level;" := ((E_VV.ext O0.2).ext E2)
  have f2_3 : Arv Z h2 r2 kv (.object "com/example/affordance/affordance/Level") (3 : Int32) vsv .null := A2
  have f2_4 : Exa Z h2 r2 "[Lcom/example/affordance/affordance/Level;" := xA2
  have Zs2 : n0 ≤ h2.size := (Nat.le_trans Z0 E2.1)
  have O2 : Old Z n0 h2 := O0.ext E2
  have K2 : Keep h0 h2 [] := K0.ext E2
  refine Go.step st2 ?_
  show Go _ _ _ _ _ _ _ T2 (mkF m 6 #[] [(.ref r2)])
  obtain ⟨T3, X3, e3, st3⟩ := castY X2 hx hZ hown (hw _ (List.mem_of_getElem? (i := 142) rfl)) e2 (Ins.self f2_4) (g := (mkF m 6 #[] [(.ref r2)])) rfl rfl (hb hby d17_6)
  refine Go.step st3 ?_
  show Go _ _ _ _ _ _ _ T3 (mkF m 9 #[] [(.ref r2)])
  refine Go.ret X3 hx hlk hret rfl (Or.inr (Or.inr (Or.inr (Or.inr ⟨rfl, rfl, rfl⟩)))) (hb hby d17_9) ?_ (by decide) (by decide)
  show QVs Z _ _ _ _ _ _ T3.heap _
  rw [e3]
  exact ⟨r2, rfl, N0, K2, f2_3⟩
theorem pn_8 : plainName "com/example/affordance/affordance/FindingCounts" = true := by first | (simp [plainName, overriddenIn]; done) | decide +kernel
theorem ef_rmKi (m : MethodId) (a1 : Addr) : entryFrame m #[(.ref a1)] 1 = mkF m 0 #[.val (.ref a1)] [] := by first | (simp [entryFrame, mkF, argsToLocals, Value.category]; done) | rfl
def QKi (Z : State) (a1 : Addr) (vv : Addr) (kv : ClassId) (vsv : List Value) (h0 : Heap) (n0 : Nat) (v : Option Value) (h : Heap) (L : List Loc) : Prop := v = none ∧ Fr n0 L ∧ Keep h0 h [a1] ∧ ∃ (t : Addr) (kt : ClassId), n0 ≤ t ∧ h0.size ≤ t ∧ Exa Z h a1 "com/example/affordance/affordance/FindingCounts" ∧ Fld Z h a1 "com/example/affordance/affordance/FindingCounts" "counts" "[I" (.ref t) ∧ Arv Z h t kt .int (3 : Int32) [.int (0 : Int32), .int (0 : Int32), .int (0 : Int32)] (.int (0 : Int32))
theorem d16_0 : decode prog_17_method_1_code 0 = .ok (.aload_n 0, 1) := by decide +kernel
theorem d16_1 : decode prog_17_method_1_code 1 = .ok (.invokespecial 1, 3) := by decide +kernel
theorem d16_4 : decode prog_17_method_1_code 4 = .ok (.aload_n 0, 1) := by decide +kernel
theorem pd_7 : parseMethodDescriptor "()[Lcom/example/affordance/affordance/Level;" = some ⟨[], some (.array (.object "com/example/affordance/affordance/Level"))⟩ := by decide +kernel
theorem d16_5 : decode prog_17_method_1_code 5 = .ok (.invokestatic 7, 3) := by decide +kernel
theorem d16_8 : decode prog_17_method_1_code 8 = .ok (.arraylength, 1) := by decide +kernel
theorem d16_9 : decode prog_17_method_1_code 9 = .ok (.newarray .int, 2) := by decide +kernel
theorem d16_11 : decode prog_17_method_1_code 11 = .ok (.putfield 13, 3) := by decide +kernel
theorem d16_14 : decode prog_17_method_1_code 14 = .ok (.return_, 1) := by decide +kernel
set_option maxRecDepth 65536 in
set_option maxHeartbeats 40000000 in
theorem rmKi (l : Launch) (Z : State) (a0 : Array Value) (hw : ∀ d ∈ tables_1, d.before a0 Z = true) (ws : List Jvm.Cond) (a1 : Addr) (vv : Addr) (kv : ClassId) (vsv : List Value) (h0 : Heap) (n0 : Nat) (Z0 : n0 ≤ h0.size) (O0 : Old Z n0 h0) (S_VV : Sta Z Z.heap "com/example/affordance/affordance/Level" "$VALUES" "[Lcom/example/affordance/affordance/Level;" (.ref vv)) (E_VV : Exa Z Z.heap vv "[Lcom/example/affordance/affordance/Level;") (A_VV : Arv Z Z.heap vv kv (.object "com/example/affordance/affordance/Level") (3 : Int32) vsv .null) (g1 : n0 ≤ a1) (QE1 : Exa Z h0 a1 "com/example/affordance/affordance/FindingCounts") (Q_c : Fld Z h0 a1 "com/example/affordance/affordance/FindingCounts" "counts" "[I" .null) :
    MetFree l (⟨"com/example/affordance/affordance/FindingCounts", "<init>", "()V"⟩ : MethodName) (head1 (Jvm.Cond.code (⟨"com/example/affordance/affordance/FindingCounts", "<init>", "()V"⟩ : MethodName) prog_17_method_1_code 1 none :: ws) ({ frames := 2, cells := 2, slots := 6, locals := 30 } : Room)) (fun a U => a = #[(.ref a1)] ∧ Z.Warmed39 U.vm ∧ U.heap = h0) (fun _ _ _ _ _ => True) (fun _ U o U' => ∃ v L, o = .returned v ∧ QKi Z a1 vv kv vsv h0 n0 v U'.heap L ∧ FrameEnd U o U' L ({ frames := 2, cells := 2, slots := 6, locals := 30 } : Room).cells ({ frames := 2, cells := 2, slots := 6, locals := 30 } : Room).slots) := by
  refine MetFree.of_bodySF (plainFor_of_name pn_8) hisR ?_
  intro p e s m args below meth c s₁ Bd hml0 hP hK
  obtain ⟨rfl, hZ, hh⟩ := hP
  have hx := Bd.exec
  have hby := Bd.bytes
  have hlk := BodyLoose.notSynchronized Bd
  have hml : c.maxLocals = 1 := hml0
  have hret := Bd.returns
  have hown : s.vm.findClass "com/example/affordance/affordance/FindingCounts" = some m.cls := findClass_of_methodNamed Bd.named
  have hnm := (name_of_methodNamed Bd.named Bd.method).1
  have X0 : Stand p l e ({ frames := 2, cells := 2, slots := 6, locals := 30 } : Room) s m #[(.ref a1)] below meth c s₁ [] 0 0 := Stand.of_body Bd
  have e0 : s₁.heap = h0 := by rw [← hh, Bd.state]; rfl
  have N0 := Fr.nil n0
  show Go p e below s ({ frames := 2, cells := 2, slots := 6, locals := 30 } : Room).cells ({ frames := 2, cells := 2, slots := 6, locals := 30 } : Room).slots (QKi Z a1 vv kv vsv h0 n0) s₁ (entryFrame m #[(.ref a1)] 1)
  refine Go.cast (ef_rmKi m a1) ?_
  have K0 : Keep h0 h0 [a1] := Keep.refl _ _
  show Go _ _ _ _ _ _ _ s₁ (mkF m 0 #[.val (.ref a1)] [])
  refine Go.step (fun t_ k_ => XS.aloadN X0.here hx rfl (hb hby d16_0) rfl rfl k_) ?_
  show Go _ _ _ _ _ _ _ s₁ (mkF m 1 #[.val (.ref a1)] [(.ref a1)])
  obtain ⟨T1, X1, e1, st1⟩ := initO X0 hx hZ hown (hw _ (List.mem_of_getElem? (i := 127) rfl)) (hw _ (List.mem_of_getElem? (i := 18) rfl)) (hw _ (List.mem_of_getElem? (i := 19) rfl)) e0 (g := (mkF m 1 #[.val (.ref a1)] [(.ref a1)])) rfl (by rw [hml]; rfl) rfl (hb hby d16_1) (by decide) (W := 0) (by show 2 * 0 + _ ≤ _; exact Nat.le_of_eq rfl) (by decide)
  refine Go.step st1 ?_
  show Go _ _ _ _ _ _ _ T1 (mkF m 4 #[.val (.ref a1)] [])
  refine Go.step (fun t_ k_ => XS.aloadN X1.here hx rfl (hb hby d16_4) rfl rfl k_) ?_
  show Go _ _ _ _ _ _ _ T1 (mkF m 5 #[.val (.ref a1)] [(.ref a1)])
  obtain ⟨_, _, ⟨T2, L2, k2, n2⟩, -, X2, ⟨Lc2, hQ2, l2, y2, z2⟩, st2⟩ := Jvm.LawKit.callS X1 hx (y := (⟨"com/example/affordance/affordance/Level", "values", "()[Lcom/example/affordance/affordance/Level;"⟩ : MethodName)) hown (mvT hZ (hw _ (List.mem_of_getElem? (i := 128) rfl))) (mvT hZ (hw _ (List.mem_of_getElem? (i := 129) rfl))) (mvT hZ (hw _ (List.mem_of_getElem? (i := 33) rfl))) (mvT hZ (hw _ (List.mem_of_getElem? (i := 130) rfl))) (by decide) (backOf (W := 1) (rmVs l Z a0 hw [] vv kv vsv h0 n0 Z0 O0 S_VV E_VV A_VV) hZ (hw _ (List.mem_of_getElem? (i := 130) rfl)) (hw _ (List.mem_of_getElem? (i := 33) rfl)) (by decide) (by decide)) (g := (mkF m 5 #[.val (.ref a1)] [(.ref a1)])) rfl (by rw [hml]; rfl) (argsL := []) (rest := [(.ref a1)]) (lenOf pd_7 rfl) rfl (by show 2 * 0 + _ ≤ _; exact Nat.le_of_eq rfl) (hb hby d16_5) (fun _ _ => ⟨rfl, e1, (by decide : 0 + 1 ≤ _), (by decide : 0 + 3 ≤ _)⟩)
  dsimp only [Pt.U, Pt.locs, Pt.cells, Pt.slots] at X2 l2 y2 z2 st2 hQ2
  subst l2 y2 z2
  obtain ⟨tv2, rfl, N2q, Kq2, Aq2⟩ := hQ2
  have N2 := Fr.app N0 N2q
  have f2_1 : Exa Z T2.heap a1 "com/example/affordance/affordance/FindingCounts" := (QE1.keep Kq2)
  have f2_2 : Fld Z T2.heap a1 "com/example/affordance/affordance/FindingCounts" "counts" "[I" .null := (Q_c.keep Kq2 nin0)
  have f2_3 : Arv Z T2.heap tv2 kv (.object "com/example/affordance/affordance/Level") (3 : Int32) vsv .null := Aq2
  have Zs2 : n0 ≤ T2.heap.size := (Nat.le_trans Z0 Kq2.1)
  have O2 : Old Z n0 T2.heap := O0.keep Kq2 all0
  have K2 : Keep h0 T2.heap [a1] := K0.trans Kq2 all0
  refine Go.step st2 ?_
  show Go _ _ _ _ _ _ _ T2 (mkF m 8 #[.val (.ref a1)] [(.ref tv2), (.ref a1)])
  obtain ⟨c3, Ar3, q3, S3, M3, H3, U3⟩ := id f2_3
  refine Go.step (fun t_ k_ => X2.arraylength hx (by first | exact Ar3.1 | (rw [e0]; exact Ar3.1)) (State.isArrayOf_alike hZ.alike Ar3.2.1) (g := (mkF m 8 #[.val (.ref a1)] [(.ref tv2), (.ref a1)])) rfl rfl (hb hby d16_8) _ k_) ?_
  rw [len_of S3 M3]
  show Go _ _ _ _ _ _ _ T2 (mkF m 9 #[.val (.ref a1)] [(.int (3 : Int32)), (.ref a1)])
  obtain ⟨T4, h4, k4, X4, e4, E4, A4, st4⟩ := newP X2 hx hZ (hw _ (List.mem_of_getElem? (i := 144) rfl)) rfl (g := (mkF m 9 #[.val (.ref a1)] [(.int (3 : Int32)), (.ref a1)])) rfl (hb hby d16_9) rfl (by decide) (cap := 3) (by decide) (by decide) (by decide) (by decide)
  obtain ⟨r4, g4⟩ : ∃ z, z = T2.heap.size := ⟨_, rfl⟩
  rw [← g4] at A4 st4
  have ne_a1_r4 : a1 ≠ r4 := Nat.ne_of_lt (Nat.lt_of_lt_of_le f2_1.lt (Nat.le_of_eq g4.symm))
  have ne_tv2_r4 : tv2 ≠ r4 := Nat.ne_of_lt (Nat.lt_of_lt_of_le f2_3.lt (Nat.le_of_eq g4.symm))
  have ge_r4 : n0 ≤ r4 := Nat.le_trans Zs2 (Nat.le_of_eq g4.symm)
  have geh_r4 : h0.size ≤ r4 := Nat.le_trans K2.1 (Nat.le_of_eq g4.symm)
  have f4_1 : Exa Z h4 a1 "com/example/affordance/affordance/FindingCounts" := (f2_1.ext E4)
  have f4_2 : Fld Z h4 a1 "com/example/affordance/affordance/FindingCounts" "counts" "[I" .null := (f2_2.ext E4)
  have f4_3 : Arv Z h4 tv2 kv (.object "com/example/affordance/affordance/Level") (3 : Int32) vsv .null := (f2_3.ext E4)
  have f4_4 : Arv Z h4 r4 k4 .int (3 : Int32) [(.int (0 : Int32)), (.int (0 : Int32)), (.int (0 : Int32))] (.int (0 : Int32)) := ((Arv.new A4 (by decide)).pad (pad_rep [] (.int (0 : Int32)) 3))
  have Zs4 : n0 ≤ h4.size := (Nat.le_trans Zs2 E4.1)
  have O4 : Old Z n0 h4 := O2.ext E4
  have K4 : Keep h0 h4 [a1] := K2.ext E4
  refine Go.step st4 ?_
  show Go _ _ _ _ _ _ _ T4 (mkF m 11 #[.val (.ref a1)] [(.ref r4), (.ref a1)])
  obtain ⟨T5, h5, X5, e5, W5, st5⟩ := putF X4 hx hZ hown (host := "") (Or.inl (hw _ (List.mem_of_getElem? (i := 145) rfl))) Via.refl e4 f4_2 f4_1 (Or.inr ⟨(hw _ (List.mem_of_getElem? (i := 146) rfl)), rfl, hnm⟩) (hw _ (List.mem_of_getElem? (i := 122) rfl)) (ty := (.array .int)) (by decide) rfl rfl (g := (mkF m 11 #[.val (.ref a1)] [(.ref r4), (.ref a1)])) rfl rfl (hb hby d16_11)
  have N5 := Fr.snoc X5 N2 g1
  refine Go.step st5 ?_
  have f5_1 : Exa Z h5 a1 "com/example/affordance/affordance/FindingCounts" := (f4_1.wr W5)
  have f5_2 : Fld Z h5 a1 "com/example/affordance/affordance/FindingCounts" "counts" "[I" (.ref r4) := (f4_2.same W5)
  have f5_3 : Arv Z h5 tv2 kv (.object "com/example/affordance/affordance/Level") (3 : Int32) vsv .null := (f4_3.other W5 (Ne.symm (own_ne_arv f4_1 (hw _ (List.mem_of_getElem? (i := 122) rfl)) f4_3)))
  have f5_4 : Arv Z h5 r4 k4 .int (3 : Int32) [(.int (0 : Int32)), (.int (0 : Int32)), (.int (0 : Int32))] (.int (0 : Int32)) := (f4_4.other W5 (Ne.symm ne_a1_r4))
  have Zs5 : n0 ≤ h5.size := (Nat.le_trans Zs4 (Keep.of_wr W5).1)
  have O5 : Old Z n0 h5 := O4.wr W5 g1
  have K5 : Keep h0 h5 [a1] := K4.wr W5 (Or.inl (List.mem_of_getElem? (i := 0) rfl))
  show Go _ _ _ _ _ _ _ T5 (mkF m 14 #[.val (.ref a1)] [])
  refine Go.retV X5 hx hlk hret (hb hby d16_14) ?_ (by decide) (by decide)
  show QKi Z _ _ _ _ _ _ _ T5.heap _
  rw [e5]
  exact ⟨rfl, N5, K5, r4, k4, ge_r4, geh_r4, f5_1, f5_2, f5_4⟩
theorem ef_rmTt (m : MethodId) (a1 : Addr) : entryFrame m #[(.ref a1)] 6 = mkF m 0 #[.val (.ref a1), .unset, .unset, .unset, .unset, .unset] [] := by first | (simp [entryFrame, mkF, argsToLocals, Value.category]; done) | rfl
def QTt (Z : State) (a1 : Addr) (tc : Addr) (kc : ClassId) (x0 : Int32) (x1 : Int32) (x2 : Int32) (h0 : Heap) (n0 : Nat) (v : Option Value) (h : Heap) (L : List Loc) : Prop := v = some (.int ((((0 : Int32) + x0) + x1) + x2)) ∧ Fr n0 L ∧ h = h0
theorem d18_0 : decode prog_17_method_3_code 0 = .ok (.iconst 0, 1) := by decide +kernel
theorem d18_1 : decode prog_17_method_3_code 1 = .ok (.istore_n 1, 1) := by decide +kernel
theorem d18_2 : decode prog_17_method_3_code 2 = .ok (.aload_n 0, 1) := by decide +kernel
theorem d18_3 : decode prog_17_method_3_code 3 = .ok (.getfield 13, 3) := by decide +kernel
theorem d18_6 : decode prog_17_method_3_code 6 = .ok (.astore_n 2, 1) := by decide +kernel
theorem d18_7 : decode prog_17_method_3_code 7 = .ok (.aload_n 2, 1) := by decide +kernel
theorem d18_8 : decode prog_17_method_3_code 8 = .ok (.arraylength, 1) := by decide +kernel
theorem d18_9 : decode prog_17_method_3_code 9 = .ok (.istore_n 3, 1) := by decide +kernel
theorem d18_10 : decode prog_17_method_3_code 10 = .ok (.iconst 0, 1) := by decide +kernel
theorem d18_11 : decode prog_17_method_3_code 11 = .ok (.istore 4, 2) := by decide +kernel
theorem d18_13 : decode prog_17_method_3_code 13 = .ok (.iload 4, 2) := by decide +kernel
theorem d18_15 : decode prog_17_method_3_code 15 = .ok (.iload_n 3, 1) := by decide +kernel
theorem d18_16 : decode prog_17_method_3_code 16 = .ok (.if_icmp .ge 20, 3) := by decide +kernel
theorem d18_19 : decode prog_17_method_3_code 19 = .ok (.aload_n 2, 1) := by decide +kernel
theorem d18_20 : decode prog_17_method_3_code 20 = .ok (.iload 4, 2) := by decide +kernel
theorem d18_22 : decode prog_17_method_3_code 22 = .ok (.iaload, 1) := by decide +kernel
theorem d18_23 : decode prog_17_method_3_code 23 = .ok (.istore 5, 2) := by decide +kernel
theorem d18_25 : decode prog_17_method_3_code 25 = .ok (.iload_n 1, 1) := by decide +kernel
theorem d18_26 : decode prog_17_method_3_code 26 = .ok (.iload 5, 2) := by decide +kernel
theorem d18_28 : decode prog_17_method_3_code 28 = .ok (.iadd, 1) := by decide +kernel
theorem d18_29 : decode prog_17_method_3_code 29 = .ok (.istore_n 1, 1) := by decide +kernel
theorem d18_30 : decode prog_17_method_3_code 30 = .ok (.iinc 4 1, 3) := by decide +kernel
theorem d18_33 : decode prog_17_method_3_code 33 = .ok (.goto (-20), 3) := by decide +kernel
theorem d18_36 : decode prog_17_method_3_code 36 = .ok (.iload_n 1, 1) := by decide +kernel
theorem d18_37 : decode prog_17_method_3_code 37 = .ok (.ireturn, 1) := by decide +kernel
set_option maxRecDepth 65536 in
set_option maxHeartbeats 40000000 in
theorem rmTt (l : Launch) (Z : State) (a0 : Array Value) (hw : ∀ d ∈ tables_1, d.before a0 Z = true) (ws : List Jvm.Cond) (a1 : Addr) (tc : Addr) (kc : ClassId) (x0 : Int32) (x1 : Int32) (x2 : Int32) (h0 : Heap) (n0 : Nat) (Z0 : n0 ≤ h0.size) (QE1 : Exa Z h0 a1 "com/example/affordance/affordance/FindingCounts") (Q_c : Fld Z h0 a1 "com/example/affordance/affordance/FindingCounts" "counts" "[I" (.ref tc)) (Q_tc : Arv Z h0 tc kc .int (3 : Int32) [.int x0, .int x1, .int x2] (.int (0 : Int32))) :
    MetFree l (⟨"com/example/affordance/affordance/FindingCounts", "total", "()I"⟩ : MethodName) (head1 (Jvm.Cond.code (⟨"com/example/affordance/affordance/FindingCounts", "total", "()I"⟩ : MethodName) prog_17_method_3_code 6 (some .int) :: ws) ({ frames := 0, cells := 0, slots := 0, locals := 0 } : Room)) (fun a U => a = #[(.ref a1)] ∧ Z.Warmed39 U.vm ∧ U.heap = h0) (fun _ _ _ _ _ => True) (fun _ U o U' => ∃ v L, o = .returned v ∧ QTt Z a1 tc kc x0 x1 x2 h0 n0 v U'.heap L ∧ FrameEnd U o U' L ({ frames := 0, cells := 0, slots := 0, locals := 0 } : Room).cells ({ frames := 0, cells := 0, slots := 0, locals := 0 } : Room).slots) := by
  refine MetFree.of_bodySF (plainFor_of_name pn_8) hisR ?_
  intro p e s m args below meth c s₁ Bd hml0 hP hK
  obtain ⟨rfl, hZ, hh⟩ := hP
  have hx := Bd.exec
  have hby := Bd.bytes
  have hlk := BodyLoose.notSynchronized Bd
  have hml : c.maxLocals = 6 := hml0
  have hret := Bd.returns
  have hown : s.vm.findClass "com/example/affordance/affordance/FindingCounts" = some m.cls := findClass_of_methodNamed Bd.named
  have hnm := (name_of_methodNamed Bd.named Bd.method).1
  have X0 : Stand p l e ({ frames := 0, cells := 0, slots := 0, locals := 0 } : Room) s m #[(.ref a1)] below meth c s₁ [] 0 0 := Stand.of_body Bd
  have e0 : s₁.heap = h0 := by rw [← hh, Bd.state]; rfl
  have N0 := Fr.nil n0
  show Go p e below s ({ frames := 0, cells := 0, slots := 0, locals := 0 } : Room).cells ({ frames := 0, cells := 0, slots := 0, locals := 0 } : Room).slots (QTt Z a1 tc kc x0 x1 x2 h0 n0) s₁ (entryFrame m #[(.ref a1)] 6)
  refine Go.cast (ef_rmTt m a1) ?_
  show Go _ _ _ _ _ _ _ s₁ (mkF m 0 #[.val (.ref a1), .unset, .unset, .unset, .unset, .unset] [])
  refine Go.step (fun t_ k_ => XS.iconst X0.here hx rfl (hb hby d18_0) k_) ?_
  show Go _ _ _ _ _ _ _ s₁ (mkF m 1 #[.val (.ref a1), .unset, .unset, .unset, .unset, .unset] [(.int (0 : Int32))])
  refine Go.step (fun t_ k_ => XS.istoreN X0.here hx rfl (hb hby d18_1) rfl (l' := #[.val (.ref a1), .val (.int (0 : Int32)), .unset, .unset, .unset, .unset]) rfl k_) ?_
  show Go _ _ _ _ _ _ _ s₁ (mkF m 2 #[.val (.ref a1), .val (.int (0 : Int32)), .unset, .unset, .unset, .unset] [])
  refine Go.step (fun t_ k_ => XS.aloadN X0.here hx rfl (hb hby d18_2) rfl rfl k_) ?_
  show Go _ _ _ _ _ _ _ s₁ (mkF m 3 #[.val (.ref a1), .val (.int (0 : Int32)), .unset, .unset, .unset, .unset] [(.ref a1)])
  obtain ⟨T1, X1, e1, st1⟩ := getF X0 hx hZ hown (host := "") (Or.inl (hw _ (List.mem_of_getElem? (i := 145) rfl))) Via.refl e0 Q_c (g := (mkF m 3 #[.val (.ref a1), .val (.int (0 : Int32)), .unset, .unset, .unset, .unset] [(.ref a1)])) rfl rfl (hb hby d18_3)
  refine Go.step st1 ?_
  show Go _ _ _ _ _ _ _ T1 (mkF m 6 #[.val (.ref a1), .val (.int (0 : Int32)), .unset, .unset, .unset, .unset] [(.ref tc)])
  refine Go.step (fun t_ k_ => XS.astoreN X1.here hx rfl (hb hby d18_6) rfl rfl (l' := #[.val (.ref a1), .val (.int (0 : Int32)), .val (.ref tc), .unset, .unset, .unset]) rfl k_) ?_
  show Go _ _ _ _ _ _ _ T1 (mkF m 7 #[.val (.ref a1), .val (.int (0 : Int32)), .val (.ref tc), .unset, .unset, .unset] [])
  refine Go.step (fun t_ k_ => XS.aloadN X1.here hx rfl (hb hby d18_7) rfl rfl k_) ?_
  show Go _ _ _ _ _ _ _ T1 (mkF m 8 #[.val (.ref a1), .val (.int (0 : Int32)), .val (.ref tc), .unset, .unset, .unset] [(.ref tc)])
  obtain ⟨c2, Ar2, q2, S2, M2, H2, U2⟩ := id Q_tc
  refine Go.step (fun t_ k_ => X1.arraylength hx (by first | exact Ar2.1 | (rw [e1]; exact Ar2.1)) (State.isArrayOf_alike hZ.alike Ar2.2.1) (g := (mkF m 8 #[.val (.ref a1), .val (.int (0 : Int32)), .val (.ref tc), .unset, .unset, .unset] [(.ref tc)])) rfl rfl (hb hby d18_8) _ k_) ?_
  rw [len_of S2 M2]
  show Go _ _ _ _ _ _ _ T1 (mkF m 9 #[.val (.ref a1), .val (.int (0 : Int32)), .val (.ref tc), .unset, .unset, .unset] [(.int (3 : Int32))])
  refine Go.step (fun t_ k_ => XS.istoreN X1.here hx rfl (hb hby d18_9) rfl (l' := #[.val (.ref a1), .val (.int (0 : Int32)), .val (.ref tc), .val (.int (3 : Int32)), .unset, .unset]) rfl k_) ?_
  show Go _ _ _ _ _ _ _ T1 (mkF m 10 #[.val (.ref a1), .val (.int (0 : Int32)), .val (.ref tc), .val (.int (3 : Int32)), .unset, .unset] [])
  refine Go.step (fun t_ k_ => XS.iconst X1.here hx rfl (hb hby d18_10) k_) ?_
  show Go _ _ _ _ _ _ _ T1 (mkF m 11 #[.val (.ref a1), .val (.int (0 : Int32)), .val (.ref tc), .val (.int (3 : Int32)), .unset, .unset] [(.int (0 : Int32))])
  refine Go.step (fun t_ k_ => XS.istore X1.here hx rfl (hb hby d18_11) rfl (l' := #[.val (.ref a1), .val (.int (0 : Int32)), .val (.ref tc), .val (.int (3 : Int32)), .val (.int (0 : Int32)), .unset]) rfl k_) ?_
  show Go _ _ _ _ _ _ _ T1 (mkF m 13 #[.val (.ref a1), .val (.int (0 : Int32)), .val (.ref tc), .val (.int (3 : Int32)), .val (.int (0 : Int32)), .unset] [])
  refine Go.step (fun t_ k_ => XS.iload X1.here hx rfl (hb hby d18_13) rfl k_) ?_
  show Go _ _ _ _ _ _ _ T1 (mkF m 15 #[.val (.ref a1), .val (.int (0 : Int32)), .val (.ref tc), .val (.int (3 : Int32)), .val (.int (0 : Int32)), .unset] [(.int (0 : Int32))])
  refine Go.step (fun t_ k_ => XS.iloadN X1.here hx rfl (hb hby d18_15) rfl k_) ?_
  show Go _ _ _ _ _ _ _ T1 (mkF m 16 #[.val (.ref a1), .val (.int (0 : Int32)), .val (.ref tc), .val (.int (3 : Int32)), .val (.int (0 : Int32)), .unset] [(.int (3 : Int32)), (.int (0 : Int32))])
  have hb16_3 : (0 : Int32) < (3 : Int32) := by decide
  refine Go.step (fun t_ k_ => XS.icmpNo X1.here hx rfl (hb hby d18_16) rfl (XT.ii_ge_f hb16_3) k_) ?_
  show Go _ _ _ _ _ _ _ T1 (mkF m 19 #[.val (.ref a1), .val (.int (0 : Int32)), .val (.ref tc), .val (.int (3 : Int32)), .val (.int (0 : Int32)), .unset] [])
  refine Go.step (fun t_ k_ => XS.aloadN X1.here hx rfl (hb hby d18_19) rfl rfl k_) ?_
  show Go _ _ _ _ _ _ _ T1 (mkF m 20 #[.val (.ref a1), .val (.int (0 : Int32)), .val (.ref tc), .val (.int (3 : Int32)), .val (.int (0 : Int32)), .unset] [(.ref tc)])
  refine Go.step (fun t_ k_ => XS.iload X1.here hx rfl (hb hby d18_20) rfl k_) ?_
  show Go _ _ _ _ _ _ _ T1 (mkF m 22 #[.val (.ref a1), .val (.int (0 : Int32)), .val (.ref tc), .val (.int (3 : Int32)), .val (.int (0 : Int32)), .unset] [(.int (0 : Int32)), (.ref tc)])
  obtain ⟨c4, Ar4, q4, S4, M4, H4, U4⟩ := id Q_tc
  have hin4 := inb_of (j := (0 : Int32)) S4 ⟨(by decide), (by decide)⟩
  refine Go.step (fun t_ k_ => X1.iaload hx (j := (0 : Int32)) (v := (.int x0)) (by first | exact Ar4.1 | (rw [e1]; exact Ar4.1)) (State.isArrayOf_alike hZ.alike Ar4.2.1) Ar4.2.2 hin4 (H4.at hin4 rfl) (g := (mkF m 22 #[.val (.ref a1), .val (.int (0 : Int32)), .val (.ref tc), .val (.int (3 : Int32)), .val (.int (0 : Int32)), .unset] [(.int (0 : Int32)), (.ref tc)])) rfl rfl (hb hby d18_22) _ k_) ?_
  show Go _ _ _ _ _ _ _ T1 (mkF m 23 #[.val (.ref a1), .val (.int (0 : Int32)), .val (.ref tc), .val (.int (3 : Int32)), .val (.int (0 : Int32)), .unset] [(.int x0)])
  refine Go.step (fun t_ k_ => XS.istore X1.here hx rfl (hb hby d18_23) rfl (l' := #[.val (.ref a1), .val (.int (0 : Int32)), .val (.ref tc), .val (.int (3 : Int32)), .val (.int (0 : Int32)), .val (.int x0)]) rfl k_) ?_
  show Go _ _ _ _ _ _ _ T1 (mkF m 25 #[.val (.ref a1), .val (.int (0 : Int32)), .val (.ref tc), .val (.int (3 : Int32)), .val (.int (0 : Int32)), .val (.int x0)] [])
  refine Go.step (fun t_ k_ => XS.iloadN X1.here hx rfl (hb hby d18_25) rfl k_) ?_
  show Go _ _ _ _ _ _ _ T1 (mkF m 26 #[.val (.ref a1), .val (.int (0 : Int32)), .val (.ref tc), .val (.int (3 : Int32)), .val (.int (0 : Int32)), .val (.int x0)] [(.int (0 : Int32))])
  refine Go.step (fun t_ k_ => XS.iload X1.here hx rfl (hb hby d18_26) rfl k_) ?_
  show Go _ _ _ _ _ _ _ T1 (mkF m 28 #[.val (.ref a1), .val (.int (0 : Int32)), .val (.ref tc), .val (.int (3 : Int32)), .val (.int (0 : Int32)), .val (.int x0)] [(.int x0), (.int (0 : Int32))])
  refine Go.step (fun t_ k_ => XS.iadd X1.here hx rfl (hb hby d18_28) rfl k_) ?_
  show Go _ _ _ _ _ _ _ T1 (mkF m 29 #[.val (.ref a1), .val (.int (0 : Int32)), .val (.ref tc), .val (.int (3 : Int32)), .val (.int (0 : Int32)), .val (.int x0)] [(.int ((0 : Int32) + x0))])
  refine Go.step (fun t_ k_ => XS.istoreN X1.here hx rfl (hb hby d18_29) rfl (l' := #[.val (.ref a1), .val (.int ((0 : Int32) + x0)), .val (.ref tc), .val (.int (3 : Int32)), .val (.int (0 : Int32)), .val (.int x0)]) rfl k_) ?_
  show Go _ _ _ _ _ _ _ T1 (mkF m 30 #[.val (.ref a1), .val (.int ((0 : Int32) + x0)), .val (.ref tc), .val (.int (3 : Int32)), .val (.int (0 : Int32)), .val (.int x0)] [])
  refine Go.step (fun t_ k_ => XS.iinc X1.here hx rfl (hb hby d18_30) rfl (l' := #[.val (.ref a1), .val (.int ((0 : Int32) + x0)), .val (.ref tc), .val (.int (3 : Int32)), .val (.int (1 : Int32)), .val (.int x0)]) rfl k_) ?_
  show Go _ _ _ _ _ _ _ T1 (mkF m 33 #[.val (.ref a1), .val (.int ((0 : Int32) + x0)), .val (.ref tc), .val (.int (3 : Int32)), .val (.int (1 : Int32)), .val (.int x0)] [])
  refine Go.step (fun t_ k_ => XS.goto X1.here hx rfl (pc0 := 33) (pc' := 13) rfl (hb hby d18_33) (by decide) (by decide) k_) ?_
  show Go _ _ _ _ _ _ _ T1 (mkF m 13 #[.val (.ref a1), .val (.int ((0 : Int32) + x0)), .val (.ref tc), .val (.int (3 : Int32)), .val (.int (1 : Int32)), .val (.int x0)] [])
  refine Go.step (fun t_ k_ => XS.iload X1.here hx rfl (hb hby d18_13) rfl k_) ?_
  show Go _ _ _ _ _ _ _ T1 (mkF m 15 #[.val (.ref a1), .val (.int ((0 : Int32) + x0)), .val (.ref tc), .val (.int (3 : Int32)), .val (.int (1 : Int32)), .val (.int x0)] [(.int (1 : Int32))])
  refine Go.step (fun t_ k_ => XS.iloadN X1.here hx rfl (hb hby d18_15) rfl k_) ?_
  show Go _ _ _ _ _ _ _ T1 (mkF m 16 #[.val (.ref a1), .val (.int ((0 : Int32) + x0)), .val (.ref tc), .val (.int (3 : Int32)), .val (.int (1 : Int32)), .val (.int x0)] [(.int (3 : Int32)), (.int (1 : Int32))])
  have hb16_5 : (1 : Int32) < (3 : Int32) := by decide
  refine Go.step (fun t_ k_ => XS.icmpNo X1.here hx rfl (hb hby d18_16) rfl (XT.ii_ge_f hb16_5) k_) ?_
  show Go _ _ _ _ _ _ _ T1 (mkF m 19 #[.val (.ref a1), .val (.int ((0 : Int32) + x0)), .val (.ref tc), .val (.int (3 : Int32)), .val (.int (1 : Int32)), .val (.int x0)] [])
  refine Go.step (fun t_ k_ => XS.aloadN X1.here hx rfl (hb hby d18_19) rfl rfl k_) ?_
  show Go _ _ _ _ _ _ _ T1 (mkF m 20 #[.val (.ref a1), .val (.int ((0 : Int32) + x0)), .val (.ref tc), .val (.int (3 : Int32)), .val (.int (1 : Int32)), .val (.int x0)] [(.ref tc)])
  refine Go.step (fun t_ k_ => XS.iload X1.here hx rfl (hb hby d18_20) rfl k_) ?_
  show Go _ _ _ _ _ _ _ T1 (mkF m 22 #[.val (.ref a1), .val (.int ((0 : Int32) + x0)), .val (.ref tc), .val (.int (3 : Int32)), .val (.int (1 : Int32)), .val (.int x0)] [(.int (1 : Int32)), (.ref tc)])
  obtain ⟨c6, Ar6, q6, S6, M6, H6, U6⟩ := id Q_tc
  have hin6 := inb_of (j := (1 : Int32)) S6 ⟨(by decide), (by decide)⟩
  refine Go.step (fun t_ k_ => X1.iaload hx (j := (1 : Int32)) (v := (.int x1)) (by first | exact Ar6.1 | (rw [e1]; exact Ar6.1)) (State.isArrayOf_alike hZ.alike Ar6.2.1) Ar6.2.2 hin6 (H6.at hin6 rfl) (g := (mkF m 22 #[.val (.ref a1), .val (.int ((0 : Int32) + x0)), .val (.ref tc), .val (.int (3 : Int32)), .val (.int (1 : Int32)), .val (.int x0)] [(.int (1 : Int32)), (.ref tc)])) rfl rfl (hb hby d18_22) _ k_) ?_
  show Go _ _ _ _ _ _ _ T1 (mkF m 23 #[.val (.ref a1), .val (.int ((0 : Int32) + x0)), .val (.ref tc), .val (.int (3 : Int32)), .val (.int (1 : Int32)), .val (.int x0)] [(.int x1)])
  refine Go.step (fun t_ k_ => XS.istore X1.here hx rfl (hb hby d18_23) rfl (l' := #[.val (.ref a1), .val (.int ((0 : Int32) + x0)), .val (.ref tc), .val (.int (3 : Int32)), .val (.int (1 : Int32)), .val (.int x1)]) rfl k_) ?_
  show Go _ _ _ _ _ _ _ T1 (mkF m 25 #[.val (.ref a1), .val (.int ((0 : Int32) + x0)), .val (.ref tc), .val (.int (3 : Int32)), .val (.int (1 : Int32)), .val (.int x1)] [])
  refine Go.step (fun t_ k_ => XS.iloadN X1.here hx rfl (hb hby d18_25) rfl k_) ?_
  show Go _ _ _ _ _ _ _ T1 (mkF m 26 #[.val (.ref a1), .val (.int ((0 : Int32) + x0)), .val (.ref tc), .val (.int (3 : Int32)), .val (.int (1 : Int32)), .val (.int x1)] [(.int ((0 : Int32) + x0))])
  refine Go.step (fun t_ k_ => XS.iload X1.here hx rfl (hb hby d18_26) rfl k_) ?_
  show Go _ _ _ _ _ _ _ T1 (mkF m 28 #[.val (.ref a1), .val (.int ((0 : Int32) + x0)), .val (.ref tc), .val (.int (3 : Int32)), .val (.int (1 : Int32)), .val (.int x1)] [(.int x1), (.int ((0 : Int32) + x0))])
  refine Go.step (fun t_ k_ => XS.iadd X1.here hx rfl (hb hby d18_28) rfl k_) ?_
  show Go _ _ _ _ _ _ _ T1 (mkF m 29 #[.val (.ref a1), .val (.int ((0 : Int32) + x0)), .val (.ref tc), .val (.int (3 : Int32)), .val (.int (1 : Int32)), .val (.int x1)] [(.int (((0 : Int32) + x0) + x1))])
  refine Go.step (fun t_ k_ => XS.istoreN X1.here hx rfl (hb hby d18_29) rfl (l' := #[.val (.ref a1), .val (.int (((0 : Int32) + x0) + x1)), .val (.ref tc), .val (.int (3 : Int32)), .val (.int (1 : Int32)), .val (.int x1)]) rfl k_) ?_
  show Go _ _ _ _ _ _ _ T1 (mkF m 30 #[.val (.ref a1), .val (.int (((0 : Int32) + x0) + x1)), .val (.ref tc), .val (.int (3 : Int32)), .val (.int (1 : Int32)), .val (.int x1)] [])
  refine Go.step (fun t_ k_ => XS.iinc X1.here hx rfl (hb hby d18_30) rfl (l' := #[.val (.ref a1), .val (.int (((0 : Int32) + x0) + x1)), .val (.ref tc), .val (.int (3 : Int32)), .val (.int (2 : Int32)), .val (.int x1)]) rfl k_) ?_
  show Go _ _ _ _ _ _ _ T1 (mkF m 33 #[.val (.ref a1), .val (.int (((0 : Int32) + x0) + x1)), .val (.ref tc), .val (.int (3 : Int32)), .val (.int (2 : Int32)), .val (.int x1)] [])
  refine Go.step (fun t_ k_ => XS.goto X1.here hx rfl (pc0 := 33) (pc' := 13) rfl (hb hby d18_33) (by decide) (by decide) k_) ?_
  show Go _ _ _ _ _ _ _ T1 (mkF m 13 #[.val (.ref a1), .val (.int (((0 : Int32) + x0) + x1)), .val (.ref tc), .val (.int (3 : Int32)), .val (.int (2 : Int32)), .val (.int x1)] [])
  refine Go.step (fun t_ k_ => XS.iload X1.here hx rfl (hb hby d18_13) rfl k_) ?_
  show Go _ _ _ _ _ _ _ T1 (mkF m 15 #[.val (.ref a1), .val (.int (((0 : Int32) + x0) + x1)), .val (.ref tc), .val (.int (3 : Int32)), .val (.int (2 : Int32)), .val (.int x1)] [(.int (2 : Int32))])
  refine Go.step (fun t_ k_ => XS.iloadN X1.here hx rfl (hb hby d18_15) rfl k_) ?_
  show Go _ _ _ _ _ _ _ T1 (mkF m 16 #[.val (.ref a1), .val (.int (((0 : Int32) + x0) + x1)), .val (.ref tc), .val (.int (3 : Int32)), .val (.int (2 : Int32)), .val (.int x1)] [(.int (3 : Int32)), (.int (2 : Int32))])
  have hb16_7 : (2 : Int32) < (3 : Int32) := by decide
  refine Go.step (fun t_ k_ => XS.icmpNo X1.here hx rfl (hb hby d18_16) rfl (XT.ii_ge_f hb16_7) k_) ?_
  show Go _ _ _ _ _ _ _ T1 (mkF m 19 #[.val (.ref a1), .val (.int (((0 : Int32) + x0) + x1)), .val (.ref tc), .val (.int (3 : Int32)), .val (.int (2 : Int32)), .val (.int x1)] [])
  refine Go.step (fun t_ k_ => XS.aloadN X1.here hx rfl (hb hby d18_19) rfl rfl k_) ?_
  show Go _ _ _ _ _ _ _ T1 (mkF m 20 #[.val (.ref a1), .val (.int (((0 : Int32) + x0) + x1)), .val (.ref tc), .val (.int (3 : Int32)), .val (.int (2 : Int32)), .val (.int x1)] [(.ref tc)])
  refine Go.step (fun t_ k_ => XS.iload X1.here hx rfl (hb hby d18_20) rfl k_) ?_
  show Go _ _ _ _ _ _ _ T1 (mkF m 22 #[.val (.ref a1), .val (.int (((0 : Int32) + x0) + x1)), .val (.ref tc), .val (.int (3 : Int32)), .val (.int (2 : Int32)), .val (.int x1)] [(.int (2 : Int32)), (.ref tc)])
  obtain ⟨c8, Ar8, q8, S8, M8, H8, U8⟩ := id Q_tc
  have hin8 := inb_of (j := (2 : Int32)) S8 ⟨(by decide), (by decide)⟩
  refine Go.step (fun t_ k_ => X1.iaload hx (j := (2 : Int32)) (v := (.int x2)) (by first | exact Ar8.1 | (rw [e1]; exact Ar8.1)) (State.isArrayOf_alike hZ.alike Ar8.2.1) Ar8.2.2 hin8 (H8.at hin8 rfl) (g := (mkF m 22 #[.val (.ref a1), .val (.int (((0 : Int32) + x0) + x1)), .val (.ref tc), .val (.int (3 : Int32)), .val (.int (2 : Int32)), .val (.int x1)] [(.int (2 : Int32)), (.ref tc)])) rfl rfl (hb hby d18_22) _ k_) ?_
  show Go _ _ _ _ _ _ _ T1 (mkF m 23 #[.val (.ref a1), .val (.int (((0 : Int32) + x0) + x1)), .val (.ref tc), .val (.int (3 : Int32)), .val (.int (2 : Int32)), .val (.int x1)] [(.int x2)])
  refine Go.step (fun t_ k_ => XS.istore X1.here hx rfl (hb hby d18_23) rfl (l' := #[.val (.ref a1), .val (.int (((0 : Int32) + x0) + x1)), .val (.ref tc), .val (.int (3 : Int32)), .val (.int (2 : Int32)), .val (.int x2)]) rfl k_) ?_
  show Go _ _ _ _ _ _ _ T1 (mkF m 25 #[.val (.ref a1), .val (.int (((0 : Int32) + x0) + x1)), .val (.ref tc), .val (.int (3 : Int32)), .val (.int (2 : Int32)), .val (.int x2)] [])
  refine Go.step (fun t_ k_ => XS.iloadN X1.here hx rfl (hb hby d18_25) rfl k_) ?_
  show Go _ _ _ _ _ _ _ T1 (mkF m 26 #[.val (.ref a1), .val (.int (((0 : Int32) + x0) + x1)), .val (.ref tc), .val (.int (3 : Int32)), .val (.int (2 : Int32)), .val (.int x2)] [(.int (((0 : Int32) + x0) + x1))])
  refine Go.step (fun t_ k_ => XS.iload X1.here hx rfl (hb hby d18_26) rfl k_) ?_
  show Go _ _ _ _ _ _ _ T1 (mkF m 28 #[.val (.ref a1), .val (.int (((0 : Int32) + x0) + x1)), .val (.ref tc), .val (.int (3 : Int32)), .val (.int (2 : Int32)), .val (.int x2)] [(.int x2), (.int (((0 : Int32) + x0) + x1))])
  refine Go.step (fun t_ k_ => XS.iadd X1.here hx rfl (hb hby d18_28) rfl k_) ?_
  show Go _ _ _ _ _ _ _ T1 (mkF m 29 #[.val (.ref a1), .val (.int (((0 : Int32) + x0) + x1)), .val (.ref tc), .val (.int (3 : Int32)), .val (.int (2 : Int32)), .val (.int x2)] [(.int ((((0 : Int32) + x0) + x1) + x2))])
  refine Go.step (fun t_ k_ => XS.istoreN X1.here hx rfl (hb hby d18_29) rfl (l' := #[.val (.ref a1), .val (.int ((((0 : Int32) + x0) + x1) + x2)), .val (.ref tc), .val (.int (3 : Int32)), .val (.int (2 : Int32)), .val (.int x2)]) rfl k_) ?_
  show Go _ _ _ _ _ _ _ T1 (mkF m 30 #[.val (.ref a1), .val (.int ((((0 : Int32) + x0) + x1) + x2)), .val (.ref tc), .val (.int (3 : Int32)), .val (.int (2 : Int32)), .val (.int x2)] [])
  refine Go.step (fun t_ k_ => XS.iinc X1.here hx rfl (hb hby d18_30) rfl (l' := #[.val (.ref a1), .val (.int ((((0 : Int32) + x0) + x1) + x2)), .val (.ref tc), .val (.int (3 : Int32)), .val (.int (3 : Int32)), .val (.int x2)]) rfl k_) ?_
  show Go _ _ _ _ _ _ _ T1 (mkF m 33 #[.val (.ref a1), .val (.int ((((0 : Int32) + x0) + x1) + x2)), .val (.ref tc), .val (.int (3 : Int32)), .val (.int (3 : Int32)), .val (.int x2)] [])
  refine Go.step (fun t_ k_ => XS.goto X1.here hx rfl (pc0 := 33) (pc' := 13) rfl (hb hby d18_33) (by decide) (by decide) k_) ?_
  show Go _ _ _ _ _ _ _ T1 (mkF m 13 #[.val (.ref a1), .val (.int ((((0 : Int32) + x0) + x1) + x2)), .val (.ref tc), .val (.int (3 : Int32)), .val (.int (3 : Int32)), .val (.int x2)] [])
  refine Go.step (fun t_ k_ => XS.iload X1.here hx rfl (hb hby d18_13) rfl k_) ?_
  show Go _ _ _ _ _ _ _ T1 (mkF m 15 #[.val (.ref a1), .val (.int ((((0 : Int32) + x0) + x1) + x2)), .val (.ref tc), .val (.int (3 : Int32)), .val (.int (3 : Int32)), .val (.int x2)] [(.int (3 : Int32))])
  refine Go.step (fun t_ k_ => XS.iloadN X1.here hx rfl (hb hby d18_15) rfl k_) ?_
  show Go _ _ _ _ _ _ _ T1 (mkF m 16 #[.val (.ref a1), .val (.int ((((0 : Int32) + x0) + x1) + x2)), .val (.ref tc), .val (.int (3 : Int32)), .val (.int (3 : Int32)), .val (.int x2)] [(.int (3 : Int32)), (.int (3 : Int32))])
  have hb16_9 : ¬ ((3 : Int32) < (3 : Int32)) := by decide
  refine Go.step (fun t_ k_ => XS.icmpYes X1.here hx rfl (pc0 := 16) (pc' := 36) rfl (hb hby d18_16) rfl (XT.ii_ge_t hb16_9) (by decide) (by decide) k_) ?_
  show Go _ _ _ _ _ _ _ T1 (mkF m 36 #[.val (.ref a1), .val (.int ((((0 : Int32) + x0) + x1) + x2)), .val (.ref tc), .val (.int (3 : Int32)), .val (.int (3 : Int32)), .val (.int x2)] [])
  refine Go.step (fun t_ k_ => XS.iloadN X1.here hx rfl (hb hby d18_36) rfl k_) ?_
  show Go _ _ _ _ _ _ _ T1 (mkF m 37 #[.val (.ref a1), .val (.int ((((0 : Int32) + x0) + x1) + x2)), .val (.ref tc), .val (.int (3 : Int32)), .val (.int (3 : Int32)), .val (.int x2)] [(.int ((((0 : Int32) + x0) + x1) + x2))])
  refine Go.ret X1 hx hlk hret rfl (Or.inl ⟨rfl, Or.inl rfl, _, rfl⟩) (hb hby d18_37) ?_ (by decide) (by decide)
  show QTt Z _ _ _ _ _ _ _ _ _ T1.heap _
  exact ⟨rfl, N0, e1⟩
theorem pn_9 : plainName "java/util/ArrayList$Itr" = true := by first | (simp [plainName, overriddenIn]; done) | decide +kernel
theorem ef_rmII (m : MethodId) (a1 : Addr) (a2 : Addr) : entryFrame m #[(.ref a1), (.ref a2)] 2 = mkF m 0 #[.val (.ref a1), .val (.ref a2)] [] := by first | (simp [entryFrame, mkF, argsToLocals, Value.category]; done) | rfl
def QII (Z : State) (a1 : Addr) (a2 : Addr) (mc : Int32) (h0 : Heap) (n0 : Nat) (v : Option Value) (h : Heap) (L : List Loc) : Prop := v = none ∧ Fr n0 L ∧ Keep h0 h [a1] ∧ Exa Z h a1 "java/util/ArrayList$Itr" ∧ Fld Z h a1 "java/util/ArrayList$Itr" "this$0" "Ljava/util/ArrayList;" (.ref a2) ∧ Fld Z h a1 "java/util/ArrayList$Itr" "cursor" "I" (.int (0 : Int32)) ∧ Fld Z h a1 "java/util/ArrayList$Itr" "lastRet" "I" (.int (-1 : Int32)) ∧ Fld Z h a1 "java/util/ArrayList$Itr" "expectedModCount" "I" (.int mc)
theorem d21_0 : decode jdk_49_method_1_code 0 = .ok (.aload_n 0, 1) := by decide +kernel
theorem d21_1 : decode jdk_49_method_1_code 1 = .ok (.aload_n 1, 1) := by decide +kernel
theorem d21_2 : decode jdk_49_method_1_code 2 = .ok (.putfield 1, 3) := by decide +kernel
theorem d21_5 : decode jdk_49_method_1_code 5 = .ok (.aload_n 0, 1) := by decide +kernel
theorem d21_6 : decode jdk_49_method_1_code 6 = .ok (.invokespecial 7, 3) := by decide +kernel
theorem d21_9 : decode jdk_49_method_1_code 9 = .ok (.aload_n 0, 1) := by decide +kernel
theorem d21_10 : decode jdk_49_method_1_code 10 = .ok (.iconst (-1), 1) := by decide +kernel
theorem d21_11 : decode jdk_49_method_1_code 11 = .ok (.putfield 13, 3) := by decide +kernel
theorem d21_14 : decode jdk_49_method_1_code 14 = .ok (.aload_n 0, 1) := by decide +kernel
theorem d21_15 : decode jdk_49_method_1_code 15 = .ok (.aload_n 0, 1) := by decide +kernel
theorem d21_16 : decode jdk_49_method_1_code 16 = .ok (.getfield 1, 3) := by decide +kernel
theorem d21_19 : decode jdk_49_method_1_code 19 = .ok (.getfield 17, 3) := by decide +kernel
theorem d21_22 : decode jdk_49_method_1_code 22 = .ok (.putfield 22, 3) := by decide +kernel
theorem d21_25 : decode jdk_49_method_1_code 25 = .ok (.return_, 1) := by decide +kernel
set_option maxRecDepth 65536 in
set_option maxHeartbeats 40000000 in
theorem rmII (l : Launch) (Z : State) (a0 : Array Value) (hw : ∀ d ∈ tables_1, d.before a0 Z = true) (ws : List Jvm.Cond) (a1 : Addr) (a2 : Addr) (mc : Int32) (h0 : Heap) (n0 : Nat) (Z0 : n0 ≤ h0.size) (g1 : n0 ≤ a1) (QE1 : Exa Z h0 a1 "java/util/ArrayList$Itr") (Q_0 : Fld Z h0 a1 "java/util/ArrayList$Itr" "this$0" "Ljava/util/ArrayList;" .null) (Q_1 : Fld Z h0 a1 "java/util/ArrayList$Itr" "lastRet" "I" (.int (0 : Int32))) (Q_2 : Fld Z h0 a1 "java/util/ArrayList$Itr" "expectedModCount" "I" (.int (0 : Int32))) (Q_3 : Fld Z h0 a1 "java/util/ArrayList$Itr" "cursor" "I" (.int (0 : Int32))) (QE2 : Exa Z h0 a2 "java/util/ArrayList") (Q_mc : Fld Z h0 a2 "java/util/AbstractList" "modCount" "I" (.int mc)) :
    MetFree l (⟨"java/util/ArrayList$Itr", "<init>", "(Ljava/util/ArrayList;)V"⟩ : MethodName) (head1 (Jvm.Cond.code (⟨"java/util/ArrayList$Itr", "<init>", "(Ljava/util/ArrayList;)V"⟩ : MethodName) jdk_49_method_1_code 2 none :: ws) ({ frames := 1, cells := 0, slots := 0, locals := 14 } : Room)) (fun a U => a = #[(.ref a1), (.ref a2)] ∧ Z.Warmed39 U.vm ∧ U.heap = h0) (fun _ _ _ _ _ => True) (fun _ U o U' => ∃ v L, o = .returned v ∧ QII Z a1 a2 mc h0 n0 v U'.heap L ∧ FrameEnd U o U' L ({ frames := 1, cells := 0, slots := 0, locals := 14 } : Room).cells ({ frames := 1, cells := 0, slots := 0, locals := 14 } : Room).slots) := by
  refine MetFree.of_bodySF (plainFor_of_name pn_9) hisR ?_
  intro p e s m args below meth c s₁ Bd hml0 hP hK
  obtain ⟨rfl, hZ, hh⟩ := hP
  have hx := Bd.exec
  have hby := Bd.bytes
  have hlk := BodyLoose.notSynchronized Bd
  have hml : c.maxLocals = 2 := hml0
  have hret := Bd.returns
  have hown : s.vm.findClass "java/util/ArrayList$Itr" = some m.cls := findClass_of_methodNamed Bd.named
  have hnm := (name_of_methodNamed Bd.named Bd.method).1
  have X0 : Stand p l e ({ frames := 1, cells := 0, slots := 0, locals := 14 } : Room) s m #[(.ref a1), (.ref a2)] below meth c s₁ [] 0 0 := Stand.of_body Bd
  have e0 : s₁.heap = h0 := by rw [← hh, Bd.state]; rfl
  have N0 := Fr.nil n0
  show Go p e below s ({ frames := 1, cells := 0, slots := 0, locals := 14 } : Room).cells ({ frames := 1, cells := 0, slots := 0, locals := 14 } : Room).slots (QII Z a1 a2 mc h0 n0) s₁ (entryFrame m #[(.ref a1), (.ref a2)] 2)
  refine Go.cast (ef_rmII m a1 a2) ?_
  have K0 : Keep h0 h0 [a1] := Keep.refl _ _
  show Go _ _ _ _ _ _ _ s₁ (mkF m 0 #[.val (.ref a1), .val (.ref a2)] [])
  refine Go.step (fun t_ k_ => XS.aloadN X0.here hx rfl (hb hby d21_0) rfl rfl k_) ?_
  show Go _ _ _ _ _ _ _ s₁ (mkF m 1 #[.val (.ref a1), .val (.ref a2)] [(.ref a1)])
  refine Go.step (fun t_ k_ => XS.aloadN X0.here hx rfl (hb hby d21_1) rfl rfl k_) ?_
  show Go _ _ _ _ _ _ _ s₁ (mkF m 2 #[.val (.ref a1), .val (.ref a2)] [(.ref a2), (.ref a1)])
  obtain ⟨T1, h1, X1, e1, W1, st1⟩ := putF X0 hx hZ hown (host := "") (Or.inl (hw _ (List.mem_of_getElem? (i := 173) rfl))) Via.refl e0 Q_0 QE1 (Or.inr ⟨(hw _ (List.mem_of_getElem? (i := 174) rfl)), rfl, hnm⟩) (hw _ (List.mem_of_getElem? (i := 167) rfl)) (ty := (.object "java/util/ArrayList")) (by decide) rfl rfl (g := (mkF m 2 #[.val (.ref a1), .val (.ref a2)] [(.ref a2), (.ref a1)])) rfl rfl (hb hby d21_2)
  have N1 := Fr.snoc X1 N0 g1
  refine Go.step st1 ?_
  have f1_0 : Exa Z h1 a1 "java/util/ArrayList$Itr" := (QE1.wr W1)
  have f1_1 : Fld Z h1 a1 "java/util/ArrayList$Itr" "this$0" "Ljava/util/ArrayList;" (.ref a2) := (Q_0.same W1)
  have f1_2 : Fld Z h1 a1 "java/util/ArrayList$Itr" "lastRet" "I" (.int (0 : Int32)) := (Q_1.other W1 (Or.inr (slot_ne (Or.inl (hw _ (List.mem_of_getElem? (i := 177) rfl))) (Or.inr (hw _ (List.mem_of_getElem? (i := 174) rfl))) (by decide) (t := .int) (t' := (.object "java/util/ArrayList")) (by decide) (by decide))))
  have f1_3 : Fld Z h1 a1 "java/util/ArrayList$Itr" "expectedModCount" "I" (.int (0 : Int32)) := (Q_2.other W1 (Or.inr (slot_ne (Or.inl (hw _ (List.mem_of_getElem? (i := 180) rfl))) (Or.inr (hw _ (List.mem_of_getElem? (i := 174) rfl))) (by decide) (t := .int) (t' := (.object "java/util/ArrayList")) (by decide) (by decide))))
  have f1_4 : Fld Z h1 a1 "java/util/ArrayList$Itr" "cursor" "I" (.int (0 : Int32)) := (Q_3.other W1 (Or.inr (slot_ne (Or.inl (hw _ (List.mem_of_getElem? (i := 191) rfl))) (Or.inr (hw _ (List.mem_of_getElem? (i := 174) rfl))) (by decide) (t := .int) (t' := (.object "java/util/ArrayList")) (by decide) (by decide))))
  have f1_5 : Exa Z h1 a2 "java/util/ArrayList" := (QE2.wr W1)
  have f1_6 : Fld Z h1 a2 "java/util/AbstractList" "modCount" "I" (.int mc) := (Q_mc.other W1 (Or.inl (ne_exa QE2 QE1 (by decide))))
  have Zs1 : n0 ≤ h1.size := (Nat.le_trans Z0 (Keep.of_wr W1).1)
  have K1 : Keep h0 h1 [a1] := K0.wr W1 (Or.inl (List.mem_of_getElem? (i := 0) rfl))
  show Go _ _ _ _ _ _ _ T1 (mkF m 5 #[.val (.ref a1), .val (.ref a2)] [])
  refine Go.step (fun t_ k_ => XS.aloadN X1.here hx rfl (hb hby d21_5) rfl rfl k_) ?_
  show Go _ _ _ _ _ _ _ T1 (mkF m 6 #[.val (.ref a1), .val (.ref a2)] [(.ref a1)])
  obtain ⟨T2, X2, e2, st2⟩ := initO X1 hx hZ hown (hw _ (List.mem_of_getElem? (i := 175) rfl)) (hw _ (List.mem_of_getElem? (i := 18) rfl)) (hw _ (List.mem_of_getElem? (i := 19) rfl)) e1 (g := (mkF m 6 #[.val (.ref a1), .val (.ref a2)] [(.ref a1)])) rfl (by rw [hml]; rfl) rfl (hb hby d21_6) (by decide) (W := 0) (by show 2 * 0 + _ ≤ _; exact Nat.le_of_eq rfl) (by decide)
  refine Go.step st2 ?_
  show Go _ _ _ _ _ _ _ T2 (mkF m 9 #[.val (.ref a1), .val (.ref a2)] [])
  refine Go.step (fun t_ k_ => XS.aloadN X2.here hx rfl (hb hby d21_9) rfl rfl k_) ?_
  show Go _ _ _ _ _ _ _ T2 (mkF m 10 #[.val (.ref a1), .val (.ref a2)] [(.ref a1)])
  refine Go.step (fun t_ k_ => XS.iconst X2.here hx rfl (hb hby d21_10) k_) ?_
  show Go _ _ _ _ _ _ _ T2 (mkF m 11 #[.val (.ref a1), .val (.ref a2)] [(.int (-1 : Int32)), (.ref a1)])
  obtain ⟨T3, h3, X3, e3, W3, st3⟩ := putF X2 hx hZ hown (host := "") (Or.inl (hw _ (List.mem_of_getElem? (i := 176) rfl))) Via.refl e2 f1_2 f1_0 (Or.inl (hw _ (List.mem_of_getElem? (i := 177) rfl))) (hw _ (List.mem_of_getElem? (i := 167) rfl)) (ty := .int) (by decide) rfl rfl (g := (mkF m 11 #[.val (.ref a1), .val (.ref a2)] [(.int (-1 : Int32)), (.ref a1)])) rfl rfl (hb hby d21_11)
  have N3 := Fr.snoc X3 N1 g1
  refine Go.step st3 ?_
  have f3_0 : Exa Z h3 a1 "java/util/ArrayList$Itr" := (f1_0.wr W3)
  have f3_1 : Fld Z h3 a1 "java/util/ArrayList$Itr" "this$0" "Ljava/util/ArrayList;" (.ref a2) := (f1_1.other W3 (Or.inr (slot_ne (Or.inr (hw _ (List.mem_of_getElem? (i := 174) rfl))) (Or.inl (hw _ (List.mem_of_getElem? (i := 177) rfl))) (by decide) (t := (.object "java/util/ArrayList")) (t' := .int) (by decide) (by decide))))
  have f3_2 : Fld Z h3 a1 "java/util/ArrayList$Itr" "lastRet" "I" (.int (-1 : Int32)) := (f1_2.same W3)
  have f3_3 : Fld Z h3 a1 "java/util/ArrayList$Itr" "expectedModCount" "I" (.int (0 : Int32)) := (f1_3.other W3 (Or.inr (slot_ne (Or.inl (hw _ (List.mem_of_getElem? (i := 180) rfl))) (Or.inl (hw _ (List.mem_of_getElem? (i := 177) rfl))) (by decide) (t := .int) (t' := .int) (by decide) (by decide))))
  have f3_4 : Fld Z h3 a1 "java/util/ArrayList$Itr" "cursor" "I" (.int (0 : Int32)) := (f1_4.other W3 (Or.inr (slot_ne (Or.inl (hw _ (List.mem_of_getElem? (i := 191) rfl))) (Or.inl (hw _ (List.mem_of_getElem? (i := 177) rfl))) (by decide) (t := .int) (t' := .int) (by decide) (by decide))))
  have f3_5 : Exa Z h3 a2 "java/util/ArrayList" := (f1_5.wr W3)
  have f3_6 : Fld Z h3 a2 "java/util/AbstractList" "modCount" "I" (.int mc) := (f1_6.other W3 (Or.inl (ne_exa f1_5 f1_0 (by decide))))
  have Zs3 : n0 ≤ h3.size := (Nat.le_trans Zs1 (Keep.of_wr W3).1)
  have K3 : Keep h0 h3 [a1] := K1.wr W3 (Or.inl (List.mem_of_getElem? (i := 0) rfl))
  show Go _ _ _ _ _ _ _ T3 (mkF m 14 #[.val (.ref a1), .val (.ref a2)] [])
  refine Go.step (fun t_ k_ => XS.aloadN X3.here hx rfl (hb hby d21_14) rfl rfl k_) ?_
  show Go _ _ _ _ _ _ _ T3 (mkF m 15 #[.val (.ref a1), .val (.ref a2)] [(.ref a1)])
  refine Go.step (fun t_ k_ => XS.aloadN X3.here hx rfl (hb hby d21_15) rfl rfl k_) ?_
  show Go _ _ _ _ _ _ _ T3 (mkF m 16 #[.val (.ref a1), .val (.ref a2)] [(.ref a1), (.ref a1)])
  obtain ⟨T4, X4, e4, st4⟩ := getF X3 hx hZ hown (host := "") (Or.inl (hw _ (List.mem_of_getElem? (i := 173) rfl))) Via.refl e3 f3_1 (g := (mkF m 16 #[.val (.ref a1), .val (.ref a2)] [(.ref a1), (.ref a1)])) rfl rfl (hb hby d21_16)
  refine Go.step st4 ?_
  show Go _ _ _ _ _ _ _ T4 (mkF m 19 #[.val (.ref a1), .val (.ref a2)] [(.ref a2), (.ref a1)])
  obtain ⟨T5, X5, e5, st5⟩ := getF X4 hx hZ hown (host := "") (Or.inl (hw _ (List.mem_of_getElem? (i := 178) rfl))) (Via.of (hw _ (List.mem_of_getElem? (i := 96) rfl))) e4 f3_6 (g := (mkF m 19 #[.val (.ref a1), .val (.ref a2)] [(.ref a2), (.ref a1)])) rfl rfl (hb hby d21_19)
  refine Go.step st5 ?_
  show Go _ _ _ _ _ _ _ T5 (mkF m 22 #[.val (.ref a1), .val (.ref a2)] [(.int mc), (.ref a1)])
  obtain ⟨T6, h6, X6, e6, W6, st6⟩ := putF X5 hx hZ hown (host := "") (Or.inl (hw _ (List.mem_of_getElem? (i := 179) rfl))) Via.refl e5 f3_3 f3_0 (Or.inl (hw _ (List.mem_of_getElem? (i := 180) rfl))) (hw _ (List.mem_of_getElem? (i := 167) rfl)) (ty := .int) (by decide) rfl rfl (g := (mkF m 22 #[.val (.ref a1), .val (.ref a2)] [(.int mc), (.ref a1)])) rfl rfl (hb hby d21_22)
  have N6 := Fr.snoc X6 N3 g1
  refine Go.step st6 ?_
  have f6_0 : Exa Z h6 a1 "java/util/ArrayList$Itr" := (f3_0.wr W6)
  have f6_1 : Fld Z h6 a1 "java/util/ArrayList$Itr" "this$0" "Ljava/util/ArrayList;" (.ref a2) := (f3_1.other W6 (Or.inr (slot_ne (Or.inr (hw _ (List.mem_of_getElem? (i := 174) rfl))) (Or.inl (hw _ (List.mem_of_getElem? (i := 180) rfl))) (by decide) (t := (.object "java/util/ArrayList")) (t' := .int) (by decide) (by decide))))
  have f6_2 : Fld Z h6 a1 "java/util/ArrayList$Itr" "lastRet" "I" (.int (-1 : Int32)) := (f3_2.other W6 (Or.inr (slot_ne (Or.inl (hw _ (List.mem_of_getElem? (i := 177) rfl))) (Or.inl (hw _ (List.mem_of_getElem? (i := 180) rfl))) (by decide) (t := .int) (t' := .int) (by decide) (by decide))))
  have f6_3 : Fld Z h6 a1 "java/util/ArrayList$Itr" "expectedModCount" "I" (.int mc) := (f3_3.same W6)
  have f6_4 : Fld Z h6 a1 "java/util/ArrayList$Itr" "cursor" "I" (.int (0 : Int32)) := (f3_4.other W6 (Or.inr (slot_ne (Or.inl (hw _ (List.mem_of_getElem? (i := 191) rfl))) (Or.inl (hw _ (List.mem_of_getElem? (i := 180) rfl))) (by decide) (t := .int) (t' := .int) (by decide) (by decide))))
  have f6_5 : Exa Z h6 a2 "java/util/ArrayList" := (f3_5.wr W6)
  have f6_6 : Fld Z h6 a2 "java/util/AbstractList" "modCount" "I" (.int mc) := (f3_6.other W6 (Or.inl (ne_exa f3_5 f3_0 (by decide))))
  have Zs6 : n0 ≤ h6.size := (Nat.le_trans Zs3 (Keep.of_wr W6).1)
  have K6 : Keep h0 h6 [a1] := K3.wr W6 (Or.inl (List.mem_of_getElem? (i := 0) rfl))
  show Go _ _ _ _ _ _ _ T6 (mkF m 25 #[.val (.ref a1), .val (.ref a2)] [])
  refine Go.retV X6 hx hlk hret (hb hby d21_25) ?_ (by decide) (by decide)
  show QII Z _ _ _ _ _ _ T6.heap _
  rw [e6]
  exact ⟨rfl, N6, K6, f6_0, f6_1, f6_4, f6_2, f6_3⟩
theorem ef_rmIt (m : MethodId) (a1 : Addr) : entryFrame m #[(.ref a1)] 1 = mkF m 0 #[.val (.ref a1)] [] := by first | (simp [entryFrame, mkF, argsToLocals, Value.category]; done) | rfl
def QIt (Z : State) (a1 : Addr) (mc : Int32) (h0 : Heap) (n0 : Nat) (v : Option Value) (h : Heap) (L : List Loc) : Prop := ∃ it : Addr, v = some (.ref it) ∧ Fr n0 L ∧ Keep h0 h [] ∧ n0 ≤ it ∧ h0.size ≤ it ∧ Exa Z h it "java/util/ArrayList$Itr" ∧ Fld Z h it "java/util/ArrayList$Itr" "this$0" "Ljava/util/ArrayList;" (.ref a1) ∧ Fld Z h it "java/util/ArrayList$Itr" "cursor" "I" (.int (0 : Int32)) ∧ Fld Z h it "java/util/ArrayList$Itr" "lastRet" "I" (.int (-1 : Int32)) ∧ Fld Z h it "java/util/ArrayList$Itr" "expectedModCount" "I" (.int mc)
theorem d20_0 : decode jdk_38_method_55_code 0 = .ok (.new 267, 3) := by decide +kernel
theorem d20_3 : decode jdk_38_method_55_code 3 = .ok (.dup, 1) := by decide +kernel
theorem d20_4 : decode jdk_38_method_55_code 4 = .ok (.aload_n 0, 1) := by decide +kernel
theorem pd_8 : parseMethodDescriptor "(Ljava/util/ArrayList;)V" = some ⟨[(.object "java/util/ArrayList")], none⟩ := by decide +kernel
theorem d20_5 : decode jdk_38_method_55_code 5 = .ok (.invokespecial 269, 3) := by decide +kernel
theorem d20_8 : decode jdk_38_method_55_code 8 = .ok (.areturn, 1) := by decide +kernel
set_option maxRecDepth 65536 in
set_option maxHeartbeats 40000000 in
theorem rmIt (l : Launch) (Z : State) (a0 : Array Value) (hw : ∀ d ∈ tables_1, d.before a0 Z = true) (ws : List Jvm.Cond) (a1 : Addr) (mc : Int32) (h0 : Heap) (n0 : Nat) (Z0 : n0 ≤ h0.size) (QE1 : Exa Z h0 a1 "java/util/ArrayList") (Q_mc : Fld Z h0 a1 "java/util/AbstractList" "modCount" "I" (.int mc)) :
    MetFree l (⟨"java/util/ArrayList", "iterator", "()Ljava/util/Iterator;"⟩ : MethodName) (head1 (Jvm.Cond.code (⟨"java/util/ArrayList", "iterator", "()Ljava/util/Iterator;"⟩ : MethodName) jdk_38_method_55_code 1 (some (.object "java/util/Iterator")) :: ws) ({ frames := 2, cells := 1, slots := 4, locals := 32 } : Room)) (fun a U => a = #[(.ref a1)] ∧ Z.Warmed39 U.vm ∧ U.heap = h0) (fun _ _ _ _ _ => True) (fun _ U o U' => ∃ v L, o = .returned v ∧ QIt Z a1 mc h0 n0 v U'.heap L ∧ FrameEnd U o U' L ({ frames := 2, cells := 1, slots := 4, locals := 32 } : Room).cells ({ frames := 2, cells := 1, slots := 4, locals := 32 } : Room).slots) := by
  refine MetFree.of_bodySF (plainFor_of_name pn_6) hisR ?_
  intro p e s m args below meth c s₁ Bd hml0 hP hK
  obtain ⟨rfl, hZ, hh⟩ := hP
  have hx := Bd.exec
  have hby := Bd.bytes
  have hlk := BodyLoose.notSynchronized Bd
  have hml : c.maxLocals = 1 := hml0
  have hret := Bd.returns
  have hown : s.vm.findClass "java/util/ArrayList" = some m.cls := findClass_of_methodNamed Bd.named
  have hnm := (name_of_methodNamed Bd.named Bd.method).1
  have X0 : Stand p l e ({ frames := 2, cells := 1, slots := 4, locals := 32 } : Room) s m #[(.ref a1)] below meth c s₁ [] 0 0 := Stand.of_body Bd
  have e0 : s₁.heap = h0 := by rw [← hh, Bd.state]; rfl
  have N0 := Fr.nil n0
  show Go p e below s ({ frames := 2, cells := 1, slots := 4, locals := 32 } : Room).cells ({ frames := 2, cells := 1, slots := 4, locals := 32 } : Room).slots (QIt Z a1 mc h0 n0) s₁ (entryFrame m #[(.ref a1)] 1)
  refine Go.cast (ef_rmIt m a1) ?_
  have K0 : Keep h0 h0 [] := Keep.refl _ _
  show Go _ _ _ _ _ _ _ s₁ (mkF m 0 #[.val (.ref a1)] [])
  obtain ⟨T1, h1, X1, e1, E1, A1, D1, -, st1⟩ := newO X0 hx hZ hown (hw _ (List.mem_of_getElem? (i := 166) rfl)) (hw _ (List.mem_of_getElem? (i := 167) rfl)) (hw _ (List.mem_of_getElem? (i := 168) rfl)) e0 (g := (mkF m 0 #[.val (.ref a1)] [])) rfl (hb hby d20_0) (by decide) (by decide)
  obtain ⟨o1, g1⟩ : ∃ z, z = h0.size := ⟨_, rfl⟩
  rw [← g1] at A1 D1 st1
  have ne_a1_o1 : a1 ≠ o1 := Nat.ne_of_lt (Nat.lt_of_lt_of_le QE1.lt (Nat.le_of_eq g1.symm))
  have ge_o1 : n0 ≤ o1 := Nat.le_trans Z0 (Nat.le_of_eq g1.symm)
  have geh_o1 : h0.size ≤ o1 := Nat.le_trans K0.1 (Nat.le_of_eq g1.symm)
  have f1_0 : Exa Z h1 a1 "java/util/ArrayList" := (QE1.ext E1)
  have f1_1 : Fld Z h1 a1 "java/util/AbstractList" "modCount" "I" (.int mc) := (Q_mc.ext E1)
  have f1_2 : Exa Z h1 o1 "java/util/ArrayList$Itr" := A1
  have f1_3 : Fld Z h1 o1 "java/util/ArrayList$Itr" "this$0" "Ljava/util/ArrayList;" .null := (D1 (Or.inr (hw _ (List.mem_of_getElem? (i := 174) rfl))) (ty := (.object "java/util/ArrayList")) (by decide))
  have f1_4 : Fld Z h1 o1 "java/util/ArrayList$Itr" "lastRet" "I" (.int (0 : Int32)) := (D1 (Or.inl (hw _ (List.mem_of_getElem? (i := 177) rfl))) (ty := .int) (by decide))
  have f1_5 : Fld Z h1 o1 "java/util/ArrayList$Itr" "expectedModCount" "I" (.int (0 : Int32)) := (D1 (Or.inl (hw _ (List.mem_of_getElem? (i := 180) rfl))) (ty := .int) (by decide))
  have f1_6 : Fld Z h1 o1 "java/util/ArrayList$Itr" "cursor" "I" (.int (0 : Int32)) := (D1 (Or.inl (hw _ (List.mem_of_getElem? (i := 191) rfl))) (ty := .int) (by decide))
  have Zs1 : n0 ≤ h1.size := (Nat.le_trans Z0 E1.1)
  have K1 : Keep h0 h1 [] := K0.ext E1
  refine Go.step st1 ?_
  show Go _ _ _ _ _ _ _ T1 (mkF m 3 #[.val (.ref a1)] [(.ref o1)])
  refine Go.step (fun t_ k_ => XS.dup X1.here hx rfl (hb hby d20_3) rfl rfl k_) ?_
  show Go _ _ _ _ _ _ _ T1 (mkF m 4 #[.val (.ref a1)] [(.ref o1), (.ref o1)])
  refine Go.step (fun t_ k_ => XS.aloadN X1.here hx rfl (hb hby d20_4) rfl rfl k_) ?_
  show Go _ _ _ _ _ _ _ T1 (mkF m 5 #[.val (.ref a1)] [(.ref a1), (.ref o1), (.ref o1)])
  obtain ⟨_, _, ⟨T2, L2, k2, n2⟩, -, X2, ⟨Lc2, hQ2, l2, y2, z2⟩, st2⟩ := X1.specialBack hx (y := (⟨"java/util/ArrayList$Itr", "<init>", "(Ljava/util/ArrayList;)V"⟩ : MethodName)) rfl hown (mvT hZ (hw _ (List.mem_of_getElem? (i := 169) rfl))) (mvT hZ (hw _ (List.mem_of_getElem? (i := 170) rfl))) (mvT hZ (hw _ (List.mem_of_getElem? (i := 172) rfl))) (by decide) (backOf (W := 1) (rmII l Z a0 hw [] o1 a1 mc h1 n0 Zs1 ge_o1 f1_2 f1_3 f1_4 f1_5 f1_6 f1_0 f1_1) hZ (hw _ (List.mem_of_getElem? (i := 172) rfl)) (hw _ (List.mem_of_getElem? (i := 168) rfl)) (by decide) (by decide)) (g := (mkF m 5 #[.val (.ref a1)] [(.ref a1), (.ref o1), (.ref o1)])) rfl (by rw [hml]; rfl) (Steps.refl _) (a := o1) (argsL := [(.ref a1)]) (rest := [(.ref o1)]) (lenOf pd_8 rfl) rfl (by show 2 * 0 + _ ≤ _; exact Nat.le_of_eq rfl) (hb hby d20_5) (fun _ _ => ⟨rfl, e1, (by decide : 0 + 1 + 0 ≤ _), (by decide : 0 + 4 + 0 ≤ _)⟩)
  dsimp only [Pt.U, Pt.locs, Pt.cells, Pt.slots] at X2 l2 y2 z2 st2 hQ2
  subst l2 y2 z2
  obtain ⟨rfl, N2q, Kq2, Eq2, Fa2, Fb2, Fc2, Fd2⟩ := hQ2
  have N2 := Fr.app N0 N2q
  have f2_0 : Exa Z T2.heap a1 "java/util/ArrayList" := (f1_0.keep Kq2)
  have f2_1 : Fld Z T2.heap a1 "java/util/AbstractList" "modCount" "I" (.int mc) := (f1_1.keep Kq2 (ninS ne_a1_o1 nin0))
  have f2_2 : Exa Z T2.heap o1 "java/util/ArrayList$Itr" := Eq2
  have f2_3 : Fld Z T2.heap o1 "java/util/ArrayList$Itr" "this$0" "Ljava/util/ArrayList;" (.ref a1) := Fa2
  have f2_4 : Fld Z T2.heap o1 "java/util/ArrayList$Itr" "cursor" "I" (.int (0 : Int32)) := Fb2
  have f2_5 : Fld Z T2.heap o1 "java/util/ArrayList$Itr" "lastRet" "I" (.int (-1 : Int32)) := Fc2
  have f2_6 : Fld Z T2.heap o1 "java/util/ArrayList$Itr" "expectedModCount" "I" (.int mc) := Fd2
  have Zs2 : n0 ≤ T2.heap.size := (Nat.le_trans Zs1 Kq2.1)
  have K2 : Keep h0 T2.heap [] := K1.trans Kq2 (allS (Or.inr geh_o1) all0)
  refine Go.step (fun t_ k_ => st2.trans k_) ?_
  show Go _ _ _ _ _ _ _ T2 (mkF m 8 #[.val (.ref a1)] [(.ref o1)])
  refine Go.ret X2 hx hlk hret rfl (Or.inr (Or.inr (Or.inr (Or.inr ⟨rfl, rfl, rfl⟩)))) (hb hby d20_8) ?_ (by decide) (by decide)
  show QIt Z _ _ _ _ _ T2.heap _
  exact ⟨o1, rfl, N2, K2, ge_o1, geh_o1, f2_2, f2_3, f2_4, f2_5, f2_6⟩
theorem ef_rmHn (m : MethodId) (a1 : Addr) : entryFrame m #[(.ref a1)] 1 = mkF m 0 #[.val (.ref a1)] [] := by first | (simp [entryFrame, mkF, argsToLocals, Value.category]; done) | rfl
def QHn (Z : State) (a1 : Addr) (a2 : Addr) (i : Nat) (nn : Nat) (h0 : Heap) (n0 : Nat) (v : Option Value) (h : Heap) (L : List Loc) : Prop := ∃ r : Int32, v = some (.int r) ∧ ((r = 1 ∧ i < nn) ∨ (r = 0 ∧ i = nn)) ∧ Fr n0 L ∧ h = h0
theorem d22_0 : decode jdk_49_method_2_code 0 = .ok (.aload_n 0, 1) := by decide +kernel
theorem d22_1 : decode jdk_49_method_2_code 1 = .ok (.getfield 25, 3) := by decide +kernel
theorem d22_4 : decode jdk_49_method_2_code 4 = .ok (.aload_n 0, 1) := by decide +kernel
theorem d22_5 : decode jdk_49_method_2_code 5 = .ok (.getfield 1, 3) := by decide +kernel
theorem d22_8 : decode jdk_49_method_2_code 8 = .ok (.getfield 28, 3) := by decide +kernel
theorem d22_11 : decode jdk_49_method_2_code 11 = .ok (.if_icmp .eq 7, 3) := by decide +kernel
theorem d22_18 : decode jdk_49_method_2_code 18 = .ok (.iconst 0, 1) := by decide +kernel
theorem d22_19 : decode jdk_49_method_2_code 19 = .ok (.ireturn, 1) := by decide +kernel
theorem d22_14 : decode jdk_49_method_2_code 14 = .ok (.iconst 1, 1) := by decide +kernel
theorem d22_15 : decode jdk_49_method_2_code 15 = .ok (.goto 4, 3) := by decide +kernel
set_option maxRecDepth 65536 in
set_option maxHeartbeats 40000000 in
theorem rmHn (l : Launch) (Z : State) (a0 : Array Value) (hw : ∀ d ∈ tables_1, d.before a0 Z = true) (ws : List Jvm.Cond) (a1 : Addr) (a2 : Addr) (i : Nat) (nn : Nat) (h0 : Heap) (n0 : Nat) (Z0 : n0 ≤ h0.size) (F1 : Fld Z h0 a1 "java/util/ArrayList$Itr" "cursor" "I" (.int (Int32.ofNat i))) (F2 : Fld Z h0 a1 "java/util/ArrayList$Itr" "this$0" "Ljava/util/ArrayList;" (.ref a2)) (F3 : Fld Z h0 a2 "java/util/ArrayList" "size" "I" (.int (Int32.ofNat nn))) (hi : i ≤ nn) (hn : nn ≤ 5) :
    MetFree l (⟨"java/util/ArrayList$Itr", "hasNext", "()Z"⟩ : MethodName) (head1 (Jvm.Cond.code (⟨"java/util/ArrayList$Itr", "hasNext", "()Z"⟩ : MethodName) jdk_49_method_2_code 1 (some .boolean) :: ws) ({ frames := 0, cells := 0, slots := 0, locals := 0 } : Room)) (fun a U => a = #[(.ref a1)] ∧ Z.Warmed39 U.vm ∧ U.heap = h0) (fun _ _ _ _ _ => True) (fun _ U o U' => ∃ v L, o = .returned v ∧ QHn Z a1 a2 i nn h0 n0 v U'.heap L ∧ FrameEnd U o U' L ({ frames := 0, cells := 0, slots := 0, locals := 0 } : Room).cells ({ frames := 0, cells := 0, slots := 0, locals := 0 } : Room).slots) := by
  refine MetFree.of_bodySF (plainFor_of_name pn_9) hisR ?_
  intro p e s m args below meth c s₁ Bd hml0 hP hK
  obtain ⟨rfl, hZ, hh⟩ := hP
  have hx := Bd.exec
  have hby := Bd.bytes
  have hlk := BodyLoose.notSynchronized Bd
  have hml : c.maxLocals = 1 := hml0
  have hret := Bd.returns
  have hown : s.vm.findClass "java/util/ArrayList$Itr" = some m.cls := findClass_of_methodNamed Bd.named
  have hnm := (name_of_methodNamed Bd.named Bd.method).1
  have X0 : Stand p l e ({ frames := 0, cells := 0, slots := 0, locals := 0 } : Room) s m #[(.ref a1)] below meth c s₁ [] 0 0 := Stand.of_body Bd
  have e0 : s₁.heap = h0 := by rw [← hh, Bd.state]; rfl
  have N0 := Fr.nil n0
  show Go p e below s ({ frames := 0, cells := 0, slots := 0, locals := 0 } : Room).cells ({ frames := 0, cells := 0, slots := 0, locals := 0 } : Room).slots (QHn Z a1 a2 i nn h0 n0) s₁ (entryFrame m #[(.ref a1)] 1)
  refine Go.cast (ef_rmHn m a1) ?_
  show Go _ _ _ _ _ _ _ s₁ (mkF m 0 #[.val (.ref a1)] [])
  refine Go.step (fun t_ k_ => XS.aloadN X0.here hx rfl (hb hby d22_0) rfl rfl k_) ?_
  show Go _ _ _ _ _ _ _ s₁ (mkF m 1 #[.val (.ref a1)] [(.ref a1)])
  obtain ⟨T1, X1, e1, st1⟩ := getF X0 hx hZ hown (host := "") (Or.inl (hw _ (List.mem_of_getElem? (i := 190) rfl))) Via.refl e0 F1 (g := (mkF m 1 #[.val (.ref a1)] [(.ref a1)])) rfl rfl (hb hby d22_1)
  refine Go.step st1 ?_
  show Go _ _ _ _ _ _ _ T1 (mkF m 4 #[.val (.ref a1)] [(.int (Int32.ofNat i))])
  refine Go.step (fun t_ k_ => XS.aloadN X1.here hx rfl (hb hby d22_4) rfl rfl k_) ?_
  show Go _ _ _ _ _ _ _ T1 (mkF m 5 #[.val (.ref a1)] [(.ref a1), (.int (Int32.ofNat i))])
  obtain ⟨T2, X2, e2, st2⟩ := getF X1 hx hZ hown (host := "") (Or.inl (hw _ (List.mem_of_getElem? (i := 173) rfl))) Via.refl e1 F2 (g := (mkF m 5 #[.val (.ref a1)] [(.ref a1), (.int (Int32.ofNat i))])) rfl rfl (hb hby d22_5)
  refine Go.step st2 ?_
  show Go _ _ _ _ _ _ _ T2 (mkF m 8 #[.val (.ref a1)] [(.ref a2), (.int (Int32.ofNat i))])
  obtain ⟨T3, X3, e3, st3⟩ := getF X2 hx hZ hown (Or.inr (hw _ (List.mem_of_getElem? (i := 192) rfl))) Via.refl e2 F3 (g := (mkF m 8 #[.val (.ref a1)] [(.ref a2), (.int (Int32.ofNat i))])) rfl rfl (hb hby d22_8)
  refine Go.step st3 ?_
  show Go _ _ _ _ _ _ _ T3 (mkF m 11 #[.val (.ref a1)] [(.int (Int32.ofNat nn)), (.int (Int32.ofNat i))])
  by_cases hb11_4 : (Int32.ofNat i) = (Int32.ofNat nn)
  · refine Go.step (fun t_ k_ => XS.icmpYes X3.here hx rfl (pc0 := 11) (pc' := 18) rfl (hb hby d22_11) rfl (XT.ii_eq_t hb11_4) (by decide) (by decide) k_) ?_
    show Go _ _ _ _ _ _ _ T3 (mkF m 18 #[.val (.ref a1)] [])
    refine Go.step (fun t_ k_ => XS.iconst X3.here hx rfl (hb hby d22_18) k_) ?_
    show Go _ _ _ _ _ _ _ T3 (mkF m 19 #[.val (.ref a1)] [(.int (0 : Int32))])
    refine Go.ret X3 hx hlk hret rfl (Or.inl ⟨rfl, Or.inr (Or.inl rfl), _, rfl⟩) (hb hby d22_19) ?_ (by decide) (by decide)
    show QHn Z _ _ _ _ _ _ _ T3.heap _
    exact ⟨_, rfl, Or.inr ⟨rfl, own_eqn (by omega) (by omega) hb11_4⟩, N0, e3⟩
  · refine Go.step (fun t_ k_ => XS.icmpNo X3.here hx rfl (hb hby d22_11) rfl (XT.ii_eq_f hb11_4) k_) ?_
    show Go _ _ _ _ _ _ _ T3 (mkF m 14 #[.val (.ref a1)] [])
    refine Go.step (fun t_ k_ => XS.iconst X3.here hx rfl (hb hby d22_14) k_) ?_
    show Go _ _ _ _ _ _ _ T3 (mkF m 15 #[.val (.ref a1)] [(.int (1 : Int32))])
    refine Go.step (fun t_ k_ => XS.goto X3.here hx rfl (pc0 := 15) (pc' := 19) rfl (hb hby d22_15) (by decide) (by decide) k_) ?_
    show Go _ _ _ _ _ _ _ T3 (mkF m 19 #[.val (.ref a1)] [(.int (1 : Int32))])
    refine Go.ret X3 hx hlk hret rfl (Or.inl ⟨rfl, Or.inr (Or.inl rfl), _, rfl⟩) (hb hby d22_19) ?_ (by decide) (by decide)
    show QHn Z _ _ _ _ _ _ _ T3.heap _
    exact ⟨_, rfl, Or.inl ⟨rfl, Nat.lt_of_le_of_ne hi (fun q => hb11_4 (by rw [q]))⟩, N0, e3⟩
theorem ef_rmCk (m : MethodId) (a1 : Addr) : entryFrame m #[(.ref a1)] 1 = mkF m 0 #[.val (.ref a1)] [] := by first | (simp [entryFrame, mkF, argsToLocals, Value.category]; done) | rfl
def QCk (Z : State) (a1 : Addr) (a2 : Addr) (mc : Int32) (h0 : Heap) (n0 : Nat) (v : Option Value) (h : Heap) (L : List Loc) : Prop := v = none ∧ Fr n0 L ∧ h = h0
theorem d24_0 : decode jdk_49_method_6_code 0 = .ok (.aload_n 0, 1) := by decide +kernel
theorem d24_1 : decode jdk_49_method_6_code 1 = .ok (.getfield 1, 3) := by decide +kernel
theorem d24_4 : decode jdk_49_method_6_code 4 = .ok (.getfield 17, 3) := by decide +kernel
theorem d24_7 : decode jdk_49_method_6_code 7 = .ok (.aload_n 0, 1) := by decide +kernel
theorem d24_8 : decode jdk_49_method_6_code 8 = .ok (.getfield 22, 3) := by decide +kernel
theorem d24_11 : decode jdk_49_method_6_code 11 = .ok (.if_icmp .eq 11, 3) := by decide +kernel
theorem d24_22 : decode jdk_49_method_6_code 22 = .ok (.return_, 1) := by decide +kernel
set_option maxRecDepth 65536 in
set_option maxHeartbeats 40000000 in
theorem rmCk (l : Launch) (Z : State) (a0 : Array Value) (hw : ∀ d ∈ tables_1, d.before a0 Z = true) (ws : List Jvm.Cond) (a1 : Addr) (a2 : Addr) (mc : Int32) (h0 : Heap) (n0 : Nat) (Z0 : n0 ≤ h0.size) (F2 : Fld Z h0 a1 "java/util/ArrayList$Itr" "this$0" "Ljava/util/ArrayList;" (.ref a2)) (F3 : Fld Z h0 a1 "java/util/ArrayList$Itr" "expectedModCount" "I" (.int mc)) (F4 : Fld Z h0 a2 "java/util/AbstractList" "modCount" "I" (.int mc)) :
    MetFree l (⟨"java/util/ArrayList$Itr", "checkForComodification", "()V"⟩ : MethodName) (head1 (Jvm.Cond.code (⟨"java/util/ArrayList$Itr", "checkForComodification", "()V"⟩ : MethodName) jdk_49_method_6_code 1 none :: ws) ({ frames := 0, cells := 0, slots := 0, locals := 0 } : Room)) (fun a U => a = #[(.ref a1)] ∧ Z.Warmed39 U.vm ∧ U.heap = h0) (fun _ _ _ _ _ => True) (fun _ U o U' => ∃ v L, o = .returned v ∧ QCk Z a1 a2 mc h0 n0 v U'.heap L ∧ FrameEnd U o U' L ({ frames := 0, cells := 0, slots := 0, locals := 0 } : Room).cells ({ frames := 0, cells := 0, slots := 0, locals := 0 } : Room).slots) := by
  refine MetFree.of_bodySF (plainFor_of_name pn_9) hisR ?_
  intro p e s m args below meth c s₁ Bd hml0 hP hK
  obtain ⟨rfl, hZ, hh⟩ := hP
  have hx := Bd.exec
  have hby := Bd.bytes
  have hlk := BodyLoose.notSynchronized Bd
  have hml : c.maxLocals = 1 := hml0
  have hret := Bd.returns
  have hown : s.vm.findClass "java/util/ArrayList$Itr" = some m.cls := findClass_of_methodNamed Bd.named
  have hnm := (name_of_methodNamed Bd.named Bd.method).1
  have X0 : Stand p l e ({ frames := 0, cells := 0, slots := 0, locals := 0 } : Room) s m #[(.ref a1)] below meth c s₁ [] 0 0 := Stand.of_body Bd
  have e0 : s₁.heap = h0 := by rw [← hh, Bd.state]; rfl
  have N0 := Fr.nil n0
  show Go p e below s ({ frames := 0, cells := 0, slots := 0, locals := 0 } : Room).cells ({ frames := 0, cells := 0, slots := 0, locals := 0 } : Room).slots (QCk Z a1 a2 mc h0 n0) s₁ (entryFrame m #[(.ref a1)] 1)
  refine Go.cast (ef_rmCk m a1) ?_
  show Go _ _ _ _ _ _ _ s₁ (mkF m 0 #[.val (.ref a1)] [])
  refine Go.step (fun t_ k_ => XS.aloadN X0.here hx rfl (hb hby d24_0) rfl rfl k_) ?_
  show Go _ _ _ _ _ _ _ s₁ (mkF m 1 #[.val (.ref a1)] [(.ref a1)])
  obtain ⟨T1, X1, e1, st1⟩ := getF X0 hx hZ hown (host := "") (Or.inl (hw _ (List.mem_of_getElem? (i := 173) rfl))) Via.refl e0 F2 (g := (mkF m 1 #[.val (.ref a1)] [(.ref a1)])) rfl rfl (hb hby d24_1)
  refine Go.step st1 ?_
  show Go _ _ _ _ _ _ _ T1 (mkF m 4 #[.val (.ref a1)] [(.ref a2)])
  obtain ⟨T2, X2, e2, st2⟩ := getF X1 hx hZ hown (host := "") (Or.inl (hw _ (List.mem_of_getElem? (i := 178) rfl))) (Via.of (hw _ (List.mem_of_getElem? (i := 96) rfl))) e1 F4 (g := (mkF m 4 #[.val (.ref a1)] [(.ref a2)])) rfl rfl (hb hby d24_4)
  refine Go.step st2 ?_
  show Go _ _ _ _ _ _ _ T2 (mkF m 7 #[.val (.ref a1)] [(.int mc)])
  refine Go.step (fun t_ k_ => XS.aloadN X2.here hx rfl (hb hby d24_7) rfl rfl k_) ?_
  show Go _ _ _ _ _ _ _ T2 (mkF m 8 #[.val (.ref a1)] [(.ref a1), (.int mc)])
  obtain ⟨T3, X3, e3, st3⟩ := getF X2 hx hZ hown (host := "") (Or.inl (hw _ (List.mem_of_getElem? (i := 179) rfl))) Via.refl e2 F3 (g := (mkF m 8 #[.val (.ref a1)] [(.ref a1), (.int mc)])) rfl rfl (hb hby d24_8)
  refine Go.step st3 ?_
  show Go _ _ _ _ _ _ _ T3 (mkF m 11 #[.val (.ref a1)] [(.int mc), (.int mc)])
  have hb11_4 : mc = mc := by rfl
  refine Go.step (fun t_ k_ => XS.icmpYes X3.here hx rfl (pc0 := 11) (pc' := 22) rfl (hb hby d24_11) rfl (XT.ii_eq_t hb11_4) (by decide) (by decide) k_) ?_
  show Go _ _ _ _ _ _ _ T3 (mkF m 22 #[.val (.ref a1)] [])
  refine Go.retV X3 hx hlk hret (hb hby d24_22) ?_ (by decide) (by decide)
  show QCk Z _ _ _ _ _ _ T3.heap _
  exact ⟨rfl, N0, e3⟩
theorem ef_rmNx (m : MethodId) (a1 : Addr) : entryFrame m #[(.ref a1)] 3 = mkF m 0 #[.val (.ref a1), .unset, .unset] [] := by first | (simp [entryFrame, mkF, argsToLocals, Value.category]; done) | rfl
def QNx (Z : State) (a1 : Addr) (a2 : Addr) (i : Nat) (nn : Nat) (lr : Int32) (mc : Int32) (t : Addr) (kt : ClassId) (vs : List Value) (f : Addr) (h0 : Heap) (n0 : Nat) (v : Option Value) (h : Heap) (L : List Loc) : Prop := v = some (.ref f) ∧ Fr n0 L ∧ Keep h0 h [a1] ∧ Exa Z h a1 "java/util/ArrayList$Itr" ∧ Fld Z h a1 "java/util/ArrayList$Itr" "this$0" "Ljava/util/ArrayList;" (.ref a2) ∧ Fld Z h a1 "java/util/ArrayList$Itr" "cursor" "I" (.int (Int32.ofNat (i + 1))) ∧ Fld Z h a1 "java/util/ArrayList$Itr" "lastRet" "I" (.int (Int32.ofNat i)) ∧ Fld Z h a1 "java/util/ArrayList$Itr" "expectedModCount" "I" (.int mc)
theorem d23_0 : decode jdk_49_method_3_code 0 = .ok (.aload_n 0, 1) := by decide +kernel
theorem d23_1 : decode jdk_49_method_3_code 1 = .ok (.invokevirtual 31, 3) := by decide +kernel
theorem d23_4 : decode jdk_49_method_3_code 4 = .ok (.aload_n 0, 1) := by decide +kernel
theorem d23_5 : decode jdk_49_method_3_code 5 = .ok (.getfield 25, 3) := by decide +kernel
theorem d23_8 : decode jdk_49_method_3_code 8 = .ok (.istore_n 1, 1) := by decide +kernel
theorem d23_9 : decode jdk_49_method_3_code 9 = .ok (.iload_n 1, 1) := by decide +kernel
theorem d23_10 : decode jdk_49_method_3_code 10 = .ok (.aload_n 0, 1) := by decide +kernel
theorem d23_11 : decode jdk_49_method_3_code 11 = .ok (.getfield 1, 3) := by decide +kernel
theorem d23_14 : decode jdk_49_method_3_code 14 = .ok (.getfield 28, 3) := by decide +kernel
theorem d23_17 : decode jdk_49_method_3_code 17 = .ok (.if_icmp .lt 11, 3) := by decide +kernel
theorem d23_28 : decode jdk_49_method_3_code 28 = .ok (.aload_n 0, 1) := by decide +kernel
theorem d23_29 : decode jdk_49_method_3_code 29 = .ok (.getfield 1, 3) := by decide +kernel
theorem d23_32 : decode jdk_49_method_3_code 32 = .ok (.getfield 37, 3) := by decide +kernel
theorem d23_35 : decode jdk_49_method_3_code 35 = .ok (.astore_n 2, 1) := by decide +kernel
theorem d23_36 : decode jdk_49_method_3_code 36 = .ok (.iload_n 1, 1) := by decide +kernel
theorem d23_37 : decode jdk_49_method_3_code 37 = .ok (.aload_n 2, 1) := by decide +kernel
theorem d23_38 : decode jdk_49_method_3_code 38 = .ok (.arraylength, 1) := by decide +kernel
theorem d23_39 : decode jdk_49_method_3_code 39 = .ok (.if_icmp .lt 11, 3) := by decide +kernel
theorem d23_50 : decode jdk_49_method_3_code 50 = .ok (.aload_n 0, 1) := by decide +kernel
theorem d23_51 : decode jdk_49_method_3_code 51 = .ok (.iload_n 1, 1) := by decide +kernel
theorem d23_52 : decode jdk_49_method_3_code 52 = .ok (.iconst 1, 1) := by decide +kernel
theorem d23_53 : decode jdk_49_method_3_code 53 = .ok (.iadd, 1) := by decide +kernel
theorem d23_54 : decode jdk_49_method_3_code 54 = .ok (.putfield 25, 3) := by decide +kernel
theorem d23_57 : decode jdk_49_method_3_code 57 = .ok (.aload_n 2, 1) := by decide +kernel
theorem d23_58 : decode jdk_49_method_3_code 58 = .ok (.aload_n 0, 1) := by decide +kernel
theorem d23_59 : decode jdk_49_method_3_code 59 = .ok (.iload_n 1, 1) := by decide +kernel
theorem d23_60 : decode jdk_49_method_3_code 60 = .ok (.dup_x1, 1) := by decide +kernel
theorem d23_61 : decode jdk_49_method_3_code 61 = .ok (.putfield 13, 3) := by decide +kernel
theorem d23_64 : decode jdk_49_method_3_code 64 = .ok (.aaload, 1) := by decide +kernel
theorem d23_65 : decode jdk_49_method_3_code 65 = .ok (.areturn, 1) := by decide +kernel
set_option maxRecDepth 65536 in
set_option maxHeartbeats 40000000 in
theorem rmNx (l : Launch) (Z : State) (a0 : Array Value) (hw : ∀ d ∈ tables_1, d.before a0 Z = true) (ws : List Jvm.Cond) (a1 : Addr) (a2 : Addr) (i : Nat) (nn : Nat) (lr : Int32) (mc : Int32) (t : Addr) (kt : ClassId) (vs : List Value) (f : Addr) (h0 : Heap) (n0 : Nat) (Z0 : n0 ≤ h0.size) (g1 : n0 ≤ a1) (QE1 : Exa Z h0 a1 "java/util/ArrayList$Itr") (F1 : Fld Z h0 a1 "java/util/ArrayList$Itr" "this$0" "Ljava/util/ArrayList;" (.ref a2)) (F2 : Fld Z h0 a1 "java/util/ArrayList$Itr" "cursor" "I" (.int (Int32.ofNat i))) (F3 : Fld Z h0 a1 "java/util/ArrayList$Itr" "lastRet" "I" (.int lr)) (F4 : Fld Z h0 a1 "java/util/ArrayList$Itr" "expectedModCount" "I" (.int mc)) (QE2 : Exa Z h0 a2 "java/util/ArrayList") (Q_mc : Fld Z h0 a2 "java/util/AbstractList" "modCount" "I" (.int mc)) (Q_sz : Fld Z h0 a2 "java/util/ArrayList" "size" "I" (.int (Int32.ofNat nn))) (Q_el : Fld Z h0 a2 "java/util/ArrayList" "elementData" "[Ljava/lang/Object;" (.ref t)) (Q_t : Arv Z h0 t kt (.object "java/lang/Object") (10 : Int32) vs .null) (hin : i < nn) (hn : nn ≤ 5) (hf : vs.getD i .null = .ref f) :
    MetFree l (⟨"java/util/ArrayList$Itr", "next", "()Ljava/lang/Object;"⟩ : MethodName) (head1 (Jvm.Cond.code (⟨"java/util/ArrayList$Itr", "next", "()Ljava/lang/Object;"⟩ : MethodName) jdk_49_method_3_code 3 (some (.object "java/lang/Object")) :: ws) ({ frames := 1, cells := 0, slots := 0, locals := 14 } : Room)) (fun a U => a = #[(.ref a1)] ∧ Z.Warmed39 U.vm ∧ U.heap = h0) (fun _ _ _ _ _ => True) (fun _ U o U' => ∃ v L, o = .returned v ∧ QNx Z a1 a2 i nn lr mc t kt vs f h0 n0 v U'.heap L ∧ FrameEnd U o U' L ({ frames := 1, cells := 0, slots := 0, locals := 14 } : Room).cells ({ frames := 1, cells := 0, slots := 0, locals := 14 } : Room).slots) := by
  refine MetFree.of_bodySF (plainFor_of_name pn_9) hisR ?_
  intro p e s m args below meth c s₁ Bd hml0 hP hK
  obtain ⟨rfl, hZ, hh⟩ := hP
  have hx := Bd.exec
  have hby := Bd.bytes
  have hlk := BodyLoose.notSynchronized Bd
  have hml : c.maxLocals = 3 := hml0
  have hret := Bd.returns
  have hown : s.vm.findClass "java/util/ArrayList$Itr" = some m.cls := findClass_of_methodNamed Bd.named
  have hnm := (name_of_methodNamed Bd.named Bd.method).1
  have X0 : Stand p l e ({ frames := 1, cells := 0, slots := 0, locals := 14 } : Room) s m #[(.ref a1)] below meth c s₁ [] 0 0 := Stand.of_body Bd
  have e0 : s₁.heap = h0 := by rw [← hh, Bd.state]; rfl
  have N0 := Fr.nil n0
  show Go p e below s ({ frames := 1, cells := 0, slots := 0, locals := 14 } : Room).cells ({ frames := 1, cells := 0, slots := 0, locals := 14 } : Room).slots (QNx Z a1 a2 i nn lr mc t kt vs f h0 n0) s₁ (entryFrame m #[(.ref a1)] 3)
  refine Go.cast (ef_rmNx m a1) ?_
  have K0 : Keep h0 h0 [a1] := Keep.refl _ _
  show Go _ _ _ _ _ _ _ s₁ (mkF m 0 #[.val (.ref a1), .unset, .unset] [])
  refine Go.step (fun t_ k_ => XS.aloadN X0.here hx rfl (hb hby d23_0) rfl rfl k_) ?_
  show Go _ _ _ _ _ _ _ s₁ (mkF m 1 #[.val (.ref a1), .unset, .unset] [(.ref a1)])
  obtain ⟨cq1, kq1, qa1, qb1, qc1⟩ := isOf hZ e0 QE1
  obtain ⟨_, _, ⟨T1, L1, k1, n1⟩, -, X1, ⟨Lc1, hQ1, l1, y1, z1⟩, st1⟩ := X0.virtualBack hx (y := (⟨"java/util/ArrayList$Itr", "checkForComodification", "()V"⟩ : MethodName)) (z := (⟨"java/util/ArrayList$Itr", "checkForComodification", "()V"⟩ : MethodName)) hown (mvT hZ (hw _ (List.mem_of_getElem? (i := 201) rfl))) (mvT hZ (hw _ (List.mem_of_getElem? (i := 202) rfl))) (notFace_of_selects (args := #[]) (mvT hZ (hw _ (List.mem_of_getElem? (i := 204) rfl)))) (mvT hZ (hw _ (List.mem_of_getElem? (i := 204) rfl))) (mvT hZ (hw _ (List.mem_of_getElem? (i := 203) rfl))) (by decide) (backOf (W := 0) (rmCk l Z a0 hw [] a1 a2 mc h0 n0 Z0 F1 F4 Q_mc) hZ (hw _ (List.mem_of_getElem? (i := 205) rfl)) (hw _ (List.mem_of_getElem? (i := 168) rfl)) (by decide) (by decide)) qa1 qc1 (g := (mkF m 1 #[.val (.ref a1), .unset, .unset] [(.ref a1)])) rfl (by rw [hml]; rfl) (Steps.refl _) (argsL := []) (rest := []) (lenOf pd_2 rfl) rfl (by show 2 * 0 + _ ≤ _; exact Nat.le_of_eq rfl) (hb hby d23_1) (fun _ _ => ⟨rfl, e0, (by decide : 0 + 0 ≤ _), (by decide : 0 + 0 ≤ _)⟩)
  dsimp only [Pt.U, Pt.locs, Pt.cells, Pt.slots] at X1 l1 y1 z1 st1 hQ1
  subst l1 y1 z1
  obtain ⟨rfl, N1q, e1⟩ := hQ1
  have N1 := Fr.app N0 N1q
  refine Go.step (fun t_ k_ => st1.trans k_) ?_
  show Go _ _ _ _ _ _ _ T1 (mkF m 4 #[.val (.ref a1), .unset, .unset] [])
  refine Go.step (fun t_ k_ => XS.aloadN X1.here hx rfl (hb hby d23_4) rfl rfl k_) ?_
  show Go _ _ _ _ _ _ _ T1 (mkF m 5 #[.val (.ref a1), .unset, .unset] [(.ref a1)])
  obtain ⟨T2, X2, e2, st2⟩ := getF X1 hx hZ hown (host := "") (Or.inl (hw _ (List.mem_of_getElem? (i := 190) rfl))) Via.refl (e1) F2 (g := (mkF m 5 #[.val (.ref a1), .unset, .unset] [(.ref a1)])) rfl rfl (hb hby d23_5)
  refine Go.step st2 ?_
  show Go _ _ _ _ _ _ _ T2 (mkF m 8 #[.val (.ref a1), .unset, .unset] [(.int (Int32.ofNat i))])
  refine Go.step (fun t_ k_ => XS.istoreN X2.here hx rfl (hb hby d23_8) rfl (l' := #[.val (.ref a1), .val (.int (Int32.ofNat i)), .unset]) rfl k_) ?_
  show Go _ _ _ _ _ _ _ T2 (mkF m 9 #[.val (.ref a1), .val (.int (Int32.ofNat i)), .unset] [])
  refine Go.step (fun t_ k_ => XS.iloadN X2.here hx rfl (hb hby d23_9) rfl k_) ?_
  show Go _ _ _ _ _ _ _ T2 (mkF m 10 #[.val (.ref a1), .val (.int (Int32.ofNat i)), .unset] [(.int (Int32.ofNat i))])
  refine Go.step (fun t_ k_ => XS.aloadN X2.here hx rfl (hb hby d23_10) rfl rfl k_) ?_
  show Go _ _ _ _ _ _ _ T2 (mkF m 11 #[.val (.ref a1), .val (.int (Int32.ofNat i)), .unset] [(.ref a1), (.int (Int32.ofNat i))])
  obtain ⟨T3, X3, e3, st3⟩ := getF X2 hx hZ hown (host := "") (Or.inl (hw _ (List.mem_of_getElem? (i := 173) rfl))) Via.refl e2 F1 (g := (mkF m 11 #[.val (.ref a1), .val (.int (Int32.ofNat i)), .unset] [(.ref a1), (.int (Int32.ofNat i))])) rfl rfl (hb hby d23_11)
  refine Go.step st3 ?_
  show Go _ _ _ _ _ _ _ T3 (mkF m 14 #[.val (.ref a1), .val (.int (Int32.ofNat i)), .unset] [(.ref a2), (.int (Int32.ofNat i))])
  obtain ⟨T4, X4, e4, st4⟩ := getF X3 hx hZ hown (Or.inr (hw _ (List.mem_of_getElem? (i := 192) rfl))) Via.refl e3 Q_sz (g := (mkF m 14 #[.val (.ref a1), .val (.int (Int32.ofNat i)), .unset] [(.ref a2), (.int (Int32.ofNat i))])) rfl rfl (hb hby d23_14)
  refine Go.step st4 ?_
  show Go _ _ _ _ _ _ _ T4 (mkF m 17 #[.val (.ref a1), .val (.int (Int32.ofNat i)), .unset] [(.int (Int32.ofNat nn)), (.int (Int32.ofNat i))])
  have hb17_5 : (Int32.ofNat i) < (Int32.ofNat nn) := by exact (own_lt (by omega) (by omega)).mpr hin
  refine Go.step (fun t_ k_ => XS.icmpYes X4.here hx rfl (pc0 := 17) (pc' := 28) rfl (hb hby d23_17) rfl (XT.ii_lt_t hb17_5) (by decide) (by decide) k_) ?_
  show Go _ _ _ _ _ _ _ T4 (mkF m 28 #[.val (.ref a1), .val (.int (Int32.ofNat i)), .unset] [])
  refine Go.step (fun t_ k_ => XS.aloadN X4.here hx rfl (hb hby d23_28) rfl rfl k_) ?_
  show Go _ _ _ _ _ _ _ T4 (mkF m 29 #[.val (.ref a1), .val (.int (Int32.ofNat i)), .unset] [(.ref a1)])
  obtain ⟨T6, X6, e6, st6⟩ := getF X4 hx hZ hown (host := "") (Or.inl (hw _ (List.mem_of_getElem? (i := 173) rfl))) Via.refl e4 F1 (g := (mkF m 29 #[.val (.ref a1), .val (.int (Int32.ofNat i)), .unset] [(.ref a1)])) rfl rfl (hb hby d23_29)
  refine Go.step st6 ?_
  show Go _ _ _ _ _ _ _ T6 (mkF m 32 #[.val (.ref a1), .val (.int (Int32.ofNat i)), .unset] [(.ref a2)])
  obtain ⟨T7, X7, e7, st7⟩ := getF X6 hx hZ hown (host := "") (Or.inl (hw _ (List.mem_of_getElem? (i := 206) rfl))) Via.refl e6 Q_el (g := (mkF m 32 #[.val (.ref a1), .val (.int (Int32.ofNat i)), .unset] [(.ref a2)])) rfl rfl (hb hby d23_32)
  refine Go.step st7 ?_
  show Go _ _ _ _ _ _ _ T7 (mkF m 35 #[.val (.ref a1), .val (.int (Int32.ofNat i)), .unset] [(.ref t)])
  refine Go.step (fun t_ k_ => XS.astoreN X7.here hx rfl (hb hby d23_35) rfl rfl (l' := #[.val (.ref a1), .val (.int (Int32.ofNat i)), .val (.ref t)]) rfl k_) ?_
  show Go _ _ _ _ _ _ _ T7 (mkF m 36 #[.val (.ref a1), .val (.int (Int32.ofNat i)), .val (.ref t)] [])
  refine Go.step (fun t_ k_ => XS.iloadN X7.here hx rfl (hb hby d23_36) rfl k_) ?_
  show Go _ _ _ _ _ _ _ T7 (mkF m 37 #[.val (.ref a1), .val (.int (Int32.ofNat i)), .val (.ref t)] [(.int (Int32.ofNat i))])
  refine Go.step (fun t_ k_ => XS.aloadN X7.here hx rfl (hb hby d23_37) rfl rfl k_) ?_
  show Go _ _ _ _ _ _ _ T7 (mkF m 38 #[.val (.ref a1), .val (.int (Int32.ofNat i)), .val (.ref t)] [(.ref t), (.int (Int32.ofNat i))])
  obtain ⟨c8, Ar8, q8, S8, M8, H8, U8⟩ := id Q_t
  refine Go.step (fun t_ k_ => X7.arraylength hx (by first | exact Ar8.1 | (rw [e7]; exact Ar8.1)) (State.isArrayOf_alike hZ.alike Ar8.2.1) (g := (mkF m 38 #[.val (.ref a1), .val (.int (Int32.ofNat i)), .val (.ref t)] [(.ref t), (.int (Int32.ofNat i))])) rfl rfl (hb hby d23_38) _ k_) ?_
  rw [len_of S8 M8]
  show Go _ _ _ _ _ _ _ T7 (mkF m 39 #[.val (.ref a1), .val (.int (Int32.ofNat i)), .val (.ref t)] [(.int (10 : Int32)), (.int (Int32.ofNat i))])
  have hb39_9 : (Int32.ofNat i) < (10 : Int32) := by exact (own_inb (by omega)).2
  refine Go.step (fun t_ k_ => XS.icmpYes X7.here hx rfl (pc0 := 39) (pc' := 50) rfl (hb hby d23_39) rfl (XT.ii_lt_t hb39_9) (by decide) (by decide) k_) ?_
  show Go _ _ _ _ _ _ _ T7 (mkF m 50 #[.val (.ref a1), .val (.int (Int32.ofNat i)), .val (.ref t)] [])
  refine Go.step (fun t_ k_ => XS.aloadN X7.here hx rfl (hb hby d23_50) rfl rfl k_) ?_
  show Go _ _ _ _ _ _ _ T7 (mkF m 51 #[.val (.ref a1), .val (.int (Int32.ofNat i)), .val (.ref t)] [(.ref a1)])
  refine Go.step (fun t_ k_ => XS.iloadN X7.here hx rfl (hb hby d23_51) rfl k_) ?_
  show Go _ _ _ _ _ _ _ T7 (mkF m 52 #[.val (.ref a1), .val (.int (Int32.ofNat i)), .val (.ref t)] [(.int (Int32.ofNat i)), (.ref a1)])
  refine Go.step (fun t_ k_ => XS.iconst X7.here hx rfl (hb hby d23_52) k_) ?_
  show Go _ _ _ _ _ _ _ T7 (mkF m 53 #[.val (.ref a1), .val (.int (Int32.ofNat i)), .val (.ref t)] [(.int (1 : Int32)), (.int (Int32.ofNat i)), (.ref a1)])
  refine Go.step (fun t_ k_ => XS.iadd X7.here hx rfl (hb hby d23_53) rfl k_) ?_
  show Go _ _ _ _ _ _ _ T7 (mkF m 54 #[.val (.ref a1), .val (.int (Int32.ofNat i)), .val (.ref t)] [(.int ((Int32.ofNat i) + (1 : Int32))), (.ref a1)])
  rw [show Int32.ofNat i + (1 : Int32) = Int32.ofNat (i + 1) from (inc_ofNat i).symm]
  show Go _ _ _ _ _ _ _ T7 (mkF m 54 #[.val (.ref a1), .val (.int (Int32.ofNat i)), .val (.ref t)] [(.int (Int32.ofNat (i + 1))), (.ref a1)])
  obtain ⟨T10, h10, X10, e10, W10, st10⟩ := putF X7 hx hZ hown (host := "") (Or.inl (hw _ (List.mem_of_getElem? (i := 190) rfl))) Via.refl e7 F2 QE1 (Or.inl (hw _ (List.mem_of_getElem? (i := 191) rfl))) (hw _ (List.mem_of_getElem? (i := 167) rfl)) (ty := .int) (by decide) rfl rfl (g := (mkF m 54 #[.val (.ref a1), .val (.int (Int32.ofNat i)), .val (.ref t)] [(.int (Int32.ofNat (i + 1))), (.ref a1)])) rfl rfl (hb hby d23_54)
  have N10 := Fr.snoc X10 N1 g1
  refine Go.step st10 ?_
  have f10_0 : Exa Z h10 a1 "java/util/ArrayList$Itr" := (QE1.wr W10)
  have f10_1 : Fld Z h10 a1 "java/util/ArrayList$Itr" "this$0" "Ljava/util/ArrayList;" (.ref a2) := (F1.other W10 (Or.inr (slot_ne (Or.inr (hw _ (List.mem_of_getElem? (i := 174) rfl))) (Or.inl (hw _ (List.mem_of_getElem? (i := 191) rfl))) (by decide) (t := (.object "java/util/ArrayList")) (t' := .int) (by decide) (by decide))))
  have f10_2 : Fld Z h10 a1 "java/util/ArrayList$Itr" "cursor" "I" (.int (Int32.ofNat (i + 1))) := (F2.same W10)
  have f10_3 : Fld Z h10 a1 "java/util/ArrayList$Itr" "lastRet" "I" (.int lr) := (F3.other W10 (Or.inr (slot_ne (Or.inl (hw _ (List.mem_of_getElem? (i := 177) rfl))) (Or.inl (hw _ (List.mem_of_getElem? (i := 191) rfl))) (by decide) (t := .int) (t' := .int) (by decide) (by decide))))
  have f10_4 : Fld Z h10 a1 "java/util/ArrayList$Itr" "expectedModCount" "I" (.int mc) := (F4.other W10 (Or.inr (slot_ne (Or.inl (hw _ (List.mem_of_getElem? (i := 180) rfl))) (Or.inl (hw _ (List.mem_of_getElem? (i := 191) rfl))) (by decide) (t := .int) (t' := .int) (by decide) (by decide))))
  have f10_5 : Exa Z h10 a2 "java/util/ArrayList" := (QE2.wr W10)
  have f10_6 : Fld Z h10 a2 "java/util/AbstractList" "modCount" "I" (.int mc) := (Q_mc.other W10 (Or.inl (ne_exa QE2 QE1 (by decide))))
  have f10_7 : Fld Z h10 a2 "java/util/ArrayList" "size" "I" (.int (Int32.ofNat nn)) := (Q_sz.other W10 (Or.inl (ne_exa QE2 QE1 (by decide))))
  have f10_8 : Fld Z h10 a2 "java/util/ArrayList" "elementData" "[Ljava/lang/Object;" (.ref t) := (Q_el.other W10 (Or.inl (ne_exa QE2 QE1 (by decide))))
  have f10_9 : Arv Z h10 t kt (.object "java/lang/Object") (10 : Int32) vs .null := (Q_t.other W10 (Ne.symm (own_ne_arv QE1 (hw _ (List.mem_of_getElem? (i := 167) rfl)) Q_t)))
  have Zs10 : n0 ≤ h10.size := (Nat.le_trans Z0 (Keep.of_wr W10).1)
  have K10 : Keep h0 h10 [a1] := K0.wr W10 (Or.inl (List.mem_of_getElem? (i := 0) rfl))
  show Go _ _ _ _ _ _ _ T10 (mkF m 57 #[.val (.ref a1), .val (.int (Int32.ofNat i)), .val (.ref t)] [])
  refine Go.step (fun t_ k_ => XS.aloadN X10.here hx rfl (hb hby d23_57) rfl rfl k_) ?_
  show Go _ _ _ _ _ _ _ T10 (mkF m 58 #[.val (.ref a1), .val (.int (Int32.ofNat i)), .val (.ref t)] [(.ref t)])
  refine Go.step (fun t_ k_ => XS.aloadN X10.here hx rfl (hb hby d23_58) rfl rfl k_) ?_
  show Go _ _ _ _ _ _ _ T10 (mkF m 59 #[.val (.ref a1), .val (.int (Int32.ofNat i)), .val (.ref t)] [(.ref a1), (.ref t)])
  refine Go.step (fun t_ k_ => XS.iloadN X10.here hx rfl (hb hby d23_59) rfl k_) ?_
  show Go _ _ _ _ _ _ _ T10 (mkF m 60 #[.val (.ref a1), .val (.int (Int32.ofNat i)), .val (.ref t)] [(.int (Int32.ofNat i)), (.ref a1), (.ref t)])
  refine Go.step (fun t_ k_ => XT.dupX1 X10.here hx rfl (hb hby d23_60) rfl rfl rfl k_) ?_
  show Go _ _ _ _ _ _ _ T10 (mkF m 61 #[.val (.ref a1), .val (.int (Int32.ofNat i)), .val (.ref t)] [(.int (Int32.ofNat i)), (.ref a1), (.int (Int32.ofNat i)), (.ref t)])
  obtain ⟨T11, h11, X11, e11, W11, st11⟩ := putF X10 hx hZ hown (host := "") (Or.inl (hw _ (List.mem_of_getElem? (i := 176) rfl))) Via.refl e10 f10_3 f10_0 (Or.inl (hw _ (List.mem_of_getElem? (i := 177) rfl))) (hw _ (List.mem_of_getElem? (i := 167) rfl)) (ty := .int) (by decide) rfl rfl (g := (mkF m 61 #[.val (.ref a1), .val (.int (Int32.ofNat i)), .val (.ref t)] [(.int (Int32.ofNat i)), (.ref a1), (.int (Int32.ofNat i)), (.ref t)])) rfl rfl (hb hby d23_61)
  have N11 := Fr.snoc X11 N10 g1
  refine Go.step st11 ?_
  have f11_0 : Exa Z h11 a1 "java/util/ArrayList$Itr" := (f10_0.wr W11)
  have f11_1 : Fld Z h11 a1 "java/util/ArrayList$Itr" "this$0" "Ljava/util/ArrayList;" (.ref a2) := (f10_1.other W11 (Or.inr (slot_ne (Or.inr (hw _ (List.mem_of_getElem? (i := 174) rfl))) (Or.inl (hw _ (List.mem_of_getElem? (i := 177) rfl))) (by decide) (t := (.object "java/util/ArrayList")) (t' := .int) (by decide) (by decide))))
  have f11_2 : Fld Z h11 a1 "java/util/ArrayList$Itr" "cursor" "I" (.int (Int32.ofNat (i + 1))) := (f10_2.other W11 (Or.inr (slot_ne (Or.inl (hw _ (List.mem_of_getElem? (i := 191) rfl))) (Or.inl (hw _ (List.mem_of_getElem? (i := 177) rfl))) (by decide) (t := .int) (t' := .int) (by decide) (by decide))))
  have f11_3 : Fld Z h11 a1 "java/util/ArrayList$Itr" "lastRet" "I" (.int (Int32.ofNat i)) := (f10_3.same W11)
  have f11_4 : Fld Z h11 a1 "java/util/ArrayList$Itr" "expectedModCount" "I" (.int mc) := (f10_4.other W11 (Or.inr (slot_ne (Or.inl (hw _ (List.mem_of_getElem? (i := 180) rfl))) (Or.inl (hw _ (List.mem_of_getElem? (i := 177) rfl))) (by decide) (t := .int) (t' := .int) (by decide) (by decide))))
  have f11_5 : Exa Z h11 a2 "java/util/ArrayList" := (f10_5.wr W11)
  have f11_6 : Fld Z h11 a2 "java/util/AbstractList" "modCount" "I" (.int mc) := (f10_6.other W11 (Or.inl (ne_exa f10_5 f10_0 (by decide))))
  have f11_7 : Fld Z h11 a2 "java/util/ArrayList" "size" "I" (.int (Int32.ofNat nn)) := (f10_7.other W11 (Or.inl (ne_exa f10_5 f10_0 (by decide))))
  have f11_8 : Fld Z h11 a2 "java/util/ArrayList" "elementData" "[Ljava/lang/Object;" (.ref t) := (f10_8.other W11 (Or.inl (ne_exa f10_5 f10_0 (by decide))))
  have f11_9 : Arv Z h11 t kt (.object "java/lang/Object") (10 : Int32) vs .null := (f10_9.other W11 (Ne.symm (own_ne_arv f10_0 (hw _ (List.mem_of_getElem? (i := 167) rfl)) f10_9)))
  have Zs11 : n0 ≤ h11.size := (Nat.le_trans Zs10 (Keep.of_wr W11).1)
  have K11 : Keep h0 h11 [a1] := K10.wr W11 (Or.inl (List.mem_of_getElem? (i := 0) rfl))
  show Go _ _ _ _ _ _ _ T11 (mkF m 64 #[.val (.ref a1), .val (.int (Int32.ofNat i)), .val (.ref t)] [(.int (Int32.ofNat i)), (.ref t)])
  obtain ⟨c12, Ar12, q12, S12, M12, H12, U12⟩ := id f11_9
  have hin12 := inb_of (j := (Int32.ofNat i)) S12 (own_inb (by omega))
  refine Go.step (fun t_ k_ => X11.aaload hx (j := (Int32.ofNat i)) (v := (.ref f)) (by first | exact Ar12.1 | (rw [e11]; exact Ar12.1)) (State.isArrayOf_alike hZ.alike Ar12.2.1) rfl Ar12.2.2 hin12 (H12.at hin12 (by rw [own_tnc (by omega)]; exact hf)) (g := (mkF m 64 #[.val (.ref a1), .val (.int (Int32.ofNat i)), .val (.ref t)] [(.int (Int32.ofNat i)), (.ref t)])) rfl rfl (hb hby d23_64) _ k_) ?_
  show Go _ _ _ _ _ _ _ T11 (mkF m 65 #[.val (.ref a1), .val (.int (Int32.ofNat i)), .val (.ref t)] [(.ref f)])
  refine Go.ret X11 hx hlk hret rfl (Or.inr (Or.inr (Or.inr (Or.inr ⟨rfl, rfl, rfl⟩)))) (hb hby d23_65) ?_ (by decide) (by decide)
  show QNx Z _ _ _ _ _ _ _ _ _ _ _ _ _ T11.heap _
  rw [e11]
  exact ⟨rfl, N11, K11, f11_0, f11_1, f11_2, f11_3, f11_4⟩
theorem ef_rmKa (m : MethodId) (a1 : Addr) (a2 : Addr) : entryFrame m #[(.ref a1), (.ref a2)] 4 = mkF m 0 #[.val (.ref a1), .val (.ref a2), .unset, .unset] [] := by first | (simp [entryFrame, mkF, argsToLocals, Value.category]; done) | rfl
def QKa (Z : State) (a1 : Addr) (a2 : Addr) (tc : Addr) (kc : ClassId) (x0 : Int32) (x1 : Int32) (x2 : Int32) (t : Addr) (kt : ClassId) (z : Int32) (vs : List Value) (nn : Nat) (mc : Int32) (h0 : Heap) (n0 : Nat) (v : Option Value) (h : Heap) (L : List Loc) : Prop := v = none ∧ Fr n0 L ∧ Keep h0 h [tc] ∧ ∃ y0 y1 y2 : Int32, Exa Z h a1 "com/example/affordance/affordance/FindingCounts" ∧ Fld Z h a1 "com/example/affordance/affordance/FindingCounts" "counts" "[I" (.ref tc) ∧ Arv Z h tc kc .int (3 : Int32) [.int y0, .int y1, .int y2] (.int (0 : Int32)) ∧ y0 + y1 + y2 = (x0 + x1 + x2) + Int32.ofNat nn
theorem d19_0 : decode prog_17_method_2_code 0 = .ok (.aload_n 1, 1) := by decide +kernel
theorem pd_9 : parseMethodDescriptor "()Ljava/util/Iterator;" = some ⟨[], some (.object "java/util/Iterator")⟩ := by decide +kernel
theorem d19_1 : decode prog_17_method_2_code 1 = .ok (.invokeinterface 19 1, 5) := by decide +kernel
theorem d19_6 : decode prog_17_method_2_code 6 = .ok (.astore_n 2, 1) := by decide +kernel
theorem d19_7 : decode prog_17_method_2_code 7 = .ok (.aload_n 2, 1) := by decide +kernel
theorem pd_10 : parseMethodDescriptor "()Z" = some ⟨[], some .boolean⟩ := by decide +kernel
theorem d19_8 : decode prog_17_method_2_code 8 = .ok (.invokeinterface 25 1, 5) := by decide +kernel
theorem d19_13 : decode prog_17_method_2_code 13 = .ok (.ifCond .eq 32, 3) := by decide +kernel
theorem d19_45 : decode prog_17_method_2_code 45 = .ok (.return_, 1) := by decide +kernel
theorem d19_16 : decode prog_17_method_2_code 16 = .ok (.aload_n 2, 1) := by decide +kernel
theorem pd_11 : parseMethodDescriptor "()Ljava/lang/Object;" = some ⟨[], some (.object "java/lang/Object")⟩ := by decide +kernel
theorem d19_17 : decode prog_17_method_2_code 17 = .ok (.invokeinterface 31 1, 5) := by decide +kernel
theorem d19_22 : decode prog_17_method_2_code 22 = .ok (.checkcast 35, 3) := by decide +kernel
theorem d19_25 : decode prog_17_method_2_code 25 = .ok (.astore_n 3, 1) := by decide +kernel
theorem d19_26 : decode prog_17_method_2_code 26 = .ok (.aload_n 0, 1) := by decide +kernel
theorem d19_27 : decode prog_17_method_2_code 27 = .ok (.getfield 13, 3) := by decide +kernel
theorem d19_30 : decode prog_17_method_2_code 30 = .ok (.aload_n 3, 1) := by decide +kernel
theorem pd_12 : parseMethodDescriptor "()Lcom/example/affordance/affordance/Level;" = some ⟨[], some (.object "com/example/affordance/affordance/Level")⟩ := by decide +kernel
theorem d19_31 : decode prog_17_method_2_code 31 = .ok (.invokevirtual 37, 3) := by decide +kernel
theorem pd_13 : parseMethodDescriptor "()I" = some ⟨[], some .int⟩ := by decide +kernel
theorem d19_34 : decode prog_17_method_2_code 34 = .ok (.invokevirtual 41, 3) := by decide +kernel
theorem d19_37 : decode prog_17_method_2_code 37 = .ok (.dup2, 1) := by decide +kernel
theorem d19_38 : decode prog_17_method_2_code 38 = .ok (.iaload, 1) := by decide +kernel
theorem d19_39 : decode prog_17_method_2_code 39 = .ok (.iconst 1, 1) := by decide +kernel
theorem d19_40 : decode prog_17_method_2_code 40 = .ok (.iadd, 1) := by decide +kernel
theorem d19_41 : decode prog_17_method_2_code 41 = .ok (.iastore, 1) := by decide +kernel
theorem d19_42 : decode prog_17_method_2_code 42 = .ok (.goto (-35), 3) := by decide +kernel
set_option maxRecDepth 65536 in
set_option maxHeartbeats 40000000 in
theorem lpAdd (l : Launch) (Z : State) (a0 : Array Value) (hw : ∀ d ∈ tables_1, d.before a0 Z = true) (a1 : Addr) (a2 : Addr) (tc : Addr) (kc : ClassId) (x0 : Int32) (x1 : Int32) (x2 : Int32) (t : Addr) (kt : ClassId) (z : Int32) (vs : List Value) (nn : Nat) (mc : Int32) (h0 : Heap) (n0 : Nat) (Z0 : n0 ≤ h0.size) (O0 : Old Z n0 h0) (gtc : n0 ≤ tc) (QE1 : Exa Z h0 a1 "com/example/affordance/affordance/FindingCounts") (Q_c : Fld Z h0 a1 "com/example/affordance/affordance/FindingCounts" "counts" "[I" (.ref tc)) (Q_tc : Arv Z h0 tc kc .int (3 : Int32) [.int x0, .int x1, .int x2] (.int (0 : Int32))) (LE : Exa Z h0 a2 "java/util/ArrayList") (L_mc : Fld Z h0 a2 "java/util/AbstractList" "modCount" "I" (.int mc)) (L_sz : Fld Z h0 a2 "java/util/ArrayList" "size" "I" (.int (Int32.ofNat nn))) (L_el : Fld Z h0 a2 "java/util/ArrayList" "elementData" "[Ljava/lang/Object;" (.ref t)) (L_t : Arv Z h0 t kt (.object "java/lang/Object") z vs .null) (hn : nn ≤ 5) (hz : 0 < nn → z = (10 : Int32)) (hent : own_ent Z h0 nn vs) (ntc : t ≠ tc) {p : Program} {e : Env} {s : State} {m : MethodId} {below : List Frame} {meth : Method} {c : Code} (hx : p.tables.exec = Jvm.exec) (hby : c.code = prog_17_method_2_code) (hlk : meth.locks = false) (hml : c.maxLocals = 4) (hret : meth.sig.returnType = none) (hnm : meth.name = "add") (hZ : Z.Warmed39 s.vm) (hown : s.vm.findClass "com/example/affordance/affordance/FindingCounts" = some m.cls) :
    ∀ (kk : Nat) (i : Nat) (it : Addr) (y0 : Int32) (y1 : Int32) (y2 : Int32) (lr : Int32) (s3 : Slot) {T : State} {locs : List Loc} {h : Heap} (_ : Stand p l e ({ frames := 3, cells := 1, slots := 4, locals := 50 } : Room) s m #[(.ref a1), (.ref a2)] below meth c T locs 1 4) (e1 : T.heap = h) (N1 : Fr n0 locs) (Zs1 : n0 ≤ h.size) (O1 : Old Z n0 h) (K1 : Keep h0 h [tc]) (H_0 : Exa Z h a1 "com/example/affordance/affordance/FindingCounts") (H_1 : Fld Z h a1 "com/example/affordance/affordance/FindingCounts" "counts" "[I" (.ref tc)) (H_2 : Arv Z h tc kc .int (3 : Int32) [(.int y0), (.int y1), (.int y2)] (.int (0 : Int32))) (H_3 : Exa Z h a2 "java/util/ArrayList") (H_4 : Fld Z h a2 "java/util/AbstractList" "modCount" "I" (.int mc)) (H_5 : Fld Z h a2 "java/util/ArrayList" "size" "I" (.int (Int32.ofNat nn))) (H_6 : Fld Z h a2 "java/util/ArrayList" "elementData" "[Ljava/lang/Object;" (.ref t)) (H_7 : Arv Z h t kt (.object "java/lang/Object") z vs .null) (H_8 : Exa Z h it "java/util/ArrayList$Itr") (H_9 : Fld Z h it "java/util/ArrayList$Itr" "this$0" "Ljava/util/ArrayList;" (.ref a2)) (H_10 : Fld Z h it "java/util/ArrayList$Itr" "cursor" "I" (.int (Int32.ofNat i))) (H_11 : Fld Z h it "java/util/ArrayList$Itr" "lastRet" "I" (.int lr)) (H_12 : Fld Z h it "java/util/ArrayList$Itr" "expectedModCount" "I" (.int mc)) (hi : i ≤ nn) (git : n0 ≤ it) (giht : h0.size ≤ it) (hsum : y0 + y1 + y2 = (x0 + x1 + x2) + Int32.ofNat i) (hs3 : s3 = Slot.unset ∨ ∃ f : Addr, s3 = Slot.val (.ref f)) (_ : nn - i = kk), Go p e below s ({ frames := 3, cells := 1, slots := 4, locals := 50 } : Room).cells ({ frames := 3, cells := 1, slots := 4, locals := 50 } : Room).slots (QKa Z a1 a2 tc kc x0 x1 x2 t kt z vs nn mc h0 n0) T (mkF m 7 #[.val (.ref a1), .val (.ref a2), .val (.ref it), s3] []) := by
  intro kk
  induction kk using Nat.strongRecOn with
  | ind kk ih =>
    intro i it y0 y1 y2 lr s3 T locs h X1 e1 N1 Zs1 O1 K1 H_0 H_1 H_2 H_3 H_4 H_5 H_6 H_7 H_8 H_9 H_10 H_11 H_12 hi git giht hsum hs3 hkk
    show Go _ _ _ _ _ _ _ T (mkF m 7 #[.val (.ref a1), .val (.ref a2), .val (.ref it), s3] [])
    refine Go.step (fun t_ k_ => XS.aloadN X1.here hx rfl (hb hby d19_7) rfl rfl k_) ?_
    show Go _ _ _ _ _ _ _ T (mkF m 8 #[.val (.ref a1), .val (.ref a2), .val (.ref it), s3] [(.ref it)])
    obtain ⟨cq2, kq2, qa2, qb2, qc2⟩ := isOf hZ e1 H_8
    obtain ⟨_, _, ⟨T2, L2, k2, n2⟩, -, X2, ⟨Lc2, hQ2, l2, y2, z2⟩, st2⟩ := X1.interfaceBack hx (xi := (⟨"java/util/Iterator", "hasNext", "()Z"⟩ : MethodName)) (y := (⟨"java/util/ArrayList$Itr", "hasNext", "()Z"⟩ : MethodName)) hown (mvT hZ (hw _ (List.mem_of_getElem? (i := 181) rfl))) (mvT hZ (hw _ (List.mem_of_getElem? (i := 182) rfl))) (mvT hZ (hw _ (List.mem_of_getElem? (i := 183) rfl))) (mvT hZ (hw _ (List.mem_of_getElem? (i := 184) rfl))) (mvT hZ (hw _ (List.mem_of_getElem? (i := 185) rfl))) (mvT hZ (hw _ (List.mem_of_getElem? (i := 186) rfl))) (mvT hZ (hw _ (List.mem_of_getElem? (i := 187) rfl))) (mvT hZ (hw _ (List.mem_of_getElem? (i := 188) rfl))) (by decide) (backOf (W := 0) (rmHn l Z a0 hw [] it a2 i nn h n0 Zs1 H_10 H_9 H_5 hi hn) hZ (hw _ (List.mem_of_getElem? (i := 189) rfl)) (hw _ (List.mem_of_getElem? (i := 168) rfl)) (by decide) (by decide)) qa2 qb2 qc2 (g := (mkF m 8 #[.val (.ref a1), .val (.ref a2), .val (.ref it), s3] [(.ref it)])) rfl (by rw [hml]; rfl) (Steps.refl _) (argsL := []) (rest := []) (lenOf pd_10 rfl) rfl (by show 2 * 0 + _ ≤ _; exact Nat.le_of_eq rfl) (hb hby d19_8) (fun _ _ => ⟨rfl, e1, (by decide : 1 + 0 ≤ _), (by decide : 4 + 0 ≤ _)⟩)
    dsimp only [Pt.U, Pt.locs, Pt.cells, Pt.slots] at X2 l2 y2 z2 st2 hQ2
    subst l2 y2 z2
    obtain ⟨rh2, rfl, hrh2, N2q, e2⟩ := hQ2
    have N2 := Fr.app N1 N2q
    refine Go.step (fun t_ k_ => st2.trans k_) ?_
    show Go _ _ _ _ _ _ _ T2 (mkF m 13 #[.val (.ref a1), .val (.ref a2), .val (.ref it), s3] [(.int rh2)])
    by_cases hb13_3 : rh2 = (0 : Int32)
    · refine Go.step (fun t_ k_ => XS.ifYes X2.here hx rfl (pc0 := 13) (pc' := 45) rfl (hb hby d19_13) rfl (XT.i0_eq_t hb13_3) (by decide) (by decide) k_) ?_
      show Go _ _ _ _ _ _ _ T2 (mkF m 45 #[.val (.ref a1), .val (.ref a2), .val (.ref it), s3] [])
      refine Go.retV X2 hx hlk hret (hb hby d19_45) ?_ (by decide) (by decide)
      show QKa Z _ _ _ _ _ _ _ _ _ _ _ _ _ _ _ _ T2.heap _
      rw [(e2)]
      exact ⟨rfl, N2, K1, y0, y1, y2, H_0, H_1, H_2, (hrh2.elim (fun q_ => absurd (hb13_3) (by rw [q_.1]; decide)) (·.2)) ▸ hsum⟩
    · refine Go.step (fun t_ k_ => XS.ifNo X2.here hx rfl (hb hby d19_13) rfl (XT.i0_eq_f hb13_3) k_) ?_
      show Go _ _ _ _ _ _ _ T2 (mkF m 16 #[.val (.ref a1), .val (.ref a2), .val (.ref it), s3] [])
      refine Go.step (fun t_ k_ => XS.aloadN X2.here hx rfl (hb hby d19_16) rfl rfl k_) ?_
      show Go _ _ _ _ _ _ _ T2 (mkF m 17 #[.val (.ref a1), .val (.ref a2), .val (.ref it), s3] [(.ref it)])
      have hin : i < nn := hrh2.elim (·.2) (fun q_ => absurd q_.1 hb13_3)
      obtain ⟨f, la, hf, fE, fF, fL⟩ := hent i hin
      have nfk : f ∉ ([tc] : List Addr) := ninS (own_ne_arv fE (hw _ (List.mem_of_getElem? (i := 25) rfl)) Q_tc) nin0
      have fE1 := fE.keep K1
      have fF1 := fF.keep K1 nfk
      obtain ⟨lE, od, hod, lO⟩ := fL
      have hz10 : z = (10 : Int32) := hz (by omega)
      have A10 : Arv Z h t kt (.object "java/lang/Object") (10 : Int32) vs .null := by rw [← hz10]; exact H_7
      obtain ⟨cq5, kq5, qa5, qb5, qc5⟩ := isOf hZ (e2) H_8
      obtain ⟨_, _, ⟨T5, L5, k5, n5⟩, -, X5, ⟨Lc5, hQ5, l5, y5, z5⟩, st5⟩ := X2.interfaceBack hx (xi := (⟨"java/util/Iterator", "next", "()Ljava/lang/Object;"⟩ : MethodName)) (y := (⟨"java/util/ArrayList$Itr", "next", "()Ljava/lang/Object;"⟩ : MethodName)) hown (mvT hZ (hw _ (List.mem_of_getElem? (i := 193) rfl))) (mvT hZ (hw _ (List.mem_of_getElem? (i := 194) rfl))) (mvT hZ (hw _ (List.mem_of_getElem? (i := 195) rfl))) (mvT hZ (hw _ (List.mem_of_getElem? (i := 196) rfl))) (mvT hZ (hw _ (List.mem_of_getElem? (i := 197) rfl))) (mvT hZ (hw _ (List.mem_of_getElem? (i := 198) rfl))) (mvT hZ (hw _ (List.mem_of_getElem? (i := 199) rfl))) (mvT hZ (hw _ (List.mem_of_getElem? (i := 188) rfl))) (by decide) (backOf (W := 0) (rmNx l Z a0 hw [] it a2 i nn lr mc t kt vs f h n0 Zs1 git H_8 H_9 H_10 H_11 H_12 H_3 H_4 H_5 H_6 A10 hin hn hf) hZ (hw _ (List.mem_of_getElem? (i := 200) rfl)) (hw _ (List.mem_of_getElem? (i := 168) rfl)) (by decide) (by decide)) qa5 qb5 qc5 (g := (mkF m 17 #[.val (.ref a1), .val (.ref a2), .val (.ref it), s3] [(.ref it)])) rfl (by rw [hml]; rfl) (Steps.refl _) (argsL := []) (rest := []) (lenOf pd_11 rfl) rfl (by show 2 * 0 + _ ≤ _; exact Nat.le_of_eq rfl) (hb hby d19_17) (fun _ _ => ⟨rfl, (e2), (by decide : 1 + 0 + 0 ≤ _), (by decide : 4 + 0 + 0 ≤ _)⟩)
      dsimp only [Pt.U, Pt.locs, Pt.cells, Pt.slots] at X5 l5 y5 z5 st5 hQ5
      subst l5 y5 z5
      obtain ⟨rfl, N5q, Kq5, Eq5, Fa5, Fb5, Fc5, Fd5⟩ := hQ5
      have N5 := Fr.app N2 N5q
      have f5_0 : Exa Z T5.heap a1 "com/example/affordance/affordance/FindingCounts" := (H_0.keep Kq5)
      have f5_1 : Fld Z T5.heap a1 "com/example/affordance/affordance/FindingCounts" "counts" "[I" (.ref tc) := (H_1.keep Kq5 (ninS (ne_exa H_0 H_8 (by decide)) nin0))
      have f5_2 : Arv Z T5.heap tc kc .int (3 : Int32) [(.int y0), (.int y1), (.int y2)] (.int (0 : Int32)) := (H_2.keep Kq5 (ninS (Ne.symm (own_ne_arv H_8 (hw _ (List.mem_of_getElem? (i := 167) rfl)) H_2)) nin0))
      have f5_3 : Exa Z T5.heap a2 "java/util/ArrayList" := (H_3.keep Kq5)
      have f5_4 : Fld Z T5.heap a2 "java/util/AbstractList" "modCount" "I" (.int mc) := (H_4.keep Kq5 (ninS (ne_exa H_3 H_8 (by decide)) nin0))
      have f5_5 : Fld Z T5.heap a2 "java/util/ArrayList" "size" "I" (.int (Int32.ofNat nn)) := (H_5.keep Kq5 (ninS (ne_exa H_3 H_8 (by decide)) nin0))
      have f5_6 : Fld Z T5.heap a2 "java/util/ArrayList" "elementData" "[Ljava/lang/Object;" (.ref t) := (H_6.keep Kq5 (ninS (ne_exa H_3 H_8 (by decide)) nin0))
      have f5_7 : Arv Z T5.heap t kt (.object "java/lang/Object") z vs .null := (H_7.keep Kq5 (ninS (Ne.symm (own_ne_arv H_8 (hw _ (List.mem_of_getElem? (i := 167) rfl)) H_7)) nin0))
      have f5_8 : Exa Z T5.heap f "com/example/affordance/affordance/Finding" := (fE1.keep Kq5)
      have f5_9 : Fld Z T5.heap f "com/example/affordance/affordance/Finding" "level" "Lcom/example/affordance/affordance/Level;" (.ref la) := (fF1.keep Kq5 (ninS (ne_exa fE1 H_8 (by decide)) nin0))
      have f5_10 : Exa Z T5.heap it "java/util/ArrayList$Itr" := Eq5
      have f5_11 : Fld Z T5.heap it "java/util/ArrayList$Itr" "this$0" "Ljava/util/ArrayList;" (.ref a2) := Fa5
      have f5_12 : Fld Z T5.heap it "java/util/ArrayList$Itr" "cursor" "I" (.int (Int32.ofNat (i + 1))) := Fb5
      have f5_13 : Fld Z T5.heap it "java/util/ArrayList$Itr" "lastRet" "I" (.int (Int32.ofNat i)) := Fc5
      have f5_14 : Fld Z T5.heap it "java/util/ArrayList$Itr" "expectedModCount" "I" (.int mc) := Fd5
      have Zs5 : n0 ≤ T5.heap.size := (Nat.le_trans Zs1 Kq5.1)
      have O5 : Old Z n0 T5.heap := O1.keep Kq5 (allS git all0)
      have K5 : Keep h0 T5.heap [tc] := K1.trans Kq5 (allS (Or.inr giht) all0)
      refine Go.step (fun t_ k_ => st5.trans k_) ?_
      show Go _ _ _ _ _ _ _ T5 (mkF m 22 #[.val (.ref a1), .val (.ref a2), .val (.ref it), s3] [(.ref f)])
      obtain ⟨T6, X6, e6, st6⟩ := castY X5 hx hZ hown (hw _ (List.mem_of_getElem? (i := 207) rfl)) rfl (Ins.self f5_8) (g := (mkF m 22 #[.val (.ref a1), .val (.ref a2), .val (.ref it), s3] [(.ref f)])) rfl rfl (hb hby d19_22)
      refine Go.step st6 ?_
      show Go _ _ _ _ _ _ _ T6 (mkF m 25 #[.val (.ref a1), .val (.ref a2), .val (.ref it), s3] [(.ref f)])
      refine Go.step (fun t_ k_ => XS.astoreN X6.here hx rfl (hb hby d19_25) rfl rfl (l' := #[.val (.ref a1), .val (.ref a2), .val (.ref it), .val (.ref f)]) (by rcases hs3 with rfl | ⟨_, rfl⟩ <;> rfl) k_) ?_
      show Go _ _ _ _ _ _ _ T6 (mkF m 26 #[.val (.ref a1), .val (.ref a2), .val (.ref it), .val (.ref f)] [])
      refine Go.step (fun t_ k_ => XS.aloadN X6.here hx rfl (hb hby d19_26) rfl rfl k_) ?_
      show Go _ _ _ _ _ _ _ T6 (mkF m 27 #[.val (.ref a1), .val (.ref a2), .val (.ref it), .val (.ref f)] [(.ref a1)])
      obtain ⟨T7, X7, e7, st7⟩ := getF X6 hx hZ hown (host := "") (Or.inl (hw _ (List.mem_of_getElem? (i := 145) rfl))) Via.refl e6 f5_1 (g := (mkF m 27 #[.val (.ref a1), .val (.ref a2), .val (.ref it), .val (.ref f)] [(.ref a1)])) rfl rfl (hb hby d19_27)
      refine Go.step st7 ?_
      show Go _ _ _ _ _ _ _ T7 (mkF m 30 #[.val (.ref a1), .val (.ref a2), .val (.ref it), .val (.ref f)] [(.ref tc)])
      refine Go.step (fun t_ k_ => XS.aloadN X7.here hx rfl (hb hby d19_30) rfl rfl k_) ?_
      show Go _ _ _ _ _ _ _ T7 (mkF m 31 #[.val (.ref a1), .val (.ref a2), .val (.ref it), .val (.ref f)] [(.ref f), (.ref tc)])
      obtain ⟨cq8, kq8, qa8, qb8, qc8⟩ := isOf hZ e7 f5_8
      obtain ⟨_, _, ⟨T8, L8, k8, n8⟩, -, X8, ⟨Lc8, hQ8, l8, y8, z8⟩, st8⟩ := X7.virtualBack hx (y := (⟨"com/example/affordance/affordance/Finding", "level", "()Lcom/example/affordance/affordance/Level;"⟩ : MethodName)) (z := (⟨"com/example/affordance/affordance/Finding", "level", "()Lcom/example/affordance/affordance/Level;"⟩ : MethodName)) hown (mvT hZ (hw _ (List.mem_of_getElem? (i := 209) rfl))) (mvT hZ (hw _ (List.mem_of_getElem? (i := 210) rfl))) (notFace_of_selects (args := #[]) (mvT hZ (hw _ (List.mem_of_getElem? (i := 212) rfl)))) (mvT hZ (hw _ (List.mem_of_getElem? (i := 212) rfl))) (mvT hZ (hw _ (List.mem_of_getElem? (i := 211) rfl))) (by decide) (backOf (W := 1) (rmFl l Z a0 hw [] f la T5.heap n0 Zs5 f5_9) hZ (hw _ (List.mem_of_getElem? (i := 213) rfl)) (hw _ (List.mem_of_getElem? (i := 26) rfl)) (by decide) (by decide)) qa8 qc8 (g := (mkF m 31 #[.val (.ref a1), .val (.ref a2), .val (.ref it), .val (.ref f)] [(.ref f), (.ref tc)])) rfl (by rw [hml]; rfl) (Steps.refl _) (argsL := []) (rest := [(.ref tc)]) (lenOf pd_12 rfl) rfl (by show 2 * 0 + _ ≤ _; exact Nat.le_of_eq rfl) (hb hby d19_31) (fun _ _ => ⟨rfl, e7, (by decide : 1 + 0 + 0 + 0 ≤ _), (by decide : 4 + 0 + 0 + 0 ≤ _)⟩)
      dsimp only [Pt.U, Pt.locs, Pt.cells, Pt.slots] at X8 l8 y8 z8 st8 hQ8
      subst l8 y8 z8
      obtain ⟨rfl, N8q, e8⟩ := hQ8
      have N8 := Fr.app N5 N8q
      refine Go.step (fun t_ k_ => st8.trans k_) ?_
      show Go _ _ _ _ _ _ _ T8 (mkF m 34 #[.val (.ref a1), .val (.ref a2), .val (.ref it), .val (.ref f)] [(.ref la), (.ref tc)])
      obtain ⟨cq9, kq9, qa9, qb9, qc9⟩ := isOf hZ (e8) (lE.ext O5.2)
      obtain ⟨_, _, ⟨T9, L9, k9, n9⟩, -, X9, ⟨Lc9, hQ9, l9, y9, z9⟩, st9⟩ := X8.virtualBackUp hx (x := (⟨"com/example/affordance/affordance/Level", "ordinal", "()I"⟩ : MethodName)) (y := (⟨"java/lang/Enum", "ordinal", "()I"⟩ : MethodName)) hown (mvT hZ (hw _ (List.mem_of_getElem? (i := 214) rfl))) (mvT hZ (hw _ (List.mem_of_getElem? (i := 215) rfl))) (mvT hZ (hw _ (List.mem_of_getElem? (i := 216) rfl))) (by decide) (mvT hZ (hw _ (List.mem_of_getElem? (i := 218) rfl))) (mvT hZ (hw _ (List.mem_of_getElem? (i := 217) rfl))) (backOf (W := 1) (rmOd l Z a0 hw [] la (Int32.ofNat od) T5.heap n0 Zs5 (lO.ext O5.2)) hZ (hw _ (List.mem_of_getElem? (i := 220) rfl)) (hw _ (List.mem_of_getElem? (i := 219) rfl)) (by decide) (by decide)) qa9 qc9 (g := (mkF m 34 #[.val (.ref a1), .val (.ref a2), .val (.ref it), .val (.ref f)] [(.ref la), (.ref tc)])) rfl (by rw [hml]; rfl) (Steps.refl _) (argsL := []) (rest := [(.ref tc)]) (lenOf pd_13 rfl) rfl (by show 2 * 0 + _ ≤ _; exact Nat.le_of_eq rfl) (hb hby d19_34) (fun _ _ => ⟨rfl, (e8), (by decide : 1 + 0 + 0 + 0 + 0 ≤ _), (by decide : 4 + 0 + 0 + 0 + 0 ≤ _)⟩)
      dsimp only [Pt.U, Pt.locs, Pt.cells, Pt.slots] at X9 l9 y9 z9 st9 hQ9
      subst l9 y9 z9
      obtain ⟨rfl, N9q, e9⟩ := hQ9
      have N9 := Fr.app N8 N9q
      refine Go.step (fun t_ k_ => st9.trans k_) ?_
      show Go _ _ _ _ _ _ _ T9 (mkF m 37 #[.val (.ref a1), .val (.ref a2), .val (.ref it), .val (.ref f)] [(.int (Int32.ofNat od)), (.ref tc)])
      rcases (by omega : od = 0 ∨ od = 1 ∨ od = 2) with rfl | rfl | rfl
      · skip
        show Go _ _ _ _ _ _ _ T9 (mkF m 37 #[.val (.ref a1), .val (.ref a2), .val (.ref it), .val (.ref f)] [(.int (0 : Int32)), (.ref tc)])
        refine Go.step (fun t_ k_ => XT.dup2 X9.here hx rfl (hb hby d19_37) rfl rfl rfl k_) ?_
        show Go _ _ _ _ _ _ _ T9 (mkF m 38 #[.val (.ref a1), .val (.ref a2), .val (.ref it), .val (.ref f)] [(.int (0 : Int32)), (.ref tc), (.int (0 : Int32)), (.ref tc)])
        obtain ⟨c11, Ar11, q11, S11, M11, H11, U11⟩ := id f5_2
        have hin11 := inb_of (j := (0 : Int32)) S11 ⟨(by decide), (by decide)⟩
        refine Go.step (fun t_ k_ => X9.iaload hx (j := (0 : Int32)) (v := (.int y0)) (by first | exact Ar11.1 | (rw [(e9)]; exact Ar11.1)) (State.isArrayOf_alike hZ.alike Ar11.2.1) Ar11.2.2 hin11 (H11.at hin11 rfl) (g := (mkF m 38 #[.val (.ref a1), .val (.ref a2), .val (.ref it), .val (.ref f)] [(.int (0 : Int32)), (.ref tc), (.int (0 : Int32)), (.ref tc)])) rfl rfl (hb hby d19_38) _ k_) ?_
        show Go _ _ _ _ _ _ _ T9 (mkF m 39 #[.val (.ref a1), .val (.ref a2), .val (.ref it), .val (.ref f)] [(.int y0), (.int (0 : Int32)), (.ref tc)])
        refine Go.step (fun t_ k_ => XS.iconst X9.here hx rfl (hb hby d19_39) k_) ?_
        show Go _ _ _ _ _ _ _ T9 (mkF m 40 #[.val (.ref a1), .val (.ref a2), .val (.ref it), .val (.ref f)] [(.int (1 : Int32)), (.int y0), (.int (0 : Int32)), (.ref tc)])
        refine Go.step (fun t_ k_ => XS.iadd X9.here hx rfl (hb hby d19_40) rfl k_) ?_
        show Go _ _ _ _ _ _ _ T9 (mkF m 41 #[.val (.ref a1), .val (.ref a2), .val (.ref it), .val (.ref f)] [(.int (y0 + (1 : Int32))), (.int (0 : Int32)), (.ref tc)])
        obtain ⟨c12, Ar12, q12, S12, M12, H12, U12⟩ := id f5_2
        obtain ⟨T12, h12, X12, e12, W12, st12⟩ := stI X9 hx hZ (e9) Ar12 (j := (0 : Int32)) (inb_of S12 ⟨(by decide), (by decide)⟩) (g := (mkF m 41 #[.val (.ref a1), .val (.ref a2), .val (.ref it), .val (.ref f)] [(.int (y0 + (1 : Int32))), (.int (0 : Int32)), (.ref tc)])) rfl rfl (hb hby d19_41)
        have N12 := Fr.snoc X12 N9 gtc
        refine Go.step st12 ?_
        have f12_0 : Exa Z h12 a1 "com/example/affordance/affordance/FindingCounts" := (f5_0.wr W12)
        have f12_1 : Fld Z h12 a1 "com/example/affordance/affordance/FindingCounts" "counts" "[I" (.ref tc) := (f5_1.other W12 (Or.inl (own_ne_arv f5_0 (hw _ (List.mem_of_getElem? (i := 122) rfl)) f5_2)))
        have f12_2 : Exa Z h12 a2 "java/util/ArrayList" := (f5_3.wr W12)
        have f12_3 : Fld Z h12 a2 "java/util/AbstractList" "modCount" "I" (.int mc) := (f5_4.other W12 (Or.inl (own_ne_arv f5_3 (hw _ (List.mem_of_getElem? (i := 67) rfl)) f5_2)))
        have f12_4 : Fld Z h12 a2 "java/util/ArrayList" "size" "I" (.int (Int32.ofNat nn)) := (f5_5.other W12 (Or.inl (own_ne_arv f5_3 (hw _ (List.mem_of_getElem? (i := 67) rfl)) f5_2)))
        have f12_5 : Fld Z h12 a2 "java/util/ArrayList" "elementData" "[Ljava/lang/Object;" (.ref t) := (f5_6.other W12 (Or.inl (own_ne_arv f5_3 (hw _ (List.mem_of_getElem? (i := 67) rfl)) f5_2)))
        have f12_6 : Arv Z h12 t kt (.object "java/lang/Object") z vs .null := (f5_7.other W12 ntc)
        have f12_7 : Exa Z h12 it "java/util/ArrayList$Itr" := (f5_10.wr W12)
        have f12_8 : Fld Z h12 it "java/util/ArrayList$Itr" "this$0" "Ljava/util/ArrayList;" (.ref a2) := (f5_11.other W12 (Or.inl (own_ne_arv f5_10 (hw _ (List.mem_of_getElem? (i := 167) rfl)) f5_2)))
        have f12_9 : Fld Z h12 it "java/util/ArrayList$Itr" "cursor" "I" (.int (Int32.ofNat (i + 1))) := (f5_12.other W12 (Or.inl (own_ne_arv f5_10 (hw _ (List.mem_of_getElem? (i := 167) rfl)) f5_2)))
        have f12_10 : Fld Z h12 it "java/util/ArrayList$Itr" "lastRet" "I" (.int (Int32.ofNat i)) := (f5_13.other W12 (Or.inl (own_ne_arv f5_10 (hw _ (List.mem_of_getElem? (i := 167) rfl)) f5_2)))
        have f12_11 : Fld Z h12 it "java/util/ArrayList$Itr" "expectedModCount" "I" (.int mc) := (f5_14.other W12 (Or.inl (own_ne_arv f5_10 (hw _ (List.mem_of_getElem? (i := 167) rfl)) f5_2)))
        have Zs12 : n0 ≤ h12.size := (Nat.le_trans Zs5 (Keep.of_wr W12).1)
        have O12 : Old Z n0 h12 := O5.wr W12 gtc
        have K12 : Keep h0 h12 [tc] := K5.wr W12 (Or.inl (List.mem_of_getElem? (i := 0) rfl))
        have fA12 : Arv Z h12 tc kc .int (3 : Int32) [(.int (y0 + (1 : Int32))), (.int y1), (.int y2)] (.int (0 : Int32)) := (Arv.set Ar12 q12 S12 M12 H12 U12 rfl W12 0 rfl (Nat.le_of_ble_eq_true rfl))
        show Go _ _ _ _ _ _ _ T12 (mkF m 42 #[.val (.ref a1), .val (.ref a2), .val (.ref it), .val (.ref f)] [])
        refine Go.step (fun t_ k_ => XS.goto X12.here hx rfl (pc0 := 42) (pc' := 7) rfl (hb hby d19_42) (by decide) (by decide) k_) ?_
        show Go _ _ _ _ _ _ _ T12 (mkF m 7 #[.val (.ref a1), .val (.ref a2), .val (.ref it), .val (.ref f)] [])
        exact ih (nn - (i + 1)) (by omega) (i + 1) (it) ((y0 + (1 : Int32))) (y1) (y2) ((Int32.ofNat i)) (.val (.ref f)) (X12.mono (by decide) (by decide)) e12 N12 Zs12 O12 K12 f12_0 f12_1 fA12 f12_2 f12_3 f12_4 f12_5 f12_6 f12_7 f12_8 f12_9 f12_10 f12_11 hin git giht (own_s0 hsum) (Or.inr ⟨_, rfl⟩) rfl
      · skip
        show Go _ _ _ _ _ _ _ T9 (mkF m 37 #[.val (.ref a1), .val (.ref a2), .val (.ref it), .val (.ref f)] [(.int (1 : Int32)), (.ref tc)])
        refine Go.step (fun t_ k_ => XT.dup2 X9.here hx rfl (hb hby d19_37) rfl rfl rfl k_) ?_
        show Go _ _ _ _ _ _ _ T9 (mkF m 38 #[.val (.ref a1), .val (.ref a2), .val (.ref it), .val (.ref f)] [(.int (1 : Int32)), (.ref tc), (.int (1 : Int32)), (.ref tc)])
        obtain ⟨c13, Ar13, q13, S13, M13, H13, U13⟩ := id f5_2
        have hin13 := inb_of (j := (1 : Int32)) S13 ⟨(by decide), (by decide)⟩
        refine Go.step (fun t_ k_ => X9.iaload hx (j := (1 : Int32)) (v := (.int y1)) (by first | exact Ar13.1 | (rw [(e9)]; exact Ar13.1)) (State.isArrayOf_alike hZ.alike Ar13.2.1) Ar13.2.2 hin13 (H13.at hin13 rfl) (g := (mkF m 38 #[.val (.ref a1), .val (.ref a2), .val (.ref it), .val (.ref f)] [(.int (1 : Int32)), (.ref tc), (.int (1 : Int32)), (.ref tc)])) rfl rfl (hb hby d19_38) _ k_) ?_
        show Go _ _ _ _ _ _ _ T9 (mkF m 39 #[.val (.ref a1), .val (.ref a2), .val (.ref it), .val (.ref f)] [(.int y1), (.int (1 : Int32)), (.ref tc)])
        refine Go.step (fun t_ k_ => XS.iconst X9.here hx rfl (hb hby d19_39) k_) ?_
        show Go _ _ _ _ _ _ _ T9 (mkF m 40 #[.val (.ref a1), .val (.ref a2), .val (.ref it), .val (.ref f)] [(.int (1 : Int32)), (.int y1), (.int (1 : Int32)), (.ref tc)])
        refine Go.step (fun t_ k_ => XS.iadd X9.here hx rfl (hb hby d19_40) rfl k_) ?_
        show Go _ _ _ _ _ _ _ T9 (mkF m 41 #[.val (.ref a1), .val (.ref a2), .val (.ref it), .val (.ref f)] [(.int (y1 + (1 : Int32))), (.int (1 : Int32)), (.ref tc)])
        obtain ⟨c14, Ar14, q14, S14, M14, H14, U14⟩ := id f5_2
        obtain ⟨T14, h14, X14, e14, W14, st14⟩ := stI X9 hx hZ (e9) Ar14 (j := (1 : Int32)) (inb_of S14 ⟨(by decide), (by decide)⟩) (g := (mkF m 41 #[.val (.ref a1), .val (.ref a2), .val (.ref it), .val (.ref f)] [(.int (y1 + (1 : Int32))), (.int (1 : Int32)), (.ref tc)])) rfl rfl (hb hby d19_41)
        have N14 := Fr.snoc X14 N9 gtc
        refine Go.step st14 ?_
        have f14_0 : Exa Z h14 a1 "com/example/affordance/affordance/FindingCounts" := (f5_0.wr W14)
        have f14_1 : Fld Z h14 a1 "com/example/affordance/affordance/FindingCounts" "counts" "[I" (.ref tc) := (f5_1.other W14 (Or.inl (own_ne_arv f5_0 (hw _ (List.mem_of_getElem? (i := 122) rfl)) f5_2)))
        have f14_2 : Exa Z h14 a2 "java/util/ArrayList" := (f5_3.wr W14)
        have f14_3 : Fld Z h14 a2 "java/util/AbstractList" "modCount" "I" (.int mc) := (f5_4.other W14 (Or.inl (own_ne_arv f5_3 (hw _ (List.mem_of_getElem? (i := 67) rfl)) f5_2)))
        have f14_4 : Fld Z h14 a2 "java/util/ArrayList" "size" "I" (.int (Int32.ofNat nn)) := (f5_5.other W14 (Or.inl (own_ne_arv f5_3 (hw _ (List.mem_of_getElem? (i := 67) rfl)) f5_2)))
        have f14_5 : Fld Z h14 a2 "java/util/ArrayList" "elementData" "[Ljava/lang/Object;" (.ref t) := (f5_6.other W14 (Or.inl (own_ne_arv f5_3 (hw _ (List.mem_of_getElem? (i := 67) rfl)) f5_2)))
        have f14_6 : Arv Z h14 t kt (.object "java/lang/Object") z vs .null := (f5_7.other W14 ntc)
        have f14_7 : Exa Z h14 it "java/util/ArrayList$Itr" := (f5_10.wr W14)
        have f14_8 : Fld Z h14 it "java/util/ArrayList$Itr" "this$0" "Ljava/util/ArrayList;" (.ref a2) := (f5_11.other W14 (Or.inl (own_ne_arv f5_10 (hw _ (List.mem_of_getElem? (i := 167) rfl)) f5_2)))
        have f14_9 : Fld Z h14 it "java/util/ArrayList$Itr" "cursor" "I" (.int (Int32.ofNat (i + 1))) := (f5_12.other W14 (Or.inl (own_ne_arv f5_10 (hw _ (List.mem_of_getElem? (i := 167) rfl)) f5_2)))
        have f14_10 : Fld Z h14 it "java/util/ArrayList$Itr" "lastRet" "I" (.int (Int32.ofNat i)) := (f5_13.other W14 (Or.inl (own_ne_arv f5_10 (hw _ (List.mem_of_getElem? (i := 167) rfl)) f5_2)))
        have f14_11 : Fld Z h14 it "java/util/ArrayList$Itr" "expectedModCount" "I" (.int mc) := (f5_14.other W14 (Or.inl (own_ne_arv f5_10 (hw _ (List.mem_of_getElem? (i := 167) rfl)) f5_2)))
        have Zs14 : n0 ≤ h14.size := (Nat.le_trans Zs5 (Keep.of_wr W14).1)
        have O14 : Old Z n0 h14 := O5.wr W14 gtc
        have K14 : Keep h0 h14 [tc] := K5.wr W14 (Or.inl (List.mem_of_getElem? (i := 0) rfl))
        have fA14 : Arv Z h14 tc kc .int (3 : Int32) [(.int y0), (.int (y1 + (1 : Int32))), (.int y2)] (.int (0 : Int32)) := (Arv.set Ar14 q14 S14 M14 H14 U14 rfl W14 1 rfl (Nat.le_of_ble_eq_true rfl))
        show Go _ _ _ _ _ _ _ T14 (mkF m 42 #[.val (.ref a1), .val (.ref a2), .val (.ref it), .val (.ref f)] [])
        refine Go.step (fun t_ k_ => XS.goto X14.here hx rfl (pc0 := 42) (pc' := 7) rfl (hb hby d19_42) (by decide) (by decide) k_) ?_
        show Go _ _ _ _ _ _ _ T14 (mkF m 7 #[.val (.ref a1), .val (.ref a2), .val (.ref it), .val (.ref f)] [])
        exact ih (nn - (i + 1)) (by omega) (i + 1) (it) (y0) ((y1 + (1 : Int32))) (y2) ((Int32.ofNat i)) (.val (.ref f)) (X14.mono (by decide) (by decide)) e14 N14 Zs14 O14 K14 f14_0 f14_1 fA14 f14_2 f14_3 f14_4 f14_5 f14_6 f14_7 f14_8 f14_9 f14_10 f14_11 hin git giht (own_s1 hsum) (Or.inr ⟨_, rfl⟩) rfl
      · skip
        show Go _ _ _ _ _ _ _ T9 (mkF m 37 #[.val (.ref a1), .val (.ref a2), .val (.ref it), .val (.ref f)] [(.int (2 : Int32)), (.ref tc)])
        refine Go.step (fun t_ k_ => XT.dup2 X9.here hx rfl (hb hby d19_37) rfl rfl rfl k_) ?_
        show Go _ _ _ _ _ _ _ T9 (mkF m 38 #[.val (.ref a1), .val (.ref a2), .val (.ref it), .val (.ref f)] [(.int (2 : Int32)), (.ref tc), (.int (2 : Int32)), (.ref tc)])
        obtain ⟨c15, Ar15, q15, S15, M15, H15, U15⟩ := id f5_2
        have hin15 := inb_of (j := (2 : Int32)) S15 ⟨(by decide), (by decide)⟩
        refine Go.step (fun t_ k_ => X9.iaload hx (j := (2 : Int32)) (v := (.int y2)) (by first | exact Ar15.1 | (rw [(e9)]; exact Ar15.1)) (State.isArrayOf_alike hZ.alike Ar15.2.1) Ar15.2.2 hin15 (H15.at hin15 rfl) (g := (mkF m 38 #[.val (.ref a1), .val (.ref a2), .val (.ref it), .val (.ref f)] [(.int (2 : Int32)), (.ref tc), (.int (2 : Int32)), (.ref tc)])) rfl rfl (hb hby d19_38) _ k_) ?_
        show Go _ _ _ _ _ _ _ T9 (mkF m 39 #[.val (.ref a1), .val (.ref a2), .val (.ref it), .val (.ref f)] [(.int y2), (.int (2 : Int32)), (.ref tc)])
        refine Go.step (fun t_ k_ => XS.iconst X9.here hx rfl (hb hby d19_39) k_) ?_
        show Go _ _ _ _ _ _ _ T9 (mkF m 40 #[.val (.ref a1), .val (.ref a2), .val (.ref it), .val (.ref f)] [(.int (1 : Int32)), (.int y2), (.int (2 : Int32)), (.ref tc)])
        refine Go.step (fun t_ k_ => XS.iadd X9.here hx rfl (hb hby d19_40) rfl k_) ?_
        show Go _ _ _ _ _ _ _ T9 (mkF m 41 #[.val (.ref a1), .val (.ref a2), .val (.ref it), .val (.ref f)] [(.int (y2 + (1 : Int32))), (.int (2 : Int32)), (.ref tc)])
        obtain ⟨c16, Ar16, q16, S16, M16, H16, U16⟩ := id f5_2
        obtain ⟨T16, h16, X16, e16, W16, st16⟩ := stI X9 hx hZ (e9) Ar16 (j := (2 : Int32)) (inb_of S16 ⟨(by decide), (by decide)⟩) (g := (mkF m 41 #[.val (.ref a1), .val (.ref a2), .val (.ref it), .val (.ref f)] [(.int (y2 + (1 : Int32))), (.int (2 : Int32)), (.ref tc)])) rfl rfl (hb hby d19_41)
        have N16 := Fr.snoc X16 N9 gtc
        refine Go.step st16 ?_
        have f16_0 : Exa Z h16 a1 "com/example/affordance/affordance/FindingCounts" := (f5_0.wr W16)
        have f16_1 : Fld Z h16 a1 "com/example/affordance/affordance/FindingCounts" "counts" "[I" (.ref tc) := (f5_1.other W16 (Or.inl (own_ne_arv f5_0 (hw _ (List.mem_of_getElem? (i := 122) rfl)) f5_2)))
        have f16_2 : Exa Z h16 a2 "java/util/ArrayList" := (f5_3.wr W16)
        have f16_3 : Fld Z h16 a2 "java/util/AbstractList" "modCount" "I" (.int mc) := (f5_4.other W16 (Or.inl (own_ne_arv f5_3 (hw _ (List.mem_of_getElem? (i := 67) rfl)) f5_2)))
        have f16_4 : Fld Z h16 a2 "java/util/ArrayList" "size" "I" (.int (Int32.ofNat nn)) := (f5_5.other W16 (Or.inl (own_ne_arv f5_3 (hw _ (List.mem_of_getElem? (i := 67) rfl)) f5_2)))
        have f16_5 : Fld Z h16 a2 "java/util/ArrayList" "elementData" "[Ljava/lang/Object;" (.ref t) := (f5_6.other W16 (Or.inl (own_ne_arv f5_3 (hw _ (List.mem_of_getElem? (i := 67) rfl)) f5_2)))
        have f16_6 : Arv Z h16 t kt (.object "java/lang/Object") z vs .null := (f5_7.other W16 ntc)
        have f16_7 : Exa Z h16 it "java/util/ArrayList$Itr" := (f5_10.wr W16)
        have f16_8 : Fld Z h16 it "java/util/ArrayList$Itr" "this$0" "Ljava/util/ArrayList;" (.ref a2) := (f5_11.other W16 (Or.inl (own_ne_arv f5_10 (hw _ (List.mem_of_getElem? (i := 167) rfl)) f5_2)))
        have f16_9 : Fld Z h16 it "java/util/ArrayList$Itr" "cursor" "I" (.int (Int32.ofNat (i + 1))) := (f5_12.other W16 (Or.inl (own_ne_arv f5_10 (hw _ (List.mem_of_getElem? (i := 167) rfl)) f5_2)))
        have f16_10 : Fld Z h16 it "java/util/ArrayList$Itr" "lastRet" "I" (.int (Int32.ofNat i)) := (f5_13.other W16 (Or.inl (own_ne_arv f5_10 (hw _ (List.mem_of_getElem? (i := 167) rfl)) f5_2)))
        have f16_11 : Fld Z h16 it "java/util/ArrayList$Itr" "expectedModCount" "I" (.int mc) := (f5_14.other W16 (Or.inl (own_ne_arv f5_10 (hw _ (List.mem_of_getElem? (i := 167) rfl)) f5_2)))
        have Zs16 : n0 ≤ h16.size := (Nat.le_trans Zs5 (Keep.of_wr W16).1)
        have O16 : Old Z n0 h16 := O5.wr W16 gtc
        have K16 : Keep h0 h16 [tc] := K5.wr W16 (Or.inl (List.mem_of_getElem? (i := 0) rfl))
        have fA16 : Arv Z h16 tc kc .int (3 : Int32) [(.int y0), (.int y1), (.int (y2 + (1 : Int32)))] (.int (0 : Int32)) := (Arv.set Ar16 q16 S16 M16 H16 U16 rfl W16 2 rfl (Nat.le_of_ble_eq_true rfl))
        show Go _ _ _ _ _ _ _ T16 (mkF m 42 #[.val (.ref a1), .val (.ref a2), .val (.ref it), .val (.ref f)] [])
        refine Go.step (fun t_ k_ => XS.goto X16.here hx rfl (pc0 := 42) (pc' := 7) rfl (hb hby d19_42) (by decide) (by decide) k_) ?_
        show Go _ _ _ _ _ _ _ T16 (mkF m 7 #[.val (.ref a1), .val (.ref a2), .val (.ref it), .val (.ref f)] [])
        exact ih (nn - (i + 1)) (by omega) (i + 1) (it) (y0) (y1) ((y2 + (1 : Int32))) ((Int32.ofNat i)) (.val (.ref f)) (X16.mono (by decide) (by decide)) e16 N16 Zs16 O16 K16 f16_0 f16_1 fA16 f16_2 f16_3 f16_4 f16_5 f16_6 f16_7 f16_8 f16_9 f16_10 f16_11 hin git giht (own_s2 hsum) (Or.inr ⟨_, rfl⟩) rfl
set_option maxRecDepth 65536 in
set_option maxHeartbeats 40000000 in
theorem rmKa (l : Launch) (Z : State) (a0 : Array Value) (hw : ∀ d ∈ tables_1, d.before a0 Z = true) (ws : List Jvm.Cond) (a1 : Addr) (a2 : Addr) (tc : Addr) (kc : ClassId) (x0 : Int32) (x1 : Int32) (x2 : Int32) (t : Addr) (kt : ClassId) (z : Int32) (vs : List Value) (nn : Nat) (mc : Int32) (h0 : Heap) (n0 : Nat) (Z0 : n0 ≤ h0.size) (O0 : Old Z n0 h0) (gtc : n0 ≤ tc) (QE1 : Exa Z h0 a1 "com/example/affordance/affordance/FindingCounts") (Q_c : Fld Z h0 a1 "com/example/affordance/affordance/FindingCounts" "counts" "[I" (.ref tc)) (Q_tc : Arv Z h0 tc kc .int (3 : Int32) [.int x0, .int x1, .int x2] (.int (0 : Int32))) (LE : Exa Z h0 a2 "java/util/ArrayList") (L_mc : Fld Z h0 a2 "java/util/AbstractList" "modCount" "I" (.int mc)) (L_sz : Fld Z h0 a2 "java/util/ArrayList" "size" "I" (.int (Int32.ofNat nn))) (L_el : Fld Z h0 a2 "java/util/ArrayList" "elementData" "[Ljava/lang/Object;" (.ref t)) (L_t : Arv Z h0 t kt (.object "java/lang/Object") z vs .null) (hn : nn ≤ 5) (hz : 0 < nn → z = (10 : Int32)) (hent : own_ent Z h0 nn vs) (ntc : t ≠ tc) :
    MetFree l (⟨"com/example/affordance/affordance/FindingCounts", "add", "(Ljava/util/List;)V"⟩ : MethodName) (head1 (Jvm.Cond.code (⟨"com/example/affordance/affordance/FindingCounts", "add", "(Ljava/util/List;)V"⟩ : MethodName) prog_17_method_2_code 4 none :: ws) ({ frames := 3, cells := 1, slots := 4, locals := 50 } : Room)) (fun a U => a = #[(.ref a1), (.ref a2)] ∧ Z.Warmed39 U.vm ∧ U.heap = h0) (fun _ _ _ _ _ => True) (fun _ U o U' => ∃ v L, o = .returned v ∧ QKa Z a1 a2 tc kc x0 x1 x2 t kt z vs nn mc h0 n0 v U'.heap L ∧ FrameEnd U o U' L ({ frames := 3, cells := 1, slots := 4, locals := 50 } : Room).cells ({ frames := 3, cells := 1, slots := 4, locals := 50 } : Room).slots) := by
  refine MetFree.of_bodySF (plainFor_of_name pn_8) hisR ?_
  intro p e s m args below meth c s₁ Bd hml0 hP hK
  obtain ⟨rfl, hZ, hh⟩ := hP
  have hx := Bd.exec
  have hby := Bd.bytes
  have hlk := BodyLoose.notSynchronized Bd
  have hml : c.maxLocals = 4 := hml0
  have hret := Bd.returns
  have hown : s.vm.findClass "com/example/affordance/affordance/FindingCounts" = some m.cls := findClass_of_methodNamed Bd.named
  have hnm := (name_of_methodNamed Bd.named Bd.method).1
  have X0 : Stand p l e ({ frames := 3, cells := 1, slots := 4, locals := 50 } : Room) s m #[(.ref a1), (.ref a2)] below meth c s₁ [] 0 0 := Stand.of_body Bd
  have e0 : s₁.heap = h0 := by rw [← hh, Bd.state]; rfl
  have N0 := Fr.nil n0
  show Go p e below s ({ frames := 3, cells := 1, slots := 4, locals := 50 } : Room).cells ({ frames := 3, cells := 1, slots := 4, locals := 50 } : Room).slots (QKa Z a1 a2 tc kc x0 x1 x2 t kt z vs nn mc h0 n0) s₁ (entryFrame m #[(.ref a1), (.ref a2)] 4)
  refine Go.cast (ef_rmKa m a1 a2) ?_
  have K0 : Keep h0 h0 [tc] := Keep.refl _ _
  show Go _ _ _ _ _ _ _ s₁ (mkF m 0 #[.val (.ref a1), .val (.ref a2), .unset, .unset] [])
  refine Go.step (fun t_ k_ => XS.aloadN X0.here hx rfl (hb hby d19_0) rfl rfl k_) ?_
  show Go _ _ _ _ _ _ _ s₁ (mkF m 1 #[.val (.ref a1), .val (.ref a2), .unset, .unset] [(.ref a2)])
  obtain ⟨cq1, kq1, qa1, qb1, qc1⟩ := isOf hZ e0 LE
  obtain ⟨_, _, ⟨T1, L1, k1, n1⟩, -, X1, ⟨Lc1, hQ1, l1, y1, z1⟩, st1⟩ := X0.interfaceBack hx (xi := (⟨"java/util/List", "iterator", "()Ljava/util/Iterator;"⟩ : MethodName)) (y := (⟨"java/util/ArrayList", "iterator", "()Ljava/util/Iterator;"⟩ : MethodName)) hown (mvT hZ (hw _ (List.mem_of_getElem? (i := 157) rfl))) (mvT hZ (hw _ (List.mem_of_getElem? (i := 158) rfl))) (mvT hZ (hw _ (List.mem_of_getElem? (i := 159) rfl))) (mvT hZ (hw _ (List.mem_of_getElem? (i := 160) rfl))) (mvT hZ (hw _ (List.mem_of_getElem? (i := 161) rfl))) (mvT hZ (hw _ (List.mem_of_getElem? (i := 162) rfl))) (mvT hZ (hw _ (List.mem_of_getElem? (i := 163) rfl))) (mvT hZ (hw _ (List.mem_of_getElem? (i := 164) rfl))) (by decide) (backOf (W := 0) (rmIt l Z a0 hw [] a2 mc h0 n0 Z0 LE L_mc) hZ (hw _ (List.mem_of_getElem? (i := 165) rfl)) (hw _ (List.mem_of_getElem? (i := 68) rfl)) (by decide) (by decide)) qa1 qb1 qc1 (g := (mkF m 1 #[.val (.ref a1), .val (.ref a2), .unset, .unset] [(.ref a2)])) rfl (by rw [hml]; rfl) (Steps.refl _) (argsL := []) (rest := []) (lenOf pd_9 rfl) rfl (by show 2 * 0 + _ ≤ _; exact Nat.le_of_eq rfl) (hb hby d19_1) (fun _ _ => ⟨rfl, e0, (by decide : 0 + 1 ≤ _), (by decide : 0 + 4 ≤ _)⟩)
  dsimp only [Pt.U, Pt.locs, Pt.cells, Pt.slots] at X1 l1 y1 z1 st1 hQ1
  subst l1 y1 z1
  obtain ⟨it0, rfl, N1q, Kq1, gq1, gh1, Eq1, Fa1, Fb1, Fc1, Fd1⟩ := hQ1
  have N1 := Fr.app N0 N1q
  have gz1 : h0.size ≤ it0 := Nat.le_trans K0.1 gh1
  have f1_0 : Exa Z T1.heap a1 "com/example/affordance/affordance/FindingCounts" := (QE1.keep Kq1)
  have f1_1 : Fld Z T1.heap a1 "com/example/affordance/affordance/FindingCounts" "counts" "[I" (.ref tc) := (Q_c.keep Kq1 nin0)
  have f1_2 : Arv Z T1.heap tc kc .int (3 : Int32) [(.int x0), (.int x1), (.int x2)] (.int (0 : Int32)) := (Q_tc.keep Kq1 nin0)
  have f1_3 : Exa Z T1.heap a2 "java/util/ArrayList" := (LE.keep Kq1)
  have f1_4 : Fld Z T1.heap a2 "java/util/AbstractList" "modCount" "I" (.int mc) := (L_mc.keep Kq1 nin0)
  have f1_5 : Fld Z T1.heap a2 "java/util/ArrayList" "size" "I" (.int (Int32.ofNat nn)) := (L_sz.keep Kq1 nin0)
  have f1_6 : Fld Z T1.heap a2 "java/util/ArrayList" "elementData" "[Ljava/lang/Object;" (.ref t) := (L_el.keep Kq1 nin0)
  have f1_7 : Arv Z T1.heap t kt (.object "java/lang/Object") z vs .null := (L_t.keep Kq1 nin0)
  have f1_8 : Exa Z T1.heap it0 "java/util/ArrayList$Itr" := Eq1
  have f1_9 : Fld Z T1.heap it0 "java/util/ArrayList$Itr" "this$0" "Ljava/util/ArrayList;" (.ref a2) := Fa1
  have f1_10 : Fld Z T1.heap it0 "java/util/ArrayList$Itr" "cursor" "I" (.int (0 : Int32)) := Fb1
  have f1_11 : Fld Z T1.heap it0 "java/util/ArrayList$Itr" "lastRet" "I" (.int (-1 : Int32)) := Fc1
  have f1_12 : Fld Z T1.heap it0 "java/util/ArrayList$Itr" "expectedModCount" "I" (.int mc) := Fd1
  have Zs1 : n0 ≤ T1.heap.size := (Nat.le_trans Z0 Kq1.1)
  have O1 : Old Z n0 T1.heap := O0.keep Kq1 all0
  have K1 : Keep h0 T1.heap [tc] := K0.trans Kq1 all0
  refine Go.step (fun t_ k_ => st1.trans k_) ?_
  show Go _ _ _ _ _ _ _ T1 (mkF m 6 #[.val (.ref a1), .val (.ref a2), .unset, .unset] [(.ref it0)])
  refine Go.step (fun t_ k_ => XS.astoreN X1.here hx rfl (hb hby d19_6) rfl rfl (l' := #[.val (.ref a1), .val (.ref a2), .val (.ref it0), .unset]) rfl k_) ?_
  show Go _ _ _ _ _ _ _ T1 (mkF m 7 #[.val (.ref a1), .val (.ref a2), .val (.ref it0), .unset] [])
  exact lpAdd l Z a0 hw a1 a2 tc kc x0 x1 x2 t kt z vs nn mc h0 n0 Z0 O0 gtc QE1 Q_c Q_tc LE L_mc L_sz L_el L_t hn hz hent ntc hx hby hlk hml hret hnm hZ hown _ (0) (it0) (x0) (x1) (x2) ((-1 : Int32)) (.unset) (X1.mono (by decide) (by decide)) rfl N1 Zs1 O1 K1 f1_0 f1_1 f1_2 f1_3 f1_4 f1_5 f1_6 f1_7 f1_8 f1_9 f1_10 f1_11 f1_12 (Nat.zero_le _) gq1 gz1 (Int32.add_zero _).symm (Or.inl rfl) rfl
theorem ef_rm0 (m : MethodId) (p1 : Int32) (p2 : Int32) (p3 : Int32) (p4 : Int32) : entryFrame m #[(.int p1), (.int p2), (.int p3), (.int p4)] maxLocals = mkF m 0 #[.val (.int p1), .val (.int p2), .val (.int p3), .val (.int p4), .unset, .unset, .unset, .unset, .unset, .unset, .unset, .unset, .unset, .unset, .unset, .unset] [] := by first | (simp [entryFrame, mkF, argsToLocals, Value.category, maxLocals]; done) | rfl
def Q0 (Z : State) (p1 : Int32) (p2 : Int32) (p3 : Int32) (p4 : Int32) (mu : Addr) (sh : Addr) (ma : Addr) (dc : Addr) (kd : ClassId) (vd : List Value) (vv : Addr) (kv : ClassId) (vsv : List Value) (h0 : Heap) (n0 : Nat) (v : Option Value) (h : Heap) (L : List Loc) : Prop := v = some (.int (1 : Int32)) ∧ Fr n0 L
theorem pd_14 : parseMethodDescriptor "(Ljava/lang/String;)Lcom/example/affordance/affordance/Message;" = some ⟨[(.object "java/lang/String")], some (.object "com/example/affordance/affordance/Message")⟩ := by decide +kernel
theorem pd_15 : parseMethodDescriptor "(I)Lcom/example/affordance/affordance/Level;" = some ⟨[.int], some (.object "com/example/affordance/affordance/Level")⟩ := by decide +kernel
theorem pd_16 : parseMethodDescriptor "(IILcom/example/affordance/affordance/JsonPointer;Lcom/example/affordance/affordance/Level;Ljava/lang/String;Lcom/example/affordance/affordance/Message;)V" = some ⟨[.int, .int, (.object "com/example/affordance/affordance/JsonPointer"), (.object "com/example/affordance/affordance/Level"), (.object "java/lang/String"), (.object "com/example/affordance/affordance/Message")], none⟩ := by decide +kernel
theorem pd_17 : parseMethodDescriptor "(Ljava/util/List;)V" = some ⟨[(.object "java/util/List")], none⟩ := by decide +kernel
set_option maxRecDepth 65536 in
set_option maxHeartbeats 40000000 in
theorem sg178_4 (l : Launch) (Z : State) (a0 : Array Value) (hw : ∀ d ∈ tables_1, d.before a0 Z = true) (p1 : Int32) (p2 : Int32) (p3 : Int32) (p4 : Int32) (mu : Addr) (sh : Addr) (ma : Addr) (dc : Addr) (kd : ClassId) (vd : List Value) (vv : Addr) (kv : ClassId) (vsv : List Value) (h0 : Heap) (n0 : Nat) (Z0 : n0 ≤ h0.size) (O0 : Old Z n0 h0) (S_MUST : Sta Z Z.heap "com/example/affordance/affordance/Level" "MUST" "Lcom/example/affordance/affordance/Level;" (.ref mu)) (S_SHOULD : Sta Z Z.heap "com/example/affordance/affordance/Level" "SHOULD" "Lcom/example/affordance/affordance/Level;" (.ref sh)) (S_MAY : Sta Z Z.heap "com/example/affordance/affordance/Level" "MAY" "Lcom/example/affordance/affordance/Level;" (.ref ma)) (L_MUST : own_lv Z mu) (L_SHOULD : own_lv Z sh) (L_MAY : own_lv Z ma) (S_DC : Sta Z Z.heap "java/util/ArrayList" "DEFAULTCAPACITY_EMPTY_ELEMENTDATA" "[Ljava/lang/Object;" (.ref dc)) (A_DC : Arv Z Z.heap dc kd (.object "java/lang/Object") (0 : Int32) vd .null) (S_VV : Sta Z Z.heap "com/example/affordance/affordance/Level" "$VALUES" "[Lcom/example/affordance/affordance/Level;" (.ref vv)) (E_VV : Exa Z Z.heap vv "[Lcom/example/affordance/affordance/Level;") (A_VV : Arv Z Z.heap vv kv (.object "com/example/affordance/affordance/Level") (3 : Int32) vsv .null) (kk1 : ClassId) (zz1 : Int32) (ws1 : List Value) (m1 : Nat) (t1_ : Addr) (kk2 : ClassId) (zz2 : Int32) (ws2 : List Value) (m2 : Nat) (t2_ : Addr) (mc_1 : Int32) (mc_2 : Int32) (a_0 : Addr) (a_1 : Addr) (a_2 : Addr) (a_3 : Addr) (a_4 : Addr) (a_5 : Addr) (a_6 : Addr) (a_7 : Addr) (a_8 : Addr) {p : Program} {e : Env} {s : State} {m : MethodId} {below : List Frame} {meth : Method} {c : Code} {T : State} {locs : List Loc} {h : Heap} {vm0 : Vm} {k0 : Nat} (X1 : Stand p l e room_1 (s.setVm vm0) m #[(.int p1), (.int p2), (.int p3), (.int p4)] below meth c T locs 20 240) (hx : p.tables.exec = Jvm.exec) (hby : c.code = code) (hlk : meth.locks = false) (hml : c.maxLocals = 16) (hret : meth.sig.returnType = ret) (hnm : meth.name = "law") (e1 : T.heap = h) (N1 : Fr n0 locs) (Zs1 : n0 ≤ h.size) (O1 : Old Z n0 h) (hS1 : s.Since vm0 k0) (hk1 : k0 ≤ h.size) (hZ1 : Z.Warmed39 (s.setVm vm0).vm) (hown1 : (s.setVm vm0).vm.findClass "com/example/affordance/affordance/FindingCountsTotalPinLaw" = some m.cls) (hEL : EW Z a0 own_EL) (C1 : CHr Z own_EL s.vm h0 vm0 h) (H_0 : Exa Z h a_1 "com/example/affordance/affordance/Finding") (H_1 : Exa Z h a_2 "com/example/affordance/affordance/Finding") (H_2 : Exa Z h a_3 "com/example/affordance/affordance/Finding") (H_3 : Fld Z h a_1 "com/example/affordance/affordance/Finding" "level" "Lcom/example/affordance/affordance/Level;" (.ref a_6)) (H_4 : Fld Z h a_2 "com/example/affordance/affordance/Finding" "level" "Lcom/example/affordance/affordance/Level;" (.ref a_7)) (H_5 : Fld Z h a_3 "com/example/affordance/affordance/Finding" "level" "Lcom/example/affordance/affordance/Level;" (.ref a_8)) (H_6 : Exa Z h a_4 "java/util/ArrayList") (H_7 : Fld Z h a_4 "java/util/AbstractList" "modCount" "I" (.int mc_1)) (H_8 : Exa Z h a_5 "java/util/ArrayList") (H_9 : Fld Z h a_5 "java/util/AbstractList" "modCount" "I" (.int mc_2)) (ne_a_4_a_5 : a_4 ≠ a_5) (ge_a_1 : n0 ≤ a_1) (ge_a_2 : n0 ≤ a_2) (ge_a_3 : n0 ≤ a_3) (ge_a_4 : n0 ≤ a_4) (ge_a_5 : n0 ≤ a_5) (hin1 : own_in m1 ws1 a_1 a_2 a_3) (hz1 : ((0 : Nat) = m1 ∧ dc = t1_ ∧ (0 : Int32) = zz1) ∨ ((10 : Int32) = zz1 ∧ ws1.length = 10 ∧ n0 ≤ t1_ ∧ Ovr Z kk1 "java/lang/Object")) (hm1 : m1 ≤ 2) (Hs1 : Fld Z h a_4 "java/util/ArrayList" "size" "I" (.int (Int32.ofNat m1))) (He1 : Fld Z h a_4 "java/util/ArrayList" "elementData" "[Ljava/lang/Object;" (.ref t1_)) (Ha1 : Arv Z h t1_ kk1 (.object "java/lang/Object") zz1 ws1 .null) (hin2 : own_in m2 ws2 a_1 a_2 a_3) (hz2 : ((0 : Nat) = m2 ∧ dc = t2_ ∧ (0 : Int32) = zz2) ∨ ((10 : Int32) = zz2 ∧ ws2.length = 10 ∧ n0 ≤ t2_ ∧ Ovr Z kk2 "java/lang/Object" ∧ t1_ ≠ t2_)) (hm2 : m2 ≤ 3) (Hs2 : Fld Z h a_5 "java/util/ArrayList" "size" "I" (.int (Int32.ofNat m2))) (He2 : Fld Z h a_5 "java/util/ArrayList" "elementData" "[Ljava/lang/Object;" (.ref t2_)) (Ha2 : Arv Z h t2_ kk2 (.object "java/lang/Object") zz2 ws2 .null) (hl_0 : own_lv Z a_6) (hl_1 : own_lv Z a_7) (hl_2 : own_lv Z a_8) :
    GoH p e below s room_1.cells room_1.slots Z own_EL h0 (Q0 Z p1 p2 p3 p4 mu sh ma dc kd vd vv kv vsv h0 n0) T (mkF m 178 #[.val (.int p1), .val (.int p2), .val (.int p3), .val (.int p4), .val (.ref a_0), .val (.ref a_1), .val (.ref a_2), .val (.ref a_3), .val (.ref a_4), .val (.ref a_5), .val (.int (Int32.ofNat m1)), .val (.int (Int32.ofNat m2)), .unset, .unset, .unset, .unset] []) := by
  show GoH _ _ _ _ _ _ _ _ _ _ T (mkF m 178 #[.val (.int p1), .val (.int p2), .val (.int p3), .val (.int p4), .val (.ref a_0), .val (.ref a_1), .val (.ref a_2), .val (.ref a_3), .val (.ref a_4), .val (.ref a_5), .val (.int (Int32.ofNat m1)), .val (.int (Int32.ofNat m2)), .unset, .unset, .unset, .unset] [])
  obtain ⟨T24, h24, X24, e24, E24, A24, D24, -, st24⟩ := newO X1 hx hZ1 hown1 (hw _ (List.mem_of_getElem? (i := 121) rfl)) (hw _ (List.mem_of_getElem? (i := 122) rfl)) (hw _ (List.mem_of_getElem? (i := 123) rfl)) e1 (g := (mkF m 178 #[.val (.int p1), .val (.int p2), .val (.int p3), .val (.int p4), .val (.ref a_0), .val (.ref a_1), .val (.ref a_2), .val (.ref a_3), .val (.ref a_4), .val (.ref a_5), .val (.int (Int32.ofNat m1)), .val (.int (Int32.ofNat m2)), .unset, .unset, .unset, .unset] [])) rfl (hb hby at_178) (by decide) (by decide)
  obtain ⟨o24, g24⟩ : ∃ z, z = h.size := ⟨_, rfl⟩
  rw [← g24] at A24 D24 st24
  have ne_a_1_o24 : a_1 ≠ o24 := Nat.ne_of_lt (Nat.lt_of_lt_of_le H_0.lt (Nat.le_of_eq g24.symm))
  have ne_a_2_o24 : a_2 ≠ o24 := Nat.ne_of_lt (Nat.lt_of_lt_of_le H_1.lt (Nat.le_of_eq g24.symm))
  have ne_a_3_o24 : a_3 ≠ o24 := Nat.ne_of_lt (Nat.lt_of_lt_of_le H_2.lt (Nat.le_of_eq g24.symm))
  have ne_a_4_o24 : a_4 ≠ o24 := Nat.ne_of_lt (Nat.lt_of_lt_of_le H_6.lt (Nat.le_of_eq g24.symm))
  have ne_a_5_o24 : a_5 ≠ o24 := Nat.ne_of_lt (Nat.lt_of_lt_of_le H_8.lt (Nat.le_of_eq g24.symm))
  have ne_t1__o24 : t1_ ≠ o24 := Nat.ne_of_lt (Nat.lt_of_lt_of_le Ha1.lt (Nat.le_of_eq g24.symm))
  have ne_t2__o24 : t2_ ≠ o24 := Nat.ne_of_lt (Nat.lt_of_lt_of_le Ha2.lt (Nat.le_of_eq g24.symm))
  have ge_o24 : n0 ≤ o24 := Nat.le_trans Zs1 (Nat.le_of_eq g24.symm)
  have f24_0 : Exa Z h24 a_1 "com/example/affordance/affordance/Finding" := (H_0.ext E24)
  have f24_1 : Exa Z h24 a_2 "com/example/affordance/affordance/Finding" := (H_1.ext E24)
  have f24_2 : Exa Z h24 a_3 "com/example/affordance/affordance/Finding" := (H_2.ext E24)
  have f24_3 : Fld Z h24 a_1 "com/example/affordance/affordance/Finding" "level" "Lcom/example/affordance/affordance/Level;" (.ref a_6) := (H_3.ext E24)
  have f24_4 : Fld Z h24 a_2 "com/example/affordance/affordance/Finding" "level" "Lcom/example/affordance/affordance/Level;" (.ref a_7) := (H_4.ext E24)
  have f24_5 : Fld Z h24 a_3 "com/example/affordance/affordance/Finding" "level" "Lcom/example/affordance/affordance/Level;" (.ref a_8) := (H_5.ext E24)
  have f24_6 : Exa Z h24 a_4 "java/util/ArrayList" := (H_6.ext E24)
  have f24_7 : Fld Z h24 a_4 "java/util/AbstractList" "modCount" "I" (.int mc_1) := (H_7.ext E24)
  have f24_8 : Exa Z h24 a_5 "java/util/ArrayList" := (H_8.ext E24)
  have f24_9 : Fld Z h24 a_5 "java/util/AbstractList" "modCount" "I" (.int mc_2) := (H_9.ext E24)
  have f24_15 : Fld Z h24 a_4 "java/util/ArrayList" "size" "I" (.int (Int32.ofNat m1)) := (Hs1.ext E24)
  have f24_16 : Fld Z h24 a_4 "java/util/ArrayList" "elementData" "[Ljava/lang/Object;" (.ref t1_) := (He1.ext E24)
  have f24_17 : Arv Z h24 t1_ kk1 (.object "java/lang/Object") zz1 ws1 .null := (Ha1.ext E24)
  have f24_18 : Fld Z h24 a_5 "java/util/ArrayList" "size" "I" (.int (Int32.ofNat m2)) := (Hs2.ext E24)
  have f24_19 : Fld Z h24 a_5 "java/util/ArrayList" "elementData" "[Ljava/lang/Object;" (.ref t2_) := (He2.ext E24)
  have f24_20 : Arv Z h24 t2_ kk2 (.object "java/lang/Object") zz2 ws2 .null := (Ha2.ext E24)
  have f24_21 : Exa Z h24 o24 "com/example/affordance/affordance/FindingCounts" := A24
  have f24_22 : Fld Z h24 o24 "com/example/affordance/affordance/FindingCounts" "counts" "[I" .null := (D24 (Or.inr (hw _ (List.mem_of_getElem? (i := 146) rfl))) (ty := (.array .int)) (by decide))
  have hk24 : _ ≤ h24.size := Nat.le_trans hk1 E24.1
  have C24 : CHr Z own_EL s.vm h0 vm0 h24 := C1.trans (CHr.ext E24 C1.1)
  have Zs24 : n0 ≤ h24.size := (Nat.le_trans Zs1 E24.1)
  have O24 : Old Z n0 h24 := O1.ext E24
  refine GoH.step st24 ?_
  show GoH _ _ _ _ _ _ _ _ _ _ T24 (mkF m 181 #[.val (.int p1), .val (.int p2), .val (.int p3), .val (.int p4), .val (.ref a_0), .val (.ref a_1), .val (.ref a_2), .val (.ref a_3), .val (.ref a_4), .val (.ref a_5), .val (.int (Int32.ofNat m1)), .val (.int (Int32.ofNat m2)), .unset, .unset, .unset, .unset] [(.ref o24)])
  refine GoH.step (fun t_ k_ => XS.dup X24.here hx rfl (hb hby at_181) rfl rfl k_) ?_
  show GoH _ _ _ _ _ _ _ _ _ _ T24 (mkF m 182 #[.val (.int p1), .val (.int p2), .val (.int p3), .val (.int p4), .val (.ref a_0), .val (.ref a_1), .val (.ref a_2), .val (.ref a_3), .val (.ref a_4), .val (.ref a_5), .val (.int (Int32.ofNat m1)), .val (.int (Int32.ofNat m2)), .unset, .unset, .unset, .unset] [(.ref o24), (.ref o24)])
  obtain ⟨_, _, ⟨T25, L25, k25, n25⟩, -, X25, ⟨Lc25, hQ25, l25, y25, z25⟩, st25⟩ := X24.specialBack hx (y := (⟨"com/example/affordance/affordance/FindingCounts", "<init>", "()V"⟩ : MethodName)) rfl hown1 (mvT hZ1 (hw _ (List.mem_of_getElem? (i := 124) rfl))) (mvT hZ1 (hw _ (List.mem_of_getElem? (i := 125) rfl))) (mvT hZ1 (hw _ (List.mem_of_getElem? (i := 126) rfl))) (by decide) (backOf (W := 1) (rmKi l Z a0 hw [] o24 vv kv vsv h24 n0 Zs24 O24 S_VV E_VV A_VV ge_o24 f24_21 f24_22) hZ1 (hw _ (List.mem_of_getElem? (i := 126) rfl)) (hw _ (List.mem_of_getElem? (i := 123) rfl)) (by decide) (by decide)) (g := (mkF m 182 #[.val (.int p1), .val (.int p2), .val (.int p3), .val (.int p4), .val (.ref a_0), .val (.ref a_1), .val (.ref a_2), .val (.ref a_3), .val (.ref a_4), .val (.ref a_5), .val (.int (Int32.ofNat m1)), .val (.int (Int32.ofNat m2)), .unset, .unset, .unset, .unset] [(.ref o24), (.ref o24)])) rfl (by rw [hml]; rfl) (Steps.refl _) (a := o24) (argsL := []) (rest := [(.ref o24)]) (lenOf pd_2 rfl) rfl (by show 2 * 0 + _ ≤ _; exact Nat.le_of_eq rfl) (hb hby at_182) (fun _ _ => ⟨rfl, e24, (by decide : 20 + 1 + 2 ≤ _), (by decide : 240 + 1 + 6 ≤ _)⟩)
  dsimp only [Pt.U, Pt.locs, Pt.cells, Pt.slots] at X25 l25 y25 z25 st25 hQ25
  subst l25 y25 z25
  obtain ⟨rfl, N25q, Kq25, tc, kc, gtc, ghc, Eq25, Fa25, Aq25⟩ := hQ25
  have N25 := Fr.app N1 N25q
  have ne_a_1_tc : a_1 ≠ tc := Nat.ne_of_lt (Nat.lt_of_lt_of_le f24_0.lt ghc)
  have ne_a_2_tc : a_2 ≠ tc := Nat.ne_of_lt (Nat.lt_of_lt_of_le f24_1.lt ghc)
  have ne_a_3_tc : a_3 ≠ tc := Nat.ne_of_lt (Nat.lt_of_lt_of_le f24_2.lt ghc)
  have ne_a_4_tc : a_4 ≠ tc := Nat.ne_of_lt (Nat.lt_of_lt_of_le f24_6.lt ghc)
  have ne_a_5_tc : a_5 ≠ tc := Nat.ne_of_lt (Nat.lt_of_lt_of_le f24_8.lt ghc)
  have ne_t1__tc : t1_ ≠ tc := Nat.ne_of_lt (Nat.lt_of_lt_of_le f24_17.lt ghc)
  have ne_t2__tc : t2_ ≠ tc := Nat.ne_of_lt (Nat.lt_of_lt_of_le f24_20.lt ghc)
  have ne_o24_tc : o24 ≠ tc := Nat.ne_of_lt (Nat.lt_of_lt_of_le f24_21.lt ghc)
  have f25_0 : Exa Z T25.heap a_1 "com/example/affordance/affordance/Finding" := (f24_0.keep Kq25)
  have f25_1 : Exa Z T25.heap a_2 "com/example/affordance/affordance/Finding" := (f24_1.keep Kq25)
  have f25_2 : Exa Z T25.heap a_3 "com/example/affordance/affordance/Finding" := (f24_2.keep Kq25)
  have f25_3 : Fld Z T25.heap a_1 "com/example/affordance/affordance/Finding" "level" "Lcom/example/affordance/affordance/Level;" (.ref a_6) := (f24_3.keep Kq25 (ninS ne_a_1_o24 nin0))
  have f25_4 : Fld Z T25.heap a_2 "com/example/affordance/affordance/Finding" "level" "Lcom/example/affordance/affordance/Level;" (.ref a_7) := (f24_4.keep Kq25 (ninS ne_a_2_o24 nin0))
  have f25_5 : Fld Z T25.heap a_3 "com/example/affordance/affordance/Finding" "level" "Lcom/example/affordance/affordance/Level;" (.ref a_8) := (f24_5.keep Kq25 (ninS ne_a_3_o24 nin0))
  have f25_6 : Exa Z T25.heap a_4 "java/util/ArrayList" := (f24_6.keep Kq25)
  have f25_7 : Fld Z T25.heap a_4 "java/util/AbstractList" "modCount" "I" (.int mc_1) := (f24_7.keep Kq25 (ninS ne_a_4_o24 nin0))
  have f25_8 : Exa Z T25.heap a_5 "java/util/ArrayList" := (f24_8.keep Kq25)
  have f25_9 : Fld Z T25.heap a_5 "java/util/AbstractList" "modCount" "I" (.int mc_2) := (f24_9.keep Kq25 (ninS ne_a_5_o24 nin0))
  have f25_15 : Fld Z T25.heap a_4 "java/util/ArrayList" "size" "I" (.int (Int32.ofNat m1)) := (f24_15.keep Kq25 (ninS ne_a_4_o24 nin0))
  have f25_16 : Fld Z T25.heap a_4 "java/util/ArrayList" "elementData" "[Ljava/lang/Object;" (.ref t1_) := (f24_16.keep Kq25 (ninS ne_a_4_o24 nin0))
  have f25_17 : Arv Z T25.heap t1_ kk1 (.object "java/lang/Object") zz1 ws1 .null := (f24_17.keep Kq25 (ninS ne_t1__o24 nin0))
  have f25_18 : Fld Z T25.heap a_5 "java/util/ArrayList" "size" "I" (.int (Int32.ofNat m2)) := (f24_18.keep Kq25 (ninS ne_a_5_o24 nin0))
  have f25_19 : Fld Z T25.heap a_5 "java/util/ArrayList" "elementData" "[Ljava/lang/Object;" (.ref t2_) := (f24_19.keep Kq25 (ninS ne_a_5_o24 nin0))
  have f25_20 : Arv Z T25.heap t2_ kk2 (.object "java/lang/Object") zz2 ws2 .null := (f24_20.keep Kq25 (ninS ne_t2__o24 nin0))
  have f25_21 : Exa Z T25.heap o24 "com/example/affordance/affordance/FindingCounts" := Eq25
  have f25_22 : Fld Z T25.heap o24 "com/example/affordance/affordance/FindingCounts" "counts" "[I" (.ref tc) := Fa25
  have f25_23 : Arv Z T25.heap tc kc .int (3 : Int32) [(.int (0 : Int32)), (.int (0 : Int32)), (.int (0 : Int32))] (.int (0 : Int32)) := Aq25
  have sfk25 : ∀ x ∈ ([o24] : List Addr), Safe Z own_EL vm0 h24 x := (sfS (Safe.exa hZ1.alike f24_21 (by decide) (by decide)) sf0)
  have hk25 : _ ≤ T25.heap.size := Nat.le_trans hk24 Kq25.1
  have C25 : CHr Z own_EL s.vm h0 vm0 T25.heap := C24.trans (CHr.keep Kq25 sfk25 C24.1)
  have Zs25 : n0 ≤ T25.heap.size := (Nat.le_trans Zs24 Kq25.1)
  have O25 : Old Z n0 T25.heap := O24.keep Kq25 (allS ge_o24 all0)
  refine GoH.step (fun t_ k_ => st25.trans k_) ?_
  show GoH _ _ _ _ _ _ _ _ _ _ T25 (mkF m 185 #[.val (.int p1), .val (.int p2), .val (.int p3), .val (.int p4), .val (.ref a_0), .val (.ref a_1), .val (.ref a_2), .val (.ref a_3), .val (.ref a_4), .val (.ref a_5), .val (.int (Int32.ofNat m1)), .val (.int (Int32.ofNat m2)), .unset, .unset, .unset, .unset] [(.ref o24)])
  refine GoH.step (fun t_ k_ => XS.astore X25.here hx rfl (hb hby at_185) rfl rfl (l' := #[.val (.int p1), .val (.int p2), .val (.int p3), .val (.int p4), .val (.ref a_0), .val (.ref a_1), .val (.ref a_2), .val (.ref a_3), .val (.ref a_4), .val (.ref a_5), .val (.int (Int32.ofNat m1)), .val (.int (Int32.ofNat m2)), .val (.ref o24), .unset, .unset, .unset]) rfl k_) ?_
  show GoH _ _ _ _ _ _ _ _ _ _ T25 (mkF m 187 #[.val (.int p1), .val (.int p2), .val (.int p3), .val (.int p4), .val (.ref a_0), .val (.ref a_1), .val (.ref a_2), .val (.ref a_3), .val (.ref a_4), .val (.ref a_5), .val (.int (Int32.ofNat m1)), .val (.int (Int32.ofNat m2)), .val (.ref o24), .unset, .unset, .unset] [])
  refine GoH.step (fun t_ k_ => XS.aload X25.here hx rfl (hb hby at_187) rfl rfl k_) ?_
  show GoH _ _ _ _ _ _ _ _ _ _ T25 (mkF m 189 #[.val (.int p1), .val (.int p2), .val (.int p3), .val (.int p4), .val (.ref a_0), .val (.ref a_1), .val (.ref a_2), .val (.ref a_3), .val (.ref a_4), .val (.ref a_5), .val (.int (Int32.ofNat m1)), .val (.int (Int32.ofNat m2)), .val (.ref o24), .unset, .unset, .unset] [(.ref o24)])
  obtain ⟨cq26, kq26, qa26, qb26, qc26⟩ := isOf hZ1 rfl f25_21
  obtain ⟨_, _, ⟨T26, L26, k26, n26⟩, -, X26, ⟨Lc26, hQ26, l26, y26, z26⟩, st26⟩ := X25.virtualBack hx (y := (⟨"com/example/affordance/affordance/FindingCounts", "total", "()I"⟩ : MethodName)) (z := (⟨"com/example/affordance/affordance/FindingCounts", "total", "()I"⟩ : MethodName)) hown1 (mvT hZ1 (hw _ (List.mem_of_getElem? (i := 147) rfl))) (mvT hZ1 (hw _ (List.mem_of_getElem? (i := 148) rfl))) (notFace_of_selects (args := #[]) (mvT hZ1 (hw _ (List.mem_of_getElem? (i := 150) rfl)))) (mvT hZ1 (hw _ (List.mem_of_getElem? (i := 150) rfl))) (mvT hZ1 (hw _ (List.mem_of_getElem? (i := 149) rfl))) (by decide) (backOf (W := 0) (rmTt l Z a0 hw [] o24 tc kc (0 : Int32) (0 : Int32) (0 : Int32) T25.heap n0 Zs25 f25_21 f25_22 f25_23) hZ1 (hw _ (List.mem_of_getElem? (i := 151) rfl)) (hw _ (List.mem_of_getElem? (i := 123) rfl)) (by decide) (by decide)) qa26 qc26 (g := (mkF m 189 #[.val (.int p1), .val (.int p2), .val (.int p3), .val (.int p4), .val (.ref a_0), .val (.ref a_1), .val (.ref a_2), .val (.ref a_3), .val (.ref a_4), .val (.ref a_5), .val (.int (Int32.ofNat m1)), .val (.int (Int32.ofNat m2)), .val (.ref o24), .unset, .unset, .unset] [(.ref o24)])) rfl (by rw [hml]; rfl) (Steps.refl _) (argsL := []) (rest := []) (lenOf pd_13 rfl) rfl (by show 2 * 0 + _ ≤ _; exact Nat.le_of_eq rfl) (hb hby at_189) (fun _ _ => ⟨rfl, rfl, (by decide : 20 + 1 + 2 + 0 ≤ _), (by decide : 240 + 1 + 6 + 0 ≤ _)⟩)
  dsimp only [Pt.U, Pt.locs, Pt.cells, Pt.slots] at X26 l26 y26 z26 st26 hQ26
  subst l26 y26 z26
  obtain ⟨rfl, N26q, e26⟩ := hQ26
  have N26 := Fr.app N25 N26q
  refine GoH.step (fun t_ k_ => st26.trans k_) ?_
  show GoH _ _ _ _ _ _ _ _ _ _ T26 (mkF m 192 #[.val (.int p1), .val (.int p2), .val (.int p3), .val (.int p4), .val (.ref a_0), .val (.ref a_1), .val (.ref a_2), .val (.ref a_3), .val (.ref a_4), .val (.ref a_5), .val (.int (Int32.ofNat m1)), .val (.int (Int32.ofNat m2)), .val (.ref o24), .unset, .unset, .unset] [(.int ((((0 : Int32) + (0 : Int32)) + (0 : Int32)) + (0 : Int32)))])
  refine GoH.step (fun t_ k_ => XS.istore X26.here hx rfl (hb hby at_192) rfl (l' := #[.val (.int p1), .val (.int p2), .val (.int p3), .val (.int p4), .val (.ref a_0), .val (.ref a_1), .val (.ref a_2), .val (.ref a_3), .val (.ref a_4), .val (.ref a_5), .val (.int (Int32.ofNat m1)), .val (.int (Int32.ofNat m2)), .val (.ref o24), .val (.int ((((0 : Int32) + (0 : Int32)) + (0 : Int32)) + (0 : Int32))), .unset, .unset]) rfl k_) ?_
  show GoH _ _ _ _ _ _ _ _ _ _ T26 (mkF m 194 #[.val (.int p1), .val (.int p2), .val (.int p3), .val (.int p4), .val (.ref a_0), .val (.ref a_1), .val (.ref a_2), .val (.ref a_3), .val (.ref a_4), .val (.ref a_5), .val (.int (Int32.ofNat m1)), .val (.int (Int32.ofNat m2)), .val (.ref o24), .val (.int ((((0 : Int32) + (0 : Int32)) + (0 : Int32)) + (0 : Int32))), .unset, .unset] [])
  refine GoH.step (fun t_ k_ => XS.aload X26.here hx rfl (hb hby at_194) rfl rfl k_) ?_
  show GoH _ _ _ _ _ _ _ _ _ _ T26 (mkF m 196 #[.val (.int p1), .val (.int p2), .val (.int p3), .val (.int p4), .val (.ref a_0), .val (.ref a_1), .val (.ref a_2), .val (.ref a_3), .val (.ref a_4), .val (.ref a_5), .val (.int (Int32.ofNat m1)), .val (.int (Int32.ofNat m2)), .val (.ref o24), .val (.int ((((0 : Int32) + (0 : Int32)) + (0 : Int32)) + (0 : Int32))), .unset, .unset] [(.ref o24)])
  refine GoH.step (fun t_ k_ => XS.aload X26.here hx rfl (hb hby at_196) rfl rfl k_) ?_
  show GoH _ _ _ _ _ _ _ _ _ _ T26 (mkF m 198 #[.val (.int p1), .val (.int p2), .val (.int p3), .val (.int p4), .val (.ref a_0), .val (.ref a_1), .val (.ref a_2), .val (.ref a_3), .val (.ref a_4), .val (.ref a_5), .val (.int (Int32.ofNat m1)), .val (.int (Int32.ofNat m2)), .val (.ref o24), .val (.int ((((0 : Int32) + (0 : Int32)) + (0 : Int32)) + (0 : Int32))), .unset, .unset] [(.ref a_4), (.ref o24)])
  obtain ⟨cq27, kq27, qa27, qb27, qc27⟩ := isOf hZ1 (e26) f25_21
  obtain ⟨_, _, ⟨T27, L27, k27, n27⟩, -, X27, ⟨Lc27, hQ27, l27, y27, z27⟩, st27⟩ := X26.virtualBack hx (y := (⟨"com/example/affordance/affordance/FindingCounts", "add", "(Ljava/util/List;)V"⟩ : MethodName)) (z := (⟨"com/example/affordance/affordance/FindingCounts", "add", "(Ljava/util/List;)V"⟩ : MethodName)) hown1 (mvT hZ1 (hw _ (List.mem_of_getElem? (i := 152) rfl))) (mvT hZ1 (hw _ (List.mem_of_getElem? (i := 153) rfl))) (notFace_of_selects (args := #[]) (mvT hZ1 (hw _ (List.mem_of_getElem? (i := 155) rfl)))) (mvT hZ1 (hw _ (List.mem_of_getElem? (i := 155) rfl))) (mvT hZ1 (hw _ (List.mem_of_getElem? (i := 154) rfl))) (by decide) (backOf (W := 0) (rmKa l Z a0 hw [] o24 a_4 tc kc (0 : Int32) (0 : Int32) (0 : Int32) t1_ kk1 zz1 ws1 m1 mc_1 T25.heap n0 Zs25 O25 gtc f25_21 f25_22 f25_23 f25_6 f25_7 f25_15 f25_16 f25_17 (by omega) (fun q_ => hz1.elim (fun u_ => absurd u_.1 (by omega)) (fun u_ => u_.1.symm)) (own_ent_of hin1 f25_0 f25_1 f25_2 f25_3 f25_4 f25_5 hl_0 hl_1 hl_2) ne_t1__tc) hZ1 (hw _ (List.mem_of_getElem? (i := 156) rfl)) (hw _ (List.mem_of_getElem? (i := 123) rfl)) (by decide) (by decide)) qa27 qc27 (g := (mkF m 198 #[.val (.int p1), .val (.int p2), .val (.int p3), .val (.int p4), .val (.ref a_0), .val (.ref a_1), .val (.ref a_2), .val (.ref a_3), .val (.ref a_4), .val (.ref a_5), .val (.int (Int32.ofNat m1)), .val (.int (Int32.ofNat m2)), .val (.ref o24), .val (.int ((((0 : Int32) + (0 : Int32)) + (0 : Int32)) + (0 : Int32))), .unset, .unset] [(.ref a_4), (.ref o24)])) rfl (by rw [hml]; rfl) (Steps.refl _) (argsL := [(.ref a_4)]) (rest := []) (lenOf pd_17 rfl) rfl (by show 2 * 0 + _ ≤ _; exact Nat.le_of_eq rfl) (hb hby at_198) (fun _ _ => ⟨rfl, (e26), (by decide : 20 + 1 + 2 + 0 + 1 ≤ _), (by decide : 240 + 1 + 6 + 0 + 4 ≤ _)⟩)
  dsimp only [Pt.U, Pt.locs, Pt.cells, Pt.slots] at X27 l27 y27 z27 st27 hQ27
  subst l27 y27 z27
  obtain ⟨rfl, N27q, Kq27, y0_27, y1_27, y2_27, Eq27, Fa27, Aq27, hs27⟩ := hQ27
  have N27 := Fr.app N26 N27q
  have f27_0 : Exa Z T27.heap a_1 "com/example/affordance/affordance/Finding" := (f25_0.keep Kq27)
  have f27_1 : Exa Z T27.heap a_2 "com/example/affordance/affordance/Finding" := (f25_1.keep Kq27)
  have f27_2 : Exa Z T27.heap a_3 "com/example/affordance/affordance/Finding" := (f25_2.keep Kq27)
  have f27_3 : Fld Z T27.heap a_1 "com/example/affordance/affordance/Finding" "level" "Lcom/example/affordance/affordance/Level;" (.ref a_6) := (f25_3.keep Kq27 (ninS ne_a_1_tc nin0))
  have f27_4 : Fld Z T27.heap a_2 "com/example/affordance/affordance/Finding" "level" "Lcom/example/affordance/affordance/Level;" (.ref a_7) := (f25_4.keep Kq27 (ninS ne_a_2_tc nin0))
  have f27_5 : Fld Z T27.heap a_3 "com/example/affordance/affordance/Finding" "level" "Lcom/example/affordance/affordance/Level;" (.ref a_8) := (f25_5.keep Kq27 (ninS ne_a_3_tc nin0))
  have f27_6 : Exa Z T27.heap a_4 "java/util/ArrayList" := (f25_6.keep Kq27)
  have f27_7 : Fld Z T27.heap a_4 "java/util/AbstractList" "modCount" "I" (.int mc_1) := (f25_7.keep Kq27 (ninS ne_a_4_tc nin0))
  have f27_8 : Exa Z T27.heap a_5 "java/util/ArrayList" := (f25_8.keep Kq27)
  have f27_9 : Fld Z T27.heap a_5 "java/util/AbstractList" "modCount" "I" (.int mc_2) := (f25_9.keep Kq27 (ninS ne_a_5_tc nin0))
  have f27_15 : Fld Z T27.heap a_4 "java/util/ArrayList" "size" "I" (.int (Int32.ofNat m1)) := (f25_15.keep Kq27 (ninS ne_a_4_tc nin0))
  have f27_16 : Fld Z T27.heap a_4 "java/util/ArrayList" "elementData" "[Ljava/lang/Object;" (.ref t1_) := (f25_16.keep Kq27 (ninS ne_a_4_tc nin0))
  have f27_17 : Arv Z T27.heap t1_ kk1 (.object "java/lang/Object") zz1 ws1 .null := (f25_17.keep Kq27 (ninS ne_t1__tc nin0))
  have f27_18 : Fld Z T27.heap a_5 "java/util/ArrayList" "size" "I" (.int (Int32.ofNat m2)) := (f25_18.keep Kq27 (ninS ne_a_5_tc nin0))
  have f27_19 : Fld Z T27.heap a_5 "java/util/ArrayList" "elementData" "[Ljava/lang/Object;" (.ref t2_) := (f25_19.keep Kq27 (ninS ne_a_5_tc nin0))
  have f27_20 : Arv Z T27.heap t2_ kk2 (.object "java/lang/Object") zz2 ws2 .null := (f25_20.keep Kq27 (ninS ne_t2__tc nin0))
  have f27_21 : Exa Z T27.heap o24 "com/example/affordance/affordance/FindingCounts" := Eq27
  have f27_22 : Fld Z T27.heap o24 "com/example/affordance/affordance/FindingCounts" "counts" "[I" (.ref tc) := Fa27
  have f27_23 : Arv Z T27.heap tc kc .int (3 : Int32) [(.int y0_27), (.int y1_27), (.int y2_27)] (.int (0 : Int32)) := Aq27
  have sfk27 : ∀ x ∈ ([tc] : List Addr), Safe Z own_EL vm0 T25.heap x := (sfS (Safe.arv hZ1.alike f25_23 (by decide)) sf0)
  have hk27 : _ ≤ T27.heap.size := Nat.le_trans hk25 Kq27.1
  have C27 : CHr Z own_EL s.vm h0 vm0 T27.heap := C25.trans (CHr.keep Kq27 sfk27 C25.1)
  have Zs27 : n0 ≤ T27.heap.size := (Nat.le_trans Zs25 Kq27.1)
  have O27 : Old Z n0 T27.heap := O25.keep Kq27 (allS gtc all0)
  refine GoH.step (fun t_ k_ => st27.trans k_) ?_
  show GoH _ _ _ _ _ _ _ _ _ _ T27 (mkF m 201 #[.val (.int p1), .val (.int p2), .val (.int p3), .val (.int p4), .val (.ref a_0), .val (.ref a_1), .val (.ref a_2), .val (.ref a_3), .val (.ref a_4), .val (.ref a_5), .val (.int (Int32.ofNat m1)), .val (.int (Int32.ofNat m2)), .val (.ref o24), .val (.int ((((0 : Int32) + (0 : Int32)) + (0 : Int32)) + (0 : Int32))), .unset, .unset] [])
  refine GoH.step (fun t_ k_ => XS.aload X27.here hx rfl (hb hby at_201) rfl rfl k_) ?_
  show GoH _ _ _ _ _ _ _ _ _ _ T27 (mkF m 203 #[.val (.int p1), .val (.int p2), .val (.int p3), .val (.int p4), .val (.ref a_0), .val (.ref a_1), .val (.ref a_2), .val (.ref a_3), .val (.ref a_4), .val (.ref a_5), .val (.int (Int32.ofNat m1)), .val (.int (Int32.ofNat m2)), .val (.ref o24), .val (.int ((((0 : Int32) + (0 : Int32)) + (0 : Int32)) + (0 : Int32))), .unset, .unset] [(.ref o24)])
  obtain ⟨cq28, kq28, qa28, qb28, qc28⟩ := isOf hZ1 rfl f27_21
  obtain ⟨_, _, ⟨T28, L28, k28, n28⟩, -, X28, ⟨Lc28, hQ28, l28, y28, z28⟩, st28⟩ := X27.virtualBack hx (y := (⟨"com/example/affordance/affordance/FindingCounts", "total", "()I"⟩ : MethodName)) (z := (⟨"com/example/affordance/affordance/FindingCounts", "total", "()I"⟩ : MethodName)) hown1 (mvT hZ1 (hw _ (List.mem_of_getElem? (i := 147) rfl))) (mvT hZ1 (hw _ (List.mem_of_getElem? (i := 148) rfl))) (notFace_of_selects (args := #[]) (mvT hZ1 (hw _ (List.mem_of_getElem? (i := 150) rfl)))) (mvT hZ1 (hw _ (List.mem_of_getElem? (i := 150) rfl))) (mvT hZ1 (hw _ (List.mem_of_getElem? (i := 149) rfl))) (by decide) (backOf (W := 0) (rmTt l Z a0 hw [] o24 tc kc y0_27 y1_27 y2_27 T27.heap n0 Zs27 f27_21 f27_22 f27_23) hZ1 (hw _ (List.mem_of_getElem? (i := 151) rfl)) (hw _ (List.mem_of_getElem? (i := 123) rfl)) (by decide) (by decide)) qa28 qc28 (g := (mkF m 203 #[.val (.int p1), .val (.int p2), .val (.int p3), .val (.int p4), .val (.ref a_0), .val (.ref a_1), .val (.ref a_2), .val (.ref a_3), .val (.ref a_4), .val (.ref a_5), .val (.int (Int32.ofNat m1)), .val (.int (Int32.ofNat m2)), .val (.ref o24), .val (.int ((((0 : Int32) + (0 : Int32)) + (0 : Int32)) + (0 : Int32))), .unset, .unset] [(.ref o24)])) rfl (by rw [hml]; rfl) (Steps.refl _) (argsL := []) (rest := []) (lenOf pd_13 rfl) rfl (by show 2 * 0 + _ ≤ _; exact Nat.le_of_eq rfl) (hb hby at_203) (fun _ _ => ⟨rfl, rfl, (by decide : 20 + 1 + 2 + 0 + 1 + 0 ≤ _), (by decide : 240 + 1 + 6 + 0 + 4 + 0 ≤ _)⟩)
  dsimp only [Pt.U, Pt.locs, Pt.cells, Pt.slots] at X28 l28 y28 z28 st28 hQ28
  subst l28 y28 z28
  obtain ⟨rfl, N28q, e28⟩ := hQ28
  have N28 := Fr.app N27 N28q
  refine GoH.step (fun t_ k_ => st28.trans k_) ?_
  show GoH _ _ _ _ _ _ _ _ _ _ T28 (mkF m 206 #[.val (.int p1), .val (.int p2), .val (.int p3), .val (.int p4), .val (.ref a_0), .val (.ref a_1), .val (.ref a_2), .val (.ref a_3), .val (.ref a_4), .val (.ref a_5), .val (.int (Int32.ofNat m1)), .val (.int (Int32.ofNat m2)), .val (.ref o24), .val (.int ((((0 : Int32) + (0 : Int32)) + (0 : Int32)) + (0 : Int32))), .unset, .unset] [(.int ((((0 : Int32) + y0_27) + y1_27) + y2_27))])
  refine GoH.step (fun t_ k_ => XS.istore X28.here hx rfl (hb hby at_206) rfl (l' := #[.val (.int p1), .val (.int p2), .val (.int p3), .val (.int p4), .val (.ref a_0), .val (.ref a_1), .val (.ref a_2), .val (.ref a_3), .val (.ref a_4), .val (.ref a_5), .val (.int (Int32.ofNat m1)), .val (.int (Int32.ofNat m2)), .val (.ref o24), .val (.int ((((0 : Int32) + (0 : Int32)) + (0 : Int32)) + (0 : Int32))), .val (.int ((((0 : Int32) + y0_27) + y1_27) + y2_27)), .unset]) rfl k_) ?_
  show GoH _ _ _ _ _ _ _ _ _ _ T28 (mkF m 208 #[.val (.int p1), .val (.int p2), .val (.int p3), .val (.int p4), .val (.ref a_0), .val (.ref a_1), .val (.ref a_2), .val (.ref a_3), .val (.ref a_4), .val (.ref a_5), .val (.int (Int32.ofNat m1)), .val (.int (Int32.ofNat m2)), .val (.ref o24), .val (.int ((((0 : Int32) + (0 : Int32)) + (0 : Int32)) + (0 : Int32))), .val (.int ((((0 : Int32) + y0_27) + y1_27) + y2_27)), .unset] [])
  refine GoH.step (fun t_ k_ => XS.aload X28.here hx rfl (hb hby at_208) rfl rfl k_) ?_
  show GoH _ _ _ _ _ _ _ _ _ _ T28 (mkF m 210 #[.val (.int p1), .val (.int p2), .val (.int p3), .val (.int p4), .val (.ref a_0), .val (.ref a_1), .val (.ref a_2), .val (.ref a_3), .val (.ref a_4), .val (.ref a_5), .val (.int (Int32.ofNat m1)), .val (.int (Int32.ofNat m2)), .val (.ref o24), .val (.int ((((0 : Int32) + (0 : Int32)) + (0 : Int32)) + (0 : Int32))), .val (.int ((((0 : Int32) + y0_27) + y1_27) + y2_27)), .unset] [(.ref o24)])
  refine GoH.step (fun t_ k_ => XS.aload X28.here hx rfl (hb hby at_210) rfl rfl k_) ?_
  show GoH _ _ _ _ _ _ _ _ _ _ T28 (mkF m 212 #[.val (.int p1), .val (.int p2), .val (.int p3), .val (.int p4), .val (.ref a_0), .val (.ref a_1), .val (.ref a_2), .val (.ref a_3), .val (.ref a_4), .val (.ref a_5), .val (.int (Int32.ofNat m1)), .val (.int (Int32.ofNat m2)), .val (.ref o24), .val (.int ((((0 : Int32) + (0 : Int32)) + (0 : Int32)) + (0 : Int32))), .val (.int ((((0 : Int32) + y0_27) + y1_27) + y2_27)), .unset] [(.ref a_5), (.ref o24)])
  obtain ⟨cq29, kq29, qa29, qb29, qc29⟩ := isOf hZ1 (e28) f27_21
  obtain ⟨_, _, ⟨T29, L29, k29, n29⟩, -, X29, ⟨Lc29, hQ29, l29, y29, z29⟩, st29⟩ := X28.virtualBack hx (y := (⟨"com/example/affordance/affordance/FindingCounts", "add", "(Ljava/util/List;)V"⟩ : MethodName)) (z := (⟨"com/example/affordance/affordance/FindingCounts", "add", "(Ljava/util/List;)V"⟩ : MethodName)) hown1 (mvT hZ1 (hw _ (List.mem_of_getElem? (i := 152) rfl))) (mvT hZ1 (hw _ (List.mem_of_getElem? (i := 153) rfl))) (notFace_of_selects (args := #[]) (mvT hZ1 (hw _ (List.mem_of_getElem? (i := 155) rfl)))) (mvT hZ1 (hw _ (List.mem_of_getElem? (i := 155) rfl))) (mvT hZ1 (hw _ (List.mem_of_getElem? (i := 154) rfl))) (by decide) (backOf (W := 0) (rmKa l Z a0 hw [] o24 a_5 tc kc y0_27 y1_27 y2_27 t2_ kk2 zz2 ws2 m2 mc_2 T27.heap n0 Zs27 O27 gtc f27_21 f27_22 f27_23 f27_8 f27_9 f27_18 f27_19 f27_20 (by omega) (fun q_ => hz2.elim (fun u_ => absurd u_.1 (by omega)) (fun u_ => u_.1.symm)) (own_ent_of hin2 f27_0 f27_1 f27_2 f27_3 f27_4 f27_5 hl_0 hl_1 hl_2) ne_t2__tc) hZ1 (hw _ (List.mem_of_getElem? (i := 156) rfl)) (hw _ (List.mem_of_getElem? (i := 123) rfl)) (by decide) (by decide)) qa29 qc29 (g := (mkF m 212 #[.val (.int p1), .val (.int p2), .val (.int p3), .val (.int p4), .val (.ref a_0), .val (.ref a_1), .val (.ref a_2), .val (.ref a_3), .val (.ref a_4), .val (.ref a_5), .val (.int (Int32.ofNat m1)), .val (.int (Int32.ofNat m2)), .val (.ref o24), .val (.int ((((0 : Int32) + (0 : Int32)) + (0 : Int32)) + (0 : Int32))), .val (.int ((((0 : Int32) + y0_27) + y1_27) + y2_27)), .unset] [(.ref a_5), (.ref o24)])) rfl (by rw [hml]; rfl) (Steps.refl _) (argsL := [(.ref a_5)]) (rest := []) (lenOf pd_17 rfl) rfl (by show 2 * 0 + _ ≤ _; exact Nat.le_of_eq rfl) (hb hby at_212) (fun _ _ => ⟨rfl, (e28), (by decide : 20 + 1 + 2 + 0 + 1 + 0 + 1 ≤ _), (by decide : 240 + 1 + 6 + 0 + 4 + 0 + 4 ≤ _)⟩)
  dsimp only [Pt.U, Pt.locs, Pt.cells, Pt.slots] at X29 l29 y29 z29 st29 hQ29
  subst l29 y29 z29
  obtain ⟨rfl, N29q, Kq29, y0_29, y1_29, y2_29, Eq29, Fa29, Aq29, hs29⟩ := hQ29
  have N29 := Fr.app N28 N29q
  have f29_0 : Exa Z T29.heap a_1 "com/example/affordance/affordance/Finding" := (f27_0.keep Kq29)
  have f29_1 : Exa Z T29.heap a_2 "com/example/affordance/affordance/Finding" := (f27_1.keep Kq29)
  have f29_2 : Exa Z T29.heap a_3 "com/example/affordance/affordance/Finding" := (f27_2.keep Kq29)
  have f29_3 : Fld Z T29.heap a_1 "com/example/affordance/affordance/Finding" "level" "Lcom/example/affordance/affordance/Level;" (.ref a_6) := (f27_3.keep Kq29 (ninS ne_a_1_tc nin0))
  have f29_4 : Fld Z T29.heap a_2 "com/example/affordance/affordance/Finding" "level" "Lcom/example/affordance/affordance/Level;" (.ref a_7) := (f27_4.keep Kq29 (ninS ne_a_2_tc nin0))
  have f29_5 : Fld Z T29.heap a_3 "com/example/affordance/affordance/Finding" "level" "Lcom/example/affordance/affordance/Level;" (.ref a_8) := (f27_5.keep Kq29 (ninS ne_a_3_tc nin0))
  have f29_6 : Exa Z T29.heap a_4 "java/util/ArrayList" := (f27_6.keep Kq29)
  have f29_7 : Fld Z T29.heap a_4 "java/util/AbstractList" "modCount" "I" (.int mc_1) := (f27_7.keep Kq29 (ninS ne_a_4_tc nin0))
  have f29_8 : Exa Z T29.heap a_5 "java/util/ArrayList" := (f27_8.keep Kq29)
  have f29_9 : Fld Z T29.heap a_5 "java/util/AbstractList" "modCount" "I" (.int mc_2) := (f27_9.keep Kq29 (ninS ne_a_5_tc nin0))
  have f29_15 : Fld Z T29.heap a_4 "java/util/ArrayList" "size" "I" (.int (Int32.ofNat m1)) := (f27_15.keep Kq29 (ninS ne_a_4_tc nin0))
  have f29_16 : Fld Z T29.heap a_4 "java/util/ArrayList" "elementData" "[Ljava/lang/Object;" (.ref t1_) := (f27_16.keep Kq29 (ninS ne_a_4_tc nin0))
  have f29_17 : Arv Z T29.heap t1_ kk1 (.object "java/lang/Object") zz1 ws1 .null := (f27_17.keep Kq29 (ninS ne_t1__tc nin0))
  have f29_18 : Fld Z T29.heap a_5 "java/util/ArrayList" "size" "I" (.int (Int32.ofNat m2)) := (f27_18.keep Kq29 (ninS ne_a_5_tc nin0))
  have f29_19 : Fld Z T29.heap a_5 "java/util/ArrayList" "elementData" "[Ljava/lang/Object;" (.ref t2_) := (f27_19.keep Kq29 (ninS ne_a_5_tc nin0))
  have f29_20 : Arv Z T29.heap t2_ kk2 (.object "java/lang/Object") zz2 ws2 .null := (f27_20.keep Kq29 (ninS ne_t2__tc nin0))
  have f29_21 : Exa Z T29.heap o24 "com/example/affordance/affordance/FindingCounts" := Eq29
  have f29_22 : Fld Z T29.heap o24 "com/example/affordance/affordance/FindingCounts" "counts" "[I" (.ref tc) := Fa29
  have f29_23 : Arv Z T29.heap tc kc .int (3 : Int32) [(.int y0_29), (.int y1_29), (.int y2_29)] (.int (0 : Int32)) := Aq29
  have sfk29 : ∀ x ∈ ([tc] : List Addr), Safe Z own_EL vm0 T27.heap x := (sfS (Safe.arv hZ1.alike f27_23 (by decide)) sf0)
  have hk29 : _ ≤ T29.heap.size := Nat.le_trans hk27 Kq29.1
  have C29 : CHr Z own_EL s.vm h0 vm0 T29.heap := C27.trans (CHr.keep Kq29 sfk29 C27.1)
  have Zs29 : n0 ≤ T29.heap.size := (Nat.le_trans Zs27 Kq29.1)
  have O29 : Old Z n0 T29.heap := O27.keep Kq29 (allS gtc all0)
  refine GoH.step (fun t_ k_ => st29.trans k_) ?_
  show GoH _ _ _ _ _ _ _ _ _ _ T29 (mkF m 215 #[.val (.int p1), .val (.int p2), .val (.int p3), .val (.int p4), .val (.ref a_0), .val (.ref a_1), .val (.ref a_2), .val (.ref a_3), .val (.ref a_4), .val (.ref a_5), .val (.int (Int32.ofNat m1)), .val (.int (Int32.ofNat m2)), .val (.ref o24), .val (.int ((((0 : Int32) + (0 : Int32)) + (0 : Int32)) + (0 : Int32))), .val (.int ((((0 : Int32) + y0_27) + y1_27) + y2_27)), .unset] [])
  refine GoH.step (fun t_ k_ => XS.aload X29.here hx rfl (hb hby at_215) rfl rfl k_) ?_
  show GoH _ _ _ _ _ _ _ _ _ _ T29 (mkF m 217 #[.val (.int p1), .val (.int p2), .val (.int p3), .val (.int p4), .val (.ref a_0), .val (.ref a_1), .val (.ref a_2), .val (.ref a_3), .val (.ref a_4), .val (.ref a_5), .val (.int (Int32.ofNat m1)), .val (.int (Int32.ofNat m2)), .val (.ref o24), .val (.int ((((0 : Int32) + (0 : Int32)) + (0 : Int32)) + (0 : Int32))), .val (.int ((((0 : Int32) + y0_27) + y1_27) + y2_27)), .unset] [(.ref o24)])
  obtain ⟨cq30, kq30, qa30, qb30, qc30⟩ := isOf hZ1 rfl f29_21
  obtain ⟨_, _, ⟨T30, L30, k30, n30⟩, -, X30, ⟨Lc30, hQ30, l30, y30, z30⟩, st30⟩ := X29.virtualBack hx (y := (⟨"com/example/affordance/affordance/FindingCounts", "total", "()I"⟩ : MethodName)) (z := (⟨"com/example/affordance/affordance/FindingCounts", "total", "()I"⟩ : MethodName)) hown1 (mvT hZ1 (hw _ (List.mem_of_getElem? (i := 147) rfl))) (mvT hZ1 (hw _ (List.mem_of_getElem? (i := 148) rfl))) (notFace_of_selects (args := #[]) (mvT hZ1 (hw _ (List.mem_of_getElem? (i := 150) rfl)))) (mvT hZ1 (hw _ (List.mem_of_getElem? (i := 150) rfl))) (mvT hZ1 (hw _ (List.mem_of_getElem? (i := 149) rfl))) (by decide) (backOf (W := 0) (rmTt l Z a0 hw [] o24 tc kc y0_29 y1_29 y2_29 T29.heap n0 Zs29 f29_21 f29_22 f29_23) hZ1 (hw _ (List.mem_of_getElem? (i := 151) rfl)) (hw _ (List.mem_of_getElem? (i := 123) rfl)) (by decide) (by decide)) qa30 qc30 (g := (mkF m 217 #[.val (.int p1), .val (.int p2), .val (.int p3), .val (.int p4), .val (.ref a_0), .val (.ref a_1), .val (.ref a_2), .val (.ref a_3), .val (.ref a_4), .val (.ref a_5), .val (.int (Int32.ofNat m1)), .val (.int (Int32.ofNat m2)), .val (.ref o24), .val (.int ((((0 : Int32) + (0 : Int32)) + (0 : Int32)) + (0 : Int32))), .val (.int ((((0 : Int32) + y0_27) + y1_27) + y2_27)), .unset] [(.ref o24)])) rfl (by rw [hml]; rfl) (Steps.refl _) (argsL := []) (rest := []) (lenOf pd_13 rfl) rfl (by show 2 * 0 + _ ≤ _; exact Nat.le_of_eq rfl) (hb hby at_217) (fun _ _ => ⟨rfl, rfl, (by decide : 20 + 1 + 2 + 0 + 1 + 0 + 1 + 0 ≤ _), (by decide : 240 + 1 + 6 + 0 + 4 + 0 + 4 + 0 ≤ _)⟩)
  dsimp only [Pt.U, Pt.locs, Pt.cells, Pt.slots] at X30 l30 y30 z30 st30 hQ30
  subst l30 y30 z30
  obtain ⟨rfl, N30q, e30⟩ := hQ30
  have N30 := Fr.app N29 N30q
  refine GoH.step (fun t_ k_ => st30.trans k_) ?_
  show GoH _ _ _ _ _ _ _ _ _ _ T30 (mkF m 220 #[.val (.int p1), .val (.int p2), .val (.int p3), .val (.int p4), .val (.ref a_0), .val (.ref a_1), .val (.ref a_2), .val (.ref a_3), .val (.ref a_4), .val (.ref a_5), .val (.int (Int32.ofNat m1)), .val (.int (Int32.ofNat m2)), .val (.ref o24), .val (.int ((((0 : Int32) + (0 : Int32)) + (0 : Int32)) + (0 : Int32))), .val (.int ((((0 : Int32) + y0_27) + y1_27) + y2_27)), .unset] [(.int ((((0 : Int32) + y0_29) + y1_29) + y2_29))])
  refine GoH.step (fun t_ k_ => XS.istore X30.here hx rfl (hb hby at_220) rfl (l' := #[.val (.int p1), .val (.int p2), .val (.int p3), .val (.int p4), .val (.ref a_0), .val (.ref a_1), .val (.ref a_2), .val (.ref a_3), .val (.ref a_4), .val (.ref a_5), .val (.int (Int32.ofNat m1)), .val (.int (Int32.ofNat m2)), .val (.ref o24), .val (.int ((((0 : Int32) + (0 : Int32)) + (0 : Int32)) + (0 : Int32))), .val (.int ((((0 : Int32) + y0_27) + y1_27) + y2_27)), .val (.int ((((0 : Int32) + y0_29) + y1_29) + y2_29))]) rfl k_) ?_
  show GoH _ _ _ _ _ _ _ _ _ _ T30 (mkF m 222 #[.val (.int p1), .val (.int p2), .val (.int p3), .val (.int p4), .val (.ref a_0), .val (.ref a_1), .val (.ref a_2), .val (.ref a_3), .val (.ref a_4), .val (.ref a_5), .val (.int (Int32.ofNat m1)), .val (.int (Int32.ofNat m2)), .val (.ref o24), .val (.int ((((0 : Int32) + (0 : Int32)) + (0 : Int32)) + (0 : Int32))), .val (.int ((((0 : Int32) + y0_27) + y1_27) + y2_27)), .val (.int ((((0 : Int32) + y0_29) + y1_29) + y2_29))] [])
  refine GoH.step (fun t_ k_ => XS.iload X30.here hx rfl (hb hby at_222) rfl k_) ?_
  show GoH _ _ _ _ _ _ _ _ _ _ T30 (mkF m 224 #[.val (.int p1), .val (.int p2), .val (.int p3), .val (.int p4), .val (.ref a_0), .val (.ref a_1), .val (.ref a_2), .val (.ref a_3), .val (.ref a_4), .val (.ref a_5), .val (.int (Int32.ofNat m1)), .val (.int (Int32.ofNat m2)), .val (.ref o24), .val (.int ((((0 : Int32) + (0 : Int32)) + (0 : Int32)) + (0 : Int32))), .val (.int ((((0 : Int32) + y0_27) + y1_27) + y2_27)), .val (.int ((((0 : Int32) + y0_29) + y1_29) + y2_29))] [(.int ((((0 : Int32) + (0 : Int32)) + (0 : Int32)) + (0 : Int32)))])
  have hb224_31 : ((((0 : Int32) + (0 : Int32)) + (0 : Int32)) + (0 : Int32)) = (0 : Int32) := by decide
  refine GoH.step (fun t_ k_ => XS.ifNo X30.here hx rfl (hb hby at_224) rfl (XT.i0_ne_f hb224_31) k_) ?_
  show GoH _ _ _ _ _ _ _ _ _ _ T30 (mkF m 227 #[.val (.int p1), .val (.int p2), .val (.int p3), .val (.int p4), .val (.ref a_0), .val (.ref a_1), .val (.ref a_2), .val (.ref a_3), .val (.ref a_4), .val (.ref a_5), .val (.int (Int32.ofNat m1)), .val (.int (Int32.ofNat m2)), .val (.ref o24), .val (.int ((((0 : Int32) + (0 : Int32)) + (0 : Int32)) + (0 : Int32))), .val (.int ((((0 : Int32) + y0_27) + y1_27) + y2_27)), .val (.int ((((0 : Int32) + y0_29) + y1_29) + y2_29))] [])
  refine GoH.step (fun t_ k_ => XS.iload X30.here hx rfl (hb hby at_227) rfl k_) ?_
  show GoH _ _ _ _ _ _ _ _ _ _ T30 (mkF m 229 #[.val (.int p1), .val (.int p2), .val (.int p3), .val (.int p4), .val (.ref a_0), .val (.ref a_1), .val (.ref a_2), .val (.ref a_3), .val (.ref a_4), .val (.ref a_5), .val (.int (Int32.ofNat m1)), .val (.int (Int32.ofNat m2)), .val (.ref o24), .val (.int ((((0 : Int32) + (0 : Int32)) + (0 : Int32)) + (0 : Int32))), .val (.int ((((0 : Int32) + y0_27) + y1_27) + y2_27)), .val (.int ((((0 : Int32) + y0_29) + y1_29) + y2_29))] [(.int ((((0 : Int32) + y0_27) + y1_27) + y2_27))])
  refine GoH.step (fun t_ k_ => XS.iload X30.here hx rfl (hb hby at_229) rfl k_) ?_
  show GoH _ _ _ _ _ _ _ _ _ _ T30 (mkF m 231 #[.val (.int p1), .val (.int p2), .val (.int p3), .val (.int p4), .val (.ref a_0), .val (.ref a_1), .val (.ref a_2), .val (.ref a_3), .val (.ref a_4), .val (.ref a_5), .val (.int (Int32.ofNat m1)), .val (.int (Int32.ofNat m2)), .val (.ref o24), .val (.int ((((0 : Int32) + (0 : Int32)) + (0 : Int32)) + (0 : Int32))), .val (.int ((((0 : Int32) + y0_27) + y1_27) + y2_27)), .val (.int ((((0 : Int32) + y0_29) + y1_29) + y2_29))] [(.int (Int32.ofNat m1)), (.int ((((0 : Int32) + y0_27) + y1_27) + y2_27))])
  have hb231_32 : ((((0 : Int32) + y0_27) + y1_27) + y2_27) = (Int32.ofNat m1) := by exact own_tot (by rw [hs27]; simp)
  refine GoH.step (fun t_ k_ => XS.icmpNo X30.here hx rfl (hb hby at_231) rfl (XT.ii_ne_f hb231_32) k_) ?_
  show GoH _ _ _ _ _ _ _ _ _ _ T30 (mkF m 234 #[.val (.int p1), .val (.int p2), .val (.int p3), .val (.int p4), .val (.ref a_0), .val (.ref a_1), .val (.ref a_2), .val (.ref a_3), .val (.ref a_4), .val (.ref a_5), .val (.int (Int32.ofNat m1)), .val (.int (Int32.ofNat m2)), .val (.ref o24), .val (.int ((((0 : Int32) + (0 : Int32)) + (0 : Int32)) + (0 : Int32))), .val (.int ((((0 : Int32) + y0_27) + y1_27) + y2_27)), .val (.int ((((0 : Int32) + y0_29) + y1_29) + y2_29))] [])
  refine GoH.step (fun t_ k_ => XS.iload X30.here hx rfl (hb hby at_234) rfl k_) ?_
  show GoH _ _ _ _ _ _ _ _ _ _ T30 (mkF m 236 #[.val (.int p1), .val (.int p2), .val (.int p3), .val (.int p4), .val (.ref a_0), .val (.ref a_1), .val (.ref a_2), .val (.ref a_3), .val (.ref a_4), .val (.ref a_5), .val (.int (Int32.ofNat m1)), .val (.int (Int32.ofNat m2)), .val (.ref o24), .val (.int ((((0 : Int32) + (0 : Int32)) + (0 : Int32)) + (0 : Int32))), .val (.int ((((0 : Int32) + y0_27) + y1_27) + y2_27)), .val (.int ((((0 : Int32) + y0_29) + y1_29) + y2_29))] [(.int ((((0 : Int32) + y0_29) + y1_29) + y2_29))])
  refine GoH.step (fun t_ k_ => XS.iload X30.here hx rfl (hb hby at_236) rfl k_) ?_
  show GoH _ _ _ _ _ _ _ _ _ _ T30 (mkF m 238 #[.val (.int p1), .val (.int p2), .val (.int p3), .val (.int p4), .val (.ref a_0), .val (.ref a_1), .val (.ref a_2), .val (.ref a_3), .val (.ref a_4), .val (.ref a_5), .val (.int (Int32.ofNat m1)), .val (.int (Int32.ofNat m2)), .val (.ref o24), .val (.int ((((0 : Int32) + (0 : Int32)) + (0 : Int32)) + (0 : Int32))), .val (.int ((((0 : Int32) + y0_27) + y1_27) + y2_27)), .val (.int ((((0 : Int32) + y0_29) + y1_29) + y2_29))] [(.int (Int32.ofNat m1)), (.int ((((0 : Int32) + y0_29) + y1_29) + y2_29))])
  refine GoH.step (fun t_ k_ => XS.iload X30.here hx rfl (hb hby at_238) rfl k_) ?_
  show GoH _ _ _ _ _ _ _ _ _ _ T30 (mkF m 240 #[.val (.int p1), .val (.int p2), .val (.int p3), .val (.int p4), .val (.ref a_0), .val (.ref a_1), .val (.ref a_2), .val (.ref a_3), .val (.ref a_4), .val (.ref a_5), .val (.int (Int32.ofNat m1)), .val (.int (Int32.ofNat m2)), .val (.ref o24), .val (.int ((((0 : Int32) + (0 : Int32)) + (0 : Int32)) + (0 : Int32))), .val (.int ((((0 : Int32) + y0_27) + y1_27) + y2_27)), .val (.int ((((0 : Int32) + y0_29) + y1_29) + y2_29))] [(.int (Int32.ofNat m2)), (.int (Int32.ofNat m1)), (.int ((((0 : Int32) + y0_29) + y1_29) + y2_29))])
  refine GoH.step (fun t_ k_ => XS.iadd X30.here hx rfl (hb hby at_240) rfl k_) ?_
  show GoH _ _ _ _ _ _ _ _ _ _ T30 (mkF m 241 #[.val (.int p1), .val (.int p2), .val (.int p3), .val (.int p4), .val (.ref a_0), .val (.ref a_1), .val (.ref a_2), .val (.ref a_3), .val (.ref a_4), .val (.ref a_5), .val (.int (Int32.ofNat m1)), .val (.int (Int32.ofNat m2)), .val (.ref o24), .val (.int ((((0 : Int32) + (0 : Int32)) + (0 : Int32)) + (0 : Int32))), .val (.int ((((0 : Int32) + y0_27) + y1_27) + y2_27)), .val (.int ((((0 : Int32) + y0_29) + y1_29) + y2_29))] [(.int ((Int32.ofNat m1) + (Int32.ofNat m2))), (.int ((((0 : Int32) + y0_29) + y1_29) + y2_29))])
  have hb241_33 : ((((0 : Int32) + y0_29) + y1_29) + y2_29) = ((Int32.ofNat m1) + (Int32.ofNat m2)) := by exact own_tot (by rw [hs29, hs27]; simp)
  refine GoH.step (fun t_ k_ => XS.icmpNo X30.here hx rfl (hb hby at_241) rfl (XT.ii_ne_f hb241_33) k_) ?_
  show GoH _ _ _ _ _ _ _ _ _ _ T30 (mkF m 244 #[.val (.int p1), .val (.int p2), .val (.int p3), .val (.int p4), .val (.ref a_0), .val (.ref a_1), .val (.ref a_2), .val (.ref a_3), .val (.ref a_4), .val (.ref a_5), .val (.int (Int32.ofNat m1)), .val (.int (Int32.ofNat m2)), .val (.ref o24), .val (.int ((((0 : Int32) + (0 : Int32)) + (0 : Int32)) + (0 : Int32))), .val (.int ((((0 : Int32) + y0_27) + y1_27) + y2_27)), .val (.int ((((0 : Int32) + y0_29) + y1_29) + y2_29))] [])
  refine GoH.step (fun t_ k_ => XS.iconst X30.here hx rfl (hb hby at_244) k_) ?_
  show GoH _ _ _ _ _ _ _ _ _ _ T30 (mkF m 245 #[.val (.int p1), .val (.int p2), .val (.int p3), .val (.int p4), .val (.ref a_0), .val (.ref a_1), .val (.ref a_2), .val (.ref a_3), .val (.ref a_4), .val (.ref a_5), .val (.int (Int32.ofNat m1)), .val (.int (Int32.ofNat m2)), .val (.ref o24), .val (.int ((((0 : Int32) + (0 : Int32)) + (0 : Int32)) + (0 : Int32))), .val (.int ((((0 : Int32) + y0_27) + y1_27) + y2_27)), .val (.int ((((0 : Int32) + y0_29) + y1_29) + y2_29))] [(.int (1 : Int32))])
  refine GoH.step (fun t_ k_ => XS.goto X30.here hx rfl (pc0 := 245) (pc' := 249) rfl (hb hby at_245) (by decide) (by decide) k_) ?_
  show GoH _ _ _ _ _ _ _ _ _ _ T30 (mkF m 249 #[.val (.int p1), .val (.int p2), .val (.int p3), .val (.int p4), .val (.ref a_0), .val (.ref a_1), .val (.ref a_2), .val (.ref a_3), .val (.ref a_4), .val (.ref a_5), .val (.int (Int32.ofNat m1)), .val (.int (Int32.ofNat m2)), .val (.ref o24), .val (.int ((((0 : Int32) + (0 : Int32)) + (0 : Int32)) + (0 : Int32))), .val (.int ((((0 : Int32) + y0_27) + y1_27) + y2_27)), .val (.int ((((0 : Int32) + y0_29) + y1_29) + y2_29))] [(.int (1 : Int32))])
  have hkr : k0 ≤ T30.heap.size := by rw [(e30)]; exact hk29
  have hCr : CHr Z own_EL s.vm h0 vm0 T30.heap := by rw [(e30)]; exact C29
  refine GoH.ret X30 hx hlk hS1 hkr hZ1 hEL hCr hret rfl (Or.inl ⟨rfl, Or.inr (Or.inl rfl), _, rfl⟩) (hb hby at_249) ?_ (by decide) (by decide)
  show Q0 Z _ _ _ _ _ _ _ _ _ _ _ _ _ _ _ _ T30.heap _
  exact ⟨rfl, N30⟩
theorem pd_18 : parseMethodDescriptor "(Ljava/lang/Object;)Z" = some ⟨[(.object "java/lang/Object")], some .boolean⟩ := by decide +kernel
set_option maxRecDepth 65536 in
set_option maxHeartbeats 40000000 in
theorem sg160_3 (l : Launch) (Z : State) (a0 : Array Value) (hw : ∀ d ∈ tables_1, d.before a0 Z = true) (p1 : Int32) (p2 : Int32) (p3 : Int32) (p4 : Int32) (mu : Addr) (sh : Addr) (ma : Addr) (dc : Addr) (kd : ClassId) (vd : List Value) (vv : Addr) (kv : ClassId) (vsv : List Value) (h0 : Heap) (n0 : Nat) (Z0 : n0 ≤ h0.size) (O0 : Old Z n0 h0) (S_MUST : Sta Z Z.heap "com/example/affordance/affordance/Level" "MUST" "Lcom/example/affordance/affordance/Level;" (.ref mu)) (S_SHOULD : Sta Z Z.heap "com/example/affordance/affordance/Level" "SHOULD" "Lcom/example/affordance/affordance/Level;" (.ref sh)) (S_MAY : Sta Z Z.heap "com/example/affordance/affordance/Level" "MAY" "Lcom/example/affordance/affordance/Level;" (.ref ma)) (L_MUST : own_lv Z mu) (L_SHOULD : own_lv Z sh) (L_MAY : own_lv Z ma) (S_DC : Sta Z Z.heap "java/util/ArrayList" "DEFAULTCAPACITY_EMPTY_ELEMENTDATA" "[Ljava/lang/Object;" (.ref dc)) (A_DC : Arv Z Z.heap dc kd (.object "java/lang/Object") (0 : Int32) vd .null) (S_VV : Sta Z Z.heap "com/example/affordance/affordance/Level" "$VALUES" "[Lcom/example/affordance/affordance/Level;" (.ref vv)) (E_VV : Exa Z Z.heap vv "[Lcom/example/affordance/affordance/Level;") (A_VV : Arv Z Z.heap vv kv (.object "com/example/affordance/affordance/Level") (3 : Int32) vsv .null) (kk1 : ClassId) (zz1 : Int32) (ws1 : List Value) (m1 : Nat) (t1_ : Addr) (kk2 : ClassId) (zz2 : Int32) (ws2 : List Value) (m2 : Nat) (t2_ : Addr) (mc_1 : Int32) (mc_2 : Int32) (a_0 : Addr) (a_1 : Addr) (a_2 : Addr) (a_3 : Addr) (a_4 : Addr) (a_5 : Addr) (a_6 : Addr) (a_7 : Addr) (a_8 : Addr) {p : Program} {e : Env} {s : State} {m : MethodId} {below : List Frame} {meth : Method} {c : Code} {T : State} {locs : List Loc} {h : Heap} {vm0 : Vm} {k0 : Nat} (X1 : Stand p l e room_1 (s.setVm vm0) m #[(.int p1), (.int p2), (.int p3), (.int p4)] below meth c T locs 19 230) (hx : p.tables.exec = Jvm.exec) (hby : c.code = code) (hlk : meth.locks = false) (hml : c.maxLocals = 16) (hret : meth.sig.returnType = ret) (hnm : meth.name = "law") (e1 : T.heap = h) (N1 : Fr n0 locs) (Zs1 : n0 ≤ h.size) (O1 : Old Z n0 h) (hS1 : s.Since vm0 k0) (hk1 : k0 ≤ h.size) (hZ1 : Z.Warmed39 (s.setVm vm0).vm) (hown1 : (s.setVm vm0).vm.findClass "com/example/affordance/affordance/FindingCountsTotalPinLaw" = some m.cls) (hEL : EW Z a0 own_EL) (C1 : CHr Z own_EL s.vm h0 vm0 h) (H_0 : Exa Z h a_1 "com/example/affordance/affordance/Finding") (H_1 : Exa Z h a_2 "com/example/affordance/affordance/Finding") (H_2 : Exa Z h a_3 "com/example/affordance/affordance/Finding") (H_3 : Fld Z h a_1 "com/example/affordance/affordance/Finding" "level" "Lcom/example/affordance/affordance/Level;" (.ref a_6)) (H_4 : Fld Z h a_2 "com/example/affordance/affordance/Finding" "level" "Lcom/example/affordance/affordance/Level;" (.ref a_7)) (H_5 : Fld Z h a_3 "com/example/affordance/affordance/Finding" "level" "Lcom/example/affordance/affordance/Level;" (.ref a_8)) (H_6 : Exa Z h a_4 "java/util/ArrayList") (H_7 : Fld Z h a_4 "java/util/AbstractList" "modCount" "I" (.int mc_1)) (H_8 : Exa Z h a_5 "java/util/ArrayList") (H_9 : Fld Z h a_5 "java/util/AbstractList" "modCount" "I" (.int mc_2)) (ne_a_4_a_5 : a_4 ≠ a_5) (ge_a_1 : n0 ≤ a_1) (ge_a_2 : n0 ≤ a_2) (ge_a_3 : n0 ≤ a_3) (ge_a_4 : n0 ≤ a_4) (ge_a_5 : n0 ≤ a_5) (hin1 : own_in m1 ws1 a_1 a_2 a_3) (hz1 : ((0 : Nat) = m1 ∧ dc = t1_ ∧ (0 : Int32) = zz1) ∨ ((10 : Int32) = zz1 ∧ ws1.length = 10 ∧ n0 ≤ t1_ ∧ Ovr Z kk1 "java/lang/Object")) (hm1 : m1 ≤ 2) (Hs1 : Fld Z h a_4 "java/util/ArrayList" "size" "I" (.int (Int32.ofNat m1))) (He1 : Fld Z h a_4 "java/util/ArrayList" "elementData" "[Ljava/lang/Object;" (.ref t1_)) (Ha1 : Arv Z h t1_ kk1 (.object "java/lang/Object") zz1 ws1 .null) (hin2 : own_in m2 ws2 a_1 a_2 a_3) (hz2 : ((0 : Nat) = m2 ∧ dc = t2_ ∧ (0 : Int32) = zz2) ∨ ((10 : Int32) = zz2 ∧ ws2.length = 10 ∧ n0 ≤ t2_ ∧ Ovr Z kk2 "java/lang/Object" ∧ t1_ ≠ t2_)) (hm2 : m2 ≤ 2) (Hs2 : Fld Z h a_5 "java/util/ArrayList" "size" "I" (.int (Int32.ofNat m2))) (He2 : Fld Z h a_5 "java/util/ArrayList" "elementData" "[Ljava/lang/Object;" (.ref t2_)) (Ha2 : Arv Z h t2_ kk2 (.object "java/lang/Object") zz2 ws2 .null) (hl_0 : own_lv Z a_6) (hl_1 : own_lv Z a_7) (hl_2 : own_lv Z a_8) :
    GoH p e below s room_1.cells room_1.slots Z own_EL h0 (Q0 Z p1 p2 p3 p4 mu sh ma dc kd vd vv kv vsv h0 n0) T (mkF m 160 #[.val (.int p1), .val (.int p2), .val (.int p3), .val (.int p4), .val (.ref a_0), .val (.ref a_1), .val (.ref a_2), .val (.ref a_3), .val (.ref a_4), .val (.ref a_5), .val (.int (Int32.ofNat m1)), .val (.int (Int32.ofNat m2)), .unset, .unset, .unset, .unset] []) := by
  show GoH _ _ _ _ _ _ _ _ _ _ T (mkF m 160 #[.val (.int p1), .val (.int p2), .val (.int p3), .val (.int p4), .val (.ref a_0), .val (.ref a_1), .val (.ref a_2), .val (.ref a_3), .val (.ref a_4), .val (.ref a_5), .val (.int (Int32.ofNat m1)), .val (.int (Int32.ofNat m2)), .unset, .unset, .unset, .unset] [])
  refine GoH.step (fun t_ k_ => XS.iloadN X1.here hx rfl (hb hby at_160) rfl k_) ?_
  show GoH _ _ _ _ _ _ _ _ _ _ T (mkF m 161 #[.val (.int p1), .val (.int p2), .val (.int p3), .val (.int p4), .val (.ref a_0), .val (.ref a_1), .val (.ref a_2), .val (.ref a_3), .val (.ref a_4), .val (.ref a_5), .val (.int (Int32.ofNat m1)), .val (.int (Int32.ofNat m2)), .unset, .unset, .unset, .unset] [(.int p4)])
  refine GoH.step (fun t_ k_ => XS.bipush X1.here hx rfl (hb hby at_161) k_) ?_
  show GoH _ _ _ _ _ _ _ _ _ _ T (mkF m 163 #[.val (.int p1), .val (.int p2), .val (.int p3), .val (.int p4), .val (.ref a_0), .val (.ref a_1), .val (.ref a_2), .val (.ref a_3), .val (.ref a_4), .val (.ref a_5), .val (.int (Int32.ofNat m1)), .val (.int (Int32.ofNat m2)), .unset, .unset, .unset, .unset] [(.int (16 : Int32)), (.int p4)])
  refine GoH.step (fun t_ k_ => XS.iand X1.here hx rfl (hb hby at_163) rfl k_) ?_
  show GoH _ _ _ _ _ _ _ _ _ _ T (mkF m 164 #[.val (.int p1), .val (.int p2), .val (.int p3), .val (.int p4), .val (.ref a_0), .val (.ref a_1), .val (.ref a_2), .val (.ref a_3), .val (.ref a_4), .val (.ref a_5), .val (.int (Int32.ofNat m1)), .val (.int (Int32.ofNat m2)), .unset, .unset, .unset, .unset] [(.int (p4 &&& (16 : Int32)))])
  by_cases hb164_23 : (p4 &&& (16 : Int32)) = (0 : Int32)
  · refine GoH.step (fun t_ k_ => XS.ifYes X1.here hx rfl (pc0 := 164) (pc' := 178) rfl (hb hby at_164) rfl (XT.i0_eq_t hb164_23) (by decide) (by decide) k_) ?_
    show GoH _ _ _ _ _ _ _ _ _ _ T (mkF m 178 #[.val (.int p1), .val (.int p2), .val (.int p3), .val (.int p4), .val (.ref a_0), .val (.ref a_1), .val (.ref a_2), .val (.ref a_3), .val (.ref a_4), .val (.ref a_5), .val (.int (Int32.ofNat m1)), .val (.int (Int32.ofNat m2)), .unset, .unset, .unset, .unset] [])
    show GoH _ _ _ _ _ _ _ _ _ _ T (mkF m 178 #[.val (.int p1), .val (.int p2), .val (.int p3), .val (.int p4), .val (.ref a_0), .val (.ref a_1), .val (.ref a_2), .val (.ref a_3), .val (.ref a_4), .val (.ref a_5), .val (.int (Int32.ofNat m1)), .val (.int (Int32.ofNat m2)), .unset, .unset, .unset, .unset] [])
    exact sg178_4 l Z a0 hw p1 p2 p3 p4 mu sh ma dc kd vd vv kv vsv h0 n0 Z0 O0 S_MUST S_SHOULD S_MAY L_MUST L_SHOULD L_MAY S_DC A_DC S_VV E_VV A_VV kk1 zz1 ((ws1)) m1 t1_ kk2 zz2 ((ws2)) m2 t2_ mc_1 mc_2 a_0 a_1 a_2 a_3 a_4 a_5 a_6 a_7 a_8 (X1.mono (by decide) (by decide)) hx hby hlk hml hret hnm e1 N1 Zs1 O1 hS1 hk1 hZ1 hown1 hEL C1 H_0 H_1 H_2 H_3 H_4 H_5 H_6 H_7 H_8 H_9 ne_a_4_a_5 ge_a_1 ge_a_2 ge_a_3 ge_a_4 ge_a_5 (hin1) (hz1) ((by omega)) (Hs1) (He1) (Ha1) (hin2) (hz2) ((by omega)) (Hs2) (He2) (Ha2) (hl_0) (hl_1) (hl_2)
  · refine GoH.step (fun t_ k_ => XS.ifNo X1.here hx rfl (hb hby at_164) rfl (XT.i0_eq_f hb164_23) k_) ?_
    show GoH _ _ _ _ _ _ _ _ _ _ T (mkF m 167 #[.val (.int p1), .val (.int p2), .val (.int p3), .val (.int p4), .val (.ref a_0), .val (.ref a_1), .val (.ref a_2), .val (.ref a_3), .val (.ref a_4), .val (.ref a_5), .val (.int (Int32.ofNat m1)), .val (.int (Int32.ofNat m2)), .unset, .unset, .unset, .unset] [])
    refine GoH.step (fun t_ k_ => XS.aload X1.here hx rfl (hb hby at_167) rfl rfl k_) ?_
    show GoH _ _ _ _ _ _ _ _ _ _ T (mkF m 169 #[.val (.int p1), .val (.int p2), .val (.int p3), .val (.int p4), .val (.ref a_0), .val (.ref a_1), .val (.ref a_2), .val (.ref a_3), .val (.ref a_4), .val (.ref a_5), .val (.int (Int32.ofNat m1)), .val (.int (Int32.ofNat m2)), .unset, .unset, .unset, .unset] [(.ref a_5)])
    refine GoH.step (fun t_ k_ => XS.aload X1.here hx rfl (hb hby at_169) rfl rfl k_) ?_
    show GoH _ _ _ _ _ _ _ _ _ _ T (mkF m 171 #[.val (.int p1), .val (.int p2), .val (.int p3), .val (.int p4), .val (.ref a_0), .val (.ref a_1), .val (.ref a_2), .val (.ref a_3), .val (.ref a_4), .val (.ref a_5), .val (.int (Int32.ofNat m1)), .val (.int (Int32.ofNat m2)), .unset, .unset, .unset, .unset] [(.ref a_2), (.ref a_5)])
    rcases hz2 with ⟨hza34, hzb34, hzc34⟩ | ⟨hzd34, hvl34, hgt34, hov34, hnt34⟩
    · subst hza34 hzb34 hzc34
      show GoH _ _ _ _ _ _ _ _ _ _ T (mkF m 171 #[.val (.int p1), .val (.int p2), .val (.int p3), .val (.int p4), .val (.ref a_0), .val (.ref a_1), .val (.ref a_2), .val (.ref a_3), .val (.ref a_4), .val (.ref a_5), .val (.int (Int32.ofNat m1)), .val (.int (0 : Int32)), .unset, .unset, .unset, .unset] [(.ref a_2), (.ref a_5)])
      obtain ⟨cq35, kq35, qa35, qb35, qc35⟩ := isOf hZ1 e1 H_8
      obtain ⟨_, _, ⟨T35, L35, k35, n35⟩, -, X35, ⟨Lc35, hQ35, l35, y35, z35⟩, st35⟩ := X1.virtualBack hx (y := (⟨"java/util/ArrayList", "add", "(Ljava/lang/Object;)Z"⟩ : MethodName)) (z := (⟨"java/util/ArrayList", "add", "(Ljava/lang/Object;)Z"⟩ : MethodName)) hown1 (mvT hZ1 (hw _ (List.mem_of_getElem? (i := 90) rfl))) (mvT hZ1 (hw _ (List.mem_of_getElem? (i := 91) rfl))) (notFace_of_selects (args := #[]) (mvT hZ1 (hw _ (List.mem_of_getElem? (i := 93) rfl)))) (mvT hZ1 (hw _ (List.mem_of_getElem? (i := 93) rfl))) (mvT hZ1 (hw _ (List.mem_of_getElem? (i := 92) rfl))) (by decide) (backOf (W := 0) (rmAdA l Z a0 hw [] a_5 a_2 dc kk2 ws2 mc_2 h n0 Zs1 O1 S_DC ge_a_5 H_8 H_9 Hs2 He2 Ha2 H_1) hZ1 (hw _ (List.mem_of_getElem? (i := 94) rfl)) (hw _ (List.mem_of_getElem? (i := 68) rfl)) (by decide) (by decide)) qa35 qc35 (g := (mkF m 171 #[.val (.int p1), .val (.int p2), .val (.int p3), .val (.int p4), .val (.ref a_0), .val (.ref a_1), .val (.ref a_2), .val (.ref a_3), .val (.ref a_4), .val (.ref a_5), .val (.int (Int32.ofNat m1)), .val (.int (0 : Int32)), .unset, .unset, .unset, .unset] [(.ref a_2), (.ref a_5)])) rfl (by rw [hml]; rfl) (Steps.refl _) (argsL := [(.ref a_2)]) (rest := []) (lenOf pd_18 rfl) rfl (by show 2 * 0 + _ ≤ _; exact Nat.le_of_eq rfl) (hb hby at_171) (fun _ _ => ⟨rfl, e1, (by decide : 19 + 1 ≤ _), (by decide : 230 + 10 ≤ _)⟩)
      dsimp only [Pt.U, Pt.locs, Pt.cells, Pt.slots] at X35 l35 y35 z35 st35 hQ35
      subst l35 y35 z35
      obtain ⟨rfl, N35q, Kq35, tg35, kg35, gq35, gh35, Eq35, Fa35, Fb35, Fc35, Aq35, Oq35⟩ := hQ35
      have N35 := Fr.app N1 N35q
      have ne_a_1_tg35 : a_1 ≠ tg35 := Nat.ne_of_lt (Nat.lt_of_lt_of_le H_0.lt gh35)
      have ne_a_2_tg35 : a_2 ≠ tg35 := Nat.ne_of_lt (Nat.lt_of_lt_of_le H_1.lt gh35)
      have ne_a_3_tg35 : a_3 ≠ tg35 := Nat.ne_of_lt (Nat.lt_of_lt_of_le H_2.lt gh35)
      have ne_a_4_tg35 : a_4 ≠ tg35 := Nat.ne_of_lt (Nat.lt_of_lt_of_le H_6.lt gh35)
      have ne_a_5_tg35 : a_5 ≠ tg35 := Nat.ne_of_lt (Nat.lt_of_lt_of_le H_8.lt gh35)
      have ne_t1__tg35 : t1_ ≠ tg35 := Nat.ne_of_lt (Nat.lt_of_lt_of_le Ha1.lt gh35)
      have ne_dc_tg35 : dc ≠ tg35 := Nat.ne_of_lt (Nat.lt_of_lt_of_le Ha2.lt gh35)
      have f35_0 : Exa Z T35.heap a_1 "com/example/affordance/affordance/Finding" := (H_0.keep Kq35)
      have f35_1 : Exa Z T35.heap a_2 "com/example/affordance/affordance/Finding" := (H_1.keep Kq35)
      have f35_2 : Exa Z T35.heap a_3 "com/example/affordance/affordance/Finding" := (H_2.keep Kq35)
      have f35_3 : Fld Z T35.heap a_1 "com/example/affordance/affordance/Finding" "level" "Lcom/example/affordance/affordance/Level;" (.ref a_6) := (H_3.keep Kq35 (ninS (ne_exa H_0 H_8 (by decide)) nin0))
      have f35_4 : Fld Z T35.heap a_2 "com/example/affordance/affordance/Finding" "level" "Lcom/example/affordance/affordance/Level;" (.ref a_7) := (H_4.keep Kq35 (ninS (ne_exa H_1 H_8 (by decide)) nin0))
      have f35_5 : Fld Z T35.heap a_3 "com/example/affordance/affordance/Finding" "level" "Lcom/example/affordance/affordance/Level;" (.ref a_8) := (H_5.keep Kq35 (ninS (ne_exa H_2 H_8 (by decide)) nin0))
      have f35_6 : Exa Z T35.heap a_4 "java/util/ArrayList" := (H_6.keep Kq35)
      have f35_7 : Fld Z T35.heap a_4 "java/util/AbstractList" "modCount" "I" (.int mc_1) := (H_7.keep Kq35 (ninS ne_a_4_a_5 nin0))
      have f35_13 : Fld Z T35.heap a_4 "java/util/ArrayList" "size" "I" (.int (Int32.ofNat m1)) := (Hs1.keep Kq35 (ninS ne_a_4_a_5 nin0))
      have f35_14 : Fld Z T35.heap a_4 "java/util/ArrayList" "elementData" "[Ljava/lang/Object;" (.ref t1_) := (He1.keep Kq35 (ninS ne_a_4_a_5 nin0))
      have f35_15 : Arv Z T35.heap t1_ kk1 (.object "java/lang/Object") zz1 ws1 .null := (Ha1.keep Kq35 (ninS (Ne.symm (own_ne_arv H_8 (hw _ (List.mem_of_getElem? (i := 67) rfl)) Ha1)) nin0))
      have f35_16 : Arv Z T35.heap dc kk2 (.object "java/lang/Object") (0 : Int32) ws2 .null := (Ha2.keep Kq35 (ninS (Ne.symm (own_ne_arv H_8 (hw _ (List.mem_of_getElem? (i := 67) rfl)) Ha2)) nin0))
      have f35_17 : Exa Z T35.heap a_5 "java/util/ArrayList" := Eq35
      have f35_18 : Fld Z T35.heap a_5 "java/util/AbstractList" "modCount" "I" (.int (mc_2 + (1 : Int32))) := Fa35
      have f35_19 : Fld Z T35.heap a_5 "java/util/ArrayList" "size" "I" (.int (1 : Int32)) := Fb35
      have f35_20 : Fld Z T35.heap a_5 "java/util/ArrayList" "elementData" "[Ljava/lang/Object;" (.ref tg35) := Fc35
      have f35_21 : Arv Z T35.heap tg35 kg35 (.object "java/lang/Object") (10 : Int32) [(.ref a_2), Value.null, Value.null, Value.null, Value.null, Value.null, Value.null, Value.null, Value.null, Value.null] .null := Aq35
      have sfk35 : ∀ x ∈ ([a_5] : List Addr), Safe Z own_EL vm0 h x := (sfS (Safe.exa hZ1.alike H_8 (by decide) (by decide)) sf0)
      have hk35 : _ ≤ T35.heap.size := Nat.le_trans hk1 Kq35.1
      have C35 : CHr Z own_EL s.vm h0 vm0 T35.heap := C1.trans (CHr.keep Kq35 sfk35 C1.1)
      have Zs35 : n0 ≤ T35.heap.size := (Nat.le_trans Zs1 Kq35.1)
      have O35 : Old Z n0 T35.heap := O1.keep Kq35 (allS ge_a_5 all0)
      refine GoH.step (fun t_ k_ => st35.trans k_) ?_
      show GoH _ _ _ _ _ _ _ _ _ _ T35 (mkF m 174 #[.val (.int p1), .val (.int p2), .val (.int p3), .val (.int p4), .val (.ref a_0), .val (.ref a_1), .val (.ref a_2), .val (.ref a_3), .val (.ref a_4), .val (.ref a_5), .val (.int (Int32.ofNat m1)), .val (.int (0 : Int32)), .unset, .unset, .unset, .unset] [(.int (1 : Int32))])
      refine GoH.step (fun t_ k_ => XT.pop X35.here hx rfl (hb hby at_174) rfl rfl k_) ?_
      show GoH _ _ _ _ _ _ _ _ _ _ T35 (mkF m 175 #[.val (.int p1), .val (.int p2), .val (.int p3), .val (.int p4), .val (.ref a_0), .val (.ref a_1), .val (.ref a_2), .val (.ref a_3), .val (.ref a_4), .val (.ref a_5), .val (.int (Int32.ofNat m1)), .val (.int (0 : Int32)), .unset, .unset, .unset, .unset] [])
      refine GoH.step (fun t_ k_ => XS.iinc X35.here hx rfl (hb hby at_175) rfl (l' := #[.val (.int p1), .val (.int p2), .val (.int p3), .val (.int p4), .val (.ref a_0), .val (.ref a_1), .val (.ref a_2), .val (.ref a_3), .val (.ref a_4), .val (.ref a_5), .val (.int (Int32.ofNat m1)), .val (.int (1 : Int32)), .unset, .unset, .unset, .unset]) rfl k_) ?_
      show GoH _ _ _ _ _ _ _ _ _ _ T35 (mkF m 178 #[.val (.int p1), .val (.int p2), .val (.int p3), .val (.int p4), .val (.ref a_0), .val (.ref a_1), .val (.ref a_2), .val (.ref a_3), .val (.ref a_4), .val (.ref a_5), .val (.int (Int32.ofNat m1)), .val (.int (1 : Int32)), .unset, .unset, .unset, .unset] [])
      show GoH _ _ _ _ _ _ _ _ _ _ T35 (mkF m 178 #[.val (.int p1), .val (.int p2), .val (.int p3), .val (.int p4), .val (.ref a_0), .val (.ref a_1), .val (.ref a_2), .val (.ref a_3), .val (.ref a_4), .val (.ref a_5), .val (.int (Int32.ofNat m1)), .val (.int (Int32.ofNat 1)), .unset, .unset, .unset, .unset] [])
      exact sg178_4 l Z a0 hw p1 p2 p3 p4 mu sh ma dc kd vd vv kv vsv h0 n0 Z0 O0 S_MUST S_SHOULD S_MAY L_MUST L_SHOULD L_MAY S_DC A_DC S_VV E_VV A_VV kk1 zz1 ((ws1)) m1 t1_ kg35 ((10 : Int32)) (([(.ref a_2), Value.null, Value.null, Value.null, Value.null, Value.null, Value.null, Value.null, Value.null, Value.null])) 1 tg35 mc_1 (((mc_2 + (1 : Int32)))) a_0 a_1 a_2 a_3 a_4 a_5 a_6 a_7 a_8 (X35.mono (by decide) (by decide)) hx hby hlk hml hret hnm rfl N35 Zs35 O35 hS1 hk35 hZ1 hown1 hEL C35 f35_0 f35_1 f35_2 f35_3 f35_4 f35_5 f35_6 f35_7 f35_17 f35_18 ne_a_4_a_5 ge_a_1 ge_a_2 ge_a_3 ge_a_4 ge_a_5 (hin1) (hz1) ((by omega)) (f35_13) (f35_14) (f35_15) ((own_in_set (n := 0) (vs := [Value.null, Value.null, Value.null, Value.null, Value.null, Value.null, Value.null, Value.null, Value.null, Value.null]) own_in0 (by decide) (Or.inr (Or.inl rfl)))) ((Or.inr ⟨rfl, rfl, gq35, Oq35, ne_t1__tg35⟩)) ((by omega)) (f35_19) (f35_20) (f35_21) (hl_0) (hl_1) (hl_2)
    · subst hzd34
      obtain ⟨cq36, kq36, qa36, qb36, qc36⟩ := isOf hZ1 e1 H_8
      obtain ⟨_, _, ⟨T36, L36, k36, n36⟩, -, X36, ⟨Lc36, hQ36, l36, y36, z36⟩, st36⟩ := X1.virtualBack hx (y := (⟨"java/util/ArrayList", "add", "(Ljava/lang/Object;)Z"⟩ : MethodName)) (z := (⟨"java/util/ArrayList", "add", "(Ljava/lang/Object;)Z"⟩ : MethodName)) hown1 (mvT hZ1 (hw _ (List.mem_of_getElem? (i := 90) rfl))) (mvT hZ1 (hw _ (List.mem_of_getElem? (i := 91) rfl))) (notFace_of_selects (args := #[]) (mvT hZ1 (hw _ (List.mem_of_getElem? (i := 93) rfl)))) (mvT hZ1 (hw _ (List.mem_of_getElem? (i := 93) rfl))) (mvT hZ1 (hw _ (List.mem_of_getElem? (i := 92) rfl))) (by decide) (backOf (W := 0) (rmAdB l Z a0 hw [] a_5 a_2 t2_ kk2 ws2 m2 mc_2 h n0 Zs1 ge_a_5 hgt34 H_8 H_9 Hs2 He2 Ha2 hov34 hvl34 (by omega) H_1) hZ1 (hw _ (List.mem_of_getElem? (i := 94) rfl)) (hw _ (List.mem_of_getElem? (i := 68) rfl)) (by decide) (by decide)) qa36 qc36 (g := (mkF m 171 #[.val (.int p1), .val (.int p2), .val (.int p3), .val (.int p4), .val (.ref a_0), .val (.ref a_1), .val (.ref a_2), .val (.ref a_3), .val (.ref a_4), .val (.ref a_5), .val (.int (Int32.ofNat m1)), .val (.int (Int32.ofNat m2)), .unset, .unset, .unset, .unset] [(.ref a_2), (.ref a_5)])) rfl (by rw [hml]; rfl) (Steps.refl _) (argsL := [(.ref a_2)]) (rest := []) (lenOf pd_18 rfl) rfl (by show 2 * 0 + _ ≤ _; exact Nat.le_of_eq rfl) (hb hby at_171) (fun _ _ => ⟨rfl, e1, (by decide : 19 + 0 ≤ _), (by decide : 230 + 0 ≤ _)⟩)
      dsimp only [Pt.U, Pt.locs, Pt.cells, Pt.slots] at X36 l36 y36 z36 st36 hQ36
      subst l36 y36 z36
      obtain ⟨rfl, N36q, Kq36, Eq36, Fa36, Fb36, Fc36, Aq36⟩ := hQ36
      have N36 := Fr.app N1 N36q
      have f36_0 : Exa Z T36.heap a_1 "com/example/affordance/affordance/Finding" := (H_0.keep Kq36)
      have f36_1 : Exa Z T36.heap a_2 "com/example/affordance/affordance/Finding" := (H_1.keep Kq36)
      have f36_2 : Exa Z T36.heap a_3 "com/example/affordance/affordance/Finding" := (H_2.keep Kq36)
      have f36_3 : Fld Z T36.heap a_1 "com/example/affordance/affordance/Finding" "level" "Lcom/example/affordance/affordance/Level;" (.ref a_6) := (H_3.keep Kq36 (ninS (ne_exa H_0 H_8 (by decide)) (ninS (own_ne_arv H_0 (hw _ (List.mem_of_getElem? (i := 25) rfl)) Ha2) nin0)))
      have f36_4 : Fld Z T36.heap a_2 "com/example/affordance/affordance/Finding" "level" "Lcom/example/affordance/affordance/Level;" (.ref a_7) := (H_4.keep Kq36 (ninS (ne_exa H_1 H_8 (by decide)) (ninS (own_ne_arv H_1 (hw _ (List.mem_of_getElem? (i := 25) rfl)) Ha2) nin0)))
      have f36_5 : Fld Z T36.heap a_3 "com/example/affordance/affordance/Finding" "level" "Lcom/example/affordance/affordance/Level;" (.ref a_8) := (H_5.keep Kq36 (ninS (ne_exa H_2 H_8 (by decide)) (ninS (own_ne_arv H_2 (hw _ (List.mem_of_getElem? (i := 25) rfl)) Ha2) nin0)))
      have f36_6 : Exa Z T36.heap a_4 "java/util/ArrayList" := (H_6.keep Kq36)
      have f36_7 : Fld Z T36.heap a_4 "java/util/AbstractList" "modCount" "I" (.int mc_1) := (H_7.keep Kq36 (ninS ne_a_4_a_5 (ninS (own_ne_arv H_6 (hw _ (List.mem_of_getElem? (i := 67) rfl)) Ha2) nin0)))
      have f36_13 : Fld Z T36.heap a_4 "java/util/ArrayList" "size" "I" (.int (Int32.ofNat m1)) := (Hs1.keep Kq36 (ninS ne_a_4_a_5 (ninS (own_ne_arv H_6 (hw _ (List.mem_of_getElem? (i := 67) rfl)) Ha2) nin0)))
      have f36_14 : Fld Z T36.heap a_4 "java/util/ArrayList" "elementData" "[Ljava/lang/Object;" (.ref t1_) := (He1.keep Kq36 (ninS ne_a_4_a_5 (ninS (own_ne_arv H_6 (hw _ (List.mem_of_getElem? (i := 67) rfl)) Ha2) nin0)))
      have f36_15 : Arv Z T36.heap t1_ kk1 (.object "java/lang/Object") zz1 ws1 .null := (Ha1.keep Kq36 (ninS (Ne.symm (own_ne_arv H_8 (hw _ (List.mem_of_getElem? (i := 67) rfl)) Ha1)) (ninS hnt34 nin0)))
      have f36_16 : Exa Z T36.heap a_5 "java/util/ArrayList" := Eq36
      have f36_17 : Fld Z T36.heap a_5 "java/util/AbstractList" "modCount" "I" (.int (mc_2 + (1 : Int32))) := Fa36
      have f36_18 : Fld Z T36.heap a_5 "java/util/ArrayList" "size" "I" (.int (Int32.ofNat (m2 + 1))) := Fb36
      have f36_19 : Fld Z T36.heap a_5 "java/util/ArrayList" "elementData" "[Ljava/lang/Object;" (.ref t2_) := Fc36
      have f36_20 : Arv Z T36.heap t2_ kk2 (.object "java/lang/Object") (10 : Int32) (ws2.set m2 (.ref a_2)) .null := Aq36
      have sfk36 : ∀ x ∈ ([a_5, t2_] : List Addr), Safe Z own_EL vm0 h x := (sfS (Safe.exa hZ1.alike H_8 (by decide) (by decide)) (sfS (Safe.arv hZ1.alike Ha2 (by decide)) sf0))
      have hk36 : _ ≤ T36.heap.size := Nat.le_trans hk1 Kq36.1
      have C36 : CHr Z own_EL s.vm h0 vm0 T36.heap := C1.trans (CHr.keep Kq36 sfk36 C1.1)
      have Zs36 : n0 ≤ T36.heap.size := (Nat.le_trans Zs1 Kq36.1)
      have O36 : Old Z n0 T36.heap := O1.keep Kq36 (allS ge_a_5 (allS hgt34 all0))
      refine GoH.step (fun t_ k_ => st36.trans k_) ?_
      show GoH _ _ _ _ _ _ _ _ _ _ T36 (mkF m 174 #[.val (.int p1), .val (.int p2), .val (.int p3), .val (.int p4), .val (.ref a_0), .val (.ref a_1), .val (.ref a_2), .val (.ref a_3), .val (.ref a_4), .val (.ref a_5), .val (.int (Int32.ofNat m1)), .val (.int (Int32.ofNat m2)), .unset, .unset, .unset, .unset] [(.int (1 : Int32))])
      refine GoH.step (fun t_ k_ => XT.pop X36.here hx rfl (hb hby at_174) rfl rfl k_) ?_
      show GoH _ _ _ _ _ _ _ _ _ _ T36 (mkF m 175 #[.val (.int p1), .val (.int p2), .val (.int p3), .val (.int p4), .val (.ref a_0), .val (.ref a_1), .val (.ref a_2), .val (.ref a_3), .val (.ref a_4), .val (.ref a_5), .val (.int (Int32.ofNat m1)), .val (.int (Int32.ofNat m2)), .unset, .unset, .unset, .unset] [])
      refine GoH.step (fun t_ k_ => XS.iinc X36.here hx rfl (hb hby at_175) rfl (l' := #[.val (.int p1), .val (.int p2), .val (.int p3), .val (.int p4), .val (.ref a_0), .val (.ref a_1), .val (.ref a_2), .val (.ref a_3), .val (.ref a_4), .val (.ref a_5), .val (.int (Int32.ofNat m1)), .val (.int ((Int32.ofNat m2) + (1 : Int32))), .unset, .unset, .unset, .unset]) rfl k_) ?_
      show GoH _ _ _ _ _ _ _ _ _ _ T36 (mkF m 178 #[.val (.int p1), .val (.int p2), .val (.int p3), .val (.int p4), .val (.ref a_0), .val (.ref a_1), .val (.ref a_2), .val (.ref a_3), .val (.ref a_4), .val (.ref a_5), .val (.int (Int32.ofNat m1)), .val (.int ((Int32.ofNat m2) + (1 : Int32))), .unset, .unset, .unset, .unset] [])
      rw [show ((Int32.ofNat m2) + (1 : Int32)) = (Int32.ofNat (m2 + 1)) from (inc_ofNat _).symm]
      show GoH _ _ _ _ _ _ _ _ _ _ T36 (mkF m 178 #[.val (.int p1), .val (.int p2), .val (.int p3), .val (.int p4), .val (.ref a_0), .val (.ref a_1), .val (.ref a_2), .val (.ref a_3), .val (.ref a_4), .val (.ref a_5), .val (.int (Int32.ofNat m1)), .val (.int (Int32.ofNat (m2 + 1))), .unset, .unset, .unset, .unset] [])
      exact sg178_4 l Z a0 hw p1 p2 p3 p4 mu sh ma dc kd vd vv kv vsv h0 n0 Z0 O0 S_MUST S_SHOULD S_MAY L_MUST L_SHOULD L_MAY S_DC A_DC S_VV E_VV A_VV kk1 zz1 ((ws1)) m1 t1_ kk2 ((10 : Int32)) (((ws2.set m2 (.ref a_2)))) ((m2 + 1)) t2_ mc_1 (((mc_2 + (1 : Int32)))) a_0 a_1 a_2 a_3 a_4 a_5 a_6 a_7 a_8 (X36.mono (by decide) (by decide)) hx hby hlk hml hret hnm rfl N36 Zs36 O36 hS1 hk36 hZ1 hown1 hEL C36 f36_0 f36_1 f36_2 f36_3 f36_4 f36_5 f36_6 f36_7 f36_16 f36_17 ne_a_4_a_5 ge_a_1 ge_a_2 ge_a_3 ge_a_4 ge_a_5 (hin1) (hz1) ((by omega)) (f36_13) (f36_14) (f36_15) ((own_in_set hin2 (by rw [hvl34]; omega) (Or.inr (Or.inl rfl)))) ((Or.inr ⟨rfl, (by rw [List.length_set]; exact hvl34), hgt34, hov34, hnt34⟩)) ((by omega)) (f36_18) (f36_19) (f36_20) (hl_0) (hl_1) (hl_2)
set_option maxRecDepth 65536 in
set_option maxHeartbeats 40000000 in
theorem sg142_2 (l : Launch) (Z : State) (a0 : Array Value) (hw : ∀ d ∈ tables_1, d.before a0 Z = true) (p1 : Int32) (p2 : Int32) (p3 : Int32) (p4 : Int32) (mu : Addr) (sh : Addr) (ma : Addr) (dc : Addr) (kd : ClassId) (vd : List Value) (vv : Addr) (kv : ClassId) (vsv : List Value) (h0 : Heap) (n0 : Nat) (Z0 : n0 ≤ h0.size) (O0 : Old Z n0 h0) (S_MUST : Sta Z Z.heap "com/example/affordance/affordance/Level" "MUST" "Lcom/example/affordance/affordance/Level;" (.ref mu)) (S_SHOULD : Sta Z Z.heap "com/example/affordance/affordance/Level" "SHOULD" "Lcom/example/affordance/affordance/Level;" (.ref sh)) (S_MAY : Sta Z Z.heap "com/example/affordance/affordance/Level" "MAY" "Lcom/example/affordance/affordance/Level;" (.ref ma)) (L_MUST : own_lv Z mu) (L_SHOULD : own_lv Z sh) (L_MAY : own_lv Z ma) (S_DC : Sta Z Z.heap "java/util/ArrayList" "DEFAULTCAPACITY_EMPTY_ELEMENTDATA" "[Ljava/lang/Object;" (.ref dc)) (A_DC : Arv Z Z.heap dc kd (.object "java/lang/Object") (0 : Int32) vd .null) (S_VV : Sta Z Z.heap "com/example/affordance/affordance/Level" "$VALUES" "[Lcom/example/affordance/affordance/Level;" (.ref vv)) (E_VV : Exa Z Z.heap vv "[Lcom/example/affordance/affordance/Level;") (A_VV : Arv Z Z.heap vv kv (.object "com/example/affordance/affordance/Level") (3 : Int32) vsv .null) (kk1 : ClassId) (zz1 : Int32) (ws1 : List Value) (m1 : Nat) (t1_ : Addr) (kk2 : ClassId) (zz2 : Int32) (ws2 : List Value) (m2 : Nat) (t2_ : Addr) (mc_1 : Int32) (mc_2 : Int32) (a_0 : Addr) (a_1 : Addr) (a_2 : Addr) (a_3 : Addr) (a_4 : Addr) (a_5 : Addr) (a_6 : Addr) (a_7 : Addr) (a_8 : Addr) {p : Program} {e : Env} {s : State} {m : MethodId} {below : List Frame} {meth : Method} {c : Code} {T : State} {locs : List Loc} {h : Heap} {vm0 : Vm} {k0 : Nat} (X1 : Stand p l e room_1 (s.setVm vm0) m #[(.int p1), (.int p2), (.int p3), (.int p4)] below meth c T locs 18 220) (hx : p.tables.exec = Jvm.exec) (hby : c.code = code) (hlk : meth.locks = false) (hml : c.maxLocals = 16) (hret : meth.sig.returnType = ret) (hnm : meth.name = "law") (e1 : T.heap = h) (N1 : Fr n0 locs) (Zs1 : n0 ≤ h.size) (O1 : Old Z n0 h) (hS1 : s.Since vm0 k0) (hk1 : k0 ≤ h.size) (hZ1 : Z.Warmed39 (s.setVm vm0).vm) (hown1 : (s.setVm vm0).vm.findClass "com/example/affordance/affordance/FindingCountsTotalPinLaw" = some m.cls) (hEL : EW Z a0 own_EL) (C1 : CHr Z own_EL s.vm h0 vm0 h) (H_0 : Exa Z h a_1 "com/example/affordance/affordance/Finding") (H_1 : Exa Z h a_2 "com/example/affordance/affordance/Finding") (H_2 : Exa Z h a_3 "com/example/affordance/affordance/Finding") (H_3 : Fld Z h a_1 "com/example/affordance/affordance/Finding" "level" "Lcom/example/affordance/affordance/Level;" (.ref a_6)) (H_4 : Fld Z h a_2 "com/example/affordance/affordance/Finding" "level" "Lcom/example/affordance/affordance/Level;" (.ref a_7)) (H_5 : Fld Z h a_3 "com/example/affordance/affordance/Finding" "level" "Lcom/example/affordance/affordance/Level;" (.ref a_8)) (H_6 : Exa Z h a_4 "java/util/ArrayList") (H_7 : Fld Z h a_4 "java/util/AbstractList" "modCount" "I" (.int mc_1)) (H_8 : Exa Z h a_5 "java/util/ArrayList") (H_9 : Fld Z h a_5 "java/util/AbstractList" "modCount" "I" (.int mc_2)) (ne_a_4_a_5 : a_4 ≠ a_5) (ge_a_1 : n0 ≤ a_1) (ge_a_2 : n0 ≤ a_2) (ge_a_3 : n0 ≤ a_3) (ge_a_4 : n0 ≤ a_4) (ge_a_5 : n0 ≤ a_5) (hin1 : own_in m1 ws1 a_1 a_2 a_3) (hz1 : ((0 : Nat) = m1 ∧ dc = t1_ ∧ (0 : Int32) = zz1) ∨ ((10 : Int32) = zz1 ∧ ws1.length = 10 ∧ n0 ≤ t1_ ∧ Ovr Z kk1 "java/lang/Object")) (hm1 : m1 ≤ 2) (Hs1 : Fld Z h a_4 "java/util/ArrayList" "size" "I" (.int (Int32.ofNat m1))) (He1 : Fld Z h a_4 "java/util/ArrayList" "elementData" "[Ljava/lang/Object;" (.ref t1_)) (Ha1 : Arv Z h t1_ kk1 (.object "java/lang/Object") zz1 ws1 .null) (hin2 : own_in m2 ws2 a_1 a_2 a_3) (hz2 : ((0 : Nat) = m2 ∧ dc = t2_ ∧ (0 : Int32) = zz2) ∨ ((10 : Int32) = zz2 ∧ ws2.length = 10 ∧ n0 ≤ t2_ ∧ Ovr Z kk2 "java/lang/Object" ∧ t1_ ≠ t2_)) (hm2 : m2 ≤ 1) (Hs2 : Fld Z h a_5 "java/util/ArrayList" "size" "I" (.int (Int32.ofNat m2))) (He2 : Fld Z h a_5 "java/util/ArrayList" "elementData" "[Ljava/lang/Object;" (.ref t2_)) (Ha2 : Arv Z h t2_ kk2 (.object "java/lang/Object") zz2 ws2 .null) (hl_0 : own_lv Z a_6) (hl_1 : own_lv Z a_7) (hl_2 : own_lv Z a_8) :
    GoH p e below s room_1.cells room_1.slots Z own_EL h0 (Q0 Z p1 p2 p3 p4 mu sh ma dc kd vd vv kv vsv h0 n0) T (mkF m 142 #[.val (.int p1), .val (.int p2), .val (.int p3), .val (.int p4), .val (.ref a_0), .val (.ref a_1), .val (.ref a_2), .val (.ref a_3), .val (.ref a_4), .val (.ref a_5), .val (.int (Int32.ofNat m1)), .val (.int (Int32.ofNat m2)), .unset, .unset, .unset, .unset] []) := by
  show GoH _ _ _ _ _ _ _ _ _ _ T (mkF m 142 #[.val (.int p1), .val (.int p2), .val (.int p3), .val (.int p4), .val (.ref a_0), .val (.ref a_1), .val (.ref a_2), .val (.ref a_3), .val (.ref a_4), .val (.ref a_5), .val (.int (Int32.ofNat m1)), .val (.int (Int32.ofNat m2)), .unset, .unset, .unset, .unset] [])
  refine GoH.step (fun t_ k_ => XS.iloadN X1.here hx rfl (hb hby at_142) rfl k_) ?_
  show GoH _ _ _ _ _ _ _ _ _ _ T (mkF m 143 #[.val (.int p1), .val (.int p2), .val (.int p3), .val (.int p4), .val (.ref a_0), .val (.ref a_1), .val (.ref a_2), .val (.ref a_3), .val (.ref a_4), .val (.ref a_5), .val (.int (Int32.ofNat m1)), .val (.int (Int32.ofNat m2)), .unset, .unset, .unset, .unset] [(.int p4)])
  refine GoH.step (fun t_ k_ => XS.bipush X1.here hx rfl (hb hby at_143) k_) ?_
  show GoH _ _ _ _ _ _ _ _ _ _ T (mkF m 145 #[.val (.int p1), .val (.int p2), .val (.int p3), .val (.int p4), .val (.ref a_0), .val (.ref a_1), .val (.ref a_2), .val (.ref a_3), .val (.ref a_4), .val (.ref a_5), .val (.int (Int32.ofNat m1)), .val (.int (Int32.ofNat m2)), .unset, .unset, .unset, .unset] [(.int (8 : Int32)), (.int p4)])
  refine GoH.step (fun t_ k_ => XS.iand X1.here hx rfl (hb hby at_145) rfl k_) ?_
  show GoH _ _ _ _ _ _ _ _ _ _ T (mkF m 146 #[.val (.int p1), .val (.int p2), .val (.int p3), .val (.int p4), .val (.ref a_0), .val (.ref a_1), .val (.ref a_2), .val (.ref a_3), .val (.ref a_4), .val (.ref a_5), .val (.int (Int32.ofNat m1)), .val (.int (Int32.ofNat m2)), .unset, .unset, .unset, .unset] [(.int (p4 &&& (8 : Int32)))])
  by_cases hb146_22 : (p4 &&& (8 : Int32)) = (0 : Int32)
  · refine GoH.step (fun t_ k_ => XS.ifYes X1.here hx rfl (pc0 := 146) (pc' := 160) rfl (hb hby at_146) rfl (XT.i0_eq_t hb146_22) (by decide) (by decide) k_) ?_
    show GoH _ _ _ _ _ _ _ _ _ _ T (mkF m 160 #[.val (.int p1), .val (.int p2), .val (.int p3), .val (.int p4), .val (.ref a_0), .val (.ref a_1), .val (.ref a_2), .val (.ref a_3), .val (.ref a_4), .val (.ref a_5), .val (.int (Int32.ofNat m1)), .val (.int (Int32.ofNat m2)), .unset, .unset, .unset, .unset] [])
    show GoH _ _ _ _ _ _ _ _ _ _ T (mkF m 160 #[.val (.int p1), .val (.int p2), .val (.int p3), .val (.int p4), .val (.ref a_0), .val (.ref a_1), .val (.ref a_2), .val (.ref a_3), .val (.ref a_4), .val (.ref a_5), .val (.int (Int32.ofNat m1)), .val (.int (Int32.ofNat m2)), .unset, .unset, .unset, .unset] [])
    exact sg160_3 l Z a0 hw p1 p2 p3 p4 mu sh ma dc kd vd vv kv vsv h0 n0 Z0 O0 S_MUST S_SHOULD S_MAY L_MUST L_SHOULD L_MAY S_DC A_DC S_VV E_VV A_VV kk1 zz1 ((ws1)) m1 t1_ kk2 zz2 ((ws2)) m2 t2_ mc_1 mc_2 a_0 a_1 a_2 a_3 a_4 a_5 a_6 a_7 a_8 (X1.mono (by decide) (by decide)) hx hby hlk hml hret hnm e1 N1 Zs1 O1 hS1 hk1 hZ1 hown1 hEL C1 H_0 H_1 H_2 H_3 H_4 H_5 H_6 H_7 H_8 H_9 ne_a_4_a_5 ge_a_1 ge_a_2 ge_a_3 ge_a_4 ge_a_5 (hin1) (hz1) ((by omega)) (Hs1) (He1) (Ha1) (hin2) (hz2) ((by omega)) (Hs2) (He2) (Ha2) (hl_0) (hl_1) (hl_2)
  · refine GoH.step (fun t_ k_ => XS.ifNo X1.here hx rfl (hb hby at_146) rfl (XT.i0_eq_f hb146_22) k_) ?_
    show GoH _ _ _ _ _ _ _ _ _ _ T (mkF m 149 #[.val (.int p1), .val (.int p2), .val (.int p3), .val (.int p4), .val (.ref a_0), .val (.ref a_1), .val (.ref a_2), .val (.ref a_3), .val (.ref a_4), .val (.ref a_5), .val (.int (Int32.ofNat m1)), .val (.int (Int32.ofNat m2)), .unset, .unset, .unset, .unset] [])
    refine GoH.step (fun t_ k_ => XS.aload X1.here hx rfl (hb hby at_149) rfl rfl k_) ?_
    show GoH _ _ _ _ _ _ _ _ _ _ T (mkF m 151 #[.val (.int p1), .val (.int p2), .val (.int p3), .val (.int p4), .val (.ref a_0), .val (.ref a_1), .val (.ref a_2), .val (.ref a_3), .val (.ref a_4), .val (.ref a_5), .val (.int (Int32.ofNat m1)), .val (.int (Int32.ofNat m2)), .unset, .unset, .unset, .unset] [(.ref a_5)])
    refine GoH.step (fun t_ k_ => XS.aload X1.here hx rfl (hb hby at_151) rfl rfl k_) ?_
    show GoH _ _ _ _ _ _ _ _ _ _ T (mkF m 153 #[.val (.int p1), .val (.int p2), .val (.int p3), .val (.int p4), .val (.ref a_0), .val (.ref a_1), .val (.ref a_2), .val (.ref a_3), .val (.ref a_4), .val (.ref a_5), .val (.int (Int32.ofNat m1)), .val (.int (Int32.ofNat m2)), .unset, .unset, .unset, .unset] [(.ref a_1), (.ref a_5)])
    rcases hz2 with ⟨hza37, hzb37, hzc37⟩ | ⟨hzd37, hvl37, hgt37, hov37, hnt37⟩
    · subst hza37 hzb37 hzc37
      show GoH _ _ _ _ _ _ _ _ _ _ T (mkF m 153 #[.val (.int p1), .val (.int p2), .val (.int p3), .val (.int p4), .val (.ref a_0), .val (.ref a_1), .val (.ref a_2), .val (.ref a_3), .val (.ref a_4), .val (.ref a_5), .val (.int (Int32.ofNat m1)), .val (.int (0 : Int32)), .unset, .unset, .unset, .unset] [(.ref a_1), (.ref a_5)])
      obtain ⟨cq38, kq38, qa38, qb38, qc38⟩ := isOf hZ1 e1 H_8
      obtain ⟨_, _, ⟨T38, L38, k38, n38⟩, -, X38, ⟨Lc38, hQ38, l38, y38, z38⟩, st38⟩ := X1.virtualBack hx (y := (⟨"java/util/ArrayList", "add", "(Ljava/lang/Object;)Z"⟩ : MethodName)) (z := (⟨"java/util/ArrayList", "add", "(Ljava/lang/Object;)Z"⟩ : MethodName)) hown1 (mvT hZ1 (hw _ (List.mem_of_getElem? (i := 90) rfl))) (mvT hZ1 (hw _ (List.mem_of_getElem? (i := 91) rfl))) (notFace_of_selects (args := #[]) (mvT hZ1 (hw _ (List.mem_of_getElem? (i := 93) rfl)))) (mvT hZ1 (hw _ (List.mem_of_getElem? (i := 93) rfl))) (mvT hZ1 (hw _ (List.mem_of_getElem? (i := 92) rfl))) (by decide) (backOf (W := 0) (rmAdA l Z a0 hw [] a_5 a_1 dc kk2 ws2 mc_2 h n0 Zs1 O1 S_DC ge_a_5 H_8 H_9 Hs2 He2 Ha2 H_0) hZ1 (hw _ (List.mem_of_getElem? (i := 94) rfl)) (hw _ (List.mem_of_getElem? (i := 68) rfl)) (by decide) (by decide)) qa38 qc38 (g := (mkF m 153 #[.val (.int p1), .val (.int p2), .val (.int p3), .val (.int p4), .val (.ref a_0), .val (.ref a_1), .val (.ref a_2), .val (.ref a_3), .val (.ref a_4), .val (.ref a_5), .val (.int (Int32.ofNat m1)), .val (.int (0 : Int32)), .unset, .unset, .unset, .unset] [(.ref a_1), (.ref a_5)])) rfl (by rw [hml]; rfl) (Steps.refl _) (argsL := [(.ref a_1)]) (rest := []) (lenOf pd_18 rfl) rfl (by show 2 * 0 + _ ≤ _; exact Nat.le_of_eq rfl) (hb hby at_153) (fun _ _ => ⟨rfl, e1, (by decide : 18 + 1 ≤ _), (by decide : 220 + 10 ≤ _)⟩)
      dsimp only [Pt.U, Pt.locs, Pt.cells, Pt.slots] at X38 l38 y38 z38 st38 hQ38
      subst l38 y38 z38
      obtain ⟨rfl, N38q, Kq38, tg38, kg38, gq38, gh38, Eq38, Fa38, Fb38, Fc38, Aq38, Oq38⟩ := hQ38
      have N38 := Fr.app N1 N38q
      have ne_a_1_tg38 : a_1 ≠ tg38 := Nat.ne_of_lt (Nat.lt_of_lt_of_le H_0.lt gh38)
      have ne_a_2_tg38 : a_2 ≠ tg38 := Nat.ne_of_lt (Nat.lt_of_lt_of_le H_1.lt gh38)
      have ne_a_3_tg38 : a_3 ≠ tg38 := Nat.ne_of_lt (Nat.lt_of_lt_of_le H_2.lt gh38)
      have ne_a_4_tg38 : a_4 ≠ tg38 := Nat.ne_of_lt (Nat.lt_of_lt_of_le H_6.lt gh38)
      have ne_a_5_tg38 : a_5 ≠ tg38 := Nat.ne_of_lt (Nat.lt_of_lt_of_le H_8.lt gh38)
      have ne_t1__tg38 : t1_ ≠ tg38 := Nat.ne_of_lt (Nat.lt_of_lt_of_le Ha1.lt gh38)
      have ne_dc_tg38 : dc ≠ tg38 := Nat.ne_of_lt (Nat.lt_of_lt_of_le Ha2.lt gh38)
      have f38_0 : Exa Z T38.heap a_1 "com/example/affordance/affordance/Finding" := (H_0.keep Kq38)
      have f38_1 : Exa Z T38.heap a_2 "com/example/affordance/affordance/Finding" := (H_1.keep Kq38)
      have f38_2 : Exa Z T38.heap a_3 "com/example/affordance/affordance/Finding" := (H_2.keep Kq38)
      have f38_3 : Fld Z T38.heap a_1 "com/example/affordance/affordance/Finding" "level" "Lcom/example/affordance/affordance/Level;" (.ref a_6) := (H_3.keep Kq38 (ninS (ne_exa H_0 H_8 (by decide)) nin0))
      have f38_4 : Fld Z T38.heap a_2 "com/example/affordance/affordance/Finding" "level" "Lcom/example/affordance/affordance/Level;" (.ref a_7) := (H_4.keep Kq38 (ninS (ne_exa H_1 H_8 (by decide)) nin0))
      have f38_5 : Fld Z T38.heap a_3 "com/example/affordance/affordance/Finding" "level" "Lcom/example/affordance/affordance/Level;" (.ref a_8) := (H_5.keep Kq38 (ninS (ne_exa H_2 H_8 (by decide)) nin0))
      have f38_6 : Exa Z T38.heap a_4 "java/util/ArrayList" := (H_6.keep Kq38)
      have f38_7 : Fld Z T38.heap a_4 "java/util/AbstractList" "modCount" "I" (.int mc_1) := (H_7.keep Kq38 (ninS ne_a_4_a_5 nin0))
      have f38_13 : Fld Z T38.heap a_4 "java/util/ArrayList" "size" "I" (.int (Int32.ofNat m1)) := (Hs1.keep Kq38 (ninS ne_a_4_a_5 nin0))
      have f38_14 : Fld Z T38.heap a_4 "java/util/ArrayList" "elementData" "[Ljava/lang/Object;" (.ref t1_) := (He1.keep Kq38 (ninS ne_a_4_a_5 nin0))
      have f38_15 : Arv Z T38.heap t1_ kk1 (.object "java/lang/Object") zz1 ws1 .null := (Ha1.keep Kq38 (ninS (Ne.symm (own_ne_arv H_8 (hw _ (List.mem_of_getElem? (i := 67) rfl)) Ha1)) nin0))
      have f38_16 : Arv Z T38.heap dc kk2 (.object "java/lang/Object") (0 : Int32) ws2 .null := (Ha2.keep Kq38 (ninS (Ne.symm (own_ne_arv H_8 (hw _ (List.mem_of_getElem? (i := 67) rfl)) Ha2)) nin0))
      have f38_17 : Exa Z T38.heap a_5 "java/util/ArrayList" := Eq38
      have f38_18 : Fld Z T38.heap a_5 "java/util/AbstractList" "modCount" "I" (.int (mc_2 + (1 : Int32))) := Fa38
      have f38_19 : Fld Z T38.heap a_5 "java/util/ArrayList" "size" "I" (.int (1 : Int32)) := Fb38
      have f38_20 : Fld Z T38.heap a_5 "java/util/ArrayList" "elementData" "[Ljava/lang/Object;" (.ref tg38) := Fc38
      have f38_21 : Arv Z T38.heap tg38 kg38 (.object "java/lang/Object") (10 : Int32) [(.ref a_1), Value.null, Value.null, Value.null, Value.null, Value.null, Value.null, Value.null, Value.null, Value.null] .null := Aq38
      have sfk38 : ∀ x ∈ ([a_5] : List Addr), Safe Z own_EL vm0 h x := (sfS (Safe.exa hZ1.alike H_8 (by decide) (by decide)) sf0)
      have hk38 : _ ≤ T38.heap.size := Nat.le_trans hk1 Kq38.1
      have C38 : CHr Z own_EL s.vm h0 vm0 T38.heap := C1.trans (CHr.keep Kq38 sfk38 C1.1)
      have Zs38 : n0 ≤ T38.heap.size := (Nat.le_trans Zs1 Kq38.1)
      have O38 : Old Z n0 T38.heap := O1.keep Kq38 (allS ge_a_5 all0)
      refine GoH.step (fun t_ k_ => st38.trans k_) ?_
      show GoH _ _ _ _ _ _ _ _ _ _ T38 (mkF m 156 #[.val (.int p1), .val (.int p2), .val (.int p3), .val (.int p4), .val (.ref a_0), .val (.ref a_1), .val (.ref a_2), .val (.ref a_3), .val (.ref a_4), .val (.ref a_5), .val (.int (Int32.ofNat m1)), .val (.int (0 : Int32)), .unset, .unset, .unset, .unset] [(.int (1 : Int32))])
      refine GoH.step (fun t_ k_ => XT.pop X38.here hx rfl (hb hby at_156) rfl rfl k_) ?_
      show GoH _ _ _ _ _ _ _ _ _ _ T38 (mkF m 157 #[.val (.int p1), .val (.int p2), .val (.int p3), .val (.int p4), .val (.ref a_0), .val (.ref a_1), .val (.ref a_2), .val (.ref a_3), .val (.ref a_4), .val (.ref a_5), .val (.int (Int32.ofNat m1)), .val (.int (0 : Int32)), .unset, .unset, .unset, .unset] [])
      refine GoH.step (fun t_ k_ => XS.iinc X38.here hx rfl (hb hby at_157) rfl (l' := #[.val (.int p1), .val (.int p2), .val (.int p3), .val (.int p4), .val (.ref a_0), .val (.ref a_1), .val (.ref a_2), .val (.ref a_3), .val (.ref a_4), .val (.ref a_5), .val (.int (Int32.ofNat m1)), .val (.int (1 : Int32)), .unset, .unset, .unset, .unset]) rfl k_) ?_
      show GoH _ _ _ _ _ _ _ _ _ _ T38 (mkF m 160 #[.val (.int p1), .val (.int p2), .val (.int p3), .val (.int p4), .val (.ref a_0), .val (.ref a_1), .val (.ref a_2), .val (.ref a_3), .val (.ref a_4), .val (.ref a_5), .val (.int (Int32.ofNat m1)), .val (.int (1 : Int32)), .unset, .unset, .unset, .unset] [])
      show GoH _ _ _ _ _ _ _ _ _ _ T38 (mkF m 160 #[.val (.int p1), .val (.int p2), .val (.int p3), .val (.int p4), .val (.ref a_0), .val (.ref a_1), .val (.ref a_2), .val (.ref a_3), .val (.ref a_4), .val (.ref a_5), .val (.int (Int32.ofNat m1)), .val (.int (Int32.ofNat 1)), .unset, .unset, .unset, .unset] [])
      exact sg160_3 l Z a0 hw p1 p2 p3 p4 mu sh ma dc kd vd vv kv vsv h0 n0 Z0 O0 S_MUST S_SHOULD S_MAY L_MUST L_SHOULD L_MAY S_DC A_DC S_VV E_VV A_VV kk1 zz1 ((ws1)) m1 t1_ kg38 ((10 : Int32)) (([(.ref a_1), Value.null, Value.null, Value.null, Value.null, Value.null, Value.null, Value.null, Value.null, Value.null])) 1 tg38 mc_1 (((mc_2 + (1 : Int32)))) a_0 a_1 a_2 a_3 a_4 a_5 a_6 a_7 a_8 (X38.mono (by decide) (by decide)) hx hby hlk hml hret hnm rfl N38 Zs38 O38 hS1 hk38 hZ1 hown1 hEL C38 f38_0 f38_1 f38_2 f38_3 f38_4 f38_5 f38_6 f38_7 f38_17 f38_18 ne_a_4_a_5 ge_a_1 ge_a_2 ge_a_3 ge_a_4 ge_a_5 (hin1) (hz1) ((by omega)) (f38_13) (f38_14) (f38_15) ((own_in_set (n := 0) (vs := [Value.null, Value.null, Value.null, Value.null, Value.null, Value.null, Value.null, Value.null, Value.null, Value.null]) own_in0 (by decide) (Or.inl rfl))) ((Or.inr ⟨rfl, rfl, gq38, Oq38, ne_t1__tg38⟩)) ((by omega)) (f38_19) (f38_20) (f38_21) (hl_0) (hl_1) (hl_2)
    · subst hzd37
      obtain ⟨cq39, kq39, qa39, qb39, qc39⟩ := isOf hZ1 e1 H_8
      obtain ⟨_, _, ⟨T39, L39, k39, n39⟩, -, X39, ⟨Lc39, hQ39, l39, y39, z39⟩, st39⟩ := X1.virtualBack hx (y := (⟨"java/util/ArrayList", "add", "(Ljava/lang/Object;)Z"⟩ : MethodName)) (z := (⟨"java/util/ArrayList", "add", "(Ljava/lang/Object;)Z"⟩ : MethodName)) hown1 (mvT hZ1 (hw _ (List.mem_of_getElem? (i := 90) rfl))) (mvT hZ1 (hw _ (List.mem_of_getElem? (i := 91) rfl))) (notFace_of_selects (args := #[]) (mvT hZ1 (hw _ (List.mem_of_getElem? (i := 93) rfl)))) (mvT hZ1 (hw _ (List.mem_of_getElem? (i := 93) rfl))) (mvT hZ1 (hw _ (List.mem_of_getElem? (i := 92) rfl))) (by decide) (backOf (W := 0) (rmAdB l Z a0 hw [] a_5 a_1 t2_ kk2 ws2 m2 mc_2 h n0 Zs1 ge_a_5 hgt37 H_8 H_9 Hs2 He2 Ha2 hov37 hvl37 (by omega) H_0) hZ1 (hw _ (List.mem_of_getElem? (i := 94) rfl)) (hw _ (List.mem_of_getElem? (i := 68) rfl)) (by decide) (by decide)) qa39 qc39 (g := (mkF m 153 #[.val (.int p1), .val (.int p2), .val (.int p3), .val (.int p4), .val (.ref a_0), .val (.ref a_1), .val (.ref a_2), .val (.ref a_3), .val (.ref a_4), .val (.ref a_5), .val (.int (Int32.ofNat m1)), .val (.int (Int32.ofNat m2)), .unset, .unset, .unset, .unset] [(.ref a_1), (.ref a_5)])) rfl (by rw [hml]; rfl) (Steps.refl _) (argsL := [(.ref a_1)]) (rest := []) (lenOf pd_18 rfl) rfl (by show 2 * 0 + _ ≤ _; exact Nat.le_of_eq rfl) (hb hby at_153) (fun _ _ => ⟨rfl, e1, (by decide : 18 + 0 ≤ _), (by decide : 220 + 0 ≤ _)⟩)
      dsimp only [Pt.U, Pt.locs, Pt.cells, Pt.slots] at X39 l39 y39 z39 st39 hQ39
      subst l39 y39 z39
      obtain ⟨rfl, N39q, Kq39, Eq39, Fa39, Fb39, Fc39, Aq39⟩ := hQ39
      have N39 := Fr.app N1 N39q
      have f39_0 : Exa Z T39.heap a_1 "com/example/affordance/affordance/Finding" := (H_0.keep Kq39)
      have f39_1 : Exa Z T39.heap a_2 "com/example/affordance/affordance/Finding" := (H_1.keep Kq39)
      have f39_2 : Exa Z T39.heap a_3 "com/example/affordance/affordance/Finding" := (H_2.keep Kq39)
      have f39_3 : Fld Z T39.heap a_1 "com/example/affordance/affordance/Finding" "level" "Lcom/example/affordance/affordance/Level;" (.ref a_6) := (H_3.keep Kq39 (ninS (ne_exa H_0 H_8 (by decide)) (ninS (own_ne_arv H_0 (hw _ (List.mem_of_getElem? (i := 25) rfl)) Ha2) nin0)))
      have f39_4 : Fld Z T39.heap a_2 "com/example/affordance/affordance/Finding" "level" "Lcom/example/affordance/affordance/Level;" (.ref a_7) := (H_4.keep Kq39 (ninS (ne_exa H_1 H_8 (by decide)) (ninS (own_ne_arv H_1 (hw _ (List.mem_of_getElem? (i := 25) rfl)) Ha2) nin0)))
      have f39_5 : Fld Z T39.heap a_3 "com/example/affordance/affordance/Finding" "level" "Lcom/example/affordance/affordance/Level;" (.ref a_8) := (H_5.keep Kq39 (ninS (ne_exa H_2 H_8 (by decide)) (ninS (own_ne_arv H_2 (hw _ (List.mem_of_getElem? (i := 25) rfl)) Ha2) nin0)))
      have f39_6 : Exa Z T39.heap a_4 "java/util/ArrayList" := (H_6.keep Kq39)
      have f39_7 : Fld Z T39.heap a_4 "java/util/AbstractList" "modCount" "I" (.int mc_1) := (H_7.keep Kq39 (ninS ne_a_4_a_5 (ninS (own_ne_arv H_6 (hw _ (List.mem_of_getElem? (i := 67) rfl)) Ha2) nin0)))
      have f39_13 : Fld Z T39.heap a_4 "java/util/ArrayList" "size" "I" (.int (Int32.ofNat m1)) := (Hs1.keep Kq39 (ninS ne_a_4_a_5 (ninS (own_ne_arv H_6 (hw _ (List.mem_of_getElem? (i := 67) rfl)) Ha2) nin0)))
      have f39_14 : Fld Z T39.heap a_4 "java/util/ArrayList" "elementData" "[Ljava/lang/Object;" (.ref t1_) := (He1.keep Kq39 (ninS ne_a_4_a_5 (ninS (own_ne_arv H_6 (hw _ (List.mem_of_getElem? (i := 67) rfl)) Ha2) nin0)))
      have f39_15 : Arv Z T39.heap t1_ kk1 (.object "java/lang/Object") zz1 ws1 .null := (Ha1.keep Kq39 (ninS (Ne.symm (own_ne_arv H_8 (hw _ (List.mem_of_getElem? (i := 67) rfl)) Ha1)) (ninS hnt37 nin0)))
      have f39_16 : Exa Z T39.heap a_5 "java/util/ArrayList" := Eq39
      have f39_17 : Fld Z T39.heap a_5 "java/util/AbstractList" "modCount" "I" (.int (mc_2 + (1 : Int32))) := Fa39
      have f39_18 : Fld Z T39.heap a_5 "java/util/ArrayList" "size" "I" (.int (Int32.ofNat (m2 + 1))) := Fb39
      have f39_19 : Fld Z T39.heap a_5 "java/util/ArrayList" "elementData" "[Ljava/lang/Object;" (.ref t2_) := Fc39
      have f39_20 : Arv Z T39.heap t2_ kk2 (.object "java/lang/Object") (10 : Int32) (ws2.set m2 (.ref a_1)) .null := Aq39
      have sfk39 : ∀ x ∈ ([a_5, t2_] : List Addr), Safe Z own_EL vm0 h x := (sfS (Safe.exa hZ1.alike H_8 (by decide) (by decide)) (sfS (Safe.arv hZ1.alike Ha2 (by decide)) sf0))
      have hk39 : _ ≤ T39.heap.size := Nat.le_trans hk1 Kq39.1
      have C39 : CHr Z own_EL s.vm h0 vm0 T39.heap := C1.trans (CHr.keep Kq39 sfk39 C1.1)
      have Zs39 : n0 ≤ T39.heap.size := (Nat.le_trans Zs1 Kq39.1)
      have O39 : Old Z n0 T39.heap := O1.keep Kq39 (allS ge_a_5 (allS hgt37 all0))
      refine GoH.step (fun t_ k_ => st39.trans k_) ?_
      show GoH _ _ _ _ _ _ _ _ _ _ T39 (mkF m 156 #[.val (.int p1), .val (.int p2), .val (.int p3), .val (.int p4), .val (.ref a_0), .val (.ref a_1), .val (.ref a_2), .val (.ref a_3), .val (.ref a_4), .val (.ref a_5), .val (.int (Int32.ofNat m1)), .val (.int (Int32.ofNat m2)), .unset, .unset, .unset, .unset] [(.int (1 : Int32))])
      refine GoH.step (fun t_ k_ => XT.pop X39.here hx rfl (hb hby at_156) rfl rfl k_) ?_
      show GoH _ _ _ _ _ _ _ _ _ _ T39 (mkF m 157 #[.val (.int p1), .val (.int p2), .val (.int p3), .val (.int p4), .val (.ref a_0), .val (.ref a_1), .val (.ref a_2), .val (.ref a_3), .val (.ref a_4), .val (.ref a_5), .val (.int (Int32.ofNat m1)), .val (.int (Int32.ofNat m2)), .unset, .unset, .unset, .unset] [])
      refine GoH.step (fun t_ k_ => XS.iinc X39.here hx rfl (hb hby at_157) rfl (l' := #[.val (.int p1), .val (.int p2), .val (.int p3), .val (.int p4), .val (.ref a_0), .val (.ref a_1), .val (.ref a_2), .val (.ref a_3), .val (.ref a_4), .val (.ref a_5), .val (.int (Int32.ofNat m1)), .val (.int ((Int32.ofNat m2) + (1 : Int32))), .unset, .unset, .unset, .unset]) rfl k_) ?_
      show GoH _ _ _ _ _ _ _ _ _ _ T39 (mkF m 160 #[.val (.int p1), .val (.int p2), .val (.int p3), .val (.int p4), .val (.ref a_0), .val (.ref a_1), .val (.ref a_2), .val (.ref a_3), .val (.ref a_4), .val (.ref a_5), .val (.int (Int32.ofNat m1)), .val (.int ((Int32.ofNat m2) + (1 : Int32))), .unset, .unset, .unset, .unset] [])
      rw [show ((Int32.ofNat m2) + (1 : Int32)) = (Int32.ofNat (m2 + 1)) from (inc_ofNat _).symm]
      show GoH _ _ _ _ _ _ _ _ _ _ T39 (mkF m 160 #[.val (.int p1), .val (.int p2), .val (.int p3), .val (.int p4), .val (.ref a_0), .val (.ref a_1), .val (.ref a_2), .val (.ref a_3), .val (.ref a_4), .val (.ref a_5), .val (.int (Int32.ofNat m1)), .val (.int (Int32.ofNat (m2 + 1))), .unset, .unset, .unset, .unset] [])
      exact sg160_3 l Z a0 hw p1 p2 p3 p4 mu sh ma dc kd vd vv kv vsv h0 n0 Z0 O0 S_MUST S_SHOULD S_MAY L_MUST L_SHOULD L_MAY S_DC A_DC S_VV E_VV A_VV kk1 zz1 ((ws1)) m1 t1_ kk2 ((10 : Int32)) (((ws2.set m2 (.ref a_1)))) ((m2 + 1)) t2_ mc_1 (((mc_2 + (1 : Int32)))) a_0 a_1 a_2 a_3 a_4 a_5 a_6 a_7 a_8 (X39.mono (by decide) (by decide)) hx hby hlk hml hret hnm rfl N39 Zs39 O39 hS1 hk39 hZ1 hown1 hEL C39 f39_0 f39_1 f39_2 f39_3 f39_4 f39_5 f39_6 f39_7 f39_16 f39_17 ne_a_4_a_5 ge_a_1 ge_a_2 ge_a_3 ge_a_4 ge_a_5 (hin1) (hz1) ((by omega)) (f39_13) (f39_14) (f39_15) ((own_in_set hin2 (by rw [hvl37]; omega) (Or.inl rfl))) ((Or.inr ⟨rfl, (by rw [List.length_set]; exact hvl37), hgt37, hov37, hnt37⟩)) ((by omega)) (f39_18) (f39_19) (f39_20) (hl_0) (hl_1) (hl_2)
set_option maxRecDepth 65536 in
set_option maxHeartbeats 40000000 in
theorem sg125_1 (l : Launch) (Z : State) (a0 : Array Value) (hw : ∀ d ∈ tables_1, d.before a0 Z = true) (p1 : Int32) (p2 : Int32) (p3 : Int32) (p4 : Int32) (mu : Addr) (sh : Addr) (ma : Addr) (dc : Addr) (kd : ClassId) (vd : List Value) (vv : Addr) (kv : ClassId) (vsv : List Value) (h0 : Heap) (n0 : Nat) (Z0 : n0 ≤ h0.size) (O0 : Old Z n0 h0) (S_MUST : Sta Z Z.heap "com/example/affordance/affordance/Level" "MUST" "Lcom/example/affordance/affordance/Level;" (.ref mu)) (S_SHOULD : Sta Z Z.heap "com/example/affordance/affordance/Level" "SHOULD" "Lcom/example/affordance/affordance/Level;" (.ref sh)) (S_MAY : Sta Z Z.heap "com/example/affordance/affordance/Level" "MAY" "Lcom/example/affordance/affordance/Level;" (.ref ma)) (L_MUST : own_lv Z mu) (L_SHOULD : own_lv Z sh) (L_MAY : own_lv Z ma) (S_DC : Sta Z Z.heap "java/util/ArrayList" "DEFAULTCAPACITY_EMPTY_ELEMENTDATA" "[Ljava/lang/Object;" (.ref dc)) (A_DC : Arv Z Z.heap dc kd (.object "java/lang/Object") (0 : Int32) vd .null) (S_VV : Sta Z Z.heap "com/example/affordance/affordance/Level" "$VALUES" "[Lcom/example/affordance/affordance/Level;" (.ref vv)) (E_VV : Exa Z Z.heap vv "[Lcom/example/affordance/affordance/Level;") (A_VV : Arv Z Z.heap vv kv (.object "com/example/affordance/affordance/Level") (3 : Int32) vsv .null) (kk1 : ClassId) (zz1 : Int32) (ws1 : List Value) (m1 : Nat) (t1_ : Addr) (mc_1 : Int32) (mc_2 : Int32) (a_0 : Addr) (a_1 : Addr) (a_2 : Addr) (a_3 : Addr) (a_4 : Addr) (a_5 : Addr) (a_6 : Addr) (a_7 : Addr) (a_8 : Addr) {p : Program} {e : Env} {s : State} {m : MethodId} {below : List Frame} {meth : Method} {c : Code} {T : State} {locs : List Loc} {h : Heap} {vm0 : Vm} {k0 : Nat} (X1 : Stand p l e room_1 (s.setVm vm0) m #[(.int p1), (.int p2), (.int p3), (.int p4)] below meth c T locs 17 210) (hx : p.tables.exec = Jvm.exec) (hby : c.code = code) (hlk : meth.locks = false) (hml : c.maxLocals = 16) (hret : meth.sig.returnType = ret) (hnm : meth.name = "law") (e1 : T.heap = h) (N1 : Fr n0 locs) (Zs1 : n0 ≤ h.size) (O1 : Old Z n0 h) (hS1 : s.Since vm0 k0) (hk1 : k0 ≤ h.size) (hZ1 : Z.Warmed39 (s.setVm vm0).vm) (hown1 : (s.setVm vm0).vm.findClass "com/example/affordance/affordance/FindingCountsTotalPinLaw" = some m.cls) (hEL : EW Z a0 own_EL) (C1 : CHr Z own_EL s.vm h0 vm0 h) (H_0 : Exa Z h a_1 "com/example/affordance/affordance/Finding") (H_1 : Exa Z h a_2 "com/example/affordance/affordance/Finding") (H_2 : Exa Z h a_3 "com/example/affordance/affordance/Finding") (H_3 : Fld Z h a_1 "com/example/affordance/affordance/Finding" "level" "Lcom/example/affordance/affordance/Level;" (.ref a_6)) (H_4 : Fld Z h a_2 "com/example/affordance/affordance/Finding" "level" "Lcom/example/affordance/affordance/Level;" (.ref a_7)) (H_5 : Fld Z h a_3 "com/example/affordance/affordance/Finding" "level" "Lcom/example/affordance/affordance/Level;" (.ref a_8)) (H_6 : Exa Z h a_4 "java/util/ArrayList") (H_7 : Fld Z h a_4 "java/util/AbstractList" "modCount" "I" (.int mc_1)) (H_8 : Exa Z h a_5 "java/util/ArrayList") (H_9 : Fld Z h a_5 "java/util/AbstractList" "modCount" "I" (.int mc_2)) (H_10 : Fld Z h a_5 "java/util/ArrayList" "size" "I" (.int (0 : Int32))) (H_11 : Fld Z h a_5 "java/util/ArrayList" "elementData" "[Ljava/lang/Object;" (.ref dc)) (ne_a_4_a_5 : a_4 ≠ a_5) (ge_a_1 : n0 ≤ a_1) (ge_a_2 : n0 ≤ a_2) (ge_a_3 : n0 ≤ a_3) (ge_a_4 : n0 ≤ a_4) (ge_a_5 : n0 ≤ a_5) (hin1 : own_in m1 ws1 a_1 a_2 a_3) (hz1 : ((0 : Nat) = m1 ∧ dc = t1_ ∧ (0 : Int32) = zz1) ∨ ((10 : Int32) = zz1 ∧ ws1.length = 10 ∧ n0 ≤ t1_ ∧ Ovr Z kk1 "java/lang/Object")) (hm1 : m1 ≤ 2) (Hs1 : Fld Z h a_4 "java/util/ArrayList" "size" "I" (.int (Int32.ofNat m1))) (He1 : Fld Z h a_4 "java/util/ArrayList" "elementData" "[Ljava/lang/Object;" (.ref t1_)) (Ha1 : Arv Z h t1_ kk1 (.object "java/lang/Object") zz1 ws1 .null) (hl_0 : own_lv Z a_6) (hl_1 : own_lv Z a_7) (hl_2 : own_lv Z a_8) :
    GoH p e below s room_1.cells room_1.slots Z own_EL h0 (Q0 Z p1 p2 p3 p4 mu sh ma dc kd vd vv kv vsv h0 n0) T (mkF m 125 #[.val (.int p1), .val (.int p2), .val (.int p3), .val (.int p4), .val (.ref a_0), .val (.ref a_1), .val (.ref a_2), .val (.ref a_3), .val (.ref a_4), .val (.ref a_5), .val (.int (Int32.ofNat m1)), .val (.int (0 : Int32)), .unset, .unset, .unset, .unset] []) := by
  show GoH _ _ _ _ _ _ _ _ _ _ T (mkF m 125 #[.val (.int p1), .val (.int p2), .val (.int p3), .val (.int p4), .val (.ref a_0), .val (.ref a_1), .val (.ref a_2), .val (.ref a_3), .val (.ref a_4), .val (.ref a_5), .val (.int (Int32.ofNat m1)), .val (.int (0 : Int32)), .unset, .unset, .unset, .unset] [])
  refine GoH.step (fun t_ k_ => XS.iloadN X1.here hx rfl (hb hby at_125) rfl k_) ?_
  show GoH _ _ _ _ _ _ _ _ _ _ T (mkF m 126 #[.val (.int p1), .val (.int p2), .val (.int p3), .val (.int p4), .val (.ref a_0), .val (.ref a_1), .val (.ref a_2), .val (.ref a_3), .val (.ref a_4), .val (.ref a_5), .val (.int (Int32.ofNat m1)), .val (.int (0 : Int32)), .unset, .unset, .unset, .unset] [(.int p4)])
  refine GoH.step (fun t_ k_ => XS.iconst X1.here hx rfl (hb hby at_126) k_) ?_
  show GoH _ _ _ _ _ _ _ _ _ _ T (mkF m 127 #[.val (.int p1), .val (.int p2), .val (.int p3), .val (.int p4), .val (.ref a_0), .val (.ref a_1), .val (.ref a_2), .val (.ref a_3), .val (.ref a_4), .val (.ref a_5), .val (.int (Int32.ofNat m1)), .val (.int (0 : Int32)), .unset, .unset, .unset, .unset] [(.int (4 : Int32)), (.int p4)])
  refine GoH.step (fun t_ k_ => XS.iand X1.here hx rfl (hb hby at_127) rfl k_) ?_
  show GoH _ _ _ _ _ _ _ _ _ _ T (mkF m 128 #[.val (.int p1), .val (.int p2), .val (.int p3), .val (.int p4), .val (.ref a_0), .val (.ref a_1), .val (.ref a_2), .val (.ref a_3), .val (.ref a_4), .val (.ref a_5), .val (.int (Int32.ofNat m1)), .val (.int (0 : Int32)), .unset, .unset, .unset, .unset] [(.int (p4 &&& (4 : Int32)))])
  by_cases hb128_21 : (p4 &&& (4 : Int32)) = (0 : Int32)
  · refine GoH.step (fun t_ k_ => XS.ifYes X1.here hx rfl (pc0 := 128) (pc' := 142) rfl (hb hby at_128) rfl (XT.i0_eq_t hb128_21) (by decide) (by decide) k_) ?_
    show GoH _ _ _ _ _ _ _ _ _ _ T (mkF m 142 #[.val (.int p1), .val (.int p2), .val (.int p3), .val (.int p4), .val (.ref a_0), .val (.ref a_1), .val (.ref a_2), .val (.ref a_3), .val (.ref a_4), .val (.ref a_5), .val (.int (Int32.ofNat m1)), .val (.int (0 : Int32)), .unset, .unset, .unset, .unset] [])
    show GoH _ _ _ _ _ _ _ _ _ _ T (mkF m 142 #[.val (.int p1), .val (.int p2), .val (.int p3), .val (.int p4), .val (.ref a_0), .val (.ref a_1), .val (.ref a_2), .val (.ref a_3), .val (.ref a_4), .val (.ref a_5), .val (.int (Int32.ofNat m1)), .val (.int (Int32.ofNat 0)), .unset, .unset, .unset, .unset] [])
    exact sg142_2 l Z a0 hw p1 p2 p3 p4 mu sh ma dc kd vd vv kv vsv h0 n0 Z0 O0 S_MUST S_SHOULD S_MAY L_MUST L_SHOULD L_MAY S_DC A_DC S_VV E_VV A_VV kk1 zz1 ((ws1)) m1 t1_ kd ((0 : Int32)) ((vd)) 0 dc mc_1 mc_2 a_0 a_1 a_2 a_3 a_4 a_5 a_6 a_7 a_8 (X1.mono (by decide) (by decide)) hx hby hlk hml hret hnm e1 N1 Zs1 O1 hS1 hk1 hZ1 hown1 hEL C1 H_0 H_1 H_2 H_3 H_4 H_5 H_6 H_7 H_8 H_9 ne_a_4_a_5 ge_a_1 ge_a_2 ge_a_3 ge_a_4 ge_a_5 (hin1) (hz1) ((by omega)) (Hs1) (He1) (Ha1) (own_in0) (Or.inl ⟨rfl, rfl, rfl⟩) ((by omega)) (H_10) (H_11) ((A_DC.ext O1.2)) (hl_0) (hl_1) (hl_2)
  · refine GoH.step (fun t_ k_ => XS.ifNo X1.here hx rfl (hb hby at_128) rfl (XT.i0_eq_f hb128_21) k_) ?_
    show GoH _ _ _ _ _ _ _ _ _ _ T (mkF m 131 #[.val (.int p1), .val (.int p2), .val (.int p3), .val (.int p4), .val (.ref a_0), .val (.ref a_1), .val (.ref a_2), .val (.ref a_3), .val (.ref a_4), .val (.ref a_5), .val (.int (Int32.ofNat m1)), .val (.int (0 : Int32)), .unset, .unset, .unset, .unset] [])
    refine GoH.step (fun t_ k_ => XS.aload X1.here hx rfl (hb hby at_131) rfl rfl k_) ?_
    show GoH _ _ _ _ _ _ _ _ _ _ T (mkF m 133 #[.val (.int p1), .val (.int p2), .val (.int p3), .val (.int p4), .val (.ref a_0), .val (.ref a_1), .val (.ref a_2), .val (.ref a_3), .val (.ref a_4), .val (.ref a_5), .val (.int (Int32.ofNat m1)), .val (.int (0 : Int32)), .unset, .unset, .unset, .unset] [(.ref a_5)])
    refine GoH.step (fun t_ k_ => XS.aload X1.here hx rfl (hb hby at_133) rfl rfl k_) ?_
    show GoH _ _ _ _ _ _ _ _ _ _ T (mkF m 135 #[.val (.int p1), .val (.int p2), .val (.int p3), .val (.int p4), .val (.ref a_0), .val (.ref a_1), .val (.ref a_2), .val (.ref a_3), .val (.ref a_4), .val (.ref a_5), .val (.int (Int32.ofNat m1)), .val (.int (0 : Int32)), .unset, .unset, .unset, .unset] [(.ref a_3), (.ref a_5)])
    obtain ⟨cq41, kq41, qa41, qb41, qc41⟩ := isOf hZ1 e1 H_8
    obtain ⟨_, _, ⟨T41, L41, k41, n41⟩, -, X41, ⟨Lc41, hQ41, l41, y41, z41⟩, st41⟩ := X1.virtualBack hx (y := (⟨"java/util/ArrayList", "add", "(Ljava/lang/Object;)Z"⟩ : MethodName)) (z := (⟨"java/util/ArrayList", "add", "(Ljava/lang/Object;)Z"⟩ : MethodName)) hown1 (mvT hZ1 (hw _ (List.mem_of_getElem? (i := 90) rfl))) (mvT hZ1 (hw _ (List.mem_of_getElem? (i := 91) rfl))) (notFace_of_selects (args := #[]) (mvT hZ1 (hw _ (List.mem_of_getElem? (i := 93) rfl)))) (mvT hZ1 (hw _ (List.mem_of_getElem? (i := 93) rfl))) (mvT hZ1 (hw _ (List.mem_of_getElem? (i := 92) rfl))) (by decide) (backOf (W := 0) (rmAdA l Z a0 hw [] a_5 a_3 dc kd vd mc_2 h n0 Zs1 O1 S_DC ge_a_5 H_8 H_9 H_10 H_11 (A_DC.ext O1.2) H_2) hZ1 (hw _ (List.mem_of_getElem? (i := 94) rfl)) (hw _ (List.mem_of_getElem? (i := 68) rfl)) (by decide) (by decide)) qa41 qc41 (g := (mkF m 135 #[.val (.int p1), .val (.int p2), .val (.int p3), .val (.int p4), .val (.ref a_0), .val (.ref a_1), .val (.ref a_2), .val (.ref a_3), .val (.ref a_4), .val (.ref a_5), .val (.int (Int32.ofNat m1)), .val (.int (0 : Int32)), .unset, .unset, .unset, .unset] [(.ref a_3), (.ref a_5)])) rfl (by rw [hml]; rfl) (Steps.refl _) (argsL := [(.ref a_3)]) (rest := []) (lenOf pd_18 rfl) rfl (by show 2 * 0 + _ ≤ _; exact Nat.le_of_eq rfl) (hb hby at_135) (fun _ _ => ⟨rfl, e1, (by decide : 17 + 1 ≤ _), (by decide : 210 + 10 ≤ _)⟩)
    dsimp only [Pt.U, Pt.locs, Pt.cells, Pt.slots] at X41 l41 y41 z41 st41 hQ41
    subst l41 y41 z41
    obtain ⟨rfl, N41q, Kq41, tg41, kg41, gq41, gh41, Eq41, Fa41, Fb41, Fc41, Aq41, Oq41⟩ := hQ41
    have N41 := Fr.app N1 N41q
    have ne_a_1_tg41 : a_1 ≠ tg41 := Nat.ne_of_lt (Nat.lt_of_lt_of_le H_0.lt gh41)
    have ne_a_2_tg41 : a_2 ≠ tg41 := Nat.ne_of_lt (Nat.lt_of_lt_of_le H_1.lt gh41)
    have ne_a_3_tg41 : a_3 ≠ tg41 := Nat.ne_of_lt (Nat.lt_of_lt_of_le H_2.lt gh41)
    have ne_a_4_tg41 : a_4 ≠ tg41 := Nat.ne_of_lt (Nat.lt_of_lt_of_le H_6.lt gh41)
    have ne_a_5_tg41 : a_5 ≠ tg41 := Nat.ne_of_lt (Nat.lt_of_lt_of_le H_8.lt gh41)
    have ne_t1__tg41 : t1_ ≠ tg41 := Nat.ne_of_lt (Nat.lt_of_lt_of_le Ha1.lt gh41)
    have ne_dc_tg41 : dc ≠ tg41 := Nat.ne_of_lt (Nat.lt_of_lt_of_le (A_DC.ext O1.2).lt gh41)
    have f41_0 : Exa Z T41.heap a_1 "com/example/affordance/affordance/Finding" := (H_0.keep Kq41)
    have f41_1 : Exa Z T41.heap a_2 "com/example/affordance/affordance/Finding" := (H_1.keep Kq41)
    have f41_2 : Exa Z T41.heap a_3 "com/example/affordance/affordance/Finding" := (H_2.keep Kq41)
    have f41_3 : Fld Z T41.heap a_1 "com/example/affordance/affordance/Finding" "level" "Lcom/example/affordance/affordance/Level;" (.ref a_6) := (H_3.keep Kq41 (ninS (ne_exa H_0 H_8 (by decide)) nin0))
    have f41_4 : Fld Z T41.heap a_2 "com/example/affordance/affordance/Finding" "level" "Lcom/example/affordance/affordance/Level;" (.ref a_7) := (H_4.keep Kq41 (ninS (ne_exa H_1 H_8 (by decide)) nin0))
    have f41_5 : Fld Z T41.heap a_3 "com/example/affordance/affordance/Finding" "level" "Lcom/example/affordance/affordance/Level;" (.ref a_8) := (H_5.keep Kq41 (ninS (ne_exa H_2 H_8 (by decide)) nin0))
    have f41_6 : Exa Z T41.heap a_4 "java/util/ArrayList" := (H_6.keep Kq41)
    have f41_7 : Fld Z T41.heap a_4 "java/util/AbstractList" "modCount" "I" (.int mc_1) := (H_7.keep Kq41 (ninS ne_a_4_a_5 nin0))
    have f41_13 : Fld Z T41.heap a_4 "java/util/ArrayList" "size" "I" (.int (Int32.ofNat m1)) := (Hs1.keep Kq41 (ninS ne_a_4_a_5 nin0))
    have f41_14 : Fld Z T41.heap a_4 "java/util/ArrayList" "elementData" "[Ljava/lang/Object;" (.ref t1_) := (He1.keep Kq41 (ninS ne_a_4_a_5 nin0))
    have f41_15 : Arv Z T41.heap t1_ kk1 (.object "java/lang/Object") zz1 ws1 .null := (Ha1.keep Kq41 (ninS (Ne.symm (own_ne_arv H_8 (hw _ (List.mem_of_getElem? (i := 67) rfl)) Ha1)) nin0))
    have f41_16 : Arv Z T41.heap dc kd (.object "java/lang/Object") (0 : Int32) vd .null := ((A_DC.ext O1.2).keep Kq41 (ninS (Ne.symm (own_ne_arv H_8 (hw _ (List.mem_of_getElem? (i := 67) rfl)) (A_DC.ext O1.2))) nin0))
    have f41_17 : Exa Z T41.heap a_5 "java/util/ArrayList" := Eq41
    have f41_18 : Fld Z T41.heap a_5 "java/util/AbstractList" "modCount" "I" (.int (mc_2 + (1 : Int32))) := Fa41
    have f41_19 : Fld Z T41.heap a_5 "java/util/ArrayList" "size" "I" (.int (1 : Int32)) := Fb41
    have f41_20 : Fld Z T41.heap a_5 "java/util/ArrayList" "elementData" "[Ljava/lang/Object;" (.ref tg41) := Fc41
    have f41_21 : Arv Z T41.heap tg41 kg41 (.object "java/lang/Object") (10 : Int32) [(.ref a_3), Value.null, Value.null, Value.null, Value.null, Value.null, Value.null, Value.null, Value.null, Value.null] .null := Aq41
    have sfk41 : ∀ x ∈ ([a_5] : List Addr), Safe Z own_EL vm0 h x := (sfS (Safe.exa hZ1.alike H_8 (by decide) (by decide)) sf0)
    have hk41 : _ ≤ T41.heap.size := Nat.le_trans hk1 Kq41.1
    have C41 : CHr Z own_EL s.vm h0 vm0 T41.heap := C1.trans (CHr.keep Kq41 sfk41 C1.1)
    have Zs41 : n0 ≤ T41.heap.size := (Nat.le_trans Zs1 Kq41.1)
    have O41 : Old Z n0 T41.heap := O1.keep Kq41 (allS ge_a_5 all0)
    refine GoH.step (fun t_ k_ => st41.trans k_) ?_
    show GoH _ _ _ _ _ _ _ _ _ _ T41 (mkF m 138 #[.val (.int p1), .val (.int p2), .val (.int p3), .val (.int p4), .val (.ref a_0), .val (.ref a_1), .val (.ref a_2), .val (.ref a_3), .val (.ref a_4), .val (.ref a_5), .val (.int (Int32.ofNat m1)), .val (.int (0 : Int32)), .unset, .unset, .unset, .unset] [(.int (1 : Int32))])
    refine GoH.step (fun t_ k_ => XT.pop X41.here hx rfl (hb hby at_138) rfl rfl k_) ?_
    show GoH _ _ _ _ _ _ _ _ _ _ T41 (mkF m 139 #[.val (.int p1), .val (.int p2), .val (.int p3), .val (.int p4), .val (.ref a_0), .val (.ref a_1), .val (.ref a_2), .val (.ref a_3), .val (.ref a_4), .val (.ref a_5), .val (.int (Int32.ofNat m1)), .val (.int (0 : Int32)), .unset, .unset, .unset, .unset] [])
    refine GoH.step (fun t_ k_ => XS.iinc X41.here hx rfl (hb hby at_139) rfl (l' := #[.val (.int p1), .val (.int p2), .val (.int p3), .val (.int p4), .val (.ref a_0), .val (.ref a_1), .val (.ref a_2), .val (.ref a_3), .val (.ref a_4), .val (.ref a_5), .val (.int (Int32.ofNat m1)), .val (.int (1 : Int32)), .unset, .unset, .unset, .unset]) rfl k_) ?_
    show GoH _ _ _ _ _ _ _ _ _ _ T41 (mkF m 142 #[.val (.int p1), .val (.int p2), .val (.int p3), .val (.int p4), .val (.ref a_0), .val (.ref a_1), .val (.ref a_2), .val (.ref a_3), .val (.ref a_4), .val (.ref a_5), .val (.int (Int32.ofNat m1)), .val (.int (1 : Int32)), .unset, .unset, .unset, .unset] [])
    show GoH _ _ _ _ _ _ _ _ _ _ T41 (mkF m 142 #[.val (.int p1), .val (.int p2), .val (.int p3), .val (.int p4), .val (.ref a_0), .val (.ref a_1), .val (.ref a_2), .val (.ref a_3), .val (.ref a_4), .val (.ref a_5), .val (.int (Int32.ofNat m1)), .val (.int (Int32.ofNat 1)), .unset, .unset, .unset, .unset] [])
    exact sg142_2 l Z a0 hw p1 p2 p3 p4 mu sh ma dc kd vd vv kv vsv h0 n0 Z0 O0 S_MUST S_SHOULD S_MAY L_MUST L_SHOULD L_MAY S_DC A_DC S_VV E_VV A_VV kk1 zz1 ((ws1)) m1 t1_ kg41 ((10 : Int32)) (([(.ref a_3), Value.null, Value.null, Value.null, Value.null, Value.null, Value.null, Value.null, Value.null, Value.null])) 1 tg41 mc_1 (((mc_2 + (1 : Int32)))) a_0 a_1 a_2 a_3 a_4 a_5 a_6 a_7 a_8 (X41.mono (by decide) (by decide)) hx hby hlk hml hret hnm rfl N41 Zs41 O41 hS1 hk41 hZ1 hown1 hEL C41 f41_0 f41_1 f41_2 f41_3 f41_4 f41_5 f41_6 f41_7 f41_17 f41_18 ne_a_4_a_5 ge_a_1 ge_a_2 ge_a_3 ge_a_4 ge_a_5 (hin1) (hz1) ((by omega)) (f41_13) (f41_14) (f41_15) ((own_in_set (n := 0) (vs := [Value.null, Value.null, Value.null, Value.null, Value.null, Value.null, Value.null, Value.null, Value.null, Value.null]) own_in0 (by decide) (Or.inr (Or.inr rfl)))) ((Or.inr ⟨rfl, rfl, gq41, Oq41, ne_t1__tg41⟩)) ((by omega)) (f41_19) (f41_20) (f41_21) (hl_0) (hl_1) (hl_2)
set_option maxRecDepth 65536 in
set_option maxHeartbeats 40000000 in
theorem sg108_0 (l : Launch) (Z : State) (a0 : Array Value) (hw : ∀ d ∈ tables_1, d.before a0 Z = true) (p1 : Int32) (p2 : Int32) (p3 : Int32) (p4 : Int32) (mu : Addr) (sh : Addr) (ma : Addr) (dc : Addr) (kd : ClassId) (vd : List Value) (vv : Addr) (kv : ClassId) (vsv : List Value) (h0 : Heap) (n0 : Nat) (Z0 : n0 ≤ h0.size) (O0 : Old Z n0 h0) (S_MUST : Sta Z Z.heap "com/example/affordance/affordance/Level" "MUST" "Lcom/example/affordance/affordance/Level;" (.ref mu)) (S_SHOULD : Sta Z Z.heap "com/example/affordance/affordance/Level" "SHOULD" "Lcom/example/affordance/affordance/Level;" (.ref sh)) (S_MAY : Sta Z Z.heap "com/example/affordance/affordance/Level" "MAY" "Lcom/example/affordance/affordance/Level;" (.ref ma)) (L_MUST : own_lv Z mu) (L_SHOULD : own_lv Z sh) (L_MAY : own_lv Z ma) (S_DC : Sta Z Z.heap "java/util/ArrayList" "DEFAULTCAPACITY_EMPTY_ELEMENTDATA" "[Ljava/lang/Object;" (.ref dc)) (A_DC : Arv Z Z.heap dc kd (.object "java/lang/Object") (0 : Int32) vd .null) (S_VV : Sta Z Z.heap "com/example/affordance/affordance/Level" "$VALUES" "[Lcom/example/affordance/affordance/Level;" (.ref vv)) (E_VV : Exa Z Z.heap vv "[Lcom/example/affordance/affordance/Level;") (A_VV : Arv Z Z.heap vv kv (.object "com/example/affordance/affordance/Level") (3 : Int32) vsv .null) (kk1 : ClassId) (zz1 : Int32) (ws1 : List Value) (m1 : Nat) (t1_ : Addr) (mc_1 : Int32) (mc_2 : Int32) (a_0 : Addr) (a_1 : Addr) (a_2 : Addr) (a_3 : Addr) (a_4 : Addr) (a_5 : Addr) (a_6 : Addr) (a_7 : Addr) (a_8 : Addr) {p : Program} {e : Env} {s : State} {m : MethodId} {below : List Frame} {meth : Method} {c : Code} {T : State} {locs : List Loc} {h : Heap} {vm0 : Vm} {k0 : Nat} (X1 : Stand p l e room_1 (s.setVm vm0) m #[(.int p1), (.int p2), (.int p3), (.int p4)] below meth c T locs 16 200) (hx : p.tables.exec = Jvm.exec) (hby : c.code = code) (hlk : meth.locks = false) (hml : c.maxLocals = 16) (hret : meth.sig.returnType = ret) (hnm : meth.name = "law") (e1 : T.heap = h) (N1 : Fr n0 locs) (Zs1 : n0 ≤ h.size) (O1 : Old Z n0 h) (hS1 : s.Since vm0 k0) (hk1 : k0 ≤ h.size) (hZ1 : Z.Warmed39 (s.setVm vm0).vm) (hown1 : (s.setVm vm0).vm.findClass "com/example/affordance/affordance/FindingCountsTotalPinLaw" = some m.cls) (hEL : EW Z a0 own_EL) (C1 : CHr Z own_EL s.vm h0 vm0 h) (H_0 : Exa Z h a_1 "com/example/affordance/affordance/Finding") (H_1 : Exa Z h a_2 "com/example/affordance/affordance/Finding") (H_2 : Exa Z h a_3 "com/example/affordance/affordance/Finding") (H_3 : Fld Z h a_1 "com/example/affordance/affordance/Finding" "level" "Lcom/example/affordance/affordance/Level;" (.ref a_6)) (H_4 : Fld Z h a_2 "com/example/affordance/affordance/Finding" "level" "Lcom/example/affordance/affordance/Level;" (.ref a_7)) (H_5 : Fld Z h a_3 "com/example/affordance/affordance/Finding" "level" "Lcom/example/affordance/affordance/Level;" (.ref a_8)) (H_6 : Exa Z h a_4 "java/util/ArrayList") (H_7 : Fld Z h a_4 "java/util/AbstractList" "modCount" "I" (.int mc_1)) (H_8 : Exa Z h a_5 "java/util/ArrayList") (H_9 : Fld Z h a_5 "java/util/AbstractList" "modCount" "I" (.int mc_2)) (H_10 : Fld Z h a_5 "java/util/ArrayList" "size" "I" (.int (0 : Int32))) (H_11 : Fld Z h a_5 "java/util/ArrayList" "elementData" "[Ljava/lang/Object;" (.ref dc)) (ne_a_4_a_5 : a_4 ≠ a_5) (ge_a_1 : n0 ≤ a_1) (ge_a_2 : n0 ≤ a_2) (ge_a_3 : n0 ≤ a_3) (ge_a_4 : n0 ≤ a_4) (ge_a_5 : n0 ≤ a_5) (hin1 : own_in m1 ws1 a_1 a_2 a_3) (hz1 : ((0 : Nat) = m1 ∧ dc = t1_ ∧ (0 : Int32) = zz1) ∨ ((10 : Int32) = zz1 ∧ ws1.length = 10 ∧ n0 ≤ t1_ ∧ Ovr Z kk1 "java/lang/Object")) (hm1 : m1 ≤ 1) (Hs1 : Fld Z h a_4 "java/util/ArrayList" "size" "I" (.int (Int32.ofNat m1))) (He1 : Fld Z h a_4 "java/util/ArrayList" "elementData" "[Ljava/lang/Object;" (.ref t1_)) (Ha1 : Arv Z h t1_ kk1 (.object "java/lang/Object") zz1 ws1 .null) (hl_0 : own_lv Z a_6) (hl_1 : own_lv Z a_7) (hl_2 : own_lv Z a_8) :
    GoH p e below s room_1.cells room_1.slots Z own_EL h0 (Q0 Z p1 p2 p3 p4 mu sh ma dc kd vd vv kv vsv h0 n0) T (mkF m 108 #[.val (.int p1), .val (.int p2), .val (.int p3), .val (.int p4), .val (.ref a_0), .val (.ref a_1), .val (.ref a_2), .val (.ref a_3), .val (.ref a_4), .val (.ref a_5), .val (.int (Int32.ofNat m1)), .val (.int (0 : Int32)), .unset, .unset, .unset, .unset] []) := by
  show GoH _ _ _ _ _ _ _ _ _ _ T (mkF m 108 #[.val (.int p1), .val (.int p2), .val (.int p3), .val (.int p4), .val (.ref a_0), .val (.ref a_1), .val (.ref a_2), .val (.ref a_3), .val (.ref a_4), .val (.ref a_5), .val (.int (Int32.ofNat m1)), .val (.int (0 : Int32)), .unset, .unset, .unset, .unset] [])
  refine GoH.step (fun t_ k_ => XS.iloadN X1.here hx rfl (hb hby at_108) rfl k_) ?_
  show GoH _ _ _ _ _ _ _ _ _ _ T (mkF m 109 #[.val (.int p1), .val (.int p2), .val (.int p3), .val (.int p4), .val (.ref a_0), .val (.ref a_1), .val (.ref a_2), .val (.ref a_3), .val (.ref a_4), .val (.ref a_5), .val (.int (Int32.ofNat m1)), .val (.int (0 : Int32)), .unset, .unset, .unset, .unset] [(.int p4)])
  refine GoH.step (fun t_ k_ => XS.iconst X1.here hx rfl (hb hby at_109) k_) ?_
  show GoH _ _ _ _ _ _ _ _ _ _ T (mkF m 110 #[.val (.int p1), .val (.int p2), .val (.int p3), .val (.int p4), .val (.ref a_0), .val (.ref a_1), .val (.ref a_2), .val (.ref a_3), .val (.ref a_4), .val (.ref a_5), .val (.int (Int32.ofNat m1)), .val (.int (0 : Int32)), .unset, .unset, .unset, .unset] [(.int (2 : Int32)), (.int p4)])
  refine GoH.step (fun t_ k_ => XS.iand X1.here hx rfl (hb hby at_110) rfl k_) ?_
  show GoH _ _ _ _ _ _ _ _ _ _ T (mkF m 111 #[.val (.int p1), .val (.int p2), .val (.int p3), .val (.int p4), .val (.ref a_0), .val (.ref a_1), .val (.ref a_2), .val (.ref a_3), .val (.ref a_4), .val (.ref a_5), .val (.int (Int32.ofNat m1)), .val (.int (0 : Int32)), .unset, .unset, .unset, .unset] [(.int (p4 &&& (2 : Int32)))])
  by_cases hb111_20 : (p4 &&& (2 : Int32)) = (0 : Int32)
  · refine GoH.step (fun t_ k_ => XS.ifYes X1.here hx rfl (pc0 := 111) (pc' := 125) rfl (hb hby at_111) rfl (XT.i0_eq_t hb111_20) (by decide) (by decide) k_) ?_
    show GoH _ _ _ _ _ _ _ _ _ _ T (mkF m 125 #[.val (.int p1), .val (.int p2), .val (.int p3), .val (.int p4), .val (.ref a_0), .val (.ref a_1), .val (.ref a_2), .val (.ref a_3), .val (.ref a_4), .val (.ref a_5), .val (.int (Int32.ofNat m1)), .val (.int (0 : Int32)), .unset, .unset, .unset, .unset] [])
    show GoH _ _ _ _ _ _ _ _ _ _ T (mkF m 125 #[.val (.int p1), .val (.int p2), .val (.int p3), .val (.int p4), .val (.ref a_0), .val (.ref a_1), .val (.ref a_2), .val (.ref a_3), .val (.ref a_4), .val (.ref a_5), .val (.int (Int32.ofNat m1)), .val (.int (0 : Int32)), .unset, .unset, .unset, .unset] [])
    exact sg125_1 l Z a0 hw p1 p2 p3 p4 mu sh ma dc kd vd vv kv vsv h0 n0 Z0 O0 S_MUST S_SHOULD S_MAY L_MUST L_SHOULD L_MAY S_DC A_DC S_VV E_VV A_VV kk1 zz1 ((ws1)) m1 t1_ mc_1 mc_2 a_0 a_1 a_2 a_3 a_4 a_5 a_6 a_7 a_8 (X1.mono (by decide) (by decide)) hx hby hlk hml hret hnm e1 N1 Zs1 O1 hS1 hk1 hZ1 hown1 hEL C1 H_0 H_1 H_2 H_3 H_4 H_5 H_6 H_7 H_8 H_9 H_10 H_11 ne_a_4_a_5 ge_a_1 ge_a_2 ge_a_3 ge_a_4 ge_a_5 (hin1) (hz1) ((by omega)) (Hs1) (He1) (Ha1) (hl_0) (hl_1) (hl_2)
  · refine GoH.step (fun t_ k_ => XS.ifNo X1.here hx rfl (hb hby at_111) rfl (XT.i0_eq_f hb111_20) k_) ?_
    show GoH _ _ _ _ _ _ _ _ _ _ T (mkF m 114 #[.val (.int p1), .val (.int p2), .val (.int p3), .val (.int p4), .val (.ref a_0), .val (.ref a_1), .val (.ref a_2), .val (.ref a_3), .val (.ref a_4), .val (.ref a_5), .val (.int (Int32.ofNat m1)), .val (.int (0 : Int32)), .unset, .unset, .unset, .unset] [])
    refine GoH.step (fun t_ k_ => XS.aload X1.here hx rfl (hb hby at_114) rfl rfl k_) ?_
    show GoH _ _ _ _ _ _ _ _ _ _ T (mkF m 116 #[.val (.int p1), .val (.int p2), .val (.int p3), .val (.int p4), .val (.ref a_0), .val (.ref a_1), .val (.ref a_2), .val (.ref a_3), .val (.ref a_4), .val (.ref a_5), .val (.int (Int32.ofNat m1)), .val (.int (0 : Int32)), .unset, .unset, .unset, .unset] [(.ref a_4)])
    refine GoH.step (fun t_ k_ => XS.aload X1.here hx rfl (hb hby at_116) rfl rfl k_) ?_
    show GoH _ _ _ _ _ _ _ _ _ _ T (mkF m 118 #[.val (.int p1), .val (.int p2), .val (.int p3), .val (.int p4), .val (.ref a_0), .val (.ref a_1), .val (.ref a_2), .val (.ref a_3), .val (.ref a_4), .val (.ref a_5), .val (.int (Int32.ofNat m1)), .val (.int (0 : Int32)), .unset, .unset, .unset, .unset] [(.ref a_2), (.ref a_4)])
    rcases hz1 with ⟨hza42, hzb42, hzc42⟩ | ⟨hzd42, hvl42, hgt42, hov42⟩
    · subst hza42 hzb42 hzc42
      show GoH _ _ _ _ _ _ _ _ _ _ T (mkF m 118 #[.val (.int p1), .val (.int p2), .val (.int p3), .val (.int p4), .val (.ref a_0), .val (.ref a_1), .val (.ref a_2), .val (.ref a_3), .val (.ref a_4), .val (.ref a_5), .val (.int (0 : Int32)), .val (.int (0 : Int32)), .unset, .unset, .unset, .unset] [(.ref a_2), (.ref a_4)])
      obtain ⟨cq43, kq43, qa43, qb43, qc43⟩ := isOf hZ1 e1 H_6
      obtain ⟨_, _, ⟨T43, L43, k43, n43⟩, -, X43, ⟨Lc43, hQ43, l43, y43, z43⟩, st43⟩ := X1.virtualBack hx (y := (⟨"java/util/ArrayList", "add", "(Ljava/lang/Object;)Z"⟩ : MethodName)) (z := (⟨"java/util/ArrayList", "add", "(Ljava/lang/Object;)Z"⟩ : MethodName)) hown1 (mvT hZ1 (hw _ (List.mem_of_getElem? (i := 90) rfl))) (mvT hZ1 (hw _ (List.mem_of_getElem? (i := 91) rfl))) (notFace_of_selects (args := #[]) (mvT hZ1 (hw _ (List.mem_of_getElem? (i := 93) rfl)))) (mvT hZ1 (hw _ (List.mem_of_getElem? (i := 93) rfl))) (mvT hZ1 (hw _ (List.mem_of_getElem? (i := 92) rfl))) (by decide) (backOf (W := 0) (rmAdA l Z a0 hw [] a_4 a_2 dc kk1 ws1 mc_1 h n0 Zs1 O1 S_DC ge_a_4 H_6 H_7 Hs1 He1 Ha1 H_1) hZ1 (hw _ (List.mem_of_getElem? (i := 94) rfl)) (hw _ (List.mem_of_getElem? (i := 68) rfl)) (by decide) (by decide)) qa43 qc43 (g := (mkF m 118 #[.val (.int p1), .val (.int p2), .val (.int p3), .val (.int p4), .val (.ref a_0), .val (.ref a_1), .val (.ref a_2), .val (.ref a_3), .val (.ref a_4), .val (.ref a_5), .val (.int (0 : Int32)), .val (.int (0 : Int32)), .unset, .unset, .unset, .unset] [(.ref a_2), (.ref a_4)])) rfl (by rw [hml]; rfl) (Steps.refl _) (argsL := [(.ref a_2)]) (rest := []) (lenOf pd_18 rfl) rfl (by show 2 * 0 + _ ≤ _; exact Nat.le_of_eq rfl) (hb hby at_118) (fun _ _ => ⟨rfl, e1, (by decide : 16 + 1 ≤ _), (by decide : 200 + 10 ≤ _)⟩)
      dsimp only [Pt.U, Pt.locs, Pt.cells, Pt.slots] at X43 l43 y43 z43 st43 hQ43
      subst l43 y43 z43
      obtain ⟨rfl, N43q, Kq43, tg43, kg43, gq43, gh43, Eq43, Fa43, Fb43, Fc43, Aq43, Oq43⟩ := hQ43
      have N43 := Fr.app N1 N43q
      have ne_a_1_tg43 : a_1 ≠ tg43 := Nat.ne_of_lt (Nat.lt_of_lt_of_le H_0.lt gh43)
      have ne_a_2_tg43 : a_2 ≠ tg43 := Nat.ne_of_lt (Nat.lt_of_lt_of_le H_1.lt gh43)
      have ne_a_3_tg43 : a_3 ≠ tg43 := Nat.ne_of_lt (Nat.lt_of_lt_of_le H_2.lt gh43)
      have ne_a_4_tg43 : a_4 ≠ tg43 := Nat.ne_of_lt (Nat.lt_of_lt_of_le H_6.lt gh43)
      have ne_a_5_tg43 : a_5 ≠ tg43 := Nat.ne_of_lt (Nat.lt_of_lt_of_le H_8.lt gh43)
      have ne_dc_tg43 : dc ≠ tg43 := Nat.ne_of_lt (Nat.lt_of_lt_of_le Ha1.lt gh43)
      have f43_0 : Exa Z T43.heap a_1 "com/example/affordance/affordance/Finding" := (H_0.keep Kq43)
      have f43_1 : Exa Z T43.heap a_2 "com/example/affordance/affordance/Finding" := (H_1.keep Kq43)
      have f43_2 : Exa Z T43.heap a_3 "com/example/affordance/affordance/Finding" := (H_2.keep Kq43)
      have f43_3 : Fld Z T43.heap a_1 "com/example/affordance/affordance/Finding" "level" "Lcom/example/affordance/affordance/Level;" (.ref a_6) := (H_3.keep Kq43 (ninS (ne_exa H_0 H_6 (by decide)) nin0))
      have f43_4 : Fld Z T43.heap a_2 "com/example/affordance/affordance/Finding" "level" "Lcom/example/affordance/affordance/Level;" (.ref a_7) := (H_4.keep Kq43 (ninS (ne_exa H_1 H_6 (by decide)) nin0))
      have f43_5 : Fld Z T43.heap a_3 "com/example/affordance/affordance/Finding" "level" "Lcom/example/affordance/affordance/Level;" (.ref a_8) := (H_5.keep Kq43 (ninS (ne_exa H_2 H_6 (by decide)) nin0))
      have f43_6 : Exa Z T43.heap a_5 "java/util/ArrayList" := (H_8.keep Kq43)
      have f43_7 : Fld Z T43.heap a_5 "java/util/AbstractList" "modCount" "I" (.int mc_2) := (H_9.keep Kq43 (ninS (Ne.symm ne_a_4_a_5) nin0))
      have f43_8 : Fld Z T43.heap a_5 "java/util/ArrayList" "size" "I" (.int (0 : Int32)) := (H_10.keep Kq43 (ninS (Ne.symm ne_a_4_a_5) nin0))
      have f43_9 : Fld Z T43.heap a_5 "java/util/ArrayList" "elementData" "[Ljava/lang/Object;" (.ref dc) := (H_11.keep Kq43 (ninS (Ne.symm ne_a_4_a_5) nin0))
      have f43_15 : Arv Z T43.heap dc kk1 (.object "java/lang/Object") (0 : Int32) ws1 .null := (Ha1.keep Kq43 (ninS (Ne.symm (own_ne_arv H_6 (hw _ (List.mem_of_getElem? (i := 67) rfl)) Ha1)) nin0))
      have f43_16 : Exa Z T43.heap a_4 "java/util/ArrayList" := Eq43
      have f43_17 : Fld Z T43.heap a_4 "java/util/AbstractList" "modCount" "I" (.int (mc_1 + (1 : Int32))) := Fa43
      have f43_18 : Fld Z T43.heap a_4 "java/util/ArrayList" "size" "I" (.int (1 : Int32)) := Fb43
      have f43_19 : Fld Z T43.heap a_4 "java/util/ArrayList" "elementData" "[Ljava/lang/Object;" (.ref tg43) := Fc43
      have f43_20 : Arv Z T43.heap tg43 kg43 (.object "java/lang/Object") (10 : Int32) [(.ref a_2), Value.null, Value.null, Value.null, Value.null, Value.null, Value.null, Value.null, Value.null, Value.null] .null := Aq43
      have sfk43 : ∀ x ∈ ([a_4] : List Addr), Safe Z own_EL vm0 h x := (sfS (Safe.exa hZ1.alike H_6 (by decide) (by decide)) sf0)
      have hk43 : _ ≤ T43.heap.size := Nat.le_trans hk1 Kq43.1
      have C43 : CHr Z own_EL s.vm h0 vm0 T43.heap := C1.trans (CHr.keep Kq43 sfk43 C1.1)
      have Zs43 : n0 ≤ T43.heap.size := (Nat.le_trans Zs1 Kq43.1)
      have O43 : Old Z n0 T43.heap := O1.keep Kq43 (allS ge_a_4 all0)
      refine GoH.step (fun t_ k_ => st43.trans k_) ?_
      show GoH _ _ _ _ _ _ _ _ _ _ T43 (mkF m 121 #[.val (.int p1), .val (.int p2), .val (.int p3), .val (.int p4), .val (.ref a_0), .val (.ref a_1), .val (.ref a_2), .val (.ref a_3), .val (.ref a_4), .val (.ref a_5), .val (.int (0 : Int32)), .val (.int (0 : Int32)), .unset, .unset, .unset, .unset] [(.int (1 : Int32))])
      refine GoH.step (fun t_ k_ => XT.pop X43.here hx rfl (hb hby at_121) rfl rfl k_) ?_
      show GoH _ _ _ _ _ _ _ _ _ _ T43 (mkF m 122 #[.val (.int p1), .val (.int p2), .val (.int p3), .val (.int p4), .val (.ref a_0), .val (.ref a_1), .val (.ref a_2), .val (.ref a_3), .val (.ref a_4), .val (.ref a_5), .val (.int (0 : Int32)), .val (.int (0 : Int32)), .unset, .unset, .unset, .unset] [])
      refine GoH.step (fun t_ k_ => XS.iinc X43.here hx rfl (hb hby at_122) rfl (l' := #[.val (.int p1), .val (.int p2), .val (.int p3), .val (.int p4), .val (.ref a_0), .val (.ref a_1), .val (.ref a_2), .val (.ref a_3), .val (.ref a_4), .val (.ref a_5), .val (.int (1 : Int32)), .val (.int (0 : Int32)), .unset, .unset, .unset, .unset]) rfl k_) ?_
      show GoH _ _ _ _ _ _ _ _ _ _ T43 (mkF m 125 #[.val (.int p1), .val (.int p2), .val (.int p3), .val (.int p4), .val (.ref a_0), .val (.ref a_1), .val (.ref a_2), .val (.ref a_3), .val (.ref a_4), .val (.ref a_5), .val (.int (1 : Int32)), .val (.int (0 : Int32)), .unset, .unset, .unset, .unset] [])
      show GoH _ _ _ _ _ _ _ _ _ _ T43 (mkF m 125 #[.val (.int p1), .val (.int p2), .val (.int p3), .val (.int p4), .val (.ref a_0), .val (.ref a_1), .val (.ref a_2), .val (.ref a_3), .val (.ref a_4), .val (.ref a_5), .val (.int (Int32.ofNat 1)), .val (.int (0 : Int32)), .unset, .unset, .unset, .unset] [])
      exact sg125_1 l Z a0 hw p1 p2 p3 p4 mu sh ma dc kd vd vv kv vsv h0 n0 Z0 O0 S_MUST S_SHOULD S_MAY L_MUST L_SHOULD L_MAY S_DC A_DC S_VV E_VV A_VV kg43 ((10 : Int32)) (([(.ref a_2), Value.null, Value.null, Value.null, Value.null, Value.null, Value.null, Value.null, Value.null, Value.null])) 1 tg43 (((mc_1 + (1 : Int32)))) mc_2 a_0 a_1 a_2 a_3 a_4 a_5 a_6 a_7 a_8 (X43.mono (by decide) (by decide)) hx hby hlk hml hret hnm rfl N43 Zs43 O43 hS1 hk43 hZ1 hown1 hEL C43 f43_0 f43_1 f43_2 f43_3 f43_4 f43_5 f43_16 f43_17 f43_6 f43_7 f43_8 f43_9 ne_a_4_a_5 ge_a_1 ge_a_2 ge_a_3 ge_a_4 ge_a_5 ((own_in_set (n := 0) (vs := [Value.null, Value.null, Value.null, Value.null, Value.null, Value.null, Value.null, Value.null, Value.null, Value.null]) own_in0 (by decide) (Or.inr (Or.inl rfl)))) ((Or.inr ⟨rfl, rfl, gq43, Oq43⟩)) ((by omega)) (f43_18) (f43_19) (f43_20) (hl_0) (hl_1) (hl_2)
    · subst hzd42
      obtain ⟨cq44, kq44, qa44, qb44, qc44⟩ := isOf hZ1 e1 H_6
      obtain ⟨_, _, ⟨T44, L44, k44, n44⟩, -, X44, ⟨Lc44, hQ44, l44, y44, z44⟩, st44⟩ := X1.virtualBack hx (y := (⟨"java/util/ArrayList", "add", "(Ljava/lang/Object;)Z"⟩ : MethodName)) (z := (⟨"java/util/ArrayList", "add", "(Ljava/lang/Object;)Z"⟩ : MethodName)) hown1 (mvT hZ1 (hw _ (List.mem_of_getElem? (i := 90) rfl))) (mvT hZ1 (hw _ (List.mem_of_getElem? (i := 91) rfl))) (notFace_of_selects (args := #[]) (mvT hZ1 (hw _ (List.mem_of_getElem? (i := 93) rfl)))) (mvT hZ1 (hw _ (List.mem_of_getElem? (i := 93) rfl))) (mvT hZ1 (hw _ (List.mem_of_getElem? (i := 92) rfl))) (by decide) (backOf (W := 0) (rmAdB l Z a0 hw [] a_4 a_2 t1_ kk1 ws1 m1 mc_1 h n0 Zs1 ge_a_4 hgt42 H_6 H_7 Hs1 He1 Ha1 hov42 hvl42 (by omega) H_1) hZ1 (hw _ (List.mem_of_getElem? (i := 94) rfl)) (hw _ (List.mem_of_getElem? (i := 68) rfl)) (by decide) (by decide)) qa44 qc44 (g := (mkF m 118 #[.val (.int p1), .val (.int p2), .val (.int p3), .val (.int p4), .val (.ref a_0), .val (.ref a_1), .val (.ref a_2), .val (.ref a_3), .val (.ref a_4), .val (.ref a_5), .val (.int (Int32.ofNat m1)), .val (.int (0 : Int32)), .unset, .unset, .unset, .unset] [(.ref a_2), (.ref a_4)])) rfl (by rw [hml]; rfl) (Steps.refl _) (argsL := [(.ref a_2)]) (rest := []) (lenOf pd_18 rfl) rfl (by show 2 * 0 + _ ≤ _; exact Nat.le_of_eq rfl) (hb hby at_118) (fun _ _ => ⟨rfl, e1, (by decide : 16 + 0 ≤ _), (by decide : 200 + 0 ≤ _)⟩)
      dsimp only [Pt.U, Pt.locs, Pt.cells, Pt.slots] at X44 l44 y44 z44 st44 hQ44
      subst l44 y44 z44
      obtain ⟨rfl, N44q, Kq44, Eq44, Fa44, Fb44, Fc44, Aq44⟩ := hQ44
      have N44 := Fr.app N1 N44q
      have f44_0 : Exa Z T44.heap a_1 "com/example/affordance/affordance/Finding" := (H_0.keep Kq44)
      have f44_1 : Exa Z T44.heap a_2 "com/example/affordance/affordance/Finding" := (H_1.keep Kq44)
      have f44_2 : Exa Z T44.heap a_3 "com/example/affordance/affordance/Finding" := (H_2.keep Kq44)
      have f44_3 : Fld Z T44.heap a_1 "com/example/affordance/affordance/Finding" "level" "Lcom/example/affordance/affordance/Level;" (.ref a_6) := (H_3.keep Kq44 (ninS (ne_exa H_0 H_6 (by decide)) (ninS (own_ne_arv H_0 (hw _ (List.mem_of_getElem? (i := 25) rfl)) Ha1) nin0)))
      have f44_4 : Fld Z T44.heap a_2 "com/example/affordance/affordance/Finding" "level" "Lcom/example/affordance/affordance/Level;" (.ref a_7) := (H_4.keep Kq44 (ninS (ne_exa H_1 H_6 (by decide)) (ninS (own_ne_arv H_1 (hw _ (List.mem_of_getElem? (i := 25) rfl)) Ha1) nin0)))
      have f44_5 : Fld Z T44.heap a_3 "com/example/affordance/affordance/Finding" "level" "Lcom/example/affordance/affordance/Level;" (.ref a_8) := (H_5.keep Kq44 (ninS (ne_exa H_2 H_6 (by decide)) (ninS (own_ne_arv H_2 (hw _ (List.mem_of_getElem? (i := 25) rfl)) Ha1) nin0)))
      have f44_6 : Exa Z T44.heap a_5 "java/util/ArrayList" := (H_8.keep Kq44)
      have f44_7 : Fld Z T44.heap a_5 "java/util/AbstractList" "modCount" "I" (.int mc_2) := (H_9.keep Kq44 (ninS (Ne.symm ne_a_4_a_5) (ninS (own_ne_arv H_8 (hw _ (List.mem_of_getElem? (i := 67) rfl)) Ha1) nin0)))
      have f44_8 : Fld Z T44.heap a_5 "java/util/ArrayList" "size" "I" (.int (0 : Int32)) := (H_10.keep Kq44 (ninS (Ne.symm ne_a_4_a_5) (ninS (own_ne_arv H_8 (hw _ (List.mem_of_getElem? (i := 67) rfl)) Ha1) nin0)))
      have f44_9 : Fld Z T44.heap a_5 "java/util/ArrayList" "elementData" "[Ljava/lang/Object;" (.ref dc) := (H_11.keep Kq44 (ninS (Ne.symm ne_a_4_a_5) (ninS (own_ne_arv H_8 (hw _ (List.mem_of_getElem? (i := 67) rfl)) Ha1) nin0)))
      have f44_15 : Exa Z T44.heap a_4 "java/util/ArrayList" := Eq44
      have f44_16 : Fld Z T44.heap a_4 "java/util/AbstractList" "modCount" "I" (.int (mc_1 + (1 : Int32))) := Fa44
      have f44_17 : Fld Z T44.heap a_4 "java/util/ArrayList" "size" "I" (.int (Int32.ofNat (m1 + 1))) := Fb44
      have f44_18 : Fld Z T44.heap a_4 "java/util/ArrayList" "elementData" "[Ljava/lang/Object;" (.ref t1_) := Fc44
      have f44_19 : Arv Z T44.heap t1_ kk1 (.object "java/lang/Object") (10 : Int32) (ws1.set m1 (.ref a_2)) .null := Aq44
      have sfk44 : ∀ x ∈ ([a_4, t1_] : List Addr), Safe Z own_EL vm0 h x := (sfS (Safe.exa hZ1.alike H_6 (by decide) (by decide)) (sfS (Safe.arv hZ1.alike Ha1 (by decide)) sf0))
      have hk44 : _ ≤ T44.heap.size := Nat.le_trans hk1 Kq44.1
      have C44 : CHr Z own_EL s.vm h0 vm0 T44.heap := C1.trans (CHr.keep Kq44 sfk44 C1.1)
      have Zs44 : n0 ≤ T44.heap.size := (Nat.le_trans Zs1 Kq44.1)
      have O44 : Old Z n0 T44.heap := O1.keep Kq44 (allS ge_a_4 (allS hgt42 all0))
      refine GoH.step (fun t_ k_ => st44.trans k_) ?_
      show GoH _ _ _ _ _ _ _ _ _ _ T44 (mkF m 121 #[.val (.int p1), .val (.int p2), .val (.int p3), .val (.int p4), .val (.ref a_0), .val (.ref a_1), .val (.ref a_2), .val (.ref a_3), .val (.ref a_4), .val (.ref a_5), .val (.int (Int32.ofNat m1)), .val (.int (0 : Int32)), .unset, .unset, .unset, .unset] [(.int (1 : Int32))])
      refine GoH.step (fun t_ k_ => XT.pop X44.here hx rfl (hb hby at_121) rfl rfl k_) ?_
      show GoH _ _ _ _ _ _ _ _ _ _ T44 (mkF m 122 #[.val (.int p1), .val (.int p2), .val (.int p3), .val (.int p4), .val (.ref a_0), .val (.ref a_1), .val (.ref a_2), .val (.ref a_3), .val (.ref a_4), .val (.ref a_5), .val (.int (Int32.ofNat m1)), .val (.int (0 : Int32)), .unset, .unset, .unset, .unset] [])
      refine GoH.step (fun t_ k_ => XS.iinc X44.here hx rfl (hb hby at_122) rfl (l' := #[.val (.int p1), .val (.int p2), .val (.int p3), .val (.int p4), .val (.ref a_0), .val (.ref a_1), .val (.ref a_2), .val (.ref a_3), .val (.ref a_4), .val (.ref a_5), .val (.int ((Int32.ofNat m1) + (1 : Int32))), .val (.int (0 : Int32)), .unset, .unset, .unset, .unset]) rfl k_) ?_
      show GoH _ _ _ _ _ _ _ _ _ _ T44 (mkF m 125 #[.val (.int p1), .val (.int p2), .val (.int p3), .val (.int p4), .val (.ref a_0), .val (.ref a_1), .val (.ref a_2), .val (.ref a_3), .val (.ref a_4), .val (.ref a_5), .val (.int ((Int32.ofNat m1) + (1 : Int32))), .val (.int (0 : Int32)), .unset, .unset, .unset, .unset] [])
      rw [show ((Int32.ofNat m1) + (1 : Int32)) = (Int32.ofNat (m1 + 1)) from (inc_ofNat _).symm]
      show GoH _ _ _ _ _ _ _ _ _ _ T44 (mkF m 125 #[.val (.int p1), .val (.int p2), .val (.int p3), .val (.int p4), .val (.ref a_0), .val (.ref a_1), .val (.ref a_2), .val (.ref a_3), .val (.ref a_4), .val (.ref a_5), .val (.int (Int32.ofNat (m1 + 1))), .val (.int (0 : Int32)), .unset, .unset, .unset, .unset] [])
      exact sg125_1 l Z a0 hw p1 p2 p3 p4 mu sh ma dc kd vd vv kv vsv h0 n0 Z0 O0 S_MUST S_SHOULD S_MAY L_MUST L_SHOULD L_MAY S_DC A_DC S_VV E_VV A_VV kk1 ((10 : Int32)) (((ws1.set m1 (.ref a_2)))) ((m1 + 1)) t1_ (((mc_1 + (1 : Int32)))) mc_2 a_0 a_1 a_2 a_3 a_4 a_5 a_6 a_7 a_8 (X44.mono (by decide) (by decide)) hx hby hlk hml hret hnm rfl N44 Zs44 O44 hS1 hk44 hZ1 hown1 hEL C44 f44_0 f44_1 f44_2 f44_3 f44_4 f44_5 f44_15 f44_16 f44_6 f44_7 f44_8 f44_9 ne_a_4_a_5 ge_a_1 ge_a_2 ge_a_3 ge_a_4 ge_a_5 ((own_in_set hin1 (by rw [hvl42]; omega) (Or.inr (Or.inl rfl)))) ((Or.inr ⟨rfl, (by rw [List.length_set]; exact hvl42), hgt42, hov42⟩)) ((by omega)) (f44_17) (f44_18) (f44_19) (hl_0) (hl_1) (hl_2)
set_option maxRecDepth 65536 in
set_option maxHeartbeats 40000000 in
theorem rm0 (l : Launch) (Z : State) (a0 : Array Value) (hw : ∀ d ∈ tables_1, d.before a0 Z = true) (ws : List Jvm.Cond) (p1 : Int32) (p2 : Int32) (p3 : Int32) (p4 : Int32) (mu : Addr) (sh : Addr) (ma : Addr) (dc : Addr) (kd : ClassId) (vd : List Value) (vv : Addr) (kv : ClassId) (vsv : List Value) (h0 : Heap) (n0 : Nat) (Z0 : n0 ≤ h0.size) (O0 : Old Z n0 h0) (S_MUST : Sta Z Z.heap "com/example/affordance/affordance/Level" "MUST" "Lcom/example/affordance/affordance/Level;" (.ref mu)) (S_SHOULD : Sta Z Z.heap "com/example/affordance/affordance/Level" "SHOULD" "Lcom/example/affordance/affordance/Level;" (.ref sh)) (S_MAY : Sta Z Z.heap "com/example/affordance/affordance/Level" "MAY" "Lcom/example/affordance/affordance/Level;" (.ref ma)) (L_MUST : own_lv Z mu) (L_SHOULD : own_lv Z sh) (L_MAY : own_lv Z ma) (S_DC : Sta Z Z.heap "java/util/ArrayList" "DEFAULTCAPACITY_EMPTY_ELEMENTDATA" "[Ljava/lang/Object;" (.ref dc)) (A_DC : Arv Z Z.heap dc kd (.object "java/lang/Object") (0 : Int32) vd .null) (S_VV : Sta Z Z.heap "com/example/affordance/affordance/Level" "$VALUES" "[Lcom/example/affordance/affordance/Level;" (.ref vv)) (E_VV : Exa Z Z.heap vv "[Lcom/example/affordance/affordance/Level;") (A_VV : Arv Z Z.heap vv kv (.object "com/example/affordance/affordance/Level") (3 : Int32) vsv .null) :
    MetFree l x (head1 (Jvm.Cond.code x code maxLocals ret :: ws) room_1) (fun a U => a = #[(.int p1), (.int p2), (.int p3), (.int p4)] ∧ Z.Warmed39 U.vm ∧ U.heap = h0 ∧ CHv Z own_EL U.vm h0) (fun _ _ _ _ _ => True) (fun _ U o U' => ∃ v L, o = .returned v ∧ Q0 Z p1 p2 p3 p4 mu sh ma dc kd vd vv kv vsv h0 n0 v U'.heap L ∧ CHr Z own_EL U.vm U.heap U'.vm U'.heap ∧ ReturnedEndW U o U' L room_1.cells room_1.slots) := by
  refine MetFree.of_bodySF (plainFor_of_name pn_3) hisR ?_
  intro p e s m args below meth c s₁ Bd hml0 hP hK
  obtain ⟨rfl, hZ0, hh, hCH⟩ := hP
  have hx := Bd.exec
  have hby := Bd.bytes
  have hlk := BodyLoose.notSynchronized Bd
  have hml : c.maxLocals = 16 := hml0
  have hret := Bd.returns
  have hown0 : (s.setVm s.vm).vm.findClass "com/example/affordance/affordance/FindingCountsTotalPinLaw" = some m.cls := findClass_of_methodNamed Bd.named
  have hnm := (name_of_methodNamed Bd.named Bd.method).1
  have X0 : Stand p l e room_1 (s.setVm s.vm) m #[(.int p1), (.int p2), (.int p3), (.int p4)] below meth c s₁ [] 0 0 := Stand.of_body Bd
  have hZ0 : Z.Warmed39 (s.setVm s.vm).vm := hZ0
  have hEL : EW Z a0 own_EL := own_EW hw
  have hS0 : s.Since s.vm h0.size := (State.WarmedH.refl s).since _
  have hk0 : h0.size ≤ h0.size := Nat.le_refl _
  have C0 : CHr Z own_EL s.vm h0 s.vm h0 := CHr.refl hCH
  have e0 : s₁.heap = h0 := by rw [← hh, Bd.state]; rfl
  have N0 := Fr.nil n0
  show GoH p e below s room_1.cells room_1.slots Z own_EL s.heap (Q0 Z p1 p2 p3 p4 mu sh ma dc kd vd vv kv vsv h0 n0) s₁ (entryFrame m #[(.int p1), (.int p2), (.int p3), (.int p4)] maxLocals)
  rw [hh]
  refine GoH.cast (ef_rm0 m p1 p2 p3 p4) ?_
  show GoH _ _ _ _ _ _ _ _ _ _ s₁ (mkF m 0 #[.val (.int p1), .val (.int p2), .val (.int p3), .val (.int p4), .unset, .unset, .unset, .unset, .unset, .unset, .unset, .unset, .unset, .unset, .unset, .unset] [])
  obtain ⟨lt1, T1, h1, kk1, X1, e1, E1, hS1, hk1, hZ1, hown1, CHq1, -, st1⟩ := ldcOH X0 hx hZ0 hown0 (hw _ (List.mem_of_getElem? (i := 0) rfl)) (own_SA hw) e0 hS0 hk0 hEL C0.1 (g := (mkF m 0 #[.val (.int p1), .val (.int p2), .val (.int p3), .val (.int p4), .unset, .unset, .unset, .unset, .unset, .unset, .unset, .unset, .unset, .unset, .unset, .unset] [])) rfl (hb hby at_0) (n := 4) (by decide) (by decide) (by decide) (by decide)
  have CC1 : CHr Z own_EL s.vm h0 T1.vm h1 := C0.trans CHq1
  have Zs1 : n0 ≤ h1.size := (Nat.le_trans Z0 E1.1)
  have O1 : Old Z n0 h1 := O0.ext E1
  refine GoH.step st1 ?_
  show GoH _ _ _ _ _ _ _ _ _ _ T1 (mkF m 2 #[.val (.int p1), .val (.int p2), .val (.int p3), .val (.int p4), .unset, .unset, .unset, .unset, .unset, .unset, .unset, .unset, .unset, .unset, .unset, .unset] [(.ref lt1)])
  obtain ⟨_, _, ⟨T2, L2, k2, n2⟩, -, X2, ⟨Lc2, hQ2, l2, y2, z2⟩, st2⟩ := Jvm.LawKit.callS X1 hx (y := (⟨"com/example/affordance/affordance/Message", "of", "(Ljava/lang/String;)Lcom/example/affordance/affordance/Message;"⟩ : MethodName)) hown1 (mvT hZ1 (hw _ (List.mem_of_getElem? (i := 8) rfl))) (mvT hZ1 (hw _ (List.mem_of_getElem? (i := 9) rfl))) (mvT hZ1 (hw _ (List.mem_of_getElem? (i := 10) rfl))) (mvT hZ1 (hw _ (List.mem_of_getElem? (i := 11) rfl))) (by decide) (backOf (W := 0) (rmOf l Z a0 hw [] lt1 h1 n0 Zs1 ) hZ1 (hw _ (List.mem_of_getElem? (i := 11) rfl)) (hw _ (List.mem_of_getElem? (i := 10) rfl)) (by decide) (by decide)) (g := (mkF m 2 #[.val (.int p1), .val (.int p2), .val (.int p3), .val (.int p4), .unset, .unset, .unset, .unset, .unset, .unset, .unset, .unset, .unset, .unset, .unset, .unset] [(.ref lt1)])) rfl (by rw [hml]; rfl) (argsL := [(.ref lt1)]) (rest := []) (lenOf pd_14 rfl) rfl (by show 2 * 0 + _ ≤ _; exact Nat.le_of_eq rfl) (hb hby at_2) (fun _ _ => ⟨rfl, e1, (by decide : 0 + 2 + 1 ≤ _), (by decide : 0 + (4 + 4) + 2 ≤ _)⟩)
  dsimp only [Pt.U, Pt.locs, Pt.cells, Pt.slots] at X2 l2 y2 z2 st2 hQ2
  subst l2 y2 z2
  obtain ⟨ms2, rfl, N2q, Kq2, gq2, Eq2, Fa2, Fb2⟩ := hQ2
  have N2 := Fr.app N0 N2q
  have f2_5 : Exa Z T2.heap ms2 "com/example/affordance/affordance/Message" := Eq2
  have f2_6 : Fld Z T2.heap ms2 "com/example/affordance/affordance/Message" "quoted" "Ljava/lang/String;" .null := Fa2
  have f2_7 : Fld Z T2.heap ms2 "com/example/affordance/affordance/Message" "rest" "Ljava/lang/String;" (.ref lt1) := Fb2
  have sfk2 : ∀ x ∈ ([] : List Addr), Safe Z own_EL T1.vm h1 x := sf0
  have hk2 : _ ≤ T2.heap.size := Nat.le_trans hk1 Kq2.1
  have C2 : CHr Z own_EL s.vm h0 T1.vm T2.heap := CC1.trans (CHr.keep Kq2 sfk2 CC1.1)
  have Zs2 : n0 ≤ T2.heap.size := (Nat.le_trans Zs1 Kq2.1)
  have O2 : Old Z n0 T2.heap := O1.keep Kq2 all0
  refine GoH.step st2 ?_
  show GoH _ _ _ _ _ _ _ _ _ _ T2 (mkF m 5 #[.val (.int p1), .val (.int p2), .val (.int p3), .val (.int p4), .unset, .unset, .unset, .unset, .unset, .unset, .unset, .unset, .unset, .unset, .unset, .unset] [(.ref ms2)])
  refine GoH.step (fun t_ k_ => XS.astore X2.here hx rfl (hb hby at_5) rfl rfl (l' := #[.val (.int p1), .val (.int p2), .val (.int p3), .val (.int p4), .val (.ref ms2), .unset, .unset, .unset, .unset, .unset, .unset, .unset, .unset, .unset, .unset, .unset]) rfl k_) ?_
  show GoH _ _ _ _ _ _ _ _ _ _ T2 (mkF m 7 #[.val (.int p1), .val (.int p2), .val (.int p3), .val (.int p4), .val (.ref ms2), .unset, .unset, .unset, .unset, .unset, .unset, .unset, .unset, .unset, .unset, .unset] [])
  obtain ⟨T3, h3, X3, e3, E3, A3, D3, -, st3⟩ := newO X2 hx hZ1 hown1 (hw _ (List.mem_of_getElem? (i := 24) rfl)) (hw _ (List.mem_of_getElem? (i := 25) rfl)) (hw _ (List.mem_of_getElem? (i := 26) rfl)) rfl (g := (mkF m 7 #[.val (.int p1), .val (.int p2), .val (.int p3), .val (.int p4), .val (.ref ms2), .unset, .unset, .unset, .unset, .unset, .unset, .unset, .unset, .unset, .unset, .unset] [])) rfl (hb hby at_7) (by decide) (by decide)
  obtain ⟨o3, g3⟩ : ∃ z, z = T2.heap.size := ⟨_, rfl⟩
  rw [← g3] at A3 D3 st3
  have ne_ms2_o3 : ms2 ≠ o3 := Nat.ne_of_lt (Nat.lt_of_lt_of_le f2_5.lt (Nat.le_of_eq g3.symm))
  have ge_o3 : n0 ≤ o3 := Nat.le_trans Zs2 (Nat.le_of_eq g3.symm)
  have f3_5 : Exa Z h3 ms2 "com/example/affordance/affordance/Message" := (f2_5.ext E3)
  have f3_6 : Fld Z h3 ms2 "com/example/affordance/affordance/Message" "quoted" "Ljava/lang/String;" .null := (f2_6.ext E3)
  have f3_7 : Fld Z h3 ms2 "com/example/affordance/affordance/Message" "rest" "Ljava/lang/String;" (.ref lt1) := (f2_7.ext E3)
  have f3_8 : Exa Z h3 o3 "com/example/affordance/affordance/Finding" := A3
  have f3_9 : Fld Z h3 o3 "com/example/affordance/affordance/Finding" "line" "I" (.int (0 : Int32)) := (D3 (Or.inr (hw _ (List.mem_of_getElem? (i := 41) rfl))) (ty := .int) (by decide))
  have f3_10 : Fld Z h3 o3 "com/example/affordance/affordance/Finding" "column" "I" (.int (0 : Int32)) := (D3 (Or.inr (hw _ (List.mem_of_getElem? (i := 43) rfl))) (ty := .int) (by decide))
  have f3_11 : Fld Z h3 o3 "com/example/affordance/affordance/Finding" "pointer" "Lcom/example/affordance/affordance/JsonPointer;" .null := (D3 (Or.inr (hw _ (List.mem_of_getElem? (i := 45) rfl))) (ty := (.object "com/example/affordance/affordance/JsonPointer")) (by decide))
  have f3_12 : Fld Z h3 o3 "com/example/affordance/affordance/Finding" "level" "Lcom/example/affordance/affordance/Level;" .null := (D3 (Or.inr (hw _ (List.mem_of_getElem? (i := 47) rfl))) (ty := (.object "com/example/affordance/affordance/Level")) (by decide))
  have f3_13 : Fld Z h3 o3 "com/example/affordance/affordance/Finding" "rule" "Ljava/lang/String;" .null := (D3 (Or.inr (hw _ (List.mem_of_getElem? (i := 49) rfl))) (ty := (.object "java/lang/String")) (by decide))
  have f3_14 : Fld Z h3 o3 "com/example/affordance/affordance/Finding" "quoted" "Ljava/lang/String;" .null := (D3 (Or.inr (hw _ (List.mem_of_getElem? (i := 56) rfl))) (ty := (.object "java/lang/String")) (by decide))
  have f3_15 : Fld Z h3 o3 "com/example/affordance/affordance/Finding" "rest" "Ljava/lang/String;" .null := (D3 (Or.inr (hw _ (List.mem_of_getElem? (i := 63) rfl))) (ty := (.object "java/lang/String")) (by decide))
  have hk3 : _ ≤ h3.size := Nat.le_trans hk2 E3.1
  have C3 : CHr Z own_EL s.vm h0 T1.vm h3 := C2.trans (CHr.ext E3 C2.1)
  have Zs3 : n0 ≤ h3.size := (Nat.le_trans Zs2 E3.1)
  have O3 : Old Z n0 h3 := O2.ext E3
  refine GoH.step st3 ?_
  show GoH _ _ _ _ _ _ _ _ _ _ T3 (mkF m 10 #[.val (.int p1), .val (.int p2), .val (.int p3), .val (.int p4), .val (.ref ms2), .unset, .unset, .unset, .unset, .unset, .unset, .unset, .unset, .unset, .unset, .unset] [(.ref o3)])
  refine GoH.step (fun t_ k_ => XS.dup X3.here hx rfl (hb hby at_10) rfl rfl k_) ?_
  show GoH _ _ _ _ _ _ _ _ _ _ T3 (mkF m 11 #[.val (.int p1), .val (.int p2), .val (.int p3), .val (.int p4), .val (.ref ms2), .unset, .unset, .unset, .unset, .unset, .unset, .unset, .unset, .unset, .unset, .unset] [(.ref o3), (.ref o3)])
  refine GoH.step (fun t_ k_ => XS.iconst X3.here hx rfl (hb hby at_11) k_) ?_
  show GoH _ _ _ _ _ _ _ _ _ _ T3 (mkF m 12 #[.val (.int p1), .val (.int p2), .val (.int p3), .val (.int p4), .val (.ref ms2), .unset, .unset, .unset, .unset, .unset, .unset, .unset, .unset, .unset, .unset, .unset] [(.int (1 : Int32)), (.ref o3), (.ref o3)])
  refine GoH.step (fun t_ k_ => XS.iconst X3.here hx rfl (hb hby at_12) k_) ?_
  show GoH _ _ _ _ _ _ _ _ _ _ T3 (mkF m 13 #[.val (.int p1), .val (.int p2), .val (.int p3), .val (.int p4), .val (.ref ms2), .unset, .unset, .unset, .unset, .unset, .unset, .unset, .unset, .unset, .unset, .unset] [(.int (1 : Int32)), (.int (1 : Int32)), (.ref o3), (.ref o3)])
  refine GoH.step (fun t_ k_ => XS.aconstNull X3.here hx rfl (hb hby at_13) k_) ?_
  show GoH _ _ _ _ _ _ _ _ _ _ T3 (mkF m 14 #[.val (.int p1), .val (.int p2), .val (.int p3), .val (.int p4), .val (.ref ms2), .unset, .unset, .unset, .unset, .unset, .unset, .unset, .unset, .unset, .unset, .unset] [.null, (.int (1 : Int32)), (.int (1 : Int32)), (.ref o3), (.ref o3)])
  refine GoH.step (fun t_ k_ => XS.iloadN X3.here hx rfl (hb hby at_14) rfl k_) ?_
  show GoH _ _ _ _ _ _ _ _ _ _ T3 (mkF m 15 #[.val (.int p1), .val (.int p2), .val (.int p3), .val (.int p4), .val (.ref ms2), .unset, .unset, .unset, .unset, .unset, .unset, .unset, .unset, .unset, .unset, .unset] [(.int p1), .null, (.int (1 : Int32)), (.int (1 : Int32)), (.ref o3), (.ref o3)])
  obtain ⟨_, _, ⟨T4, L4, k4, n4⟩, -, X4, ⟨Lc4, hQ4, l4, y4, z4⟩, st4⟩ := Jvm.LawKit.callS X3 hx (y := (⟨"com/example/affordance/affordance/FindingCountsTotalPinLaw", "level", "(I)Lcom/example/affordance/affordance/Level;"⟩ : MethodName)) hown1 (mvT hZ1 (hw _ (List.mem_of_getElem? (i := 27) rfl))) (mvT hZ1 (hw _ (List.mem_of_getElem? (i := 28) rfl))) (mvT hZ1 (hw _ (List.mem_of_getElem? (i := 29) rfl))) (mvT hZ1 (hw _ (List.mem_of_getElem? (i := 30) rfl))) (by decide) (backOf (W := 5) (rmLv l Z a0 hw [] p1 mu sh ma h3 n0 Zs3 O3 S_MUST S_SHOULD S_MAY L_MUST L_SHOULD L_MAY) hZ1 (hw _ (List.mem_of_getElem? (i := 30) rfl)) (hw _ (List.mem_of_getElem? (i := 29) rfl)) (by decide) (by decide)) (g := (mkF m 15 #[.val (.int p1), .val (.int p2), .val (.int p3), .val (.int p4), .val (.ref ms2), .unset, .unset, .unset, .unset, .unset, .unset, .unset, .unset, .unset, .unset, .unset] [(.int p1), .null, (.int (1 : Int32)), (.int (1 : Int32)), (.ref o3), (.ref o3)])) rfl (by rw [hml]; rfl) (argsL := [(.int p1)]) (rest := [.null, (.int (1 : Int32)), (.int (1 : Int32)), (.ref o3), (.ref o3)]) (lenOf pd_15 rfl) rfl (by show 2 * 0 + _ ≤ _; exact Nat.le_of_eq rfl) (hb hby at_15) (fun _ _ => ⟨rfl, e3, (by decide : 0 + 2 + 1 + 1 + 0 ≤ _), (by decide : 0 + (4 + 4) + 2 + 7 + 0 ≤ _)⟩)
  dsimp only [Pt.U, Pt.locs, Pt.cells, Pt.slots] at X4 l4 y4 z4 st4 hQ4
  subst l4 y4 z4
  obtain ⟨la4, rfl, hla4, N4q, e4⟩ := hQ4
  have N4 := Fr.app N2 N4q
  refine GoH.step st4 ?_
  show GoH _ _ _ _ _ _ _ _ _ _ T4 (mkF m 18 #[.val (.int p1), .val (.int p2), .val (.int p3), .val (.int p4), .val (.ref ms2), .unset, .unset, .unset, .unset, .unset, .unset, .unset, .unset, .unset, .unset, .unset] [(.ref la4), .null, (.int (1 : Int32)), (.int (1 : Int32)), (.ref o3), (.ref o3)])
  obtain ⟨lt5, T5, h5, kk5, X5, e5, E5, hS5, hk5, hZ5, hown5, CHq5, -, st5⟩ := ldcOH X4 hx hZ1 hown1 (hw _ (List.mem_of_getElem? (i := 35) rfl)) (own_SA hw) (e4) hS1 hk3 hEL C3.1 (g := (mkF m 18 #[.val (.int p1), .val (.int p2), .val (.int p3), .val (.int p4), .val (.ref ms2), .unset, .unset, .unset, .unset, .unset, .unset, .unset, .unset, .unset, .unset, .unset] [(.ref la4), .null, (.int (1 : Int32)), (.int (1 : Int32)), (.ref o3), (.ref o3)])) rfl (hb hby at_18) (n := 4) (by decide) (by decide) (by decide) (by decide)
  have f5_5 : Exa Z h5 ms2 "com/example/affordance/affordance/Message" := (f3_5.ext E5)
  have f5_6 : Fld Z h5 ms2 "com/example/affordance/affordance/Message" "quoted" "Ljava/lang/String;" .null := (f3_6.ext E5)
  have f5_7 : Fld Z h5 ms2 "com/example/affordance/affordance/Message" "rest" "Ljava/lang/String;" (.ref lt1) := (f3_7.ext E5)
  have f5_8 : Exa Z h5 o3 "com/example/affordance/affordance/Finding" := (f3_8.ext E5)
  have f5_9 : Fld Z h5 o3 "com/example/affordance/affordance/Finding" "line" "I" (.int (0 : Int32)) := (f3_9.ext E5)
  have f5_10 : Fld Z h5 o3 "com/example/affordance/affordance/Finding" "column" "I" (.int (0 : Int32)) := (f3_10.ext E5)
  have f5_11 : Fld Z h5 o3 "com/example/affordance/affordance/Finding" "pointer" "Lcom/example/affordance/affordance/JsonPointer;" .null := (f3_11.ext E5)
  have f5_12 : Fld Z h5 o3 "com/example/affordance/affordance/Finding" "level" "Lcom/example/affordance/affordance/Level;" .null := (f3_12.ext E5)
  have f5_13 : Fld Z h5 o3 "com/example/affordance/affordance/Finding" "rule" "Ljava/lang/String;" .null := (f3_13.ext E5)
  have f5_14 : Fld Z h5 o3 "com/example/affordance/affordance/Finding" "quoted" "Ljava/lang/String;" .null := (f3_14.ext E5)
  have f5_15 : Fld Z h5 o3 "com/example/affordance/affordance/Finding" "rest" "Ljava/lang/String;" .null := (f3_15.ext E5)
  have CC5 : CHr Z own_EL s.vm h0 T5.vm h5 := C3.trans CHq5
  have Zs5 : n0 ≤ h5.size := (Nat.le_trans Zs3 E5.1)
  have O5 : Old Z n0 h5 := O3.ext E5
  refine GoH.step st5 ?_
  show GoH _ _ _ _ _ _ _ _ _ _ T5 (mkF m 20 #[.val (.int p1), .val (.int p2), .val (.int p3), .val (.int p4), .val (.ref ms2), .unset, .unset, .unset, .unset, .unset, .unset, .unset, .unset, .unset, .unset, .unset] [(.ref lt5), (.ref la4), .null, (.int (1 : Int32)), (.int (1 : Int32)), (.ref o3), (.ref o3)])
  refine GoH.step (fun t_ k_ => XS.aload X5.here hx rfl (hb hby at_20) rfl rfl k_) ?_
  show GoH _ _ _ _ _ _ _ _ _ _ T5 (mkF m 22 #[.val (.int p1), .val (.int p2), .val (.int p3), .val (.int p4), .val (.ref ms2), .unset, .unset, .unset, .unset, .unset, .unset, .unset, .unset, .unset, .unset, .unset] [(.ref ms2), (.ref lt5), (.ref la4), .null, (.int (1 : Int32)), (.int (1 : Int32)), (.ref o3), (.ref o3)])
  obtain ⟨_, _, ⟨T6, L6, k6, n6⟩, -, X6, ⟨Lc6, hQ6, l6, y6, z6⟩, st6⟩ := X5.specialBack hx (y := (⟨"com/example/affordance/affordance/Finding", "<init>", "(IILcom/example/affordance/affordance/JsonPointer;Lcom/example/affordance/affordance/Level;Ljava/lang/String;Lcom/example/affordance/affordance/Message;)V"⟩ : MethodName)) rfl hown5 (mvT hZ5 (hw _ (List.mem_of_getElem? (i := 36) rfl))) (mvT hZ5 (hw _ (List.mem_of_getElem? (i := 37) rfl))) (mvT hZ5 (hw _ (List.mem_of_getElem? (i := 38) rfl))) (by decide) (backOf (W := 1) (rmFi l Z a0 hw [] o3 (1 : Int32) (1 : Int32) la4 lt5 ms2 lt1 h5 n0 Zs5 ge_o3 f5_8 f5_9 f5_10 f5_11 f5_12 f5_13 f5_14 f5_15 f5_5 f5_6 f5_7) hZ5 (hw _ (List.mem_of_getElem? (i := 38) rfl)) (hw _ (List.mem_of_getElem? (i := 26) rfl)) (by decide) (by decide)) (g := (mkF m 22 #[.val (.int p1), .val (.int p2), .val (.int p3), .val (.int p4), .val (.ref ms2), .unset, .unset, .unset, .unset, .unset, .unset, .unset, .unset, .unset, .unset, .unset] [(.ref ms2), (.ref lt5), (.ref la4), .null, (.int (1 : Int32)), (.int (1 : Int32)), (.ref o3), (.ref o3)])) rfl (by rw [hml]; rfl) (Steps.refl _) (a := o3) (argsL := [(.int (1 : Int32)), (.int (1 : Int32)), .null, (.ref la4), (.ref lt5), (.ref ms2)]) (rest := [(.ref o3)]) (lenOf pd_16 rfl) rfl (by show 2 * 0 + _ ≤ _; exact Nat.le_of_eq rfl) (hb hby at_22) (fun _ _ => ⟨rfl, e5, (by decide : 0 + 2 + 1 + 1 + 0 + 2 + 0 ≤ _), (by decide : 0 + (4 + 4) + 2 + 7 + 0 + (4 + 4) + 0 ≤ _)⟩)
  dsimp only [Pt.U, Pt.locs, Pt.cells, Pt.slots] at X6 l6 y6 z6 st6 hQ6
  subst l6 y6 z6
  obtain ⟨rfl, N6q, Kq6, Eq6, Fa6⟩ := hQ6
  have N6 := Fr.app N4 N6q
  have f6_5 : Exa Z T6.heap ms2 "com/example/affordance/affordance/Message" := (f5_5.keep Kq6)
  have f6_6 : Fld Z T6.heap ms2 "com/example/affordance/affordance/Message" "quoted" "Ljava/lang/String;" .null := (f5_6.keep Kq6 (ninS ne_ms2_o3 nin0))
  have f6_7 : Fld Z T6.heap ms2 "com/example/affordance/affordance/Message" "rest" "Ljava/lang/String;" (.ref lt1) := (f5_7.keep Kq6 (ninS ne_ms2_o3 nin0))
  have f6_8 : Exa Z T6.heap o3 "com/example/affordance/affordance/Finding" := Eq6
  have f6_9 : Fld Z T6.heap o3 "com/example/affordance/affordance/Finding" "level" "Lcom/example/affordance/affordance/Level;" (.ref la4) := Fa6
  have sfk6 : ∀ x ∈ ([o3] : List Addr), Safe Z own_EL T5.vm h5 x := (sfS (Safe.exa hZ5.alike f5_8 (by decide) (by decide)) sf0)
  have hk6 : _ ≤ T6.heap.size := Nat.le_trans hk5 Kq6.1
  have C6 : CHr Z own_EL s.vm h0 T5.vm T6.heap := CC5.trans (CHr.keep Kq6 sfk6 CC5.1)
  have Zs6 : n0 ≤ T6.heap.size := (Nat.le_trans Zs5 Kq6.1)
  have O6 : Old Z n0 T6.heap := O5.keep Kq6 (allS ge_o3 all0)
  refine GoH.step (fun t_ k_ => st6.trans k_) ?_
  show GoH _ _ _ _ _ _ _ _ _ _ T6 (mkF m 25 #[.val (.int p1), .val (.int p2), .val (.int p3), .val (.int p4), .val (.ref ms2), .unset, .unset, .unset, .unset, .unset, .unset, .unset, .unset, .unset, .unset, .unset] [(.ref o3)])
  refine GoH.step (fun t_ k_ => XS.astore X6.here hx rfl (hb hby at_25) rfl rfl (l' := #[.val (.int p1), .val (.int p2), .val (.int p3), .val (.int p4), .val (.ref ms2), .val (.ref o3), .unset, .unset, .unset, .unset, .unset, .unset, .unset, .unset, .unset, .unset]) rfl k_) ?_
  show GoH _ _ _ _ _ _ _ _ _ _ T6 (mkF m 27 #[.val (.int p1), .val (.int p2), .val (.int p3), .val (.int p4), .val (.ref ms2), .val (.ref o3), .unset, .unset, .unset, .unset, .unset, .unset, .unset, .unset, .unset, .unset] [])
  obtain ⟨T7, h7, X7, e7, E7, A7, D7, -, st7⟩ := newO X6 hx hZ5 hown5 (hw _ (List.mem_of_getElem? (i := 24) rfl)) (hw _ (List.mem_of_getElem? (i := 25) rfl)) (hw _ (List.mem_of_getElem? (i := 26) rfl)) rfl (g := (mkF m 27 #[.val (.int p1), .val (.int p2), .val (.int p3), .val (.int p4), .val (.ref ms2), .val (.ref o3), .unset, .unset, .unset, .unset, .unset, .unset, .unset, .unset, .unset, .unset] [])) rfl (hb hby at_27) (by decide) (by decide)
  obtain ⟨o7, g7⟩ : ∃ z, z = T6.heap.size := ⟨_, rfl⟩
  rw [← g7] at A7 D7 st7
  have ne_ms2_o7 : ms2 ≠ o7 := Nat.ne_of_lt (Nat.lt_of_lt_of_le f6_5.lt (Nat.le_of_eq g7.symm))
  have ne_o3_o7 : o3 ≠ o7 := Nat.ne_of_lt (Nat.lt_of_lt_of_le f6_8.lt (Nat.le_of_eq g7.symm))
  have ge_o7 : n0 ≤ o7 := Nat.le_trans Zs6 (Nat.le_of_eq g7.symm)
  have f7_5 : Exa Z h7 ms2 "com/example/affordance/affordance/Message" := (f6_5.ext E7)
  have f7_6 : Fld Z h7 ms2 "com/example/affordance/affordance/Message" "quoted" "Ljava/lang/String;" .null := (f6_6.ext E7)
  have f7_7 : Fld Z h7 ms2 "com/example/affordance/affordance/Message" "rest" "Ljava/lang/String;" (.ref lt1) := (f6_7.ext E7)
  have f7_8 : Exa Z h7 o3 "com/example/affordance/affordance/Finding" := (f6_8.ext E7)
  have f7_9 : Fld Z h7 o3 "com/example/affordance/affordance/Finding" "level" "Lcom/example/affordance/affordance/Level;" (.ref la4) := (f6_9.ext E7)
  have f7_10 : Exa Z h7 o7 "com/example/affordance/affordance/Finding" := A7
  have f7_11 : Fld Z h7 o7 "com/example/affordance/affordance/Finding" "line" "I" (.int (0 : Int32)) := (D7 (Or.inr (hw _ (List.mem_of_getElem? (i := 41) rfl))) (ty := .int) (by decide))
  have f7_12 : Fld Z h7 o7 "com/example/affordance/affordance/Finding" "column" "I" (.int (0 : Int32)) := (D7 (Or.inr (hw _ (List.mem_of_getElem? (i := 43) rfl))) (ty := .int) (by decide))
  have f7_13 : Fld Z h7 o7 "com/example/affordance/affordance/Finding" "pointer" "Lcom/example/affordance/affordance/JsonPointer;" .null := (D7 (Or.inr (hw _ (List.mem_of_getElem? (i := 45) rfl))) (ty := (.object "com/example/affordance/affordance/JsonPointer")) (by decide))
  have f7_14 : Fld Z h7 o7 "com/example/affordance/affordance/Finding" "level" "Lcom/example/affordance/affordance/Level;" .null := (D7 (Or.inr (hw _ (List.mem_of_getElem? (i := 47) rfl))) (ty := (.object "com/example/affordance/affordance/Level")) (by decide))
  have f7_15 : Fld Z h7 o7 "com/example/affordance/affordance/Finding" "rule" "Ljava/lang/String;" .null := (D7 (Or.inr (hw _ (List.mem_of_getElem? (i := 49) rfl))) (ty := (.object "java/lang/String")) (by decide))
  have f7_16 : Fld Z h7 o7 "com/example/affordance/affordance/Finding" "quoted" "Ljava/lang/String;" .null := (D7 (Or.inr (hw _ (List.mem_of_getElem? (i := 56) rfl))) (ty := (.object "java/lang/String")) (by decide))
  have f7_17 : Fld Z h7 o7 "com/example/affordance/affordance/Finding" "rest" "Ljava/lang/String;" .null := (D7 (Or.inr (hw _ (List.mem_of_getElem? (i := 63) rfl))) (ty := (.object "java/lang/String")) (by decide))
  have hk7 : _ ≤ h7.size := Nat.le_trans hk6 E7.1
  have C7 : CHr Z own_EL s.vm h0 T5.vm h7 := C6.trans (CHr.ext E7 C6.1)
  have Zs7 : n0 ≤ h7.size := (Nat.le_trans Zs6 E7.1)
  have O7 : Old Z n0 h7 := O6.ext E7
  refine GoH.step st7 ?_
  show GoH _ _ _ _ _ _ _ _ _ _ T7 (mkF m 30 #[.val (.int p1), .val (.int p2), .val (.int p3), .val (.int p4), .val (.ref ms2), .val (.ref o3), .unset, .unset, .unset, .unset, .unset, .unset, .unset, .unset, .unset, .unset] [(.ref o7)])
  refine GoH.step (fun t_ k_ => XS.dup X7.here hx rfl (hb hby at_30) rfl rfl k_) ?_
  show GoH _ _ _ _ _ _ _ _ _ _ T7 (mkF m 31 #[.val (.int p1), .val (.int p2), .val (.int p3), .val (.int p4), .val (.ref ms2), .val (.ref o3), .unset, .unset, .unset, .unset, .unset, .unset, .unset, .unset, .unset, .unset] [(.ref o7), (.ref o7)])
  refine GoH.step (fun t_ k_ => XS.iconst X7.here hx rfl (hb hby at_31) k_) ?_
  show GoH _ _ _ _ _ _ _ _ _ _ T7 (mkF m 32 #[.val (.int p1), .val (.int p2), .val (.int p3), .val (.int p4), .val (.ref ms2), .val (.ref o3), .unset, .unset, .unset, .unset, .unset, .unset, .unset, .unset, .unset, .unset] [(.int (2 : Int32)), (.ref o7), (.ref o7)])
  refine GoH.step (fun t_ k_ => XS.iconst X7.here hx rfl (hb hby at_32) k_) ?_
  show GoH _ _ _ _ _ _ _ _ _ _ T7 (mkF m 33 #[.val (.int p1), .val (.int p2), .val (.int p3), .val (.int p4), .val (.ref ms2), .val (.ref o3), .unset, .unset, .unset, .unset, .unset, .unset, .unset, .unset, .unset, .unset] [(.int (1 : Int32)), (.int (2 : Int32)), (.ref o7), (.ref o7)])
  refine GoH.step (fun t_ k_ => XS.aconstNull X7.here hx rfl (hb hby at_33) k_) ?_
  show GoH _ _ _ _ _ _ _ _ _ _ T7 (mkF m 34 #[.val (.int p1), .val (.int p2), .val (.int p3), .val (.int p4), .val (.ref ms2), .val (.ref o3), .unset, .unset, .unset, .unset, .unset, .unset, .unset, .unset, .unset, .unset] [.null, (.int (1 : Int32)), (.int (2 : Int32)), (.ref o7), (.ref o7)])
  refine GoH.step (fun t_ k_ => XS.iloadN X7.here hx rfl (hb hby at_34) rfl k_) ?_
  show GoH _ _ _ _ _ _ _ _ _ _ T7 (mkF m 35 #[.val (.int p1), .val (.int p2), .val (.int p3), .val (.int p4), .val (.ref ms2), .val (.ref o3), .unset, .unset, .unset, .unset, .unset, .unset, .unset, .unset, .unset, .unset] [(.int p2), .null, (.int (1 : Int32)), (.int (2 : Int32)), (.ref o7), (.ref o7)])
  obtain ⟨_, _, ⟨T8, L8, k8, n8⟩, -, X8, ⟨Lc8, hQ8, l8, y8, z8⟩, st8⟩ := Jvm.LawKit.callS X7 hx (y := (⟨"com/example/affordance/affordance/FindingCountsTotalPinLaw", "level", "(I)Lcom/example/affordance/affordance/Level;"⟩ : MethodName)) hown5 (mvT hZ5 (hw _ (List.mem_of_getElem? (i := 27) rfl))) (mvT hZ5 (hw _ (List.mem_of_getElem? (i := 28) rfl))) (mvT hZ5 (hw _ (List.mem_of_getElem? (i := 29) rfl))) (mvT hZ5 (hw _ (List.mem_of_getElem? (i := 30) rfl))) (by decide) (backOf (W := 5) (rmLv l Z a0 hw [] p2 mu sh ma h7 n0 Zs7 O7 S_MUST S_SHOULD S_MAY L_MUST L_SHOULD L_MAY) hZ5 (hw _ (List.mem_of_getElem? (i := 30) rfl)) (hw _ (List.mem_of_getElem? (i := 29) rfl)) (by decide) (by decide)) (g := (mkF m 35 #[.val (.int p1), .val (.int p2), .val (.int p3), .val (.int p4), .val (.ref ms2), .val (.ref o3), .unset, .unset, .unset, .unset, .unset, .unset, .unset, .unset, .unset, .unset] [(.int p2), .null, (.int (1 : Int32)), (.int (2 : Int32)), (.ref o7), (.ref o7)])) rfl (by rw [hml]; rfl) (argsL := [(.int p2)]) (rest := [.null, (.int (1 : Int32)), (.int (2 : Int32)), (.ref o7), (.ref o7)]) (lenOf pd_15 rfl) rfl (by show 2 * 0 + _ ≤ _; exact Nat.le_of_eq rfl) (hb hby at_35) (fun _ _ => ⟨rfl, e7, (by decide : 0 + 2 + 1 + 1 + 0 + 2 + 0 + 1 + 0 ≤ _), (by decide : 0 + (4 + 4) + 2 + 7 + 0 + (4 + 4) + 0 + 7 + 0 ≤ _)⟩)
  dsimp only [Pt.U, Pt.locs, Pt.cells, Pt.slots] at X8 l8 y8 z8 st8 hQ8
  subst l8 y8 z8
  obtain ⟨la8, rfl, hla8, N8q, e8⟩ := hQ8
  have N8 := Fr.app N6 N8q
  refine GoH.step st8 ?_
  show GoH _ _ _ _ _ _ _ _ _ _ T8 (mkF m 38 #[.val (.int p1), .val (.int p2), .val (.int p3), .val (.int p4), .val (.ref ms2), .val (.ref o3), .unset, .unset, .unset, .unset, .unset, .unset, .unset, .unset, .unset, .unset] [(.ref la8), .null, (.int (1 : Int32)), (.int (2 : Int32)), (.ref o7), (.ref o7)])
  obtain ⟨lt9, T9, h9, kk9, X9, e9, E9, hS9, hk9, hZ9, hown9, CHq9, -, st9⟩ := ldcOH X8 hx hZ5 hown5 (hw _ (List.mem_of_getElem? (i := 35) rfl)) (own_SA hw) (e8) hS5 hk7 hEL C7.1 (g := (mkF m 38 #[.val (.int p1), .val (.int p2), .val (.int p3), .val (.int p4), .val (.ref ms2), .val (.ref o3), .unset, .unset, .unset, .unset, .unset, .unset, .unset, .unset, .unset, .unset] [(.ref la8), .null, (.int (1 : Int32)), (.int (2 : Int32)), (.ref o7), (.ref o7)])) rfl (hb hby at_38) (n := 4) (by decide) (by decide) (by decide) (by decide)
  have f9_5 : Exa Z h9 ms2 "com/example/affordance/affordance/Message" := (f7_5.ext E9)
  have f9_6 : Fld Z h9 ms2 "com/example/affordance/affordance/Message" "quoted" "Ljava/lang/String;" .null := (f7_6.ext E9)
  have f9_7 : Fld Z h9 ms2 "com/example/affordance/affordance/Message" "rest" "Ljava/lang/String;" (.ref lt1) := (f7_7.ext E9)
  have f9_8 : Exa Z h9 o3 "com/example/affordance/affordance/Finding" := (f7_8.ext E9)
  have f9_9 : Fld Z h9 o3 "com/example/affordance/affordance/Finding" "level" "Lcom/example/affordance/affordance/Level;" (.ref la4) := (f7_9.ext E9)
  have f9_10 : Exa Z h9 o7 "com/example/affordance/affordance/Finding" := (f7_10.ext E9)
  have f9_11 : Fld Z h9 o7 "com/example/affordance/affordance/Finding" "line" "I" (.int (0 : Int32)) := (f7_11.ext E9)
  have f9_12 : Fld Z h9 o7 "com/example/affordance/affordance/Finding" "column" "I" (.int (0 : Int32)) := (f7_12.ext E9)
  have f9_13 : Fld Z h9 o7 "com/example/affordance/affordance/Finding" "pointer" "Lcom/example/affordance/affordance/JsonPointer;" .null := (f7_13.ext E9)
  have f9_14 : Fld Z h9 o7 "com/example/affordance/affordance/Finding" "level" "Lcom/example/affordance/affordance/Level;" .null := (f7_14.ext E9)
  have f9_15 : Fld Z h9 o7 "com/example/affordance/affordance/Finding" "rule" "Ljava/lang/String;" .null := (f7_15.ext E9)
  have f9_16 : Fld Z h9 o7 "com/example/affordance/affordance/Finding" "quoted" "Ljava/lang/String;" .null := (f7_16.ext E9)
  have f9_17 : Fld Z h9 o7 "com/example/affordance/affordance/Finding" "rest" "Ljava/lang/String;" .null := (f7_17.ext E9)
  have CC9 : CHr Z own_EL s.vm h0 T9.vm h9 := C7.trans CHq9
  have Zs9 : n0 ≤ h9.size := (Nat.le_trans Zs7 E9.1)
  have O9 : Old Z n0 h9 := O7.ext E9
  refine GoH.step st9 ?_
  show GoH _ _ _ _ _ _ _ _ _ _ T9 (mkF m 40 #[.val (.int p1), .val (.int p2), .val (.int p3), .val (.int p4), .val (.ref ms2), .val (.ref o3), .unset, .unset, .unset, .unset, .unset, .unset, .unset, .unset, .unset, .unset] [(.ref lt9), (.ref la8), .null, (.int (1 : Int32)), (.int (2 : Int32)), (.ref o7), (.ref o7)])
  refine GoH.step (fun t_ k_ => XS.aload X9.here hx rfl (hb hby at_40) rfl rfl k_) ?_
  show GoH _ _ _ _ _ _ _ _ _ _ T9 (mkF m 42 #[.val (.int p1), .val (.int p2), .val (.int p3), .val (.int p4), .val (.ref ms2), .val (.ref o3), .unset, .unset, .unset, .unset, .unset, .unset, .unset, .unset, .unset, .unset] [(.ref ms2), (.ref lt9), (.ref la8), .null, (.int (1 : Int32)), (.int (2 : Int32)), (.ref o7), (.ref o7)])
  obtain ⟨_, _, ⟨T10, L10, k10, n10⟩, -, X10, ⟨Lc10, hQ10, l10, y10, z10⟩, st10⟩ := X9.specialBack hx (y := (⟨"com/example/affordance/affordance/Finding", "<init>", "(IILcom/example/affordance/affordance/JsonPointer;Lcom/example/affordance/affordance/Level;Ljava/lang/String;Lcom/example/affordance/affordance/Message;)V"⟩ : MethodName)) rfl hown9 (mvT hZ9 (hw _ (List.mem_of_getElem? (i := 36) rfl))) (mvT hZ9 (hw _ (List.mem_of_getElem? (i := 37) rfl))) (mvT hZ9 (hw _ (List.mem_of_getElem? (i := 38) rfl))) (by decide) (backOf (W := 1) (rmFi l Z a0 hw [] o7 (2 : Int32) (1 : Int32) la8 lt9 ms2 lt1 h9 n0 Zs9 ge_o7 f9_10 f9_11 f9_12 f9_13 f9_14 f9_15 f9_16 f9_17 f9_5 f9_6 f9_7) hZ9 (hw _ (List.mem_of_getElem? (i := 38) rfl)) (hw _ (List.mem_of_getElem? (i := 26) rfl)) (by decide) (by decide)) (g := (mkF m 42 #[.val (.int p1), .val (.int p2), .val (.int p3), .val (.int p4), .val (.ref ms2), .val (.ref o3), .unset, .unset, .unset, .unset, .unset, .unset, .unset, .unset, .unset, .unset] [(.ref ms2), (.ref lt9), (.ref la8), .null, (.int (1 : Int32)), (.int (2 : Int32)), (.ref o7), (.ref o7)])) rfl (by rw [hml]; rfl) (Steps.refl _) (a := o7) (argsL := [(.int (2 : Int32)), (.int (1 : Int32)), .null, (.ref la8), (.ref lt9), (.ref ms2)]) (rest := [(.ref o7)]) (lenOf pd_16 rfl) rfl (by show 2 * 0 + _ ≤ _; exact Nat.le_of_eq rfl) (hb hby at_42) (fun _ _ => ⟨rfl, e9, (by decide : 0 + 2 + 1 + 1 + 0 + 2 + 0 + 1 + 0 + 2 + 0 ≤ _), (by decide : 0 + (4 + 4) + 2 + 7 + 0 + (4 + 4) + 0 + 7 + 0 + (4 + 4) + 0 ≤ _)⟩)
  dsimp only [Pt.U, Pt.locs, Pt.cells, Pt.slots] at X10 l10 y10 z10 st10 hQ10
  subst l10 y10 z10
  obtain ⟨rfl, N10q, Kq10, Eq10, Fa10⟩ := hQ10
  have N10 := Fr.app N8 N10q
  have f10_5 : Exa Z T10.heap ms2 "com/example/affordance/affordance/Message" := (f9_5.keep Kq10)
  have f10_6 : Fld Z T10.heap ms2 "com/example/affordance/affordance/Message" "quoted" "Ljava/lang/String;" .null := (f9_6.keep Kq10 (ninS ne_ms2_o7 nin0))
  have f10_7 : Fld Z T10.heap ms2 "com/example/affordance/affordance/Message" "rest" "Ljava/lang/String;" (.ref lt1) := (f9_7.keep Kq10 (ninS ne_ms2_o7 nin0))
  have f10_8 : Exa Z T10.heap o3 "com/example/affordance/affordance/Finding" := (f9_8.keep Kq10)
  have f10_9 : Fld Z T10.heap o3 "com/example/affordance/affordance/Finding" "level" "Lcom/example/affordance/affordance/Level;" (.ref la4) := (f9_9.keep Kq10 (ninS ne_o3_o7 nin0))
  have f10_10 : Exa Z T10.heap o7 "com/example/affordance/affordance/Finding" := Eq10
  have f10_11 : Fld Z T10.heap o7 "com/example/affordance/affordance/Finding" "level" "Lcom/example/affordance/affordance/Level;" (.ref la8) := Fa10
  have sfk10 : ∀ x ∈ ([o7] : List Addr), Safe Z own_EL T9.vm h9 x := (sfS (Safe.exa hZ9.alike f9_10 (by decide) (by decide)) sf0)
  have hk10 : _ ≤ T10.heap.size := Nat.le_trans hk9 Kq10.1
  have C10 : CHr Z own_EL s.vm h0 T9.vm T10.heap := CC9.trans (CHr.keep Kq10 sfk10 CC9.1)
  have Zs10 : n0 ≤ T10.heap.size := (Nat.le_trans Zs9 Kq10.1)
  have O10 : Old Z n0 T10.heap := O9.keep Kq10 (allS ge_o7 all0)
  refine GoH.step (fun t_ k_ => st10.trans k_) ?_
  show GoH _ _ _ _ _ _ _ _ _ _ T10 (mkF m 45 #[.val (.int p1), .val (.int p2), .val (.int p3), .val (.int p4), .val (.ref ms2), .val (.ref o3), .unset, .unset, .unset, .unset, .unset, .unset, .unset, .unset, .unset, .unset] [(.ref o7)])
  refine GoH.step (fun t_ k_ => XS.astore X10.here hx rfl (hb hby at_45) rfl rfl (l' := #[.val (.int p1), .val (.int p2), .val (.int p3), .val (.int p4), .val (.ref ms2), .val (.ref o3), .val (.ref o7), .unset, .unset, .unset, .unset, .unset, .unset, .unset, .unset, .unset]) rfl k_) ?_
  show GoH _ _ _ _ _ _ _ _ _ _ T10 (mkF m 47 #[.val (.int p1), .val (.int p2), .val (.int p3), .val (.int p4), .val (.ref ms2), .val (.ref o3), .val (.ref o7), .unset, .unset, .unset, .unset, .unset, .unset, .unset, .unset, .unset] [])
  obtain ⟨T11, h11, X11, e11, E11, A11, D11, -, st11⟩ := newO X10 hx hZ9 hown9 (hw _ (List.mem_of_getElem? (i := 24) rfl)) (hw _ (List.mem_of_getElem? (i := 25) rfl)) (hw _ (List.mem_of_getElem? (i := 26) rfl)) rfl (g := (mkF m 47 #[.val (.int p1), .val (.int p2), .val (.int p3), .val (.int p4), .val (.ref ms2), .val (.ref o3), .val (.ref o7), .unset, .unset, .unset, .unset, .unset, .unset, .unset, .unset, .unset] [])) rfl (hb hby at_47) (by decide) (by decide)
  obtain ⟨o11, g11⟩ : ∃ z, z = T10.heap.size := ⟨_, rfl⟩
  rw [← g11] at A11 D11 st11
  have ne_ms2_o11 : ms2 ≠ o11 := Nat.ne_of_lt (Nat.lt_of_lt_of_le f10_5.lt (Nat.le_of_eq g11.symm))
  have ne_o3_o11 : o3 ≠ o11 := Nat.ne_of_lt (Nat.lt_of_lt_of_le f10_8.lt (Nat.le_of_eq g11.symm))
  have ne_o7_o11 : o7 ≠ o11 := Nat.ne_of_lt (Nat.lt_of_lt_of_le f10_10.lt (Nat.le_of_eq g11.symm))
  have ge_o11 : n0 ≤ o11 := Nat.le_trans Zs10 (Nat.le_of_eq g11.symm)
  have f11_5 : Exa Z h11 ms2 "com/example/affordance/affordance/Message" := (f10_5.ext E11)
  have f11_6 : Fld Z h11 ms2 "com/example/affordance/affordance/Message" "quoted" "Ljava/lang/String;" .null := (f10_6.ext E11)
  have f11_7 : Fld Z h11 ms2 "com/example/affordance/affordance/Message" "rest" "Ljava/lang/String;" (.ref lt1) := (f10_7.ext E11)
  have f11_8 : Exa Z h11 o3 "com/example/affordance/affordance/Finding" := (f10_8.ext E11)
  have f11_9 : Fld Z h11 o3 "com/example/affordance/affordance/Finding" "level" "Lcom/example/affordance/affordance/Level;" (.ref la4) := (f10_9.ext E11)
  have f11_10 : Exa Z h11 o7 "com/example/affordance/affordance/Finding" := (f10_10.ext E11)
  have f11_11 : Fld Z h11 o7 "com/example/affordance/affordance/Finding" "level" "Lcom/example/affordance/affordance/Level;" (.ref la8) := (f10_11.ext E11)
  have f11_12 : Exa Z h11 o11 "com/example/affordance/affordance/Finding" := A11
  have f11_13 : Fld Z h11 o11 "com/example/affordance/affordance/Finding" "line" "I" (.int (0 : Int32)) := (D11 (Or.inr (hw _ (List.mem_of_getElem? (i := 41) rfl))) (ty := .int) (by decide))
  have f11_14 : Fld Z h11 o11 "com/example/affordance/affordance/Finding" "column" "I" (.int (0 : Int32)) := (D11 (Or.inr (hw _ (List.mem_of_getElem? (i := 43) rfl))) (ty := .int) (by decide))
  have f11_15 : Fld Z h11 o11 "com/example/affordance/affordance/Finding" "pointer" "Lcom/example/affordance/affordance/JsonPointer;" .null := (D11 (Or.inr (hw _ (List.mem_of_getElem? (i := 45) rfl))) (ty := (.object "com/example/affordance/affordance/JsonPointer")) (by decide))
  have f11_16 : Fld Z h11 o11 "com/example/affordance/affordance/Finding" "level" "Lcom/example/affordance/affordance/Level;" .null := (D11 (Or.inr (hw _ (List.mem_of_getElem? (i := 47) rfl))) (ty := (.object "com/example/affordance/affordance/Level")) (by decide))
  have f11_17 : Fld Z h11 o11 "com/example/affordance/affordance/Finding" "rule" "Ljava/lang/String;" .null := (D11 (Or.inr (hw _ (List.mem_of_getElem? (i := 49) rfl))) (ty := (.object "java/lang/String")) (by decide))
  have f11_18 : Fld Z h11 o11 "com/example/affordance/affordance/Finding" "quoted" "Ljava/lang/String;" .null := (D11 (Or.inr (hw _ (List.mem_of_getElem? (i := 56) rfl))) (ty := (.object "java/lang/String")) (by decide))
  have f11_19 : Fld Z h11 o11 "com/example/affordance/affordance/Finding" "rest" "Ljava/lang/String;" .null := (D11 (Or.inr (hw _ (List.mem_of_getElem? (i := 63) rfl))) (ty := (.object "java/lang/String")) (by decide))
  have hk11 : _ ≤ h11.size := Nat.le_trans hk10 E11.1
  have C11 : CHr Z own_EL s.vm h0 T9.vm h11 := C10.trans (CHr.ext E11 C10.1)
  have Zs11 : n0 ≤ h11.size := (Nat.le_trans Zs10 E11.1)
  have O11 : Old Z n0 h11 := O10.ext E11
  refine GoH.step st11 ?_
  show GoH _ _ _ _ _ _ _ _ _ _ T11 (mkF m 50 #[.val (.int p1), .val (.int p2), .val (.int p3), .val (.int p4), .val (.ref ms2), .val (.ref o3), .val (.ref o7), .unset, .unset, .unset, .unset, .unset, .unset, .unset, .unset, .unset] [(.ref o11)])
  refine GoH.step (fun t_ k_ => XS.dup X11.here hx rfl (hb hby at_50) rfl rfl k_) ?_
  show GoH _ _ _ _ _ _ _ _ _ _ T11 (mkF m 51 #[.val (.int p1), .val (.int p2), .val (.int p3), .val (.int p4), .val (.ref ms2), .val (.ref o3), .val (.ref o7), .unset, .unset, .unset, .unset, .unset, .unset, .unset, .unset, .unset] [(.ref o11), (.ref o11)])
  refine GoH.step (fun t_ k_ => XS.iconst X11.here hx rfl (hb hby at_51) k_) ?_
  show GoH _ _ _ _ _ _ _ _ _ _ T11 (mkF m 52 #[.val (.int p1), .val (.int p2), .val (.int p3), .val (.int p4), .val (.ref ms2), .val (.ref o3), .val (.ref o7), .unset, .unset, .unset, .unset, .unset, .unset, .unset, .unset, .unset] [(.int (3 : Int32)), (.ref o11), (.ref o11)])
  refine GoH.step (fun t_ k_ => XS.iconst X11.here hx rfl (hb hby at_52) k_) ?_
  show GoH _ _ _ _ _ _ _ _ _ _ T11 (mkF m 53 #[.val (.int p1), .val (.int p2), .val (.int p3), .val (.int p4), .val (.ref ms2), .val (.ref o3), .val (.ref o7), .unset, .unset, .unset, .unset, .unset, .unset, .unset, .unset, .unset] [(.int (1 : Int32)), (.int (3 : Int32)), (.ref o11), (.ref o11)])
  refine GoH.step (fun t_ k_ => XS.aconstNull X11.here hx rfl (hb hby at_53) k_) ?_
  show GoH _ _ _ _ _ _ _ _ _ _ T11 (mkF m 54 #[.val (.int p1), .val (.int p2), .val (.int p3), .val (.int p4), .val (.ref ms2), .val (.ref o3), .val (.ref o7), .unset, .unset, .unset, .unset, .unset, .unset, .unset, .unset, .unset] [.null, (.int (1 : Int32)), (.int (3 : Int32)), (.ref o11), (.ref o11)])
  refine GoH.step (fun t_ k_ => XS.iloadN X11.here hx rfl (hb hby at_54) rfl k_) ?_
  show GoH _ _ _ _ _ _ _ _ _ _ T11 (mkF m 55 #[.val (.int p1), .val (.int p2), .val (.int p3), .val (.int p4), .val (.ref ms2), .val (.ref o3), .val (.ref o7), .unset, .unset, .unset, .unset, .unset, .unset, .unset, .unset, .unset] [(.int p3), .null, (.int (1 : Int32)), (.int (3 : Int32)), (.ref o11), (.ref o11)])
  obtain ⟨_, _, ⟨T12, L12, k12, n12⟩, -, X12, ⟨Lc12, hQ12, l12, y12, z12⟩, st12⟩ := Jvm.LawKit.callS X11 hx (y := (⟨"com/example/affordance/affordance/FindingCountsTotalPinLaw", "level", "(I)Lcom/example/affordance/affordance/Level;"⟩ : MethodName)) hown9 (mvT hZ9 (hw _ (List.mem_of_getElem? (i := 27) rfl))) (mvT hZ9 (hw _ (List.mem_of_getElem? (i := 28) rfl))) (mvT hZ9 (hw _ (List.mem_of_getElem? (i := 29) rfl))) (mvT hZ9 (hw _ (List.mem_of_getElem? (i := 30) rfl))) (by decide) (backOf (W := 5) (rmLv l Z a0 hw [] p3 mu sh ma h11 n0 Zs11 O11 S_MUST S_SHOULD S_MAY L_MUST L_SHOULD L_MAY) hZ9 (hw _ (List.mem_of_getElem? (i := 30) rfl)) (hw _ (List.mem_of_getElem? (i := 29) rfl)) (by decide) (by decide)) (g := (mkF m 55 #[.val (.int p1), .val (.int p2), .val (.int p3), .val (.int p4), .val (.ref ms2), .val (.ref o3), .val (.ref o7), .unset, .unset, .unset, .unset, .unset, .unset, .unset, .unset, .unset] [(.int p3), .null, (.int (1 : Int32)), (.int (3 : Int32)), (.ref o11), (.ref o11)])) rfl (by rw [hml]; rfl) (argsL := [(.int p3)]) (rest := [.null, (.int (1 : Int32)), (.int (3 : Int32)), (.ref o11), (.ref o11)]) (lenOf pd_15 rfl) rfl (by show 2 * 0 + _ ≤ _; exact Nat.le_of_eq rfl) (hb hby at_55) (fun _ _ => ⟨rfl, e11, (by decide : 0 + 2 + 1 + 1 + 0 + 2 + 0 + 1 + 0 + 2 + 0 + 1 + 0 ≤ _), (by decide : 0 + (4 + 4) + 2 + 7 + 0 + (4 + 4) + 0 + 7 + 0 + (4 + 4) + 0 + 7 + 0 ≤ _)⟩)
  dsimp only [Pt.U, Pt.locs, Pt.cells, Pt.slots] at X12 l12 y12 z12 st12 hQ12
  subst l12 y12 z12
  obtain ⟨la12, rfl, hla12, N12q, e12⟩ := hQ12
  have N12 := Fr.app N10 N12q
  refine GoH.step st12 ?_
  show GoH _ _ _ _ _ _ _ _ _ _ T12 (mkF m 58 #[.val (.int p1), .val (.int p2), .val (.int p3), .val (.int p4), .val (.ref ms2), .val (.ref o3), .val (.ref o7), .unset, .unset, .unset, .unset, .unset, .unset, .unset, .unset, .unset] [(.ref la12), .null, (.int (1 : Int32)), (.int (3 : Int32)), (.ref o11), (.ref o11)])
  obtain ⟨lt13, T13, h13, kk13, X13, e13, E13, hS13, hk13, hZ13, hown13, CHq13, -, st13⟩ := ldcOH X12 hx hZ9 hown9 (hw _ (List.mem_of_getElem? (i := 35) rfl)) (own_SA hw) (e12) hS9 hk11 hEL C11.1 (g := (mkF m 58 #[.val (.int p1), .val (.int p2), .val (.int p3), .val (.int p4), .val (.ref ms2), .val (.ref o3), .val (.ref o7), .unset, .unset, .unset, .unset, .unset, .unset, .unset, .unset, .unset] [(.ref la12), .null, (.int (1 : Int32)), (.int (3 : Int32)), (.ref o11), (.ref o11)])) rfl (hb hby at_58) (n := 4) (by decide) (by decide) (by decide) (by decide)
  have f13_5 : Exa Z h13 ms2 "com/example/affordance/affordance/Message" := (f11_5.ext E13)
  have f13_6 : Fld Z h13 ms2 "com/example/affordance/affordance/Message" "quoted" "Ljava/lang/String;" .null := (f11_6.ext E13)
  have f13_7 : Fld Z h13 ms2 "com/example/affordance/affordance/Message" "rest" "Ljava/lang/String;" (.ref lt1) := (f11_7.ext E13)
  have f13_8 : Exa Z h13 o3 "com/example/affordance/affordance/Finding" := (f11_8.ext E13)
  have f13_9 : Fld Z h13 o3 "com/example/affordance/affordance/Finding" "level" "Lcom/example/affordance/affordance/Level;" (.ref la4) := (f11_9.ext E13)
  have f13_10 : Exa Z h13 o7 "com/example/affordance/affordance/Finding" := (f11_10.ext E13)
  have f13_11 : Fld Z h13 o7 "com/example/affordance/affordance/Finding" "level" "Lcom/example/affordance/affordance/Level;" (.ref la8) := (f11_11.ext E13)
  have f13_12 : Exa Z h13 o11 "com/example/affordance/affordance/Finding" := (f11_12.ext E13)
  have f13_13 : Fld Z h13 o11 "com/example/affordance/affordance/Finding" "line" "I" (.int (0 : Int32)) := (f11_13.ext E13)
  have f13_14 : Fld Z h13 o11 "com/example/affordance/affordance/Finding" "column" "I" (.int (0 : Int32)) := (f11_14.ext E13)
  have f13_15 : Fld Z h13 o11 "com/example/affordance/affordance/Finding" "pointer" "Lcom/example/affordance/affordance/JsonPointer;" .null := (f11_15.ext E13)
  have f13_16 : Fld Z h13 o11 "com/example/affordance/affordance/Finding" "level" "Lcom/example/affordance/affordance/Level;" .null := (f11_16.ext E13)
  have f13_17 : Fld Z h13 o11 "com/example/affordance/affordance/Finding" "rule" "Ljava/lang/String;" .null := (f11_17.ext E13)
  have f13_18 : Fld Z h13 o11 "com/example/affordance/affordance/Finding" "quoted" "Ljava/lang/String;" .null := (f11_18.ext E13)
  have f13_19 : Fld Z h13 o11 "com/example/affordance/affordance/Finding" "rest" "Ljava/lang/String;" .null := (f11_19.ext E13)
  have CC13 : CHr Z own_EL s.vm h0 T13.vm h13 := C11.trans CHq13
  have Zs13 : n0 ≤ h13.size := (Nat.le_trans Zs11 E13.1)
  have O13 : Old Z n0 h13 := O11.ext E13
  refine GoH.step st13 ?_
  show GoH _ _ _ _ _ _ _ _ _ _ T13 (mkF m 60 #[.val (.int p1), .val (.int p2), .val (.int p3), .val (.int p4), .val (.ref ms2), .val (.ref o3), .val (.ref o7), .unset, .unset, .unset, .unset, .unset, .unset, .unset, .unset, .unset] [(.ref lt13), (.ref la12), .null, (.int (1 : Int32)), (.int (3 : Int32)), (.ref o11), (.ref o11)])
  refine GoH.step (fun t_ k_ => XS.aload X13.here hx rfl (hb hby at_60) rfl rfl k_) ?_
  show GoH _ _ _ _ _ _ _ _ _ _ T13 (mkF m 62 #[.val (.int p1), .val (.int p2), .val (.int p3), .val (.int p4), .val (.ref ms2), .val (.ref o3), .val (.ref o7), .unset, .unset, .unset, .unset, .unset, .unset, .unset, .unset, .unset] [(.ref ms2), (.ref lt13), (.ref la12), .null, (.int (1 : Int32)), (.int (3 : Int32)), (.ref o11), (.ref o11)])
  obtain ⟨_, _, ⟨T14, L14, k14, n14⟩, -, X14, ⟨Lc14, hQ14, l14, y14, z14⟩, st14⟩ := X13.specialBack hx (y := (⟨"com/example/affordance/affordance/Finding", "<init>", "(IILcom/example/affordance/affordance/JsonPointer;Lcom/example/affordance/affordance/Level;Ljava/lang/String;Lcom/example/affordance/affordance/Message;)V"⟩ : MethodName)) rfl hown13 (mvT hZ13 (hw _ (List.mem_of_getElem? (i := 36) rfl))) (mvT hZ13 (hw _ (List.mem_of_getElem? (i := 37) rfl))) (mvT hZ13 (hw _ (List.mem_of_getElem? (i := 38) rfl))) (by decide) (backOf (W := 1) (rmFi l Z a0 hw [] o11 (3 : Int32) (1 : Int32) la12 lt13 ms2 lt1 h13 n0 Zs13 ge_o11 f13_12 f13_13 f13_14 f13_15 f13_16 f13_17 f13_18 f13_19 f13_5 f13_6 f13_7) hZ13 (hw _ (List.mem_of_getElem? (i := 38) rfl)) (hw _ (List.mem_of_getElem? (i := 26) rfl)) (by decide) (by decide)) (g := (mkF m 62 #[.val (.int p1), .val (.int p2), .val (.int p3), .val (.int p4), .val (.ref ms2), .val (.ref o3), .val (.ref o7), .unset, .unset, .unset, .unset, .unset, .unset, .unset, .unset, .unset] [(.ref ms2), (.ref lt13), (.ref la12), .null, (.int (1 : Int32)), (.int (3 : Int32)), (.ref o11), (.ref o11)])) rfl (by rw [hml]; rfl) (Steps.refl _) (a := o11) (argsL := [(.int (3 : Int32)), (.int (1 : Int32)), .null, (.ref la12), (.ref lt13), (.ref ms2)]) (rest := [(.ref o11)]) (lenOf pd_16 rfl) rfl (by show 2 * 0 + _ ≤ _; exact Nat.le_of_eq rfl) (hb hby at_62) (fun _ _ => ⟨rfl, e13, (by decide : 0 + 2 + 1 + 1 + 0 + 2 + 0 + 1 + 0 + 2 + 0 + 1 + 0 + 2 + 0 ≤ _), (by decide : 0 + (4 + 4) + 2 + 7 + 0 + (4 + 4) + 0 + 7 + 0 + (4 + 4) + 0 + 7 + 0 + (4 + 4) + 0 ≤ _)⟩)
  dsimp only [Pt.U, Pt.locs, Pt.cells, Pt.slots] at X14 l14 y14 z14 st14 hQ14
  subst l14 y14 z14
  obtain ⟨rfl, N14q, Kq14, Eq14, Fa14⟩ := hQ14
  have N14 := Fr.app N12 N14q
  have f14_5 : Exa Z T14.heap ms2 "com/example/affordance/affordance/Message" := (f13_5.keep Kq14)
  have f14_6 : Fld Z T14.heap ms2 "com/example/affordance/affordance/Message" "quoted" "Ljava/lang/String;" .null := (f13_6.keep Kq14 (ninS ne_ms2_o11 nin0))
  have f14_7 : Fld Z T14.heap ms2 "com/example/affordance/affordance/Message" "rest" "Ljava/lang/String;" (.ref lt1) := (f13_7.keep Kq14 (ninS ne_ms2_o11 nin0))
  have f14_8 : Exa Z T14.heap o3 "com/example/affordance/affordance/Finding" := (f13_8.keep Kq14)
  have f14_9 : Fld Z T14.heap o3 "com/example/affordance/affordance/Finding" "level" "Lcom/example/affordance/affordance/Level;" (.ref la4) := (f13_9.keep Kq14 (ninS ne_o3_o11 nin0))
  have f14_10 : Exa Z T14.heap o7 "com/example/affordance/affordance/Finding" := (f13_10.keep Kq14)
  have f14_11 : Fld Z T14.heap o7 "com/example/affordance/affordance/Finding" "level" "Lcom/example/affordance/affordance/Level;" (.ref la8) := (f13_11.keep Kq14 (ninS ne_o7_o11 nin0))
  have f14_12 : Exa Z T14.heap o11 "com/example/affordance/affordance/Finding" := Eq14
  have f14_13 : Fld Z T14.heap o11 "com/example/affordance/affordance/Finding" "level" "Lcom/example/affordance/affordance/Level;" (.ref la12) := Fa14
  have sfk14 : ∀ x ∈ ([o11] : List Addr), Safe Z own_EL T13.vm h13 x := (sfS (Safe.exa hZ13.alike f13_12 (by decide) (by decide)) sf0)
  have hk14 : _ ≤ T14.heap.size := Nat.le_trans hk13 Kq14.1
  have C14 : CHr Z own_EL s.vm h0 T13.vm T14.heap := CC13.trans (CHr.keep Kq14 sfk14 CC13.1)
  have Zs14 : n0 ≤ T14.heap.size := (Nat.le_trans Zs13 Kq14.1)
  have O14 : Old Z n0 T14.heap := O13.keep Kq14 (allS ge_o11 all0)
  refine GoH.step (fun t_ k_ => st14.trans k_) ?_
  show GoH _ _ _ _ _ _ _ _ _ _ T14 (mkF m 65 #[.val (.int p1), .val (.int p2), .val (.int p3), .val (.int p4), .val (.ref ms2), .val (.ref o3), .val (.ref o7), .unset, .unset, .unset, .unset, .unset, .unset, .unset, .unset, .unset] [(.ref o11)])
  refine GoH.step (fun t_ k_ => XS.astore X14.here hx rfl (hb hby at_65) rfl rfl (l' := #[.val (.int p1), .val (.int p2), .val (.int p3), .val (.int p4), .val (.ref ms2), .val (.ref o3), .val (.ref o7), .val (.ref o11), .unset, .unset, .unset, .unset, .unset, .unset, .unset, .unset]) rfl k_) ?_
  show GoH _ _ _ _ _ _ _ _ _ _ T14 (mkF m 67 #[.val (.int p1), .val (.int p2), .val (.int p3), .val (.int p4), .val (.ref ms2), .val (.ref o3), .val (.ref o7), .val (.ref o11), .unset, .unset, .unset, .unset, .unset, .unset, .unset, .unset] [])
  obtain ⟨T15, h15, X15, e15, E15, A15, D15, -, st15⟩ := newO X14 hx hZ13 hown13 (hw _ (List.mem_of_getElem? (i := 66) rfl)) (hw _ (List.mem_of_getElem? (i := 67) rfl)) (hw _ (List.mem_of_getElem? (i := 68) rfl)) rfl (g := (mkF m 67 #[.val (.int p1), .val (.int p2), .val (.int p3), .val (.int p4), .val (.ref ms2), .val (.ref o3), .val (.ref o7), .val (.ref o11), .unset, .unset, .unset, .unset, .unset, .unset, .unset, .unset] [])) rfl (hb hby at_67) (by decide) (by decide)
  obtain ⟨o15, g15⟩ : ∃ z, z = T14.heap.size := ⟨_, rfl⟩
  rw [← g15] at A15 D15 st15
  have ne_ms2_o15 : ms2 ≠ o15 := Nat.ne_of_lt (Nat.lt_of_lt_of_le f14_5.lt (Nat.le_of_eq g15.symm))
  have ne_o3_o15 : o3 ≠ o15 := Nat.ne_of_lt (Nat.lt_of_lt_of_le f14_8.lt (Nat.le_of_eq g15.symm))
  have ne_o7_o15 : o7 ≠ o15 := Nat.ne_of_lt (Nat.lt_of_lt_of_le f14_10.lt (Nat.le_of_eq g15.symm))
  have ne_o11_o15 : o11 ≠ o15 := Nat.ne_of_lt (Nat.lt_of_lt_of_le f14_12.lt (Nat.le_of_eq g15.symm))
  have ge_o15 : n0 ≤ o15 := Nat.le_trans Zs14 (Nat.le_of_eq g15.symm)
  have f15_5 : Exa Z h15 ms2 "com/example/affordance/affordance/Message" := (f14_5.ext E15)
  have f15_6 : Fld Z h15 ms2 "com/example/affordance/affordance/Message" "quoted" "Ljava/lang/String;" .null := (f14_6.ext E15)
  have f15_7 : Fld Z h15 ms2 "com/example/affordance/affordance/Message" "rest" "Ljava/lang/String;" (.ref lt1) := (f14_7.ext E15)
  have f15_8 : Exa Z h15 o3 "com/example/affordance/affordance/Finding" := (f14_8.ext E15)
  have f15_9 : Fld Z h15 o3 "com/example/affordance/affordance/Finding" "level" "Lcom/example/affordance/affordance/Level;" (.ref la4) := (f14_9.ext E15)
  have f15_10 : Exa Z h15 o7 "com/example/affordance/affordance/Finding" := (f14_10.ext E15)
  have f15_11 : Fld Z h15 o7 "com/example/affordance/affordance/Finding" "level" "Lcom/example/affordance/affordance/Level;" (.ref la8) := (f14_11.ext E15)
  have f15_12 : Exa Z h15 o11 "com/example/affordance/affordance/Finding" := (f14_12.ext E15)
  have f15_13 : Fld Z h15 o11 "com/example/affordance/affordance/Finding" "level" "Lcom/example/affordance/affordance/Level;" (.ref la12) := (f14_13.ext E15)
  have f15_14 : Exa Z h15 o15 "java/util/ArrayList" := A15
  have f15_15 : Fld Z h15 o15 "java/util/AbstractList" "modCount" "I" (.int (0 : Int32)) := (D15 (Or.inl (hw _ (List.mem_of_getElem? (i := 86) rfl))) (ty := .int) (by decide))
  have f15_16 : Fld Z h15 o15 "java/util/ArrayList" "elementData" "[Ljava/lang/Object;" .null := (D15 (Or.inl (hw _ (List.mem_of_getElem? (i := 89) rfl))) (ty := (.array (.object "java/lang/Object"))) (by decide))
  have f15_17 : Fld Z h15 o15 "java/util/ArrayList" "size" "I" (.int (0 : Int32)) := (D15 (Or.inl (hw _ (List.mem_of_getElem? (i := 98) rfl))) (ty := .int) (by decide))
  have hk15 : _ ≤ h15.size := Nat.le_trans hk14 E15.1
  have C15 : CHr Z own_EL s.vm h0 T13.vm h15 := C14.trans (CHr.ext E15 C14.1)
  have Zs15 : n0 ≤ h15.size := (Nat.le_trans Zs14 E15.1)
  have O15 : Old Z n0 h15 := O14.ext E15
  refine GoH.step st15 ?_
  show GoH _ _ _ _ _ _ _ _ _ _ T15 (mkF m 70 #[.val (.int p1), .val (.int p2), .val (.int p3), .val (.int p4), .val (.ref ms2), .val (.ref o3), .val (.ref o7), .val (.ref o11), .unset, .unset, .unset, .unset, .unset, .unset, .unset, .unset] [(.ref o15)])
  refine GoH.step (fun t_ k_ => XS.dup X15.here hx rfl (hb hby at_70) rfl rfl k_) ?_
  show GoH _ _ _ _ _ _ _ _ _ _ T15 (mkF m 71 #[.val (.int p1), .val (.int p2), .val (.int p3), .val (.int p4), .val (.ref ms2), .val (.ref o3), .val (.ref o7), .val (.ref o11), .unset, .unset, .unset, .unset, .unset, .unset, .unset, .unset] [(.ref o15), (.ref o15)])
  obtain ⟨_, _, ⟨T16, L16, k16, n16⟩, -, X16, ⟨Lc16, hQ16, l16, y16, z16⟩, st16⟩ := X15.specialBack hx (y := (⟨"java/util/ArrayList", "<init>", "()V"⟩ : MethodName)) rfl hown13 (mvT hZ13 (hw _ (List.mem_of_getElem? (i := 69) rfl))) (mvT hZ13 (hw _ (List.mem_of_getElem? (i := 70) rfl))) (mvT hZ13 (hw _ (List.mem_of_getElem? (i := 71) rfl))) (by decide) (backOf (W := 1) (rmAi l Z a0 hw [] o15 dc h15 n0 Zs15 O15 S_DC ge_o15 f15_14 f15_15 f15_17 f15_16) hZ13 (hw _ (List.mem_of_getElem? (i := 71) rfl)) (hw _ (List.mem_of_getElem? (i := 68) rfl)) (by decide) (by decide)) (g := (mkF m 71 #[.val (.int p1), .val (.int p2), .val (.int p3), .val (.int p4), .val (.ref ms2), .val (.ref o3), .val (.ref o7), .val (.ref o11), .unset, .unset, .unset, .unset, .unset, .unset, .unset, .unset] [(.ref o15), (.ref o15)])) rfl (by rw [hml]; rfl) (Steps.refl _) (a := o15) (argsL := []) (rest := [(.ref o15)]) (lenOf pd_2 rfl) rfl (by show 2 * 0 + _ ≤ _; exact Nat.le_of_eq rfl) (hb hby at_71) (fun _ _ => ⟨rfl, e15, (by decide : 0 + 2 + 1 + 1 + 0 + 2 + 0 + 1 + 0 + 2 + 0 + 1 + 0 + 2 + 0 + 1 + 0 ≤ _), (by decide : 0 + (4 + 4) + 2 + 7 + 0 + (4 + 4) + 0 + 7 + 0 + (4 + 4) + 0 + 7 + 0 + (4 + 4) + 0 + 3 + 0 ≤ _)⟩)
  dsimp only [Pt.U, Pt.locs, Pt.cells, Pt.slots] at X16 l16 y16 z16 st16 hQ16
  subst l16 y16 z16
  obtain ⟨rfl, N16q, Kq16, Eq16, Fa16, Fb16, Fc16⟩ := hQ16
  have N16 := Fr.app N14 N16q
  have f16_5 : Exa Z T16.heap ms2 "com/example/affordance/affordance/Message" := (f15_5.keep Kq16)
  have f16_6 : Fld Z T16.heap ms2 "com/example/affordance/affordance/Message" "quoted" "Ljava/lang/String;" .null := (f15_6.keep Kq16 (ninS ne_ms2_o15 nin0))
  have f16_7 : Fld Z T16.heap ms2 "com/example/affordance/affordance/Message" "rest" "Ljava/lang/String;" (.ref lt1) := (f15_7.keep Kq16 (ninS ne_ms2_o15 nin0))
  have f16_8 : Exa Z T16.heap o3 "com/example/affordance/affordance/Finding" := (f15_8.keep Kq16)
  have f16_9 : Fld Z T16.heap o3 "com/example/affordance/affordance/Finding" "level" "Lcom/example/affordance/affordance/Level;" (.ref la4) := (f15_9.keep Kq16 (ninS ne_o3_o15 nin0))
  have f16_10 : Exa Z T16.heap o7 "com/example/affordance/affordance/Finding" := (f15_10.keep Kq16)
  have f16_11 : Fld Z T16.heap o7 "com/example/affordance/affordance/Finding" "level" "Lcom/example/affordance/affordance/Level;" (.ref la8) := (f15_11.keep Kq16 (ninS ne_o7_o15 nin0))
  have f16_12 : Exa Z T16.heap o11 "com/example/affordance/affordance/Finding" := (f15_12.keep Kq16)
  have f16_13 : Fld Z T16.heap o11 "com/example/affordance/affordance/Finding" "level" "Lcom/example/affordance/affordance/Level;" (.ref la12) := (f15_13.keep Kq16 (ninS ne_o11_o15 nin0))
  have f16_14 : Exa Z T16.heap o15 "java/util/ArrayList" := Eq16
  have f16_15 : Fld Z T16.heap o15 "java/util/AbstractList" "modCount" "I" (.int (0 : Int32)) := Fa16
  have f16_16 : Fld Z T16.heap o15 "java/util/ArrayList" "size" "I" (.int (0 : Int32)) := Fb16
  have f16_17 : Fld Z T16.heap o15 "java/util/ArrayList" "elementData" "[Ljava/lang/Object;" (.ref dc) := Fc16
  have sfk16 : ∀ x ∈ ([o15] : List Addr), Safe Z own_EL T13.vm h15 x := (sfS (Safe.exa hZ13.alike f15_14 (by decide) (by decide)) sf0)
  have hk16 : _ ≤ T16.heap.size := Nat.le_trans hk15 Kq16.1
  have C16 : CHr Z own_EL s.vm h0 T13.vm T16.heap := C15.trans (CHr.keep Kq16 sfk16 C15.1)
  have Zs16 : n0 ≤ T16.heap.size := (Nat.le_trans Zs15 Kq16.1)
  have O16 : Old Z n0 T16.heap := O15.keep Kq16 (allS ge_o15 all0)
  refine GoH.step (fun t_ k_ => st16.trans k_) ?_
  show GoH _ _ _ _ _ _ _ _ _ _ T16 (mkF m 74 #[.val (.int p1), .val (.int p2), .val (.int p3), .val (.int p4), .val (.ref ms2), .val (.ref o3), .val (.ref o7), .val (.ref o11), .unset, .unset, .unset, .unset, .unset, .unset, .unset, .unset] [(.ref o15)])
  refine GoH.step (fun t_ k_ => XS.astore X16.here hx rfl (hb hby at_74) rfl rfl (l' := #[.val (.int p1), .val (.int p2), .val (.int p3), .val (.int p4), .val (.ref ms2), .val (.ref o3), .val (.ref o7), .val (.ref o11), .val (.ref o15), .unset, .unset, .unset, .unset, .unset, .unset, .unset]) rfl k_) ?_
  show GoH _ _ _ _ _ _ _ _ _ _ T16 (mkF m 76 #[.val (.int p1), .val (.int p2), .val (.int p3), .val (.int p4), .val (.ref ms2), .val (.ref o3), .val (.ref o7), .val (.ref o11), .val (.ref o15), .unset, .unset, .unset, .unset, .unset, .unset, .unset] [])
  obtain ⟨T17, h17, X17, e17, E17, A17, D17, -, st17⟩ := newO X16 hx hZ13 hown13 (hw _ (List.mem_of_getElem? (i := 66) rfl)) (hw _ (List.mem_of_getElem? (i := 67) rfl)) (hw _ (List.mem_of_getElem? (i := 68) rfl)) rfl (g := (mkF m 76 #[.val (.int p1), .val (.int p2), .val (.int p3), .val (.int p4), .val (.ref ms2), .val (.ref o3), .val (.ref o7), .val (.ref o11), .val (.ref o15), .unset, .unset, .unset, .unset, .unset, .unset, .unset] [])) rfl (hb hby at_76) (by decide) (by decide)
  obtain ⟨o17, g17⟩ : ∃ z, z = T16.heap.size := ⟨_, rfl⟩
  rw [← g17] at A17 D17 st17
  have ne_ms2_o17 : ms2 ≠ o17 := Nat.ne_of_lt (Nat.lt_of_lt_of_le f16_5.lt (Nat.le_of_eq g17.symm))
  have ne_o3_o17 : o3 ≠ o17 := Nat.ne_of_lt (Nat.lt_of_lt_of_le f16_8.lt (Nat.le_of_eq g17.symm))
  have ne_o7_o17 : o7 ≠ o17 := Nat.ne_of_lt (Nat.lt_of_lt_of_le f16_10.lt (Nat.le_of_eq g17.symm))
  have ne_o11_o17 : o11 ≠ o17 := Nat.ne_of_lt (Nat.lt_of_lt_of_le f16_12.lt (Nat.le_of_eq g17.symm))
  have ne_o15_o17 : o15 ≠ o17 := Nat.ne_of_lt (Nat.lt_of_lt_of_le f16_14.lt (Nat.le_of_eq g17.symm))
  have ge_o17 : n0 ≤ o17 := Nat.le_trans Zs16 (Nat.le_of_eq g17.symm)
  have f17_5 : Exa Z h17 ms2 "com/example/affordance/affordance/Message" := (f16_5.ext E17)
  have f17_6 : Fld Z h17 ms2 "com/example/affordance/affordance/Message" "quoted" "Ljava/lang/String;" .null := (f16_6.ext E17)
  have f17_7 : Fld Z h17 ms2 "com/example/affordance/affordance/Message" "rest" "Ljava/lang/String;" (.ref lt1) := (f16_7.ext E17)
  have f17_8 : Exa Z h17 o3 "com/example/affordance/affordance/Finding" := (f16_8.ext E17)
  have f17_9 : Fld Z h17 o3 "com/example/affordance/affordance/Finding" "level" "Lcom/example/affordance/affordance/Level;" (.ref la4) := (f16_9.ext E17)
  have f17_10 : Exa Z h17 o7 "com/example/affordance/affordance/Finding" := (f16_10.ext E17)
  have f17_11 : Fld Z h17 o7 "com/example/affordance/affordance/Finding" "level" "Lcom/example/affordance/affordance/Level;" (.ref la8) := (f16_11.ext E17)
  have f17_12 : Exa Z h17 o11 "com/example/affordance/affordance/Finding" := (f16_12.ext E17)
  have f17_13 : Fld Z h17 o11 "com/example/affordance/affordance/Finding" "level" "Lcom/example/affordance/affordance/Level;" (.ref la12) := (f16_13.ext E17)
  have f17_14 : Exa Z h17 o15 "java/util/ArrayList" := (f16_14.ext E17)
  have f17_15 : Fld Z h17 o15 "java/util/AbstractList" "modCount" "I" (.int (0 : Int32)) := (f16_15.ext E17)
  have f17_16 : Fld Z h17 o15 "java/util/ArrayList" "size" "I" (.int (0 : Int32)) := (f16_16.ext E17)
  have f17_17 : Fld Z h17 o15 "java/util/ArrayList" "elementData" "[Ljava/lang/Object;" (.ref dc) := (f16_17.ext E17)
  have f17_18 : Exa Z h17 o17 "java/util/ArrayList" := A17
  have f17_19 : Fld Z h17 o17 "java/util/AbstractList" "modCount" "I" (.int (0 : Int32)) := (D17 (Or.inl (hw _ (List.mem_of_getElem? (i := 86) rfl))) (ty := .int) (by decide))
  have f17_20 : Fld Z h17 o17 "java/util/ArrayList" "elementData" "[Ljava/lang/Object;" .null := (D17 (Or.inl (hw _ (List.mem_of_getElem? (i := 89) rfl))) (ty := (.array (.object "java/lang/Object"))) (by decide))
  have f17_21 : Fld Z h17 o17 "java/util/ArrayList" "size" "I" (.int (0 : Int32)) := (D17 (Or.inl (hw _ (List.mem_of_getElem? (i := 98) rfl))) (ty := .int) (by decide))
  have hk17 : _ ≤ h17.size := Nat.le_trans hk16 E17.1
  have C17 : CHr Z own_EL s.vm h0 T13.vm h17 := C16.trans (CHr.ext E17 C16.1)
  have Zs17 : n0 ≤ h17.size := (Nat.le_trans Zs16 E17.1)
  have O17 : Old Z n0 h17 := O16.ext E17
  refine GoH.step st17 ?_
  show GoH _ _ _ _ _ _ _ _ _ _ T17 (mkF m 79 #[.val (.int p1), .val (.int p2), .val (.int p3), .val (.int p4), .val (.ref ms2), .val (.ref o3), .val (.ref o7), .val (.ref o11), .val (.ref o15), .unset, .unset, .unset, .unset, .unset, .unset, .unset] [(.ref o17)])
  refine GoH.step (fun t_ k_ => XS.dup X17.here hx rfl (hb hby at_79) rfl rfl k_) ?_
  show GoH _ _ _ _ _ _ _ _ _ _ T17 (mkF m 80 #[.val (.int p1), .val (.int p2), .val (.int p3), .val (.int p4), .val (.ref ms2), .val (.ref o3), .val (.ref o7), .val (.ref o11), .val (.ref o15), .unset, .unset, .unset, .unset, .unset, .unset, .unset] [(.ref o17), (.ref o17)])
  obtain ⟨_, _, ⟨T18, L18, k18, n18⟩, -, X18, ⟨Lc18, hQ18, l18, y18, z18⟩, st18⟩ := X17.specialBack hx (y := (⟨"java/util/ArrayList", "<init>", "()V"⟩ : MethodName)) rfl hown13 (mvT hZ13 (hw _ (List.mem_of_getElem? (i := 69) rfl))) (mvT hZ13 (hw _ (List.mem_of_getElem? (i := 70) rfl))) (mvT hZ13 (hw _ (List.mem_of_getElem? (i := 71) rfl))) (by decide) (backOf (W := 1) (rmAi l Z a0 hw [] o17 dc h17 n0 Zs17 O17 S_DC ge_o17 f17_18 f17_19 f17_21 f17_20) hZ13 (hw _ (List.mem_of_getElem? (i := 71) rfl)) (hw _ (List.mem_of_getElem? (i := 68) rfl)) (by decide) (by decide)) (g := (mkF m 80 #[.val (.int p1), .val (.int p2), .val (.int p3), .val (.int p4), .val (.ref ms2), .val (.ref o3), .val (.ref o7), .val (.ref o11), .val (.ref o15), .unset, .unset, .unset, .unset, .unset, .unset, .unset] [(.ref o17), (.ref o17)])) rfl (by rw [hml]; rfl) (Steps.refl _) (a := o17) (argsL := []) (rest := [(.ref o17)]) (lenOf pd_2 rfl) rfl (by show 2 * 0 + _ ≤ _; exact Nat.le_of_eq rfl) (hb hby at_80) (fun _ _ => ⟨rfl, e17, (by decide : 0 + 2 + 1 + 1 + 0 + 2 + 0 + 1 + 0 + 2 + 0 + 1 + 0 + 2 + 0 + 1 + 0 + 1 + 0 ≤ _), (by decide : 0 + (4 + 4) + 2 + 7 + 0 + (4 + 4) + 0 + 7 + 0 + (4 + 4) + 0 + 7 + 0 + (4 + 4) + 0 + 3 + 0 + 3 + 0 ≤ _)⟩)
  dsimp only [Pt.U, Pt.locs, Pt.cells, Pt.slots] at X18 l18 y18 z18 st18 hQ18
  subst l18 y18 z18
  obtain ⟨rfl, N18q, Kq18, Eq18, Fa18, Fb18, Fc18⟩ := hQ18
  have N18 := Fr.app N16 N18q
  have f18_5 : Exa Z T18.heap ms2 "com/example/affordance/affordance/Message" := (f17_5.keep Kq18)
  have f18_6 : Fld Z T18.heap ms2 "com/example/affordance/affordance/Message" "quoted" "Ljava/lang/String;" .null := (f17_6.keep Kq18 (ninS ne_ms2_o17 nin0))
  have f18_7 : Fld Z T18.heap ms2 "com/example/affordance/affordance/Message" "rest" "Ljava/lang/String;" (.ref lt1) := (f17_7.keep Kq18 (ninS ne_ms2_o17 nin0))
  have f18_8 : Exa Z T18.heap o3 "com/example/affordance/affordance/Finding" := (f17_8.keep Kq18)
  have f18_9 : Fld Z T18.heap o3 "com/example/affordance/affordance/Finding" "level" "Lcom/example/affordance/affordance/Level;" (.ref la4) := (f17_9.keep Kq18 (ninS ne_o3_o17 nin0))
  have f18_10 : Exa Z T18.heap o7 "com/example/affordance/affordance/Finding" := (f17_10.keep Kq18)
  have f18_11 : Fld Z T18.heap o7 "com/example/affordance/affordance/Finding" "level" "Lcom/example/affordance/affordance/Level;" (.ref la8) := (f17_11.keep Kq18 (ninS ne_o7_o17 nin0))
  have f18_12 : Exa Z T18.heap o11 "com/example/affordance/affordance/Finding" := (f17_12.keep Kq18)
  have f18_13 : Fld Z T18.heap o11 "com/example/affordance/affordance/Finding" "level" "Lcom/example/affordance/affordance/Level;" (.ref la12) := (f17_13.keep Kq18 (ninS ne_o11_o17 nin0))
  have f18_14 : Exa Z T18.heap o15 "java/util/ArrayList" := (f17_14.keep Kq18)
  have f18_15 : Fld Z T18.heap o15 "java/util/AbstractList" "modCount" "I" (.int (0 : Int32)) := (f17_15.keep Kq18 (ninS ne_o15_o17 nin0))
  have f18_16 : Fld Z T18.heap o15 "java/util/ArrayList" "size" "I" (.int (0 : Int32)) := (f17_16.keep Kq18 (ninS ne_o15_o17 nin0))
  have f18_17 : Fld Z T18.heap o15 "java/util/ArrayList" "elementData" "[Ljava/lang/Object;" (.ref dc) := (f17_17.keep Kq18 (ninS ne_o15_o17 nin0))
  have f18_18 : Exa Z T18.heap o17 "java/util/ArrayList" := Eq18
  have f18_19 : Fld Z T18.heap o17 "java/util/AbstractList" "modCount" "I" (.int (0 : Int32)) := Fa18
  have f18_20 : Fld Z T18.heap o17 "java/util/ArrayList" "size" "I" (.int (0 : Int32)) := Fb18
  have f18_21 : Fld Z T18.heap o17 "java/util/ArrayList" "elementData" "[Ljava/lang/Object;" (.ref dc) := Fc18
  have sfk18 : ∀ x ∈ ([o17] : List Addr), Safe Z own_EL T13.vm h17 x := (sfS (Safe.exa hZ13.alike f17_18 (by decide) (by decide)) sf0)
  have hk18 : _ ≤ T18.heap.size := Nat.le_trans hk17 Kq18.1
  have C18 : CHr Z own_EL s.vm h0 T13.vm T18.heap := C17.trans (CHr.keep Kq18 sfk18 C17.1)
  have Zs18 : n0 ≤ T18.heap.size := (Nat.le_trans Zs17 Kq18.1)
  have O18 : Old Z n0 T18.heap := O17.keep Kq18 (allS ge_o17 all0)
  refine GoH.step (fun t_ k_ => st18.trans k_) ?_
  show GoH _ _ _ _ _ _ _ _ _ _ T18 (mkF m 83 #[.val (.int p1), .val (.int p2), .val (.int p3), .val (.int p4), .val (.ref ms2), .val (.ref o3), .val (.ref o7), .val (.ref o11), .val (.ref o15), .unset, .unset, .unset, .unset, .unset, .unset, .unset] [(.ref o17)])
  refine GoH.step (fun t_ k_ => XS.astore X18.here hx rfl (hb hby at_83) rfl rfl (l' := #[.val (.int p1), .val (.int p2), .val (.int p3), .val (.int p4), .val (.ref ms2), .val (.ref o3), .val (.ref o7), .val (.ref o11), .val (.ref o15), .val (.ref o17), .unset, .unset, .unset, .unset, .unset, .unset]) rfl k_) ?_
  show GoH _ _ _ _ _ _ _ _ _ _ T18 (mkF m 85 #[.val (.int p1), .val (.int p2), .val (.int p3), .val (.int p4), .val (.ref ms2), .val (.ref o3), .val (.ref o7), .val (.ref o11), .val (.ref o15), .val (.ref o17), .unset, .unset, .unset, .unset, .unset, .unset] [])
  refine GoH.step (fun t_ k_ => XS.iconst X18.here hx rfl (hb hby at_85) k_) ?_
  show GoH _ _ _ _ _ _ _ _ _ _ T18 (mkF m 86 #[.val (.int p1), .val (.int p2), .val (.int p3), .val (.int p4), .val (.ref ms2), .val (.ref o3), .val (.ref o7), .val (.ref o11), .val (.ref o15), .val (.ref o17), .unset, .unset, .unset, .unset, .unset, .unset] [(.int (0 : Int32))])
  refine GoH.step (fun t_ k_ => XS.istore X18.here hx rfl (hb hby at_86) rfl (l' := #[.val (.int p1), .val (.int p2), .val (.int p3), .val (.int p4), .val (.ref ms2), .val (.ref o3), .val (.ref o7), .val (.ref o11), .val (.ref o15), .val (.ref o17), .val (.int (0 : Int32)), .unset, .unset, .unset, .unset, .unset]) rfl k_) ?_
  show GoH _ _ _ _ _ _ _ _ _ _ T18 (mkF m 88 #[.val (.int p1), .val (.int p2), .val (.int p3), .val (.int p4), .val (.ref ms2), .val (.ref o3), .val (.ref o7), .val (.ref o11), .val (.ref o15), .val (.ref o17), .val (.int (0 : Int32)), .unset, .unset, .unset, .unset, .unset] [])
  refine GoH.step (fun t_ k_ => XS.iconst X18.here hx rfl (hb hby at_88) k_) ?_
  show GoH _ _ _ _ _ _ _ _ _ _ T18 (mkF m 89 #[.val (.int p1), .val (.int p2), .val (.int p3), .val (.int p4), .val (.ref ms2), .val (.ref o3), .val (.ref o7), .val (.ref o11), .val (.ref o15), .val (.ref o17), .val (.int (0 : Int32)), .unset, .unset, .unset, .unset, .unset] [(.int (0 : Int32))])
  refine GoH.step (fun t_ k_ => XS.istore X18.here hx rfl (hb hby at_89) rfl (l' := #[.val (.int p1), .val (.int p2), .val (.int p3), .val (.int p4), .val (.ref ms2), .val (.ref o3), .val (.ref o7), .val (.ref o11), .val (.ref o15), .val (.ref o17), .val (.int (0 : Int32)), .val (.int (0 : Int32)), .unset, .unset, .unset, .unset]) rfl k_) ?_
  show GoH _ _ _ _ _ _ _ _ _ _ T18 (mkF m 91 #[.val (.int p1), .val (.int p2), .val (.int p3), .val (.int p4), .val (.ref ms2), .val (.ref o3), .val (.ref o7), .val (.ref o11), .val (.ref o15), .val (.ref o17), .val (.int (0 : Int32)), .val (.int (0 : Int32)), .unset, .unset, .unset, .unset] [])
  refine GoH.step (fun t_ k_ => XS.iloadN X18.here hx rfl (hb hby at_91) rfl k_) ?_
  show GoH _ _ _ _ _ _ _ _ _ _ T18 (mkF m 92 #[.val (.int p1), .val (.int p2), .val (.int p3), .val (.int p4), .val (.ref ms2), .val (.ref o3), .val (.ref o7), .val (.ref o11), .val (.ref o15), .val (.ref o17), .val (.int (0 : Int32)), .val (.int (0 : Int32)), .unset, .unset, .unset, .unset] [(.int p4)])
  refine GoH.step (fun t_ k_ => XS.iconst X18.here hx rfl (hb hby at_92) k_) ?_
  show GoH _ _ _ _ _ _ _ _ _ _ T18 (mkF m 93 #[.val (.int p1), .val (.int p2), .val (.int p3), .val (.int p4), .val (.ref ms2), .val (.ref o3), .val (.ref o7), .val (.ref o11), .val (.ref o15), .val (.ref o17), .val (.int (0 : Int32)), .val (.int (0 : Int32)), .unset, .unset, .unset, .unset] [(.int (1 : Int32)), (.int p4)])
  refine GoH.step (fun t_ k_ => XS.iand X18.here hx rfl (hb hby at_93) rfl k_) ?_
  show GoH _ _ _ _ _ _ _ _ _ _ T18 (mkF m 94 #[.val (.int p1), .val (.int p2), .val (.int p3), .val (.int p4), .val (.ref ms2), .val (.ref o3), .val (.ref o7), .val (.ref o11), .val (.ref o15), .val (.ref o17), .val (.int (0 : Int32)), .val (.int (0 : Int32)), .unset, .unset, .unset, .unset] [(.int (p4 &&& (1 : Int32)))])
  by_cases hb94_19 : (p4 &&& (1 : Int32)) = (0 : Int32)
  · refine GoH.step (fun t_ k_ => XS.ifYes X18.here hx rfl (pc0 := 94) (pc' := 108) rfl (hb hby at_94) rfl (XT.i0_eq_t hb94_19) (by decide) (by decide) k_) ?_
    show GoH _ _ _ _ _ _ _ _ _ _ T18 (mkF m 108 #[.val (.int p1), .val (.int p2), .val (.int p3), .val (.int p4), .val (.ref ms2), .val (.ref o3), .val (.ref o7), .val (.ref o11), .val (.ref o15), .val (.ref o17), .val (.int (0 : Int32)), .val (.int (0 : Int32)), .unset, .unset, .unset, .unset] [])
    show GoH _ _ _ _ _ _ _ _ _ _ T18 (mkF m 108 #[.val (.int p1), .val (.int p2), .val (.int p3), .val (.int p4), .val (.ref ms2), .val (.ref o3), .val (.ref o7), .val (.ref o11), .val (.ref o15), .val (.ref o17), .val (.int (Int32.ofNat 0)), .val (.int (0 : Int32)), .unset, .unset, .unset, .unset] [])
    exact sg108_0 l Z a0 hw p1 p2 p3 p4 mu sh ma dc kd vd vv kv vsv h0 n0 Z0 O0 S_MUST S_SHOULD S_MAY L_MUST L_SHOULD L_MAY S_DC A_DC S_VV E_VV A_VV kd ((0 : Int32)) ((vd)) 0 dc (((0 : Int32))) (((0 : Int32))) ms2 o3 o7 o11 o15 o17 la4 la8 la12 (X18.mono (by decide) (by decide)) hx hby hlk hml hret hnm rfl N18 Zs18 O18 hS13 hk18 hZ13 hown13 hEL C18 f18_8 f18_10 f18_12 f18_9 f18_11 f18_13 f18_14 f18_15 f18_18 f18_19 f18_20 f18_21 ne_o15_o17 ge_o3 ge_o7 ge_o11 ge_o15 ge_o17 (own_in0) (Or.inl ⟨rfl, rfl, rfl⟩) ((by omega)) (f18_16) (f18_17) ((A_DC.ext O18.2)) (hla4) (hla8) (hla12)
  · refine GoH.step (fun t_ k_ => XS.ifNo X18.here hx rfl (hb hby at_94) rfl (XT.i0_eq_f hb94_19) k_) ?_
    show GoH _ _ _ _ _ _ _ _ _ _ T18 (mkF m 97 #[.val (.int p1), .val (.int p2), .val (.int p3), .val (.int p4), .val (.ref ms2), .val (.ref o3), .val (.ref o7), .val (.ref o11), .val (.ref o15), .val (.ref o17), .val (.int (0 : Int32)), .val (.int (0 : Int32)), .unset, .unset, .unset, .unset] [])
    refine GoH.step (fun t_ k_ => XS.aload X18.here hx rfl (hb hby at_97) rfl rfl k_) ?_
    show GoH _ _ _ _ _ _ _ _ _ _ T18 (mkF m 99 #[.val (.int p1), .val (.int p2), .val (.int p3), .val (.int p4), .val (.ref ms2), .val (.ref o3), .val (.ref o7), .val (.ref o11), .val (.ref o15), .val (.ref o17), .val (.int (0 : Int32)), .val (.int (0 : Int32)), .unset, .unset, .unset, .unset] [(.ref o15)])
    refine GoH.step (fun t_ k_ => XS.aload X18.here hx rfl (hb hby at_99) rfl rfl k_) ?_
    show GoH _ _ _ _ _ _ _ _ _ _ T18 (mkF m 101 #[.val (.int p1), .val (.int p2), .val (.int p3), .val (.int p4), .val (.ref ms2), .val (.ref o3), .val (.ref o7), .val (.ref o11), .val (.ref o15), .val (.ref o17), .val (.int (0 : Int32)), .val (.int (0 : Int32)), .unset, .unset, .unset, .unset] [(.ref o3), (.ref o15)])
    obtain ⟨cq46, kq46, qa46, qb46, qc46⟩ := isOf hZ13 rfl f18_14
    obtain ⟨_, _, ⟨T46, L46, k46, n46⟩, -, X46, ⟨Lc46, hQ46, l46, y46, z46⟩, st46⟩ := X18.virtualBack hx (y := (⟨"java/util/ArrayList", "add", "(Ljava/lang/Object;)Z"⟩ : MethodName)) (z := (⟨"java/util/ArrayList", "add", "(Ljava/lang/Object;)Z"⟩ : MethodName)) hown13 (mvT hZ13 (hw _ (List.mem_of_getElem? (i := 90) rfl))) (mvT hZ13 (hw _ (List.mem_of_getElem? (i := 91) rfl))) (notFace_of_selects (args := #[]) (mvT hZ13 (hw _ (List.mem_of_getElem? (i := 93) rfl)))) (mvT hZ13 (hw _ (List.mem_of_getElem? (i := 93) rfl))) (mvT hZ13 (hw _ (List.mem_of_getElem? (i := 92) rfl))) (by decide) (backOf (W := 0) (rmAdA l Z a0 hw [] o15 o3 dc kd vd (0 : Int32) T18.heap n0 Zs18 O18 S_DC ge_o15 f18_14 f18_15 f18_16 f18_17 (A_DC.ext O18.2) f18_8) hZ13 (hw _ (List.mem_of_getElem? (i := 94) rfl)) (hw _ (List.mem_of_getElem? (i := 68) rfl)) (by decide) (by decide)) qa46 qc46 (g := (mkF m 101 #[.val (.int p1), .val (.int p2), .val (.int p3), .val (.int p4), .val (.ref ms2), .val (.ref o3), .val (.ref o7), .val (.ref o11), .val (.ref o15), .val (.ref o17), .val (.int (0 : Int32)), .val (.int (0 : Int32)), .unset, .unset, .unset, .unset] [(.ref o3), (.ref o15)])) rfl (by rw [hml]; rfl) (Steps.refl _) (argsL := [(.ref o3)]) (rest := []) (lenOf pd_18 rfl) rfl (by show 2 * 0 + _ ≤ _; exact Nat.le_of_eq rfl) (hb hby at_101) (fun _ _ => ⟨rfl, rfl, (by decide : 0 + 2 + 1 + 1 + 0 + 2 + 0 + 1 + 0 + 2 + 0 + 1 + 0 + 2 + 0 + 1 + 0 + 1 + 0 + 1 ≤ _), (by decide : 0 + (4 + 4) + 2 + 7 + 0 + (4 + 4) + 0 + 7 + 0 + (4 + 4) + 0 + 7 + 0 + (4 + 4) + 0 + 3 + 0 + 3 + 0 + 10 ≤ _)⟩)
    dsimp only [Pt.U, Pt.locs, Pt.cells, Pt.slots] at X46 l46 y46 z46 st46 hQ46
    subst l46 y46 z46
    obtain ⟨rfl, N46q, Kq46, tg46, kg46, gq46, gh46, Eq46, Fa46, Fb46, Fc46, Aq46, Oq46⟩ := hQ46
    have N46 := Fr.app N18 N46q
    have ne_ms2_tg46 : ms2 ≠ tg46 := Nat.ne_of_lt (Nat.lt_of_lt_of_le f18_5.lt gh46)
    have ne_o3_tg46 : o3 ≠ tg46 := Nat.ne_of_lt (Nat.lt_of_lt_of_le f18_8.lt gh46)
    have ne_o7_tg46 : o7 ≠ tg46 := Nat.ne_of_lt (Nat.lt_of_lt_of_le f18_10.lt gh46)
    have ne_o11_tg46 : o11 ≠ tg46 := Nat.ne_of_lt (Nat.lt_of_lt_of_le f18_12.lt gh46)
    have ne_o15_tg46 : o15 ≠ tg46 := Nat.ne_of_lt (Nat.lt_of_lt_of_le f18_14.lt gh46)
    have ne_o17_tg46 : o17 ≠ tg46 := Nat.ne_of_lt (Nat.lt_of_lt_of_le f18_18.lt gh46)
    have ne_dc_tg46 : dc ≠ tg46 := Nat.ne_of_lt (Nat.lt_of_lt_of_le (A_DC.ext O18.2).lt gh46)
    have f46_5 : Exa Z T46.heap ms2 "com/example/affordance/affordance/Message" := (f18_5.keep Kq46)
    have f46_6 : Fld Z T46.heap ms2 "com/example/affordance/affordance/Message" "quoted" "Ljava/lang/String;" .null := (f18_6.keep Kq46 (ninS ne_ms2_o15 nin0))
    have f46_7 : Fld Z T46.heap ms2 "com/example/affordance/affordance/Message" "rest" "Ljava/lang/String;" (.ref lt1) := (f18_7.keep Kq46 (ninS ne_ms2_o15 nin0))
    have f46_8 : Exa Z T46.heap o3 "com/example/affordance/affordance/Finding" := (f18_8.keep Kq46)
    have f46_9 : Fld Z T46.heap o3 "com/example/affordance/affordance/Finding" "level" "Lcom/example/affordance/affordance/Level;" (.ref la4) := (f18_9.keep Kq46 (ninS ne_o3_o15 nin0))
    have f46_10 : Exa Z T46.heap o7 "com/example/affordance/affordance/Finding" := (f18_10.keep Kq46)
    have f46_11 : Fld Z T46.heap o7 "com/example/affordance/affordance/Finding" "level" "Lcom/example/affordance/affordance/Level;" (.ref la8) := (f18_11.keep Kq46 (ninS ne_o7_o15 nin0))
    have f46_12 : Exa Z T46.heap o11 "com/example/affordance/affordance/Finding" := (f18_12.keep Kq46)
    have f46_13 : Fld Z T46.heap o11 "com/example/affordance/affordance/Finding" "level" "Lcom/example/affordance/affordance/Level;" (.ref la12) := (f18_13.keep Kq46 (ninS ne_o11_o15 nin0))
    have f46_14 : Exa Z T46.heap o17 "java/util/ArrayList" := (f18_18.keep Kq46)
    have f46_15 : Fld Z T46.heap o17 "java/util/AbstractList" "modCount" "I" (.int (0 : Int32)) := (f18_19.keep Kq46 (ninS (Ne.symm ne_o15_o17) nin0))
    have f46_16 : Fld Z T46.heap o17 "java/util/ArrayList" "size" "I" (.int (0 : Int32)) := (f18_20.keep Kq46 (ninS (Ne.symm ne_o15_o17) nin0))
    have f46_17 : Fld Z T46.heap o17 "java/util/ArrayList" "elementData" "[Ljava/lang/Object;" (.ref dc) := (f18_21.keep Kq46 (ninS (Ne.symm ne_o15_o17) nin0))
    have f46_18 : Arv Z T46.heap dc kd (.object "java/lang/Object") (0 : Int32) vd .null := ((A_DC.ext O18.2).keep Kq46 (ninS (Ne.symm (own_ne_arv f18_14 (hw _ (List.mem_of_getElem? (i := 67) rfl)) (A_DC.ext O18.2))) nin0))
    have f46_19 : Exa Z T46.heap o15 "java/util/ArrayList" := Eq46
    have f46_20 : Fld Z T46.heap o15 "java/util/AbstractList" "modCount" "I" (.int ((0 : Int32) + (1 : Int32))) := Fa46
    have f46_21 : Fld Z T46.heap o15 "java/util/ArrayList" "size" "I" (.int (1 : Int32)) := Fb46
    have f46_22 : Fld Z T46.heap o15 "java/util/ArrayList" "elementData" "[Ljava/lang/Object;" (.ref tg46) := Fc46
    have f46_23 : Arv Z T46.heap tg46 kg46 (.object "java/lang/Object") (10 : Int32) [(.ref o3), Value.null, Value.null, Value.null, Value.null, Value.null, Value.null, Value.null, Value.null, Value.null] .null := Aq46
    have sfk46 : ∀ x ∈ ([o15] : List Addr), Safe Z own_EL T13.vm T18.heap x := (sfS (Safe.exa hZ13.alike f18_14 (by decide) (by decide)) sf0)
    have hk46 : _ ≤ T46.heap.size := Nat.le_trans hk18 Kq46.1
    have C46 : CHr Z own_EL s.vm h0 T13.vm T46.heap := C18.trans (CHr.keep Kq46 sfk46 C18.1)
    have Zs46 : n0 ≤ T46.heap.size := (Nat.le_trans Zs18 Kq46.1)
    have O46 : Old Z n0 T46.heap := O18.keep Kq46 (allS ge_o15 all0)
    refine GoH.step (fun t_ k_ => st46.trans k_) ?_
    show GoH _ _ _ _ _ _ _ _ _ _ T46 (mkF m 104 #[.val (.int p1), .val (.int p2), .val (.int p3), .val (.int p4), .val (.ref ms2), .val (.ref o3), .val (.ref o7), .val (.ref o11), .val (.ref o15), .val (.ref o17), .val (.int (0 : Int32)), .val (.int (0 : Int32)), .unset, .unset, .unset, .unset] [(.int (1 : Int32))])
    refine GoH.step (fun t_ k_ => XT.pop X46.here hx rfl (hb hby at_104) rfl rfl k_) ?_
    show GoH _ _ _ _ _ _ _ _ _ _ T46 (mkF m 105 #[.val (.int p1), .val (.int p2), .val (.int p3), .val (.int p4), .val (.ref ms2), .val (.ref o3), .val (.ref o7), .val (.ref o11), .val (.ref o15), .val (.ref o17), .val (.int (0 : Int32)), .val (.int (0 : Int32)), .unset, .unset, .unset, .unset] [])
    refine GoH.step (fun t_ k_ => XS.iinc X46.here hx rfl (hb hby at_105) rfl (l' := #[.val (.int p1), .val (.int p2), .val (.int p3), .val (.int p4), .val (.ref ms2), .val (.ref o3), .val (.ref o7), .val (.ref o11), .val (.ref o15), .val (.ref o17), .val (.int (1 : Int32)), .val (.int (0 : Int32)), .unset, .unset, .unset, .unset]) rfl k_) ?_
    show GoH _ _ _ _ _ _ _ _ _ _ T46 (mkF m 108 #[.val (.int p1), .val (.int p2), .val (.int p3), .val (.int p4), .val (.ref ms2), .val (.ref o3), .val (.ref o7), .val (.ref o11), .val (.ref o15), .val (.ref o17), .val (.int (1 : Int32)), .val (.int (0 : Int32)), .unset, .unset, .unset, .unset] [])
    show GoH _ _ _ _ _ _ _ _ _ _ T46 (mkF m 108 #[.val (.int p1), .val (.int p2), .val (.int p3), .val (.int p4), .val (.ref ms2), .val (.ref o3), .val (.ref o7), .val (.ref o11), .val (.ref o15), .val (.ref o17), .val (.int (Int32.ofNat 1)), .val (.int (0 : Int32)), .unset, .unset, .unset, .unset] [])
    exact sg108_0 l Z a0 hw p1 p2 p3 p4 mu sh ma dc kd vd vv kv vsv h0 n0 Z0 O0 S_MUST S_SHOULD S_MAY L_MUST L_SHOULD L_MAY S_DC A_DC S_VV E_VV A_VV kg46 ((10 : Int32)) (([(.ref o3), Value.null, Value.null, Value.null, Value.null, Value.null, Value.null, Value.null, Value.null, Value.null])) 1 tg46 ((((0 : Int32) + (1 : Int32)))) (((0 : Int32))) ms2 o3 o7 o11 o15 o17 la4 la8 la12 (X46.mono (by decide) (by decide)) hx hby hlk hml hret hnm rfl N46 Zs46 O46 hS13 hk46 hZ13 hown13 hEL C46 f46_8 f46_10 f46_12 f46_9 f46_11 f46_13 f46_19 f46_20 f46_14 f46_15 f46_16 f46_17 ne_o15_o17 ge_o3 ge_o7 ge_o11 ge_o15 ge_o17 ((own_in_set (n := 0) (vs := [Value.null, Value.null, Value.null, Value.null, Value.null, Value.null, Value.null, Value.null, Value.null, Value.null]) own_in0 (by decide) (Or.inl rfl))) ((Or.inr ⟨rfl, rfl, gq46, Oq46⟩)) ((by omega)) (f46_21) (f46_22) (f46_23) (hla4) (hla8) (hla12)
theorem own_eqint {args : Array Value} {first s : State} {o : Option Outcome} {idx : List Nat} {t : Term} {k : Int32} (h : (Jvm.Cond.eq t (.int k)).value args first o s idx = some true) : t.eval args first o idx s = some (.int k) := by
  simp only [Cond.value, Term.eval] at h
  cases ht : t.eval args first o idx s with
  | none => simp [ht] at h
  | some x => cases x <;> simp [ht] at h ⊢; exact h
theorem own_arrN {args : Array Value} {s : State} {t : Term} {a : Addr} {ty : FieldType} {n : Int32} (hf : Fit s) (ev : t.eval args s none [] s = some (.ref a)) (hx : (Cond.arrayOf t ty).value args s none s [] = some true) (hl : (Term.length t).eval args s none [] s = some (.int n)) (hn : ¬ n < 0) : ∃ (k : ClassId) (vs : List Value), Arv s s.heap a k ty n vs .null := by
  obtain ⟨c, A⟩ := Arr.start ev hx
  obtain ⟨a', cell, e1, e2, e3⟩ := Term.length_spec hl
  cases ev.symm.trans e1
  cases (A.fin (Vm.Alike.refl _)).symm.trans e2
  have q : c.slots.size < 2 ^ 31 := SBG.length_lt ev e2 hl
  have e : c.slots.size.toInt32 = n := by injection e3 with e3; exact e3.symm
  have S : c.slots.size = n.toNatClampNeg := by rw [← e]; simp only [Int32.toNatClampNeg, len_toInt q]; rfl
  have H' : Has c c.slots.toList .null := fun j hj => by simp [List.getD_eq_getElem?_getD, hj]
  refine ⟨c.cls, c.slots.toList, c, A, rfl, S, hn, H', fun j hj => ?_⟩
  have e1 : (Nat.toInt32 j).toNatClampNeg = j := by simp only [Int32.toNatClampNeg, len_toInt (Nat.lt_trans hj q)]; rfl
  exact elem_fits (j := Nat.toInt32 j) hf A (idx_in hj q) (by rw [e1]; exact H' j hj)
set_option maxRecDepth 65536 in
set_option maxHeartbeats 40000000 in
theorem comes_1 {Post : Tables → Env → Array Value → State → Outcome → State → Prop} (hpost : ∀ tb e args s v u, (limb_1_1.after args s (.returned v) u = true ∧ limb_1_2.after args s (.returned v) u = true ∧ True) → ReturnedEndW s (.returned v) u (Jvm.fieldLocs frame_1_writes args s ++ Jvm.arrayLocs frame_1_arrays args s ++ Jvm.staticLocs frame_1_statics s) 40 2304 → Post tb e args s (.returned v) u) :
    ArmFor flags0 classFile x code maxLocals ret World_1 tables_1 room_1 Calls_1 rest_1 Pre_1 Post := by
  intro l hfl _ _ p e ha hc hk s m args below hf hA hF happ hP
  obtain ⟨hcalls, hrest, hpre⟩ := hP
  obtain ⟨-, -, -, hnamed, -, -, -, hat⟩ := (Spec.applies_iff hf).mp happ
  obtain ⟨hg, hn⟩ := and_e (Cond.before_iff.mp (show (Jvm.Cond.and given_1 narrow_1).before args s = true from hpre))
  obtain ⟨gc, gA0⟩ := and_e hg
  obtain ⟨gi0, gA1⟩ := and_e gA0
  obtain ⟨gi1, gA2⟩ := and_e gA1
  obtain ⟨gi2, gA3⟩ := and_e gA2
  obtain ⟨w0, w1, w2, w3, rfl⟩ : ∃ w0 w1 w2 w3 : Value, args = #[w0, w1, w2, w3] := by
    have hs : args.size = 4 := by simpa [Cond.value, given_1] using gc
    obtain ⟨L⟩ := args
    match L, hs with
    | [w0, w1, w2, w3], _ => exact ⟨w0, w1, w2, w3, rfl⟩
  have hw := fun d (hd : d ∈ tables_1) => atoms_spec (ws := Jvm.Cond.code x code maxLocals ret :: tables_1) hat d (List.mem_cons_of_mem _ hd)
  have hfit : Fit s := fun {y c} hc i hi => by
    obtain ⟨ha, rfl⟩ := Array.getElem?_eq_some_iff.mp hc
    have q := List.all_eq_true.mp ((Array.all_eq_true_iff_forall_mem.mp hF) _ (Array.getElem_mem ha)) i (List.mem_range.mpr hi)
    simpa [Array.getElem?_eq_getElem hi] using q
  obtain ⟨i0, ei0⟩ := is_v gi0
  obtain rfl : w0 = (.int i0) := Option.some.inj ei0
  obtain ⟨i1, ei1⟩ := is_v gi1
  obtain rfl : w1 = (.int i1) := Option.some.inj ei1
  obtain ⟨i2, ei2⟩ := is_v gi2
  obtain rfl : w2 = (.int i2) := Option.some.inj ei2
  obtain ⟨i3, ei3⟩ := is_v gA3
  obtain rfl : w3 = (.int i3) := Option.some.inj ei3
  obtain ⟨hsets, hown0⟩ := atoms_of _ (rest_1_c_eq ▸ (show rest_1_c.before _ s = true from hrest))
  have d6 := Cond.before_iff.mp (hsets _ (List.mem_of_getElem? (i := 6) rfl))
  have d8 := Cond.before_iff.mp (hsets _ (List.mem_of_getElem? (i := 8) rfl))
  obtain ⟨dc, edc⟩ := arr_v d6
  have S_DC : Sta s s.heap "java/util/ArrayList" "DEFAULTCAPACITY_EMPTY_ELEMENTDATA" "[Ljava/lang/Object;" (.ref dc) := Sta.start edc (Or.inr ⟨(hw _ (List.mem_of_getElem? (i := 68) rfl)), hsets _ (List.mem_of_getElem? (i := 2) rfl)⟩)
  obtain ⟨kd, vd, A_DC⟩ := own_arrN hfit edc d6 (own_eqint d8) (by decide)
  obtain ⟨nn0, nA0⟩ := and_e hn
  obtain ⟨nn1, nA1⟩ := and_e nA0
  obtain ⟨nn2, nA2⟩ := and_e nA1
  obtain ⟨nn3, nA3⟩ := and_e nA2
  obtain ⟨nn4, nA4⟩ := and_e nA3
  obtain ⟨nn5, nA5⟩ := and_e nA4
  obtain ⟨nn6, nA6⟩ := and_e nA5
  obtain ⟨nn7, nA7⟩ := and_e nA6
  obtain ⟨nn8, nA8⟩ := and_e nA7
  obtain ⟨nn9, nA9⟩ := and_e nA8
  obtain ⟨nn10, nA10⟩ := and_e nA9
  have nn11 := nA10
  obtain ⟨mu, ew_MUST⟩ := exa_v nn0
  have S_MUST : Sta s s.heap "com/example/affordance/affordance/Level" "MUST" "Lcom/example/affordance/affordance/Level;" (.ref mu) := Sta.start ew_MUST (Or.inr ⟨(hw _ (List.mem_of_getElem? (i := 33) rfl)), (hw _ (List.mem_of_getElem? (i := 34) rfl))⟩)
  have E_MUST := Exa.start ew_MUST nn0
  obtain ⟨ma, ew_MAY⟩ := exa_v nn1
  have S_MAY : Sta s s.heap "com/example/affordance/affordance/Level" "MAY" "Lcom/example/affordance/affordance/Level;" (.ref ma) := Sta.start ew_MAY (Or.inr ⟨(hw _ (List.mem_of_getElem? (i := 33) rfl)), (hw _ (List.mem_of_getElem? (i := 65) rfl))⟩)
  have E_MAY := Exa.start ew_MAY nn1
  obtain ⟨vv, evv⟩ := arr_v nn2
  have S_VV : Sta s s.heap "com/example/affordance/affordance/Level" "$VALUES" "[Lcom/example/affordance/affordance/Level;" (.ref vv) := Sta.start evv (Or.inr ⟨(hw _ (List.mem_of_getElem? (i := 33) rfl)), (hw _ (List.mem_of_getElem? (i := 132) rfl))⟩)
  obtain ⟨sh, ew_SHOULD⟩ := exa_v nn6
  have S_SHOULD : Sta s s.heap "com/example/affordance/affordance/Level" "SHOULD" "Lcom/example/affordance/affordance/Level;" (.ref sh) := Sta.start ew_SHOULD (Or.inr ⟨(hw _ (List.mem_of_getElem? (i := 33) rfl)), (hw _ (List.mem_of_getElem? (i := 140) rfl))⟩)
  have E_SHOULD := Exa.start ew_SHOULD nn6
  have E_VV := Exa.start evv nn3
  obtain ⟨kv, vsv, A_VV⟩ := own_arrN hfit evv nn2 (own_eqint nn4) (by decide)
  have L_MUST : own_lv s mu := ⟨E_MUST, 0, by decide, Fld.start ((fld_at ew_MUST).symm.trans (own_eqint nn9))⟩
  have L_SHOULD : own_lv s sh := ⟨E_SHOULD, 1, by decide, Fld.start ((fld_at ew_SHOULD).symm.trans (own_eqint nn10))⟩
  have L_MAY : own_lv s ma := ⟨E_MAY, 2, by decide, Fld.start ((fld_at ew_MAY).symm.trans (own_eqint nn11))⟩
  obtain ⟨n, o, h1, h2, h3, _, L, rfl, ⟨rfl, N⟩, -, hq⟩ := rm0 l s _ hw tables_1 i0 i1 i2 i3 mu sh ma dc kd vd vv kv vsv s.heap s.heap.size (Nat.le_refl _) (Old.start s) S_MUST S_SHOULD S_MAY L_MUST L_SHOULD L_MAY S_DC A_DC S_VV E_VV A_VV p e ha hc hk s m _ below hf ((Spec.applies_iff_loose hf).mp happ).1 ⟨rfl, State.Warmed39.refl s, rfl, nCH⟩ trivial
  refine ⟨n, _, h1, h2, h3, hpost _ _ _ _ _ _ ⟨Cond.after_iff.mpr rfl, Cond.after_iff.mpr (eq_i res_at (Term.int_eval (1)) rfl), trivial⟩ ⟨hq.1, hq.2.1, hq.2.2.1, (hq.2.2.2.sift fun y hy => Or.inr (N y hy)).mono (by decide) (by decide)⟩⟩
theorem main_1_1 : Claimed_1_1 := comes_1 fun _ _ _ _ _ _ h hF => ⟨h.1, hF⟩
theorem main_1_2 : Claimed_1_2 := comes_1 fun _ _ _ _ _ _ h hF => ⟨h.2.1, hF⟩
end Jvm.Pilot.@@N@@
namespace Jvm.Pilot.@@N@@
open Jvm Jvm.ClassFile Sem Op Lib Jvm.Free Jvm.Stand Jvm.Pilot.@@N@@.Jvm.D
/-! MADE BY PROGRAM (witnessworld.py) out of the Statement's table words and the real class files: 31 classes; the members and pool entries that the words name. The judged class is class 1, her method 2. -/
namespace start1
open Jvm.ClassFile
def u (s : String) : CpInfo := .utf8 (stringToUtf16 s)
/-- a pool by its gaps: so many unusable entries, then the entry; so many at the end -/
def gap : Nat → List CpInfo → List CpInfo
  | 0, r => r
  | n + 1, r => .unusable :: gap n r
def poolList (es : List (Nat × CpInfo)) (last : Nat) : List CpInfo := es.foldr (fun e r => gap e.1 (e.2 :: r)) (gap last [])
def pool (es : List (Nat × CpInfo)) (last : Nat) : Array CpInfo := ⟨poolList es last⟩
def fileOf (pool : Array CpInfo) (this : Nat) (attrs : Array Attribute := #[]) (ms : Array MethodInfo := #[]) (fl : Nat := 33) (sup : Nat := 0) (ifs : Array Nat := #[]) (fds : Array FieldInfo := #[]) : ClassFile where
  minorVersion := 0
  majorVersion := 65
  constantPool := pool
  accessFlags := fl
  thisClass := this
  superClass := sup
  interfaces := ifs
  fields := fds
  methods := ms
  attributes := attrs
def plain (name : String) (sup : Option ClassId) : Class where
  name := name
  kind := .ordinary
  loader := none
  accessFlags := 33
  super := sup
  interfaces := #[]
  cf := none
  fields := #[]
  methods := #[]
  instanceTypes := #[]
  staticTypes := #[]
  resolved := #[]
  callSites := []
  init := .initialized
  statics := none
  mirror := none

def pool0 : Array CpInfo := pool [(5, u "<init>"), (0, u "()V"), (1, .class_ 10), (1, u "java/lang/Object"), (85, u "clone"), (0, u "()Ljava/lang/Object;")] 26

def k0c0 : Code := { maxStack := 0, maxLocals := 1, code := object_method_1_code, exceptionTable := #[], attributes := #[] }
def k0m0 : Method := { name := "<init>", desc := "()V", sig := { parameters := [], returnType := none }, accessFlags := 1, code := some k0c0 }
def k0m1 : Method := { name := "clone", desc := "()Ljava/lang/Object;", sig := { parameters := [], returnType := some (.object "java/lang/Object") }, accessFlags := 260, code := none }
/-- java/lang/Object -/
def k0 : Class := { plain "java/lang/Object" none with
  accessFlags := 33
  interfaces := #[]
  cf := some (fileOf pool0 8 #[] #[{ accessFlags := 1, nameIndex := 5, descriptorIndex := 6, attributes := #[] }, { accessFlags := 260, nameIndex := 96, descriptorIndex := 97, attributes := #[] }] 33 0 #[] #[])
  fields := #[]
  methods := #[k0m0, k0m1]
  instanceTypes := #[]
  staticTypes := #[]
  resolved := Array.replicate 124 none
  statics := none }

def pool1 : Array CpInfo := pool [(2, .class_ 4), (0, .nameAndType 5 6), (0, u "java/lang/Object"), (0, u "<init>"), (0, u "()V"), (0, .integer 2147483647), (0, .fieldref 9 10), (0, .class_ 11), (0, .nameAndType 12 13), (0, u "com/example/affordance/affordance/Level"), (0, u "MUST"), (0, u "Lcom/example/affordance/affordance/Level;"), (0, .fieldref 9 15), (0, .nameAndType 16 13), (0, u "SHOULD"), (0, .fieldref 9 18), (0, .nameAndType 19 13), (0, u "MAY"), (0, .string 21), (0, u "m"), (0, .methodref 23 24), (0, .class_ 25), (0, .nameAndType 26 27), (0, u "com/example/affordance/affordance/Message"), (0, u "of"), (0, u "(Ljava/lang/String;)Lcom/example/affordance/affordance/Message;"), (0, .class_ 29), (0, u "com/example/affordance/affordance/Finding"), (0, .methodref 31 32), (0, .class_ 33), (0, .nameAndType 34 35), (0, u "com/example/affordance/affordance/FindingCountsTotalPinLaw"), (0, u "level"), (0, u "(I)Lcom/example/affordance/affordance/Level;"), (0, .string 37), (0, u "r"), (0, .methodref 28 39), (0, .nameAndType 5 40), (0, u "(IILcom/example/affordance/affordance/JsonPointer;Lcom/example/affordance/affordance/Level;Ljava/lang/String;Lcom/example/affordance/affordance/Message;)V"), (0, .class_ 42), (0, u "java/util/ArrayList"), (0, .methodref 41 3), (0, .methodref 41 45), (0, .nameAndType 46 47), (0, u "add"), (0, u "(Ljava/lang/Object;)Z"), (0, .class_ 49), (0, u "com/example/affordance/affordance/FindingCounts"), (0, .methodref 48 3), (0, .methodref 48 52), (0, .nameAndType 53 54), (0, u "total"), (0, u "()I"), (0, .methodref 48 56), (0, .nameAndType 46 57), (0, u "(Ljava/util/List;)V"), (3, u "law"), (0, u "(IIII)Z")] 2

def k1m0 : Method := { name := "<init>", desc := "()V", sig := { parameters := [], returnType := none }, accessFlags := 1, code := none }
def k1c1 : Code := { maxStack := 2, maxLocals := 2, code := method_2_code, exceptionTable := #[], attributes := #[] }
def k1m1 : Method := { name := "level", desc := "(I)Lcom/example/affordance/affordance/Level;", sig := { parameters := [.int], returnType := some (.object "com/example/affordance/affordance/Level") }, accessFlags := 10, code := some k1c1 }
def k1c2 : Code := { maxStack := 8, maxLocals := 16, code := code, exceptionTable := #[], attributes := #[] }
def k1m2 : Method := { name := "law", desc := "(IIII)Z", sig := { parameters := [.int, .int, .int, .int], returnType := some .boolean }, accessFlags := 9, code := some k1c2 }
/-- com/example/affordance/affordance/FindingCountsTotalPinLaw -/
def k1 : Class := { plain "com/example/affordance/affordance/FindingCountsTotalPinLaw" (some 0) with
  accessFlags := 49
  interfaces := #[]
  cf := some (fileOf pool1 31 #[] #[{ accessFlags := 1, nameIndex := 5, descriptorIndex := 6, attributes := #[] }, { accessFlags := 10, nameIndex := 34, descriptorIndex := 35, attributes := #[] }, { accessFlags := 9, nameIndex := 61, descriptorIndex := 62, attributes := #[] }] 49 2 #[] #[])
  fields := #[]
  methods := #[k1m0, k1m1, k1m2]
  instanceTypes := #[]
  staticTypes := #[]
  resolved := Array.replicate 65 none
  statics := none }

def pool2 : Array CpInfo := pool [(1, .class_ 2), (0, u "java/io/Serializable"), (0, .class_ 4), (0, u "java/lang/Object")] 2

/-- java/io/Serializable -/
def k2 : Class := { plain "java/io/Serializable" (some 0) with
  accessFlags := 1537
  interfaces := #[]
  cf := some (fileOf pool2 1 #[] #[] 1537 3 #[] #[])
  fields := #[]
  methods := #[]
  instanceTypes := #[]
  staticTypes := #[]
  resolved := Array.replicate 7 none
  statics := none }

def pool3 : Array CpInfo := pool [(1, .class_ 2), (0, u "java/lang/Comparable"), (0, .class_ 4), (0, u "java/lang/Object")] 7

/-- java/lang/Comparable -/
def k3 : Class := { plain "java/lang/Comparable" (some 0) with
  accessFlags := 1537
  interfaces := #[]
  cf := some (fileOf pool3 1 #[] #[] 1537 3 #[] #[])
  fields := #[]
  methods := #[]
  instanceTypes := #[]
  staticTypes := #[]
  resolved := Array.replicate 12 none
  statics := none }

def pool4 : Array CpInfo := pool [(2, .class_ 4), (1, u "java/lang/CharSequence"), (42, .class_ 48), (0, u "java/lang/CharSequence$1CodePointIterator"), (10, .class_ 60), (0, u "java/lang/CharSequence$1CharIterator"), (5, .class_ 67), (0, u "java/lang/Object")] 63

/-- java/lang/CharSequence -/
def k4 : Class := { plain "java/lang/CharSequence" (some 0) with
  accessFlags := 1537
  interfaces := #[]
  cf := some (fileOf pool4 2 #[.nestMembers #[47, 59]] #[] 1537 66 #[] #[])
  fields := #[]
  methods := #[]
  instanceTypes := #[]
  staticTypes := #[]
  resolved := Array.replicate 131 none
  statics := none }

def pool5 : Array CpInfo := pool [(1, .class_ 2), (0, u "java/lang/constant/Constable"), (0, .class_ 4), (0, u "java/lang/Object")] 6

/-- java/lang/constant/Constable -/
def k5 : Class := { plain "java/lang/constant/Constable" (some 0) with
  accessFlags := 1537
  interfaces := #[]
  cf := some (fileOf pool5 1 #[] #[] 1537 3 #[] #[])
  fields := #[]
  methods := #[]
  instanceTypes := #[]
  staticTypes := #[]
  resolved := Array.replicate 11 none
  statics := none }

def pool6 : Array CpInfo := pool [(1, .class_ 2), (0, u "java/lang/constant/ConstantDesc"), (0, .class_ 4), (0, u "java/lang/Object")] 32

/-- java/lang/constant/ConstantDesc -/
def k6 : Class := { plain "java/lang/constant/ConstantDesc" (some 0) with
  accessFlags := 1537
  interfaces := #[]
  cf := some (fileOf pool6 1 #[] #[] 1537 3 #[] #[])
  fields := #[]
  methods := #[]
  instanceTypes := #[]
  staticTypes := #[]
  resolved := Array.replicate 37 none
  statics := none }

def pool7 : Array CpInfo := pool [(2, .class_ 4), (1, u "java/lang/Object"), (0, u "<init>"), (0, u "()V"), (3, .class_ 12), (1, u "java/lang/String"), (0, u "value"), (0, u "[B"), (2, u "coder"), (0, u "B"), (2, u "hash"), (0, u "I"), (2, u "hashIsZero"), (0, u "Z"), (13, u "COMPACT_STRINGS"), (534, .class_ 576), (0, u "java/lang/CharSequence"), (22, u "CASE_INSENSITIVE_ORDER"), (0, u "Ljava/util/Comparator;"), (500, u "serialPersistentFields"), (0, u "[Ljava/io/ObjectStreamField;"), (0, .class_ 1104), (0, u "java/lang/String$CaseInsensitiveComparator"), (1, .class_ 1107), (0, u "java/io/Serializable"), (0, .class_ 1109), (0, u "java/lang/Comparable"), (0, .class_ 1111), (0, u "java/lang/constant/Constable"), (0, .class_ 1113), (0, u "java/lang/constant/ConstantDesc"), (2, u "serialVersionUID"), (0, u "J"), (3, u "REPL"), (0, u "C"), (2, u "LATIN1"), (1, u "UTF16")] 323

def k7m0 : Method := { name := "<init>", desc := "()V", sig := { parameters := [], returnType := none }, accessFlags := 1, code := none }
/-- java/lang/String -/
def k7 : Class := { plain "java/lang/String" (some 0) with
  accessFlags := 49
  interfaces := #[2, 3, 4, 5, 6]
  cf := some (fileOf pool7 10 #[.nestMembers #[1103]] #[{ accessFlags := 1, nameIndex := 5, descriptorIndex := 6, attributes := #[] }] 49 2 #[1106, 1108, 575, 1110, 1112] #[{ accessFlags := 18, nameIndex := 13, descriptorIndex := 14, attributes := #[] }, { accessFlags := 18, nameIndex := 17, descriptorIndex := 18, attributes := #[] }, { accessFlags := 2, nameIndex := 21, descriptorIndex := 22, attributes := #[] }, { accessFlags := 2, nameIndex := 25, descriptorIndex := 26, attributes := #[] }, { accessFlags := 26, nameIndex := 1116, descriptorIndex := 1117, attributes := #[] }, { accessFlags := 24, nameIndex := 40, descriptorIndex := 26, attributes := #[] }, { accessFlags := 26, nameIndex := 1101, descriptorIndex := 1102, attributes := #[] }, { accessFlags := 26, nameIndex := 1121, descriptorIndex := 1122, attributes := #[] }, { accessFlags := 25, nameIndex := 599, descriptorIndex := 600, attributes := #[] }, { accessFlags := 24, nameIndex := 1125, descriptorIndex := 18, attributes := #[] }, { accessFlags := 24, nameIndex := 1127, descriptorIndex := 18, attributes := #[] }])
  fields := #[{ name := "value", type := (.array .byte), accessFlags := 18, slot := 0, constantValue := 0 }, { name := "coder", type := .byte, accessFlags := 18, slot := 1, constantValue := 0 }, { name := "hash", type := .int, accessFlags := 2, slot := 2, constantValue := 0 }, { name := "hashIsZero", type := .boolean, accessFlags := 2, slot := 3, constantValue := 0 }, { name := "serialVersionUID", type := .long, accessFlags := 26, slot := 0, constantValue := 0 }, { name := "COMPACT_STRINGS", type := .boolean, accessFlags := 24, slot := 1, constantValue := 0 }, { name := "serialPersistentFields", type := (.array (.object "java/io/ObjectStreamField")), accessFlags := 26, slot := 2, constantValue := 0 }, { name := "REPL", type := .char, accessFlags := 26, slot := 3, constantValue := 0 }, { name := "CASE_INSENSITIVE_ORDER", type := (.object "java/util/Comparator"), accessFlags := 25, slot := 4, constantValue := 0 }, { name := "LATIN1", type := .byte, accessFlags := 24, slot := 5, constantValue := 0 }, { name := "UTF16", type := .byte, accessFlags := 24, slot := 6, constantValue := 0 }]
  methods := #[k7m0]
  instanceTypes := #[(.array .byte), .byte, .int, .boolean]
  staticTypes := #[.long, .boolean, (.array (.object "java/io/ObjectStreamField")), .char, (.object "java/util/Comparator"), .byte, .byte]
  resolved := Array.replicate 1451 none
  statics := none }

def pool8 : Array CpInfo := pool [(1, .methodref 2 3), (0, .class_ 4), (0, .nameAndType 5 6), (0, u "java/lang/Object"), (0, u "<init>"), (0, u "()V"), (0, .fieldref 8 9), (0, .class_ 10), (0, .nameAndType 11 12), (0, u "com/example/affordance/affordance/Message"), (0, u "quoted"), (0, u "Ljava/lang/String;"), (0, .fieldref 8 14), (0, .nameAndType 15 12), (0, u "rest"), (0, .methodref 8 17), (0, .nameAndType 5 18), (0, u "(Ljava/lang/String;Ljava/lang/String;)V"), (25, u "()Ljava/lang/String;"), (2, u "of"), (0, u "(Ljava/lang/String;)Lcom/example/affordance/affordance/Message;")] 5

def k8c0 : Code := { maxStack := 2, maxLocals := 3, code := prog_22_method_1_code, exceptionTable := #[], attributes := #[] }
def k8m0 : Method := { name := "<init>", desc := "(Ljava/lang/String;Ljava/lang/String;)V", sig := { parameters := [(.object "java/lang/String"), (.object "java/lang/String")], returnType := none }, accessFlags := 2, code := some k8c0 }
def k8c1 : Code := { maxStack := 4, maxLocals := 1, code := prog_22_method_2_code, exceptionTable := #[], attributes := #[] }
def k8m1 : Method := { name := "of", desc := "(Ljava/lang/String;)Lcom/example/affordance/affordance/Message;", sig := { parameters := [(.object "java/lang/String")], returnType := some (.object "com/example/affordance/affordance/Message") }, accessFlags := 8, code := some k8c1 }
def k8c2 : Code := { maxStack := 1, maxLocals := 1, code := prog_22_method_5_code, exceptionTable := #[], attributes := #[] }
def k8m2 : Method := { name := "quoted", desc := "()Ljava/lang/String;", sig := { parameters := [], returnType := some (.object "java/lang/String") }, accessFlags := 0, code := some k8c2 }
def k8c3 : Code := { maxStack := 1, maxLocals := 1, code := prog_22_method_6_code, exceptionTable := #[], attributes := #[] }
def k8m3 : Method := { name := "rest", desc := "()Ljava/lang/String;", sig := { parameters := [], returnType := some (.object "java/lang/String") }, accessFlags := 0, code := some k8c3 }
/-- com/example/affordance/affordance/Message -/
def k8 : Class := { plain "com/example/affordance/affordance/Message" (some 0) with
  accessFlags := 48
  interfaces := #[]
  cf := some (fileOf pool8 8 #[] #[{ accessFlags := 2, nameIndex := 5, descriptorIndex := 18, attributes := #[] }, { accessFlags := 8, nameIndex := 47, descriptorIndex := 48, attributes := #[] }, { accessFlags := 0, nameIndex := 11, descriptorIndex := 44, attributes := #[] }, { accessFlags := 0, nameIndex := 15, descriptorIndex := 44, attributes := #[] }] 48 2 #[] #[{ accessFlags := 18, nameIndex := 11, descriptorIndex := 12, attributes := #[] }, { accessFlags := 18, nameIndex := 15, descriptorIndex := 12, attributes := #[] }])
  fields := #[{ name := "quoted", type := (.object "java/lang/String"), accessFlags := 18, slot := 0, constantValue := 0 }, { name := "rest", type := (.object "java/lang/String"), accessFlags := 18, slot := 1, constantValue := 0 }]
  methods := #[k8m0, k8m1, k8m2, k8m3]
  instanceTypes := #[(.object "java/lang/String"), (.object "java/lang/String")]
  staticTypes := #[]
  resolved := Array.replicate 54 none
  statics := none }

def pool9 : Array CpInfo := pool [(5, u "line"), (3, u "column"), (1, .class_ 13), (1, u "com/example/affordance/affordance/Message"), (3, .class_ 19), (1, u "com/example/affordance/affordance/Finding"), (0, u "<init>"), (0, u "(IILcom/example/affordance/affordance/JsonPointer;Lcom/example/affordance/affordance/Level;Ljava/lang/String;Lcom/example/affordance/affordance/Message;)V"), (0, .methodref 23 24), (0, .class_ 25), (0, .nameAndType 20 26), (0, u "java/lang/Object"), (0, u "()V"), (0, .fieldref 17 28), (0, .nameAndType 5 29), (0, u "I"), (0, .fieldref 17 31), (0, .nameAndType 9 29), (0, .fieldref 17 33), (0, .nameAndType 34 35), (0, u "pointer"), (0, u "Lcom/example/affordance/affordance/JsonPointer;"), (0, .fieldref 17 37), (0, .nameAndType 38 39), (0, u "level"), (0, u "Lcom/example/affordance/affordance/Level;"), (0, .fieldref 17 41), (0, .nameAndType 42 43), (0, u "rule"), (0, u "Ljava/lang/String;"), (0, .methodref 11 45), (0, .nameAndType 46 47), (0, u "quoted"), (0, u "()Ljava/lang/String;"), (0, .fieldref 17 49), (0, .nameAndType 46 43), (0, .methodref 11 51), (0, .nameAndType 52 47), (0, u "rest"), (0, .fieldref 17 54), (0, .nameAndType 52 43), (34, .class_ 90), (0, u "com/example/affordance/affordance/Finding$1"), (3, u "ORDER"), (0, u "Ljava/util/Comparator;"), (6, u "()Lcom/example/affordance/affordance/Level;")] 23

def k9c0 : Code := { maxStack := 2, maxLocals := 7, code := prog_15_method_2_code, exceptionTable := #[], attributes := #[] }
def k9m0 : Method := { name := "<init>", desc := "(IILcom/example/affordance/affordance/JsonPointer;Lcom/example/affordance/affordance/Level;Ljava/lang/String;Lcom/example/affordance/affordance/Message;)V", sig := { parameters := [.int, .int, (.object "com/example/affordance/affordance/JsonPointer"), (.object "com/example/affordance/affordance/Level"), (.object "java/lang/String"), (.object "com/example/affordance/affordance/Message")], returnType := none }, accessFlags := 0, code := some k9c0 }
def k9c1 : Code := { maxStack := 1, maxLocals := 1, code := prog_15_method_5_code, exceptionTable := #[], attributes := #[] }
def k9m1 : Method := { name := "level", desc := "()Lcom/example/affordance/affordance/Level;", sig := { parameters := [], returnType := some (.object "com/example/affordance/affordance/Level") }, accessFlags := 1, code := some k9c1 }
/-- com/example/affordance/affordance/Finding -/
def k9 : Class := { plain "com/example/affordance/affordance/Finding" (some 0) with
  accessFlags := 49
  interfaces := #[]
  cf := some (fileOf pool9 17 #[.nestMembers #[89]] #[{ accessFlags := 0, nameIndex := 20, descriptorIndex := 21, attributes := #[] }, { accessFlags := 1, nameIndex := 38, descriptorIndex := 102, attributes := #[] }] 49 23 #[] #[{ accessFlags := 25, nameIndex := 94, descriptorIndex := 95, attributes := #[] }, { accessFlags := 18, nameIndex := 5, descriptorIndex := 29, attributes := #[] }, { accessFlags := 18, nameIndex := 9, descriptorIndex := 29, attributes := #[] }, { accessFlags := 18, nameIndex := 34, descriptorIndex := 35, attributes := #[] }, { accessFlags := 18, nameIndex := 38, descriptorIndex := 39, attributes := #[] }, { accessFlags := 18, nameIndex := 42, descriptorIndex := 43, attributes := #[] }, { accessFlags := 18, nameIndex := 46, descriptorIndex := 43, attributes := #[] }, { accessFlags := 18, nameIndex := 52, descriptorIndex := 43, attributes := #[] }])
  fields := #[{ name := "ORDER", type := (.object "java/util/Comparator"), accessFlags := 25, slot := 0, constantValue := 0 }, { name := "line", type := .int, accessFlags := 18, slot := 0, constantValue := 0 }, { name := "column", type := .int, accessFlags := 18, slot := 1, constantValue := 0 }, { name := "pointer", type := (.object "com/example/affordance/affordance/JsonPointer"), accessFlags := 18, slot := 2, constantValue := 0 }, { name := "level", type := (.object "com/example/affordance/affordance/Level"), accessFlags := 18, slot := 3, constantValue := 0 }, { name := "rule", type := (.object "java/lang/String"), accessFlags := 18, slot := 4, constantValue := 0 }, { name := "quoted", type := (.object "java/lang/String"), accessFlags := 18, slot := 5, constantValue := 0 }, { name := "rest", type := (.object "java/lang/String"), accessFlags := 18, slot := 6, constantValue := 0 }]
  methods := #[k9m0, k9m1]
  instanceTypes := #[.int, .int, (.object "com/example/affordance/affordance/JsonPointer"), (.object "com/example/affordance/affordance/Level"), (.object "java/lang/String"), (.object "java/lang/String"), (.object "java/lang/String")]
  staticTypes := #[(.object "java/util/Comparator")]
  resolved := Array.replicate 126 none
  statics := none }

def pool10 : Array CpInfo := pool [(2, .class_ 4), (1, u "java/lang/Enum"), (0, u "name"), (0, u "Ljava/lang/String;"), (0, .fieldref 2 8), (0, .nameAndType 9 10), (0, u "ordinal"), (0, u "I"), (1, .class_ 14), (1, u "java/lang/Object"), (4, u "hash"), (86, .class_ 108), (1, u "java/lang/Enum$EnumDesc"), (2, .class_ 112), (0, u "java/lang/constant/Constable"), (0, .class_ 114), (0, u "java/lang/Comparable"), (0, .class_ 116), (0, u "java/io/Serializable"), (9, u "()I")] 77

def k10c0 : Code := { maxStack := 1, maxLocals := 1, code := jdk_37_method_2_code, exceptionTable := #[], attributes := #[] }
def k10m0 : Method := { name := "ordinal", desc := "()I", sig := { parameters := [], returnType := some .int }, accessFlags := 17, code := some k10c0 }
/-- java/lang/Enum -/
def k10 : Class := { plain "java/lang/Enum" (some 0) with
  accessFlags := 1057
  interfaces := #[5, 3, 2]
  cf := some (fileOf pool10 2 #[.nestMembers #[106]] #[{ accessFlags := 17, nameIndex := 9, descriptorIndex := 126, attributes := #[] }] 1057 12 #[111, 113, 115] #[{ accessFlags := 18, nameIndex := 5, descriptorIndex := 6, attributes := #[] }, { accessFlags := 18, nameIndex := 9, descriptorIndex := 10, attributes := #[] }, { accessFlags := 2, nameIndex := 19, descriptorIndex := 10, attributes := #[] }])
  fields := #[{ name := "name", type := (.object "java/lang/String"), accessFlags := 18, slot := 0, constantValue := 0 }, { name := "ordinal", type := .int, accessFlags := 18, slot := 1, constantValue := 0 }, { name := "hash", type := .int, accessFlags := 2, slot := 2, constantValue := 0 }]
  methods := #[k10m0]
  instanceTypes := #[(.object "java/lang/String"), .int, .int]
  staticTypes := #[]
  resolved := Array.replicate 204 none
  statics := none }

def pool11 : Array CpInfo := pool [(1, .class_ 2), (0, u "com/example/affordance/affordance/Level"), (2, u "MUST"), (0, u "Lcom/example/affordance/affordance/Level;"), (2, u "SHOULD"), (2, u "MAY"), (0, .fieldref 1 14), (0, .nameAndType 15 16), (0, u "$VALUES"), (0, u "[Lcom/example/affordance/affordance/Level;"), (0, .methodref 18 19), (0, .class_ 16), (0, .nameAndType 20 21), (0, u "clone"), (0, u "()Ljava/lang/Object;"), (1, .class_ 25), (1, u "java/lang/Enum"), (33, u "()[Lcom/example/affordance/affordance/Level;"), (0, u "values")] 14

def k11c0 : Code := { maxStack := 1, maxLocals := 0, code := prog_20_method_1_code, exceptionTable := #[], attributes := #[] }
def k11m0 : Method := { name := "values", desc := "()[Lcom/example/affordance/affordance/Level;", sig := { parameters := [], returnType := some (.array (.object "com/example/affordance/affordance/Level")) }, accessFlags := 9, code := some k11c0 }
/-- com/example/affordance/affordance/Level -/
def k11 : Class := { plain "com/example/affordance/affordance/Level" (some 10) with
  accessFlags := 16433
  interfaces := #[]
  cf := some (fileOf pool11 1 #[] #[{ accessFlags := 9, nameIndex := 60, descriptorIndex := 59, attributes := #[] }] 16433 23 #[] #[{ accessFlags := 16409, nameIndex := 5, descriptorIndex := 6, attributes := #[] }, { accessFlags := 16409, nameIndex := 9, descriptorIndex := 6, attributes := #[] }, { accessFlags := 16409, nameIndex := 12, descriptorIndex := 6, attributes := #[] }, { accessFlags := 4122, nameIndex := 15, descriptorIndex := 16, attributes := #[] }])
  fields := #[{ name := "MUST", type := (.object "com/example/affordance/affordance/Level"), accessFlags := 16409, slot := 0, constantValue := 0 }, { name := "SHOULD", type := (.object "com/example/affordance/affordance/Level"), accessFlags := 16409, slot := 1, constantValue := 0 }, { name := "MAY", type := (.object "com/example/affordance/affordance/Level"), accessFlags := 16409, slot := 2, constantValue := 0 }, { name := "$VALUES", type := (.array (.object "com/example/affordance/affordance/Level")), accessFlags := 4122, slot := 3, constantValue := 0 }]
  methods := #[k11m0]
  instanceTypes := #[(.object "java/lang/String"), .int, .int]
  staticTypes := #[(.object "com/example/affordance/affordance/Level"), (.object "com/example/affordance/affordance/Level"), (.object "com/example/affordance/affordance/Level"), (.array (.object "com/example/affordance/affordance/Level"))]
  resolved := Array.replicate 75 none
  statics := some 0 }

def pool12 : Array CpInfo := pool [(8, .class_ 10), (1, u "java/lang/Iterable"), (24, .class_ 36), (0, u "java/lang/Object")] 25

/-- java/lang/Iterable -/
def k12 : Class := { plain "java/lang/Iterable" (some 0) with
  accessFlags := 1537
  interfaces := #[]
  cf := some (fileOf pool12 8 #[] #[] 1537 35 #[] #[])
  fields := #[]
  methods := #[]
  instanceTypes := #[]
  staticTypes := #[]
  resolved := Array.replicate 62 none
  statics := none }

def pool13 : Array CpInfo := pool [(10, .class_ 12), (1, u "java/util/Collection"), (47, .class_ 61), (0, u "java/lang/Object"), (0, .class_ 63), (0, u "java/lang/Iterable")] 51

/-- java/util/Collection -/
def k13 : Class := { plain "java/util/Collection" (some 0) with
  accessFlags := 1537
  interfaces := #[12]
  cf := some (fileOf pool13 10 #[] #[] 1537 60 #[62] #[])
  fields := #[]
  methods := #[]
  instanceTypes := #[]
  staticTypes := #[]
  resolved := Array.replicate 115 none
  statics := none }

def pool14 : Array CpInfo := pool [(1, .methodref 2 3), (0, .class_ 4), (0, .nameAndType 5 6), (0, u "java/lang/Object"), (0, u "<init>"), (0, u "()V"), (1, .class_ 10), (1, u "java/util/AbstractCollection"), (66, .class_ 78), (0, u "java/util/Collection")] 81

def k14c0 : Code := { maxStack := 1, maxLocals := 1, code := jdk_22_method_1_code, exceptionTable := #[], attributes := #[] }
def k14m0 : Method := { name := "<init>", desc := "()V", sig := { parameters := [], returnType := none }, accessFlags := 4, code := some k14c0 }
/-- java/util/AbstractCollection -/
def k14 : Class := { plain "java/util/AbstractCollection" (some 0) with
  accessFlags := 1057
  interfaces := #[13]
  cf := some (fileOf pool14 8 #[] #[{ accessFlags := 4, nameIndex := 5, descriptorIndex := 6, attributes := #[] }] 1057 2 #[77] #[])
  fields := #[]
  methods := #[k14m0]
  instanceTypes := #[]
  staticTypes := #[]
  resolved := Array.replicate 160 none
  statics := none }

def pool15 : Array CpInfo := pool [(8, .class_ 10), (1, u "java/util/SequencedCollection"), (15, .class_ 27), (0, u "java/lang/Object"), (0, .class_ 29), (0, u "java/util/Collection")] 27

/-- java/util/SequencedCollection -/
def k15 : Class := { plain "java/util/SequencedCollection" (some 0) with
  accessFlags := 1537
  interfaces := #[13]
  cf := some (fileOf pool15 8 #[] #[] 1537 26 #[28] #[])
  fields := #[]
  methods := #[]
  instanceTypes := #[]
  staticTypes := #[]
  resolved := Array.replicate 57 none
  statics := none }

def pool16 : Array CpInfo := pool [(8, .class_ 10), (1, u "java/util/List"), (92, .class_ 104), (0, u "java/lang/Object"), (15, .class_ 121), (0, u "java/util/SequencedCollection"), (1, u "iterator"), (0, u "()Ljava/util/Iterator;")] 126

def k16m0 : Method := { name := "iterator", desc := "()Ljava/util/Iterator;", sig := { parameters := [], returnType := some (.object "java/util/Iterator") }, accessFlags := 1025, code := none }
/-- java/util/List -/
def k16 : Class := { plain "java/util/List" (some 0) with
  accessFlags := 1537
  interfaces := #[15]
  cf := some (fileOf pool16 8 #[] #[{ accessFlags := 1025, nameIndex := 123, descriptorIndex := 124, attributes := #[] }] 1537 103 #[120] #[])
  fields := #[]
  methods := #[k16m0]
  instanceTypes := #[]
  staticTypes := #[]
  resolved := Array.replicate 251 none
  statics := none }

def pool17 : Array CpInfo := pool [(1, .methodref 2 3), (0, .class_ 4), (0, .nameAndType 5 6), (0, u "java/util/AbstractCollection"), (0, u "<init>"), (0, u "()V"), (0, .fieldref 8 9), (0, .class_ 10), (0, .nameAndType 11 12), (0, u "java/util/AbstractList"), (0, u "modCount"), (0, u "I"), (64, .class_ 78), (0, u "java/util/AbstractList$Itr"), (3, .class_ 83), (0, u "java/util/AbstractList$ListItr"), (9, .class_ 94), (0, u "java/util/AbstractList$RandomAccessSubList"), (3, .class_ 99), (0, u "java/util/AbstractList$SubList"), (33, .class_ 134), (0, u "java/util/List"), (73, .class_ 209), (0, u "java/util/AbstractList$SubList$1"), (0, .class_ 211), (0, u "java/util/AbstractList$RandomAccessSpliterator")] 6

def k17c0 : Code := { maxStack := 2, maxLocals := 1, code := jdk_39_method_1_code, exceptionTable := #[], attributes := #[] }
def k17m0 : Method := { name := "<init>", desc := "()V", sig := { parameters := [], returnType := none }, accessFlags := 4, code := some k17c0 }
/-- java/util/AbstractList -/
def k17 : Class := { plain "java/util/AbstractList" (some 14) with
  accessFlags := 1057
  interfaces := #[16]
  cf := some (fileOf pool17 8 #[.nestMembers #[93, 98, 208, 210, 82, 77]] #[{ accessFlags := 4, nameIndex := 5, descriptorIndex := 6, attributes := #[] }] 1057 2 #[133] #[{ accessFlags := 132, nameIndex := 11, descriptorIndex := 12, attributes := #[] }])
  fields := #[{ name := "modCount", type := .int, accessFlags := 132, slot := 0, constantValue := 0 }]
  methods := #[k17m0]
  instanceTypes := #[.int]
  staticTypes := #[]
  resolved := Array.replicate 218 none
  statics := none }

def pool18 : Array CpInfo := pool [(1, .class_ 2), (0, u "java/util/RandomAccess"), (0, .class_ 4), (0, u "java/lang/Object")] 2

/-- java/util/RandomAccess -/
def k18 : Class := { plain "java/util/RandomAccess" (some 0) with
  accessFlags := 1537
  interfaces := #[]
  cf := some (fileOf pool18 1 #[] #[] 1537 3 #[] #[])
  fields := #[]
  methods := #[]
  instanceTypes := #[]
  staticTypes := #[]
  resolved := Array.replicate 7 none
  statics := none }

def pool19 : Array CpInfo := pool [(1, .class_ 2), (0, u "java/lang/Cloneable"), (0, .class_ 4), (0, u "java/lang/Object")] 2

/-- java/lang/Cloneable -/
def k19 : Class := { plain "java/lang/Cloneable" (some 0) with
  accessFlags := 1537
  interfaces := #[]
  cf := some (fileOf pool19 1 #[] #[] 1537 3 #[] #[])
  fields := #[]
  methods := #[]
  instanceTypes := #[]
  staticTypes := #[]
  resolved := Array.replicate 7 none
  statics := none }

def pool20 : Array CpInfo := pool [(1, .methodref 2 3), (0, .class_ 4), (0, .nameAndType 5 6), (0, u "java/util/AbstractList"), (0, u "<init>"), (0, u "()V"), (0, .class_ 8), (0, u "java/lang/Object"), (0, .fieldref 10 11), (0, .class_ 12), (0, .nameAndType 13 14), (0, u "java/util/ArrayList"), (0, u "elementData"), (0, u "[Ljava/lang/Object;"), (2, u "EMPTY_ELEMENTDATA"), (21, .fieldref 10 40), (0, .nameAndType 41 14), (0, u "DEFAULTCAPACITY_EMPTY_ELEMENTDATA"), (5, u "()[Ljava/lang/Object;"), (0, .fieldref 10 49), (0, .nameAndType 50 51), (0, u "size"), (0, u "I"), (11, .fieldref 10 64), (0, .nameAndType 65 51), (0, u "modCount"), (3, .methodref 10 70), (0, .nameAndType 71 72), (0, u "grow"), (0, u "(I)[Ljava/lang/Object;"), (6, .methodref 80 81), (0, .class_ 82), (0, .nameAndType 83 84), (0, u "java/lang/Math"), (0, u "max"), (0, u "(II)I"), (11, u "(Ljava/lang/Object;)Z"), (32, .methodref 10 130), (0, .nameAndType 71 47), (0, .methodref 10 132), (0, .nameAndType 133 134), (0, u "add"), (0, u "(Ljava/lang/Object;[Ljava/lang/Object;I)V"), (13, .class_ 149), (0, u "java/util/List"), (16, u "iterator"), (0, u "()Ljava/util/Iterator;"), (94, .class_ 263), (0, u "java/util/ArrayList$ListItr"), (3, .class_ 268), (0, u "java/util/ArrayList$Itr"), (0, .methodref 267 270), (0, .nameAndType 5 271), (0, u "(Ljava/util/ArrayList;)V"), (4, .class_ 277), (0, u "java/util/ArrayList$SubList"), (12, .class_ 291), (0, u "java/util/ArrayList$ArrayListSpliterator"), (37, .class_ 330), (0, u "java/util/RandomAccess"), (0, .class_ 332), (0, u "java/lang/Cloneable"), (0, .class_ 334), (0, u "java/io/Serializable"), (0, u "serialVersionUID"), (0, u "J"), (3, u "DEFAULT_CAPACITY"), (159, .class_ 501), (0, u "java/util/ArrayList$SubList$2"), (0, .class_ 503), (0, u "java/util/ArrayList$SubList$1")] 5

def k20c0 : Code := { maxStack := 2, maxLocals := 1, code := jdk_38_method_2_code, exceptionTable := #[], attributes := #[] }
def k20m0 : Method := { name := "<init>", desc := "()V", sig := { parameters := [], returnType := none }, accessFlags := 1, code := some k20c0 }
def k20c1 : Code := { maxStack := 4, maxLocals := 4, code := jdk_38_method_6_code, exceptionTable := #[], attributes := #[] }
def k20m1 : Method := { name := "grow", desc := "(I)[Ljava/lang/Object;", sig := { parameters := [.int], returnType := some (.array (.object "java/lang/Object")) }, accessFlags := 2, code := some k20c1 }
def k20c2 : Code := { maxStack := 3, maxLocals := 1, code := jdk_38_method_7_code, exceptionTable := #[], attributes := #[] }
def k20m2 : Method := { name := "grow", desc := "()[Ljava/lang/Object;", sig := { parameters := [], returnType := some (.array (.object "java/lang/Object")) }, accessFlags := 2, code := some k20c2 }
def k20c3 : Code := { maxStack := 3, maxLocals := 4, code := jdk_38_method_24_code, exceptionTable := #[], attributes := #[] }
def k20m3 : Method := { name := "add", desc := "(Ljava/lang/Object;[Ljava/lang/Object;I)V", sig := { parameters := [(.object "java/lang/Object"), (.array (.object "java/lang/Object")), .int], returnType := none }, accessFlags := 2, code := some k20c3 }
def k20c4 : Code := { maxStack := 4, maxLocals := 2, code := jdk_38_method_25_code, exceptionTable := #[], attributes := #[] }
def k20m4 : Method := { name := "add", desc := "(Ljava/lang/Object;)Z", sig := { parameters := [(.object "java/lang/Object")], returnType := some .boolean }, accessFlags := 1, code := some k20c4 }
def k20c5 : Code := { maxStack := 3, maxLocals := 1, code := jdk_38_method_55_code, exceptionTable := #[], attributes := #[] }
def k20m5 : Method := { name := "iterator", desc := "()Ljava/util/Iterator;", sig := { parameters := [], returnType := some (.object "java/util/Iterator") }, accessFlags := 1, code := some k20c5 }
/-- java/util/ArrayList -/
def k20 : Class := { plain "java/util/ArrayList" (some 17) with
  accessFlags := 33
  interfaces := #[16, 18, 19, 2]
  cf := some (fileOf pool20 10 #[.nestMembers #[290, 276, 500, 502, 262, 267]] #[{ accessFlags := 1, nameIndex := 5, descriptorIndex := 6, attributes := #[] }, { accessFlags := 2, nameIndex := 71, descriptorIndex := 72, attributes := #[] }, { accessFlags := 2, nameIndex := 71, descriptorIndex := 47, attributes := #[] }, { accessFlags := 2, nameIndex := 133, descriptorIndex := 134, attributes := #[] }, { accessFlags := 1, nameIndex := 133, descriptorIndex := 96, attributes := #[] }, { accessFlags := 1, nameIndex := 166, descriptorIndex := 167, attributes := #[] }] 33 2 #[148, 329, 331, 333] #[{ accessFlags := 26, nameIndex := 335, descriptorIndex := 336, attributes := #[] }, { accessFlags := 26, nameIndex := 340, descriptorIndex := 51, attributes := #[] }, { accessFlags := 26, nameIndex := 17, descriptorIndex := 14, attributes := #[] }, { accessFlags := 26, nameIndex := 41, descriptorIndex := 14, attributes := #[] }, { accessFlags := 128, nameIndex := 13, descriptorIndex := 14, attributes := #[] }, { accessFlags := 2, nameIndex := 50, descriptorIndex := 51, attributes := #[] }])
  fields := #[{ name := "serialVersionUID", type := .long, accessFlags := 26, slot := 0, constantValue := 0 }, { name := "DEFAULT_CAPACITY", type := .int, accessFlags := 26, slot := 1, constantValue := 0 }, { name := "EMPTY_ELEMENTDATA", type := (.array (.object "java/lang/Object")), accessFlags := 26, slot := 2, constantValue := 0 }, { name := "DEFAULTCAPACITY_EMPTY_ELEMENTDATA", type := (.array (.object "java/lang/Object")), accessFlags := 26, slot := 3, constantValue := 0 }, { name := "elementData", type := (.array (.object "java/lang/Object")), accessFlags := 128, slot := 1, constantValue := 0 }, { name := "size", type := .int, accessFlags := 2, slot := 2, constantValue := 0 }]
  methods := #[k20m0, k20m1, k20m2, k20m3, k20m4, k20m5]
  instanceTypes := #[.int, (.array (.object "java/lang/Object")), .int]
  staticTypes := #[.long, .int, (.array (.object "java/lang/Object")), (.array (.object "java/lang/Object"))]
  resolved := Array.replicate 509 none
  statics := some 1 }

def pool21 : Array CpInfo := pool [(1, .class_ 2), (0, u "java/lang/Math"), (1, .class_ 6), (1, u "java/lang/Object"), (0, u "<init>"), (0, u "()V"), (89, .class_ 100), (1, u "java/lang/Math$RandomNumberGeneratorHolder"), (71, u "negativeZeroFloatBits"), (0, u "J"), (2, u "negativeZeroDoubleBits"), (21, u "max"), (46, u "$assertionsDisabled"), (0, u "Z"), (88, u "(II)I"), (2, u "twoToTheDoubleScaleDown"), (0, u "D"), (4, u "twoToTheDoubleScaleUp"), (9, u "E"), (3, u "PI"), (2, u "TAU"), (2, u "DEGREES_TO_RADIANS"), (0, u "RADIANS_TO_DEGREES")] 94

def k21m0 : Method := { name := "<init>", desc := "()V", sig := { parameters := [], returnType := none }, accessFlags := 2, code := none }
def k21c1 : Code := { maxStack := 2, maxLocals := 2, code := jdk_29_method_65_code, exceptionTable := #[], attributes := #[] }
def k21m1 : Method := { name := "max", desc := "(II)I", sig := { parameters := [.int, .int], returnType := some .int }, accessFlags := 9, code := some k21c1 }
/-- java/lang/Math -/
def k21 : Class := { plain "java/lang/Math" (some 0) with
  accessFlags := 49
  interfaces := #[]
  cf := some (fileOf pool21 1 #[.nestMembers #[98]] #[{ accessFlags := 2, nameIndex := 7, descriptorIndex := 8, attributes := #[] }, { accessFlags := 9, nameIndex := 198, descriptorIndex := 335, attributes := #[] }] 49 4 #[] #[{ accessFlags := 25, nameIndex := 354, descriptorIndex := 339, attributes := #[] }, { accessFlags := 25, nameIndex := 358, descriptorIndex := 339, attributes := #[] }, { accessFlags := 25, nameIndex := 361, descriptorIndex := 339, attributes := #[] }, { accessFlags := 26, nameIndex := 364, descriptorIndex := 339, attributes := #[] }, { accessFlags := 26, nameIndex := 365, descriptorIndex := 339, attributes := #[] }, { accessFlags := 26, nameIndex := 172, descriptorIndex := 173, attributes := #[] }, { accessFlags := 26, nameIndex := 176, descriptorIndex := 173, attributes := #[] }, { accessFlags := 8, nameIndex := 344, descriptorIndex := 339, attributes := #[] }, { accessFlags := 8, nameIndex := 338, descriptorIndex := 339, attributes := #[] }, { accessFlags := 4120, nameIndex := 245, descriptorIndex := 246, attributes := #[] }])
  fields := #[{ name := "E", type := .double, accessFlags := 25, slot := 0, constantValue := 0 }, { name := "PI", type := .double, accessFlags := 25, slot := 1, constantValue := 0 }, { name := "TAU", type := .double, accessFlags := 25, slot := 2, constantValue := 0 }, { name := "DEGREES_TO_RADIANS", type := .double, accessFlags := 26, slot := 3, constantValue := 0 }, { name := "RADIANS_TO_DEGREES", type := .double, accessFlags := 26, slot := 4, constantValue := 0 }, { name := "negativeZeroFloatBits", type := .long, accessFlags := 26, slot := 5, constantValue := 0 }, { name := "negativeZeroDoubleBits", type := .long, accessFlags := 26, slot := 6, constantValue := 0 }, { name := "twoToTheDoubleScaleUp", type := .double, accessFlags := 8, slot := 7, constantValue := 0 }, { name := "twoToTheDoubleScaleDown", type := .double, accessFlags := 8, slot := 8, constantValue := 0 }, { name := "$assertionsDisabled", type := .boolean, accessFlags := 4120, slot := 9, constantValue := 0 }]
  methods := #[k21m0, k21m1]
  instanceTypes := #[]
  staticTypes := #[.double, .double, .double, .double, .double, .long, .long, .double, .double, .boolean]
  resolved := Array.replicate 460 none
  statics := none }

def pool22 : Array CpInfo := pool [(1, .methodref 2 3), (0, .class_ 4), (0, .nameAndType 5 6), (0, u "java/lang/Object"), (0, u "<init>"), (0, u "()V"), (0, .methodref 8 9), (0, .class_ 10), (0, .nameAndType 11 12), (0, u "com/example/affordance/affordance/Level"), (0, u "values"), (0, u "()[Lcom/example/affordance/affordance/Level;"), (0, .fieldref 14 15), (0, .class_ 16), (0, .nameAndType 17 18), (0, u "com/example/affordance/affordance/FindingCounts"), (0, u "counts"), (0, u "[I"), (0, .interfaceMethodref 20 21), (0, .class_ 22), (0, .nameAndType 23 24), (0, u "java/util/List"), (0, u "iterator"), (0, u "()Ljava/util/Iterator;"), (0, .interfaceMethodref 26 27), (0, .class_ 28), (0, .nameAndType 29 30), (0, u "java/util/Iterator"), (0, u "hasNext"), (0, u "()Z"), (0, .interfaceMethodref 26 32), (0, .nameAndType 33 34), (0, u "next"), (0, u "()Ljava/lang/Object;"), (0, .class_ 36), (0, u "com/example/affordance/affordance/Finding"), (0, .methodref 35 38), (0, .nameAndType 39 40), (0, u "level"), (0, u "()Lcom/example/affordance/affordance/Level;"), (0, .methodref 8 42), (0, .nameAndType 43 44), (0, u "ordinal"), (0, u "()I"), (2, u "add"), (0, u "(Ljava/util/List;)V"), (3, u "total")] 5

def k22c0 : Code := { maxStack := 2, maxLocals := 1, code := prog_17_method_1_code, exceptionTable := #[], attributes := #[] }
def k22m0 : Method := { name := "<init>", desc := "()V", sig := { parameters := [], returnType := none }, accessFlags := 0, code := some k22c0 }
def k22c1 : Code := { maxStack := 4, maxLocals := 4, code := prog_17_method_2_code, exceptionTable := #[], attributes := #[] }
def k22m1 : Method := { name := "add", desc := "(Ljava/util/List;)V", sig := { parameters := [(.object "java/util/List")], returnType := none }, accessFlags := 0, code := some k22c1 }
def k22c2 : Code := { maxStack := 2, maxLocals := 6, code := prog_17_method_3_code, exceptionTable := #[], attributes := #[] }
def k22m2 : Method := { name := "total", desc := "()I", sig := { parameters := [], returnType := some .int }, accessFlags := 0, code := some k22c2 }
/-- com/example/affordance/affordance/FindingCounts -/
def k22 : Class := { plain "com/example/affordance/affordance/FindingCounts" (some 0) with
  accessFlags := 48
  interfaces := #[]
  cf := some (fileOf pool22 14 #[] #[{ accessFlags := 0, nameIndex := 5, descriptorIndex := 6, attributes := #[] }, { accessFlags := 0, nameIndex := 47, descriptorIndex := 48, attributes := #[] }, { accessFlags := 0, nameIndex := 52, descriptorIndex := 44, attributes := #[] }] 48 2 #[] #[{ accessFlags := 18, nameIndex := 17, descriptorIndex := 18, attributes := #[] }])
  fields := #[{ name := "counts", type := (.array .int), accessFlags := 18, slot := 0, constantValue := 0 }]
  methods := #[k22m0, k22m1, k22m2]
  instanceTypes := #[(.array .int)]
  staticTypes := #[]
  resolved := Array.replicate 58 none
  statics := none }

def pool23 : Array CpInfo := pool [(16, .class_ 18), (1, u "java/util/Iterator"), (0, u "hasNext"), (0, u "()Z"), (2, u "next"), (0, u "()Ljava/lang/Object;"), (6, .class_ 32), (0, u "java/lang/Object")] 20

def k23m0 : Method := { name := "hasNext", desc := "()Z", sig := { parameters := [], returnType := some .boolean }, accessFlags := 1025, code := none }
def k23m1 : Method := { name := "next", desc := "()Ljava/lang/Object;", sig := { parameters := [], returnType := some (.object "java/lang/Object") }, accessFlags := 1025, code := none }
/-- java/util/Iterator -/
def k23 : Class := { plain "java/util/Iterator" (some 0) with
  accessFlags := 1537
  interfaces := #[]
  cf := some (fileOf pool23 16 #[] #[{ accessFlags := 1025, nameIndex := 19, descriptorIndex := 20, attributes := #[] }, { accessFlags := 1025, nameIndex := 23, descriptorIndex := 24, attributes := #[] }] 1537 31 #[] #[])
  fields := #[]
  methods := #[k23m0, k23m1]
  instanceTypes := #[]
  staticTypes := #[]
  resolved := Array.replicate 53 none
  statics := none }

def pool24 : Array CpInfo := pool [(1, .fieldref 2 3), (0, .class_ 4), (0, .nameAndType 5 6), (0, u "java/util/ArrayList$Itr"), (0, u "this$0"), (0, u "Ljava/util/ArrayList;"), (0, .methodref 8 9), (0, .class_ 10), (0, .nameAndType 11 12), (0, u "java/lang/Object"), (0, u "<init>"), (0, u "()V"), (0, .fieldref 2 14), (0, .nameAndType 15 16), (0, u "lastRet"), (0, u "I"), (0, .fieldref 18 19), (0, .class_ 20), (0, .nameAndType 21 16), (0, u "java/util/ArrayList"), (0, u "modCount"), (0, .fieldref 2 23), (0, .nameAndType 24 16), (0, u "expectedModCount"), (0, .fieldref 2 26), (0, .nameAndType 27 16), (0, u "cursor"), (0, .fieldref 18 29), (0, .nameAndType 30 16), (0, u "size"), (0, .methodref 2 32), (0, .nameAndType 33 12), (0, u "checkForComodification"), (3, .fieldref 18 38), (0, .nameAndType 39 40), (0, u "elementData"), (0, u "[Ljava/lang/Object;"), (28, .class_ 70), (0, u "java/util/Iterator"), (0, u "(Ljava/util/ArrayList;)V"), (8, u "hasNext"), (0, u "()Z"), (1, u "next"), (0, u "()Ljava/lang/Object;")] 19

def k24c0 : Code := { maxStack := 2, maxLocals := 2, code := jdk_49_method_1_code, exceptionTable := #[], attributes := #[] }
def k24m0 : Method := { name := "<init>", desc := "(Ljava/util/ArrayList;)V", sig := { parameters := [(.object "java/util/ArrayList")], returnType := none }, accessFlags := 0, code := some k24c0 }
def k24c1 : Code := { maxStack := 2, maxLocals := 1, code := jdk_49_method_2_code, exceptionTable := #[], attributes := #[] }
def k24m1 : Method := { name := "hasNext", desc := "()Z", sig := { parameters := [], returnType := some .boolean }, accessFlags := 1, code := some k24c1 }
def k24c2 : Code := { maxStack := 4, maxLocals := 3, code := jdk_49_method_3_code, exceptionTable := #[], attributes := #[] }
def k24m2 : Method := { name := "next", desc := "()Ljava/lang/Object;", sig := { parameters := [], returnType := some (.object "java/lang/Object") }, accessFlags := 1, code := some k24c2 }
def k24c3 : Code := { maxStack := 2, maxLocals := 1, code := jdk_49_method_6_code, exceptionTable := #[], attributes := #[] }
def k24m3 : Method := { name := "checkForComodification", desc := "()V", sig := { parameters := [], returnType := none }, accessFlags := 16, code := some k24c3 }
/-- java/util/ArrayList$Itr -/
def k24 : Class := { plain "java/util/ArrayList$Itr" (some 0) with
  accessFlags := 32
  interfaces := #[23]
  cf := some (fileOf pool24 2 #[.nestHost 18] #[{ accessFlags := 0, nameIndex := 11, descriptorIndex := 71, attributes := #[] }, { accessFlags := 1, nameIndex := 80, descriptorIndex := 81, attributes := #[] }, { accessFlags := 1, nameIndex := 83, descriptorIndex := 84, attributes := #[] }, { accessFlags := 16, nameIndex := 33, descriptorIndex := 12, attributes := #[] }] 32 8 #[69] #[{ accessFlags := 0, nameIndex := 27, descriptorIndex := 16, attributes := #[] }, { accessFlags := 0, nameIndex := 15, descriptorIndex := 16, attributes := #[] }, { accessFlags := 0, nameIndex := 24, descriptorIndex := 16, attributes := #[] }, { accessFlags := 4112, nameIndex := 5, descriptorIndex := 6, attributes := #[] }])
  fields := #[{ name := "cursor", type := .int, accessFlags := 0, slot := 0, constantValue := 0 }, { name := "lastRet", type := .int, accessFlags := 0, slot := 1, constantValue := 0 }, { name := "expectedModCount", type := .int, accessFlags := 0, slot := 2, constantValue := 0 }, { name := "this$0", type := (.object "java/util/ArrayList"), accessFlags := 4112, slot := 3, constantValue := 0 }]
  methods := #[k24m0, k24m1, k24m2, k24m3]
  instanceTypes := #[.int, .int, .int, (.object "java/util/ArrayList")]
  staticTypes := #[]
  resolved := Array.replicate 104 none
  statics := none }

/-- the primitive byte -/
def k25 : Class := { plain "byte" none with kind := .primitive 'B', accessFlags := 0x411 }
/-- [B -/
def k26 : Class := { plain "[B" (some 0) with kind := .array 25 .byte, interfaces := #[19, 2], accessFlags := 1041 }

/-- the primitive int -/
def k27 : Class := { plain "int" none with kind := .primitive 'I', accessFlags := 0x411 }
/-- [I -/
def k28 : Class := { plain "[I" (some 0) with kind := .array 27 .int, interfaces := #[19, 2], accessFlags := 1041 }

/-- [Lcom/example/affordance/affordance/Level; -/
def k29 : Class := { plain "[Lcom/example/affordance/affordance/Level;" (some 0) with kind := .array 11 (.object "com/example/affordance/affordance/Level"), interfaces := #[19, 2], accessFlags := 1041 }

/-- [Ljava/lang/Object; -/
def k30 : Class := { plain "[Ljava/lang/Object;" (some 0) with kind := .array 0 (.object "java/lang/Object"), interfaces := #[19, 2], accessFlags := 1041 }

def heap : Heap := #[{ cls := 11, slots := #[.ref 3, .ref 4, .ref 5, .ref 2], vm := .statics 11 },
  { cls := 20, slots := #[.long 0, .int 0, .ref 6, .ref 7], vm := .statics 20 },
  { cls := 29, slots := #[.ref 3, .ref 4, .ref 5], vm := .none },
  { cls := 11, slots := #[.null, .int 0, .int 0], vm := .none },
  { cls := 11, slots := #[.null, .int 1, .int 0], vm := .none },
  { cls := 11, slots := #[.null, .int 2, .int 0], vm := .none },
  { cls := 30, slots := #[], vm := .none },
  { cls := 30, slots := #[], vm := .none }]
def classes : Array Class := #[k0, k1, k2, k3, k4, k5, k6, k7, k8, k9, k10, k11, k12, k13, k14, k15, k16, k17, k18, k19, k20, k21, k22, k23, k24, k25, k26, k27, k28, k29, k30]
def interned : List (Array UInt16 × Addr) := []
def slotsUsed : Nat := 20
def theMethod : MethodId := ⟨1, 2⟩
def args0 : Array Value := #[.int 1, .int 2, .int 3, .int 31]
def aboutOver (below : List Frame) : State where
  vm := { classes := classes, interned := interned.toArray }
  heap := heap
  slotsUsed := slotsUsed
  threads := #[{ frames := .invoking theMethod args0 :: below }]
def below0 : List Frame := [.native { method := ⟨0, 0⟩, args := #[] }]
def about1 : State := aboutOver below0
def p0 : Program := .bare "" "" ""
def e0 : Env := launch0.env 0 0 0
theorem w_frames : about1.frames = Frame.invoking theMethod args0 :: below0 := rfl
set_option maxRecDepth 65536 in
theorem w_args : argsFit about1.vm theMethod args0 = true := by decide +kernel
set_option maxRecDepth 65536 in
theorem w_heap : heapFits about1 = true := by decide +kernel
set_option maxRecDepth 65536 in
theorem w_runnable : about1.curStatus? = some .runnable := by decide +kernel
set_option maxRecDepth 65536 in
theorem w_alone : about1.alone = true := by decide +kernel
set_option maxRecDepth 65536 in
theorem w_named : about1.methodNamed? x = some theMethod := by decide +kernel
set_option maxRecDepth 65536 in
theorem w_hears : about1.hears theMethod below0 = true := by decide +kernel
set_option maxRecDepth 65536 in
theorem w_ripe : about1.ripe theMethod args0 below0 = true := by decide +kernel
theorem w_running : about1.status = .running := rfl
set_option maxRecDepth 65536 in
theorem w_room : about1.hasRoom e0.platform room_1 = true :=
  launch0.hasRoom_least _ room_1 (by decide +kernel) (by decide +kernel) (by decide +kernel) (by decide +kernel) (by decide +kernel) (by decide +kernel)
theorem allAtoms_all (ts : List Jvm.Cond) (a : Array Jvm.Value) (st : Jvm.State) : (allAtoms ts).before a st = ts.all (fun c => c.before a st) := by
  induction ts with
  | nil => rfl
  | cons c t ih =>
    show (Jvm.Cond.and c (allAtoms t)).before a st = _
    rw [Jvm.Cond.before_and, ih, List.all_cons]
def words1 : List Jvm.Cond := Jvm.Cond.code x code maxLocals ret :: tables_1
/-- a 'code' word, met by the world's own term for the bytes: nothing is compared byte by byte -/
theorem code_word {y : MethodName} {bytes : ByteArray} {mx : Nat} {rt : Option FieldType} {a : Array Value} {s : State} {m : MethodId} {meth : Method} {c : Code} (h1 : s.methodNamed? y = some m) (h2 : s.vm.method? m = some meth) (h3 : meth.code = some c) (h4 : c.code = bytes)
    (h5 : (c.maxLocals == mx && c.exceptionTable.isEmpty && decide (c.maxStack ≤ mostOperands) && decide (meth.sig.returnType = rt) && !meth.locks && decide (parseMethodDescriptor y.desc = some meth.sig)) = true) : (Jvm.Cond.code y bytes mx rt).before a s = true := by
  simp only [Bool.and_eq_true, beq_iff_eq, Bool.not_eq_true', decide_eq_true_eq] at h5
  obtain ⟨⟨⟨⟨⟨g1, g2⟩, g3⟩, g4⟩, g5⟩, g6⟩ := h5
  simp [Cond.before, Cond.holds, Cond.value, h1, h2, h3, h4, g1, g2, g3, g4, g5, g6]
def isCode : Jvm.Cond → Bool
  | .code _ _ _ _ => true
  | _ => false
theorem all_split {L : List Jvm.Cond} {P : Jvm.Cond → Bool} (h1 : L.all (fun c => isCode c || P c) = true) (h2 : ∀ c ∈ L.filter isCode, P c = true) : L.all P = true := by
  refine List.all_eq_true.mpr fun c hc => ?_
  have h := List.all_eq_true.mp h1 c hc
  rcases Bool.eq_false_or_eq_true (isCode c) with hi | hi
  · exact h2 c (List.mem_filter.mpr ⟨hc, hi⟩)
  · simpa [hi] using h
set_option maxRecDepth 65536 in
theorem w_c0 : (Jvm.Cond.code x code maxLocals ret).before args0 about1 = true := code_word (m := ⟨1, 2⟩) (meth := k1m2) (c := k1c2) (by decide +kernel) rfl rfl rfl (by decide +kernel)
set_option maxRecDepth 65536 in
theorem w_c1 : (Jvm.Cond.code ({ cls := "com/example/affordance/affordance/Message", name := "of", desc := "(Ljava/lang/String;)Lcom/example/affordance/affordance/Message;" } : Jvm.MethodName) prog_22_method_2_code (1 : Nat) (Option.some (Jvm.ClassFile.FieldType.object "com/example/affordance/affordance/Message"))).before args0 about1 = true := code_word (m := ⟨8, 1⟩) (meth := k8m1) (c := k8c1) (by decide +kernel) rfl rfl rfl (by decide +kernel)
set_option maxRecDepth 65536 in
theorem w_c2 : (Jvm.Cond.code ({ cls := "com/example/affordance/affordance/Message", name := "<init>", desc := "(Ljava/lang/String;Ljava/lang/String;)V" } : Jvm.MethodName) prog_22_method_1_code (3 : Nat) (Option.none : Option Jvm.ClassFile.FieldType)).before args0 about1 = true := code_word (m := ⟨8, 0⟩) (meth := k8m0) (c := k8c0) (by decide +kernel) rfl rfl rfl (by decide +kernel)
set_option maxRecDepth 65536 in
theorem w_c3 : (Jvm.Cond.code ({ cls := "java/lang/Object", name := "<init>", desc := "()V" } : Jvm.MethodName) object_method_1_code (1 : Nat) (Option.none : Option Jvm.ClassFile.FieldType)).before args0 about1 = true := code_word (m := ⟨0, 0⟩) (meth := k0m0) (c := k0c0) (by decide +kernel) rfl rfl rfl (by decide +kernel)
set_option maxRecDepth 65536 in
theorem w_c4 : (Jvm.Cond.code ({ cls := "com/example/affordance/affordance/FindingCountsTotalPinLaw", name := "level", desc := "(I)Lcom/example/affordance/affordance/Level;" } : Jvm.MethodName) method_2_code (2 : Nat) (Option.some (Jvm.ClassFile.FieldType.object "com/example/affordance/affordance/Level"))).before args0 about1 = true := code_word (m := ⟨1, 1⟩) (meth := k1m1) (c := k1c1) (by decide +kernel) rfl rfl rfl (by decide +kernel)
set_option maxRecDepth 65536 in
theorem w_c5 : (Jvm.Cond.code ({ cls := "com/example/affordance/affordance/Finding", name := "<init>", desc := "(IILcom/example/affordance/affordance/JsonPointer;Lcom/example/affordance/affordance/Level;Ljava/lang/String;Lcom/example/affordance/affordance/Message;)V" } : Jvm.MethodName) prog_15_method_2_code (7 : Nat) (Option.none : Option Jvm.ClassFile.FieldType)).before args0 about1 = true := code_word (m := ⟨9, 0⟩) (meth := k9m0) (c := k9c0) (by decide +kernel) rfl rfl rfl (by decide +kernel)
set_option maxRecDepth 65536 in
theorem w_c6 : (Jvm.Cond.code ({ cls := "com/example/affordance/affordance/Message", name := "quoted", desc := "()Ljava/lang/String;" } : Jvm.MethodName) prog_22_method_5_code (1 : Nat) (Option.some (Jvm.ClassFile.FieldType.object "java/lang/String"))).before args0 about1 = true := code_word (m := ⟨8, 2⟩) (meth := k8m2) (c := k8c2) (by decide +kernel) rfl rfl rfl (by decide +kernel)
set_option maxRecDepth 65536 in
theorem w_c7 : (Jvm.Cond.code ({ cls := "com/example/affordance/affordance/Message", name := "rest", desc := "()Ljava/lang/String;" } : Jvm.MethodName) prog_22_method_6_code (1 : Nat) (Option.some (Jvm.ClassFile.FieldType.object "java/lang/String"))).before args0 about1 = true := code_word (m := ⟨8, 3⟩) (meth := k8m3) (c := k8c3) (by decide +kernel) rfl rfl rfl (by decide +kernel)
set_option maxRecDepth 65536 in
theorem w_c8 : (Jvm.Cond.code ({ cls := "java/util/ArrayList", name := "<init>", desc := "()V" } : Jvm.MethodName) jdk_38_method_2_code (1 : Nat) (Option.none : Option Jvm.ClassFile.FieldType)).before args0 about1 = true := code_word (m := ⟨20, 0⟩) (meth := k20m0) (c := k20c0) (by decide +kernel) rfl rfl rfl (by decide +kernel)
set_option maxRecDepth 65536 in
theorem w_c9 : (Jvm.Cond.code ({ cls := "java/util/AbstractList", name := "<init>", desc := "()V" } : Jvm.MethodName) jdk_39_method_1_code (1 : Nat) (Option.none : Option Jvm.ClassFile.FieldType)).before args0 about1 = true := code_word (m := ⟨17, 0⟩) (meth := k17m0) (c := k17c0) (by decide +kernel) rfl rfl rfl (by decide +kernel)
set_option maxRecDepth 65536 in
theorem w_c10 : (Jvm.Cond.code ({ cls := "java/util/AbstractCollection", name := "<init>", desc := "()V" } : Jvm.MethodName) jdk_22_method_1_code (1 : Nat) (Option.none : Option Jvm.ClassFile.FieldType)).before args0 about1 = true := code_word (m := ⟨14, 0⟩) (meth := k14m0) (c := k14c0) (by decide +kernel) rfl rfl rfl (by decide +kernel)
set_option maxRecDepth 65536 in
theorem w_c11 : (Jvm.Cond.code ({ cls := "java/util/ArrayList", name := "add", desc := "(Ljava/lang/Object;)Z" } : Jvm.MethodName) jdk_38_method_25_code (2 : Nat) (Option.some Jvm.ClassFile.FieldType.boolean)).before args0 about1 = true := code_word (m := ⟨20, 4⟩) (meth := k20m4) (c := k20c4) (by decide +kernel) rfl rfl rfl (by decide +kernel)
set_option maxRecDepth 65536 in
theorem w_c12 : (Jvm.Cond.code ({ cls := "java/util/ArrayList", name := "add", desc := "(Ljava/lang/Object;[Ljava/lang/Object;I)V" } : Jvm.MethodName) jdk_38_method_24_code (4 : Nat) (Option.none : Option Jvm.ClassFile.FieldType)).before args0 about1 = true := code_word (m := ⟨20, 3⟩) (meth := k20m3) (c := k20c3) (by decide +kernel) rfl rfl rfl (by decide +kernel)
set_option maxRecDepth 65536 in
theorem w_c13 : (Jvm.Cond.code ({ cls := "java/util/ArrayList", name := "grow", desc := "()[Ljava/lang/Object;" } : Jvm.MethodName) jdk_38_method_7_code (1 : Nat) (Option.some (Jvm.ClassFile.FieldType.array (Jvm.ClassFile.FieldType.object "java/lang/Object")))).before args0 about1 = true := code_word (m := ⟨20, 2⟩) (meth := k20m2) (c := k20c2) (by decide +kernel) rfl rfl rfl (by decide +kernel)
set_option maxRecDepth 65536 in
theorem w_c14 : (Jvm.Cond.code ({ cls := "java/util/ArrayList", name := "grow", desc := "(I)[Ljava/lang/Object;" } : Jvm.MethodName) jdk_38_method_6_code (4 : Nat) (Option.some (Jvm.ClassFile.FieldType.array (Jvm.ClassFile.FieldType.object "java/lang/Object")))).before args0 about1 = true := code_word (m := ⟨20, 1⟩) (meth := k20m1) (c := k20c1) (by decide +kernel) rfl rfl rfl (by decide +kernel)
set_option maxRecDepth 65536 in
theorem w_c15 : (Jvm.Cond.code ({ cls := "java/lang/Math", name := "max", desc := "(II)I" } : Jvm.MethodName) jdk_29_method_65_code (2 : Nat) (Option.some Jvm.ClassFile.FieldType.int)).before args0 about1 = true := code_word (m := ⟨21, 1⟩) (meth := k21m1) (c := k21c1) (by decide +kernel) rfl rfl rfl (by decide +kernel)
set_option maxRecDepth 65536 in
theorem w_c16 : (Jvm.Cond.code ({ cls := "com/example/affordance/affordance/FindingCounts", name := "<init>", desc := "()V" } : Jvm.MethodName) prog_17_method_1_code (1 : Nat) (Option.none : Option Jvm.ClassFile.FieldType)).before args0 about1 = true := code_word (m := ⟨22, 0⟩) (meth := k22m0) (c := k22c0) (by decide +kernel) rfl rfl rfl (by decide +kernel)
set_option maxRecDepth 65536 in
theorem w_c17 : (Jvm.Cond.code ({ cls := "com/example/affordance/affordance/Level", name := "values", desc := "()[Lcom/example/affordance/affordance/Level;" } : Jvm.MethodName) prog_20_method_1_code (0 : Nat) (Option.some (Jvm.ClassFile.FieldType.array (Jvm.ClassFile.FieldType.object "com/example/affordance/affordance/Level")))).before args0 about1 = true := code_word (m := ⟨11, 0⟩) (meth := k11m0) (c := k11c0) (by decide +kernel) rfl rfl rfl (by decide +kernel)
set_option maxRecDepth 65536 in
theorem w_c18 : (Jvm.Cond.code ({ cls := "com/example/affordance/affordance/FindingCounts", name := "total", desc := "()I" } : Jvm.MethodName) prog_17_method_3_code (6 : Nat) (Option.some Jvm.ClassFile.FieldType.int)).before args0 about1 = true := code_word (m := ⟨22, 2⟩) (meth := k22m2) (c := k22c2) (by decide +kernel) rfl rfl rfl (by decide +kernel)
set_option maxRecDepth 65536 in
theorem w_c19 : (Jvm.Cond.code ({ cls := "com/example/affordance/affordance/FindingCounts", name := "add", desc := "(Ljava/util/List;)V" } : Jvm.MethodName) prog_17_method_2_code (4 : Nat) (Option.none : Option Jvm.ClassFile.FieldType)).before args0 about1 = true := code_word (m := ⟨22, 1⟩) (meth := k22m1) (c := k22c1) (by decide +kernel) rfl rfl rfl (by decide +kernel)
set_option maxRecDepth 65536 in
theorem w_c20 : (Jvm.Cond.code ({ cls := "java/util/ArrayList", name := "iterator", desc := "()Ljava/util/Iterator;" } : Jvm.MethodName) jdk_38_method_55_code (1 : Nat) (Option.some (Jvm.ClassFile.FieldType.object "java/util/Iterator"))).before args0 about1 = true := code_word (m := ⟨20, 5⟩) (meth := k20m5) (c := k20c5) (by decide +kernel) rfl rfl rfl (by decide +kernel)
set_option maxRecDepth 65536 in
theorem w_c21 : (Jvm.Cond.code ({ cls := "java/util/ArrayList$Itr", name := "<init>", desc := "(Ljava/util/ArrayList;)V" } : Jvm.MethodName) jdk_49_method_1_code (2 : Nat) (Option.none : Option Jvm.ClassFile.FieldType)).before args0 about1 = true := code_word (m := ⟨24, 0⟩) (meth := k24m0) (c := k24c0) (by decide +kernel) rfl rfl rfl (by decide +kernel)
set_option maxRecDepth 65536 in
theorem w_c22 : (Jvm.Cond.code ({ cls := "java/util/ArrayList$Itr", name := "hasNext", desc := "()Z" } : Jvm.MethodName) jdk_49_method_2_code (1 : Nat) (Option.some Jvm.ClassFile.FieldType.boolean)).before args0 about1 = true := code_word (m := ⟨24, 1⟩) (meth := k24m1) (c := k24c1) (by decide +kernel) rfl rfl rfl (by decide +kernel)
set_option maxRecDepth 65536 in
theorem w_c23 : (Jvm.Cond.code ({ cls := "java/util/ArrayList$Itr", name := "next", desc := "()Ljava/lang/Object;" } : Jvm.MethodName) jdk_49_method_3_code (3 : Nat) (Option.some (Jvm.ClassFile.FieldType.object "java/lang/Object"))).before args0 about1 = true := code_word (m := ⟨24, 2⟩) (meth := k24m2) (c := k24c2) (by decide +kernel) rfl rfl rfl (by decide +kernel)
set_option maxRecDepth 65536 in
theorem w_c24 : (Jvm.Cond.code ({ cls := "java/util/ArrayList$Itr", name := "checkForComodification", desc := "()V" } : Jvm.MethodName) jdk_49_method_6_code (1 : Nat) (Option.none : Option Jvm.ClassFile.FieldType)).before args0 about1 = true := code_word (m := ⟨24, 3⟩) (meth := k24m3) (c := k24c3) (by decide +kernel) rfl rfl rfl (by decide +kernel)
set_option maxRecDepth 65536 in
theorem w_c25 : (Jvm.Cond.code ({ cls := "com/example/affordance/affordance/Finding", name := "level", desc := "()Lcom/example/affordance/affordance/Level;" } : Jvm.MethodName) prog_15_method_5_code (1 : Nat) (Option.some (Jvm.ClassFile.FieldType.object "com/example/affordance/affordance/Level"))).before args0 about1 = true := code_word (m := ⟨9, 1⟩) (meth := k9m1) (c := k9c1) (by decide +kernel) rfl rfl rfl (by decide +kernel)
set_option maxRecDepth 65536 in
theorem w_c26 : (Jvm.Cond.code ({ cls := "java/lang/Enum", name := "ordinal", desc := "()I" } : Jvm.MethodName) jdk_37_method_2_code (1 : Nat) (Option.some Jvm.ClassFile.FieldType.int)).before args0 about1 = true := code_word (m := ⟨10, 0⟩) (meth := k10m0) (c := k10c0) (by decide +kernel) rfl rfl rfl (by decide +kernel)
def codes1 : List Jvm.Cond := [Jvm.Cond.code x code maxLocals ret, Jvm.Cond.code ({ cls := "com/example/affordance/affordance/Message", name := "of", desc := "(Ljava/lang/String;)Lcom/example/affordance/affordance/Message;" } : Jvm.MethodName) prog_22_method_2_code (1 : Nat) (Option.some (Jvm.ClassFile.FieldType.object "com/example/affordance/affordance/Message")), Jvm.Cond.code ({ cls := "com/example/affordance/affordance/Message", name := "<init>", desc := "(Ljava/lang/String;Ljava/lang/String;)V" } : Jvm.MethodName) prog_22_method_1_code (3 : Nat) (Option.none : Option Jvm.ClassFile.FieldType), Jvm.Cond.code ({ cls := "java/lang/Object", name := "<init>", desc := "()V" } : Jvm.MethodName) object_method_1_code (1 : Nat) (Option.none : Option Jvm.ClassFile.FieldType), Jvm.Cond.code ({ cls := "com/example/affordance/affordance/FindingCountsTotalPinLaw", name := "level", desc := "(I)Lcom/example/affordance/affordance/Level;" } : Jvm.MethodName) method_2_code (2 : Nat) (Option.some (Jvm.ClassFile.FieldType.object "com/example/affordance/affordance/Level")), Jvm.Cond.code ({ cls := "com/example/affordance/affordance/Finding", name := "<init>", desc := "(IILcom/example/affordance/affordance/JsonPointer;Lcom/example/affordance/affordance/Level;Ljava/lang/String;Lcom/example/affordance/affordance/Message;)V" } : Jvm.MethodName) prog_15_method_2_code (7 : Nat) (Option.none : Option Jvm.ClassFile.FieldType), Jvm.Cond.code ({ cls := "com/example/affordance/affordance/Message", name := "quoted", desc := "()Ljava/lang/String;" } : Jvm.MethodName) prog_22_method_5_code (1 : Nat) (Option.some (Jvm.ClassFile.FieldType.object "java/lang/String")), Jvm.Cond.code ({ cls := "com/example/affordance/affordance/Message", name := "rest", desc := "()Ljava/lang/String;" } : Jvm.MethodName) prog_22_method_6_code (1 : Nat) (Option.some (Jvm.ClassFile.FieldType.object "java/lang/String")), Jvm.Cond.code ({ cls := "java/util/ArrayList", name := "<init>", desc := "()V" } : Jvm.MethodName) jdk_38_method_2_code (1 : Nat) (Option.none : Option Jvm.ClassFile.FieldType), Jvm.Cond.code ({ cls := "java/util/AbstractList", name := "<init>", desc := "()V" } : Jvm.MethodName) jdk_39_method_1_code (1 : Nat) (Option.none : Option Jvm.ClassFile.FieldType), Jvm.Cond.code ({ cls := "java/util/AbstractCollection", name := "<init>", desc := "()V" } : Jvm.MethodName) jdk_22_method_1_code (1 : Nat) (Option.none : Option Jvm.ClassFile.FieldType), Jvm.Cond.code ({ cls := "java/util/ArrayList", name := "add", desc := "(Ljava/lang/Object;)Z" } : Jvm.MethodName) jdk_38_method_25_code (2 : Nat) (Option.some Jvm.ClassFile.FieldType.boolean), Jvm.Cond.code ({ cls := "java/util/ArrayList", name := "add", desc := "(Ljava/lang/Object;[Ljava/lang/Object;I)V" } : Jvm.MethodName) jdk_38_method_24_code (4 : Nat) (Option.none : Option Jvm.ClassFile.FieldType), Jvm.Cond.code ({ cls := "java/util/ArrayList", name := "grow", desc := "()[Ljava/lang/Object;" } : Jvm.MethodName) jdk_38_method_7_code (1 : Nat) (Option.some (Jvm.ClassFile.FieldType.array (Jvm.ClassFile.FieldType.object "java/lang/Object"))), Jvm.Cond.code ({ cls := "java/util/ArrayList", name := "grow", desc := "(I)[Ljava/lang/Object;" } : Jvm.MethodName) jdk_38_method_6_code (4 : Nat) (Option.some (Jvm.ClassFile.FieldType.array (Jvm.ClassFile.FieldType.object "java/lang/Object"))), Jvm.Cond.code ({ cls := "java/lang/Math", name := "max", desc := "(II)I" } : Jvm.MethodName) jdk_29_method_65_code (2 : Nat) (Option.some Jvm.ClassFile.FieldType.int), Jvm.Cond.code ({ cls := "com/example/affordance/affordance/FindingCounts", name := "<init>", desc := "()V" } : Jvm.MethodName) prog_17_method_1_code (1 : Nat) (Option.none : Option Jvm.ClassFile.FieldType), Jvm.Cond.code ({ cls := "com/example/affordance/affordance/Level", name := "values", desc := "()[Lcom/example/affordance/affordance/Level;" } : Jvm.MethodName) prog_20_method_1_code (0 : Nat) (Option.some (Jvm.ClassFile.FieldType.array (Jvm.ClassFile.FieldType.object "com/example/affordance/affordance/Level"))), Jvm.Cond.code ({ cls := "com/example/affordance/affordance/FindingCounts", name := "total", desc := "()I" } : Jvm.MethodName) prog_17_method_3_code (6 : Nat) (Option.some Jvm.ClassFile.FieldType.int), Jvm.Cond.code ({ cls := "com/example/affordance/affordance/FindingCounts", name := "add", desc := "(Ljava/util/List;)V" } : Jvm.MethodName) prog_17_method_2_code (4 : Nat) (Option.none : Option Jvm.ClassFile.FieldType), Jvm.Cond.code ({ cls := "java/util/ArrayList", name := "iterator", desc := "()Ljava/util/Iterator;" } : Jvm.MethodName) jdk_38_method_55_code (1 : Nat) (Option.some (Jvm.ClassFile.FieldType.object "java/util/Iterator")), Jvm.Cond.code ({ cls := "java/util/ArrayList$Itr", name := "<init>", desc := "(Ljava/util/ArrayList;)V" } : Jvm.MethodName) jdk_49_method_1_code (2 : Nat) (Option.none : Option Jvm.ClassFile.FieldType), Jvm.Cond.code ({ cls := "java/util/ArrayList$Itr", name := "hasNext", desc := "()Z" } : Jvm.MethodName) jdk_49_method_2_code (1 : Nat) (Option.some Jvm.ClassFile.FieldType.boolean), Jvm.Cond.code ({ cls := "java/util/ArrayList$Itr", name := "next", desc := "()Ljava/lang/Object;" } : Jvm.MethodName) jdk_49_method_3_code (3 : Nat) (Option.some (Jvm.ClassFile.FieldType.object "java/lang/Object")), Jvm.Cond.code ({ cls := "java/util/ArrayList$Itr", name := "checkForComodification", desc := "()V" } : Jvm.MethodName) jdk_49_method_6_code (1 : Nat) (Option.none : Option Jvm.ClassFile.FieldType), Jvm.Cond.code ({ cls := "com/example/affordance/affordance/Finding", name := "level", desc := "()Lcom/example/affordance/affordance/Level;" } : Jvm.MethodName) prog_15_method_5_code (1 : Nat) (Option.some (Jvm.ClassFile.FieldType.object "com/example/affordance/affordance/Level")), Jvm.Cond.code ({ cls := "java/lang/Enum", name := "ordinal", desc := "()I" } : Jvm.MethodName) jdk_37_method_2_code (1 : Nat) (Option.some Jvm.ClassFile.FieldType.int)]
set_option maxRecDepth 65536 in
theorem codes_eq : words1.filter isCode = codes1 := rfl
theorem w_codes : ∀ c ∈ words1.filter isCode, c.before args0 about1 = true := by
  rw [codes_eq]
  intro c hc
  simp only [codes1, List.mem_cons, List.not_mem_nil, or_false] at hc
  rcases hc with rfl | rfl | rfl | rfl | rfl | rfl | rfl | rfl | rfl | rfl | rfl | rfl | rfl | rfl | rfl | rfl | rfl | rfl | rfl | rfl | rfl | rfl | rfl | rfl | rfl | rfl | rfl
  · exact w_c0
  · exact w_c1
  · exact w_c2
  · exact w_c3
  · exact w_c4
  · exact w_c5
  · exact w_c6
  · exact w_c7
  · exact w_c8
  · exact w_c9
  · exact w_c10
  · exact w_c11
  · exact w_c12
  · exact w_c13
  · exact w_c14
  · exact w_c15
  · exact w_c16
  · exact w_c17
  · exact w_c18
  · exact w_c19
  · exact w_c20
  · exact w_c21
  · exact w_c22
  · exact w_c23
  · exact w_c24
  · exact w_c25
  · exact w_c26
set_option maxRecDepth 65536 in
theorem w_t1 : (words1.take 24).all (fun c => isCode c || c.before args0 about1) = true := by decide +kernel
set_option maxRecDepth 65536 in
theorem w_t2 : ((words1.drop 24).take 24).all (fun c => isCode c || c.before args0 about1) = true := by decide +kernel
set_option maxRecDepth 65536 in
theorem w_t3 : (((words1.drop 24).drop 24).take 24).all (fun c => isCode c || c.before args0 about1) = true := by decide +kernel
set_option maxRecDepth 65536 in
theorem w_t4 : ((((words1.drop 24).drop 24).drop 24).take 24).all (fun c => isCode c || c.before args0 about1) = true := by decide +kernel
set_option maxRecDepth 65536 in
theorem w_t5 : (((((words1.drop 24).drop 24).drop 24).drop 24).take 24).all (fun c => isCode c || c.before args0 about1) = true := by decide +kernel
set_option maxRecDepth 65536 in
theorem w_t6 : ((((((words1.drop 24).drop 24).drop 24).drop 24).drop 24).take 24).all (fun c => isCode c || c.before args0 about1) = true := by decide +kernel
set_option maxRecDepth 65536 in
theorem w_t7 : (((((((words1.drop 24).drop 24).drop 24).drop 24).drop 24).drop 24).take 24).all (fun c => isCode c || c.before args0 about1) = true := by decide +kernel
set_option maxRecDepth 65536 in
theorem w_t8 : ((((((((words1.drop 24).drop 24).drop 24).drop 24).drop 24).drop 24).drop 24).take 24).all (fun c => isCode c || c.before args0 about1) = true := by decide +kernel
set_option maxRecDepth 65536 in
theorem w_t9 : (((((((((words1.drop 24).drop 24).drop 24).drop 24).drop 24).drop 24).drop 24).drop 24).take 24).all (fun c => isCode c || c.before args0 about1) = true := by decide +kernel
set_option maxRecDepth 65536 in
theorem w_t10 : (((((((((words1.drop 24).drop 24).drop 24).drop 24).drop 24).drop 24).drop 24).drop 24).drop 24).all (fun c => isCode c || c.before args0 about1) = true := by decide +kernel
theorem w_tables : (allAtoms (Jvm.Cond.code x code maxLocals ret :: tables_1)).before args0 about1 = true := by
  rw [allAtoms_all]
  show words1.all (fun c => c.before args0 about1) = true
  refine all_split ?_ w_codes
  rw [← List.take_append_drop 24 words1, List.all_append, w_t1, ← List.take_append_drop 24 (words1.drop 24), List.all_append, w_t2, ← List.take_append_drop 24 ((words1.drop 24).drop 24), List.all_append, w_t3, ← List.take_append_drop 24 (((words1.drop 24).drop 24).drop 24), List.all_append, w_t4, ← List.take_append_drop 24 ((((words1.drop 24).drop 24).drop 24).drop 24), List.all_append, w_t5, ← List.take_append_drop 24 (((((words1.drop 24).drop 24).drop 24).drop 24).drop 24), List.all_append, w_t6, ← List.take_append_drop 24 ((((((words1.drop 24).drop 24).drop 24).drop 24).drop 24).drop 24), List.all_append, w_t7, ← List.take_append_drop 24 (((((((words1.drop 24).drop 24).drop 24).drop 24).drop 24).drop 24).drop 24), List.all_append, w_t8, ← List.take_append_drop 24 ((((((((words1.drop 24).drop 24).drop 24).drop 24).drop 24).drop 24).drop 24).drop 24), List.all_append, w_t9, w_t10]
  rfl
set_option maxRecDepth 65536 in
theorem w_rest : rest_1_c.before args0 about1 = true := by decide +kernel
set_option maxRecDepth 65536 in
theorem w_case : (Jvm.Cond.and given_1 narrow_1).before args0 about1 = true := by decide +kernel
theorem w_applies : (headSpec (Jvm.Cond.code x code maxLocals ret :: tables_1) room_1).applies x e0.platform about1 = true :=
  (Spec.applies_iff w_frames).mpr ⟨w_running, w_runnable, w_alone, w_named, w_hears, w_ripe, w_room, w_tables⟩
theorem atStart : AtStart classFile x code maxLocals ret World_1 tables_1 room_1 Calls_1 rest_1 Pre_1 launch0 p0 e0 about1 theMethod args0 below0 :=
  ⟨lists_1, trivial, launch0.admits_env _ _ _, launch0.least_env, fairChoices_fair.cas, fairChoices_fair.clock, w_frames, w_args, w_heap, w_applies, trivial, w_rest, w_case⟩
end start1
theorem witness_1 : WitnessClaimed_1 := ⟨start1.p0, start1.e0, start1.about1, start1.theMethod, start1.args0, start1.below0, start1.atStart⟩
end Jvm.Pilot.@@N@@
