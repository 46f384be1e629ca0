import JvmDerived
import JvmDerived.Pilot.@@N@@Statement
import JvmDerived.Pilot.@@N@@Code
set_option linter.unusedVariables false
set_option linter.unusedSimpArgs false
namespace Jvm.OwnWp
open Sem ClassFile Op Lib Jvm.Stand Jvm.Free Jvm.LawKit Jvm.RoadKit
section Own
variable {p : Program} {l : Launch} {e : Env} {R : Room} {s : State} {m : MethodId} {args : Array Value} {below : List Frame} {meth : Method} {c : Code} {T T' : State} {locs : List Loc} {cells slots : Nat} {kc ks : Nat} {Q : Option Value → Heap → List Loc → Prop} {g g' : JFrame}
/-- from T with the frame g on top the invocation returns, and Q holds of what it leaves -/
def Go (p : Program) (e : Env) (below : List Frame) (s : State) (kc ks : Nat) (Q : Option Value → Heap → List Loc → Prop) (T : State) (g : JFrame) : Prop :=
  ∃ s₂ o, Steps p.tables e below (T.setTop g) s₂ ∧ s₂.status = .running ∧ Ended s₂ below o ∧ ∃ v L, o = .returned v ∧ Q v s₂.heap L ∧ FrameEnd s o s₂ L kc ks
theorem Go.step (st : ∀ t, Steps p.tables e below (T'.setTop g') t → Steps p.tables e below (T.setTop g) t) (k : Go p e below s kc ks Q T' g') : Go p e below s kc ks Q T g := by
  obtain ⟨s₂, o, h, r⟩ := k
  exact ⟨s₂, o, st _ h, r⟩
theorem Go.cast (q : g = g') (k : Go p e below s kc ks Q T g') : Go p e below s kc ks Q T g := q ▸ k
theorem Go.weak {Q' : Option Value → Heap → List Loc → Prop} (k : Go p e below s kc ks Q' T g) (h : ∀ v hp L, Q' v hp L → Q v hp L) : Go p e below s kc ks Q T g := by
  obtain ⟨s₂, o, a, b, c, v, L, d, q, f⟩ := k
  exact ⟨s₂, o, a, b, c, v, L, d, h _ _ _ q, f⟩
theorem Go.ret (X : Stand p l e R s m args below meth c T locs cells slots) (hx : p.tables.exec = Jvm.exec) (hlk : meth.locks = false) {pc : Nat} {Ls : Array Slot} {w : Value} {t : FieldType} {i : Instr} {rest : List Value} (hret : meth.sig.returnType = some t) (hn : narrow t w = w)
    (hi : (i = .ireturn ∧ (t = .int ∨ t = .boolean ∨ t = .byte ∨ t = .char ∨ t = .short) ∧ ∃ z, w = .int z) ∨ (i = .lreturn ∧ t = .long ∧ ∃ z, w = .long z) ∨ (i = .dreturn ∧ t = .double ∧ ∃ z, w = .double z) ∨ (i = .freturn ∧ t = .float ∧ ∃ z, w = .float z) ∨ (i = .areturn ∧ t.isReference = true ∧ w.isRef = true))
    (hd : decode c.code pc = .ok (i, 1)) (hq : Q (some w) T.heap locs) (hc : cells ≤ kc) (hs : slots ≤ ks) : Go p e below s kc ks Q T (mkF m pc Ls (w :: rest)) := by
  obtain ⟨fs, hr, hrun, hended, hW, hsame⟩ := X.leave (v := some w) (fun h => by rw [hret] at h; cases h) hlk
  exact ⟨_, _, retOut X hx hret hn hi hd hr, hrun, hended, _, _, rfl, hq, ⟨_, rfl⟩, hW, hsame.mono hc hs⟩
theorem Go.retV (X : Stand p l e R s m args below meth c T locs cells slots) (hx : p.tables.exec = Jvm.exec) (hlk : meth.locks = false) {pc : Nat} {Ls : Array Slot} (hret : meth.sig.returnType = none)
    (hd : decode c.code pc = .ok (.return_, 1)) (hq : Q none T.heap locs) (hc : cells ≤ kc) (hs : slots ≤ ks) : Go p e below s kc ks Q T (mkF m pc Ls []) := by
  obtain ⟨fs, hr, hrun, hended, hW, hsame⟩ := X.leave (v := none) (fun _ => rfl) hlk
  exact ⟨_, _, X.returnOut hx hret hd hr, hrun, hended, _, _, rfl, hq, ⟨_, rfl⟩, hW, hsame.mono hc hs⟩
theorem own_ne_arv {Z : State} {h : Heap} {a b : Addr} {C : String} {a0 : Array Value} {k : Nat} {kk : ClassId} {ty : FieldType} {z : Int32} {vs : List Value} {d : Value} (E : Exa Z h a C) (wi : (Cond.instantiable C k).before a0 Z = true) (V : Arv Z h b kk ty z vs d) : a ≠ b := by
  obtain ⟨c, A, -⟩ := V
  exact ne_arr E wi A
theorem nar01 {x : Int32} (h : x = 0 ∨ x = 1) : narrow .boolean (.int x) = .int x := by rcases h with rfl | rfl <;> rfl
end Own
end Jvm.OwnWp
namespace Jvm.Pilot.@@N@@
open Jvm Jvm.ClassFile Sem Op Lib Jvm.Free Jvm.Stand Jvm.LawKit Jvm.RoadKit Jvm.OwnWp Bundle Jvm.Pilot.@@N@@.Jvm.D
theorem own_sel_priv {s : State} {args : Array Value} {y : MethodName} {n : Nat} (wi : (Cond.instantiable y.cls n).before args s = true) (wp : (Cond.privateMethod y).before args s = true) (wim : (Cond.instanceMethod y).before args s = true) (hy : y.cls ≠ "java/lang/invoke/MethodHandle" ∧ y.cls ≠ "java/lang/invoke/VarHandle") : (Cond.selects y.cls y y).before args s = true := by
  obtain ⟨c, k, h1, h2, -, h3, -⟩ := Cond.instantiable_spec wi
  exact selects_self_of_private h1 h2 (by simp at h3; exact h3.1) (Cond.privateMethod_at wp) wim hy
theorem own_tnc {n : Nat} (h : n < 1024) : (Int32.ofNat n).toNatClampNeg = n := by
  have := Int32.toInt_ofNat_small (n := n) (by omega)
  simp only [Int32.toNatClampNeg, this]; rfl
theorem own_inb {n : Nat} (h : n < 1024) : ¬ Int32.ofNat n < 0 ∧ Int32.ofNat n < (1024 : Int32) := by
  have e := Int32.toInt_ofNat_small (n := n) (by omega)
  have k0 : (0 : Int32).toInt = 0 := by decide
  have k1 : (1024 : Int32).toInt = 1024 := by decide
  rw [Int32.lt_iff_toInt_lt, Int32.lt_iff_toInt_lt, e, k0, k1]; omega
theorem own_mask (x : Int32) : ∃ n : Nat, n < 1024 ∧ (x &&& (1023 : Int32)) = Int32.ofNat n := by
  have h : (x &&& 1023).toBitVec.toNat < 1024 := by
    simp only [Int32.toBitVec_and, BitVec.toNat_and]
    exact Nat.lt_succ_of_le Nat.and_le_right
  refine ⟨_, h, ?_⟩
  apply Int32.toBitVec_inj.mp
  show _ = BitVec.ofNat 32 _
  rw [BitVec.ofNat_toNat]; simp
theorem own_next {n : Nat} (h : n < 1024) : ∃ k : Nat, k < 1024 ∧ k = (n + 1) % 1024 ∧ ((Int32.ofNat n + (1 : Int32)) &&& (1023 : Int32)) = Int32.ofNat k := by
  have t : ∀ k : Fin 1024, ((Int32.ofNat k.val + (1 : Int32)) &&& (1023 : Int32)) = Int32.ofNat ((k.val + 1) % 1024) := by decide +kernel
  exact ⟨(n + 1) % 1024, Nat.mod_lt _ (by decide), rfl, t ⟨n, h⟩⟩
theorem own_inc {n : Nat} (h : n ≤ 2) : Int32.ofNat n + (1 : Int32) = Int32.ofNat (n + 1) := by
  rcases (by omega : n = 0 ∨ n = 1 ∨ n = 2) with rfl | rfl | rfl <;> rfl
theorem own_half {n : Nat} (h : n ≤ 2) : ¬ (1024 : Int32) < (Int32.ofNat (n + 1)) * (2 : Int32) := by
  rcases (by omega : n = 0 ∨ n = 1 ∨ n = 2) with rfl | rfl | rfl <;> decide
theorem own_small {n : Nat} (h : n ≤ 3) : Int32.ofNat n < (65536 : Int32) := by
  rcases (by omega : n = 0 ∨ n = 1 ∨ n = 2 ∨ n = 3) with rfl | rfl | rfl | rfl <;> decide
theorem own_le3 {n : Nat} (h : n ≤ 3) : ¬ (3 : Int32) < Int32.ofNat n := by
  rcases (by omega : n = 0 ∨ n = 1 ∨ n = 2 ∨ n = 3) with rfl | rfl | rfl | rfl <;> decide
def own_ent (Z : State) (h : Heap) (ns es : Addr) (vs : List Value) : Prop := ∀ i : Nat, vs.getD i .null = .null ∨ ∃ (b : Addr) (o : Int64), vs.getD i .null = .ref b ∧ Exa Z h b "com/example/portunus/portunus/Support" ∧ Fld Z h b "com/example/portunus/portunus/Support" "order" "J" (.long o) ∧ Fld Z h b "com/example/portunus/portunus/Support" "without" "Lcom/example/portunus/portunus/Support;" (.ref ns) ∧ Fld Z h b "com/example/portunus/portunus/Support" "with" "Lcom/example/portunus/portunus/Support;" (.ref es)
def own_few (vs : List Value) (n : Nat) : Prop := ∃ l : List Nat, l.length ≤ n ∧ ∀ i, i ∉ l → vs.getD i .null = .null
theorem own_third {vs : List Value} {n a b c : Nat} {x y : Addr} (hn : n ≤ 2) (F : own_few vs n) (ha : vs.getD a .null = .ref x) (hb : vs.getD b .null = .ref y) (hab : a ≠ b) (hca : c ≠ a) (hcb : c ≠ b) : vs.getD c .null = .null := by
  obtain ⟨l, hl, F⟩ := F
  by_cases q : c ∈ l
  · have qa : a ∈ l := Classical.byContradiction fun z => by rw [F a z] at ha; cases ha
    have qb : b ∈ l := Classical.byContradiction fun z => by rw [F b z] at hb; cases hb
    match l, hl, q, qa, qb with
    | [], _, q, _, _ => cases q
    | [u], _, q, qa, qb => simp at q qa qb; omega
    | [u, v], _, q, qa, qb => simp at q qa qb; omega
    | u :: v :: w :: r, hl, _, _, _ => simp at hl; omega
  · exact F c q
theorem own_few_set {vs : List Value} {n x : Nat} {v : Value} (F : own_few vs n) : own_few (vs.set x v) (n + 1) := by
  obtain ⟨l, hl, F⟩ := F
  refine ⟨x :: l, by simp; omega, fun i hi => ?_⟩
  simp only [List.mem_cons, not_or] at hi
  have := F i hi.2
  simp only [List.getD_eq_getElem?_getD] at this ⊢
  rw [List.getElem?_set_ne (Ne.symm hi.1)]; exact this
theorem own_ent_new {Z : State} {a0 : Array Value} {h0 h : Heap} {ns es a1 tn b : Addr} {vs vs0 : List Value} {kn : ClassId} {ty : FieldType} {z : Int32} {d : Value} {x k : Nat} {o : Int64} (ent : own_ent Z h0 ns es vs) (K : Keep h0 h [a1, tn]) (E1 : Exa Z h0 a1 "com/example/portunus/portunus/Supports") (A : Arv Z h0 tn kn ty z vs0 d) (wi : (Cond.instantiable "com/example/portunus/portunus/Support" k).before a0 Z = true)
    (hx : x < vs.length) (g1 : Exa Z h b "com/example/portunus/portunus/Support") (g2 : Fld Z h b "com/example/portunus/portunus/Support" "order" "J" (.long o)) (g3 : Fld Z h b "com/example/portunus/portunus/Support" "without" "Lcom/example/portunus/portunus/Support;" (.ref ns)) (g4 : Fld Z h b "com/example/portunus/portunus/Support" "with" "Lcom/example/portunus/portunus/Support;" (.ref es)) : own_ent Z h ns es (vs.set x (.ref b)) := fun i => by
  by_cases q : x = i
  · subst q
    exact Or.inr ⟨b, o, by simp [List.getD_eq_getElem?_getD, hx], g1, g2, g3, g4⟩
  · have e : (vs.set x (.ref b)).getD i .null = vs.getD i .null := by
      simp only [List.getD_eq_getElem?_getD]; rw [List.getElem?_set_ne q]
    rw [e]
    rcases ent i with u | ⟨b', o', u, e1, f1, f2, f3⟩
    · exact Or.inl u
    · have nn : b' ∉ [a1, tn] := ninS (ne_exa e1 E1 (by decide)) (ninS (own_ne_arv e1 wi A) nin0)
      exact Or.inr ⟨b', o', u, e1.keep K, f1.keep K nn, f2.keep K nn, f3.keep K nn⟩
theorem own_ent0 {Z : State} {h : Heap} {ns es : Addr} : own_ent Z h ns es (List.replicate 1024 .null) := fun i => Or.inl (by
  simp only [List.getD_eq_getElem?_getD, List.getElem?_replicate]; split <;> rfl)
theorem own_few0 : own_few (List.replicate 1024 .null) 0 := ⟨[], by simp, fun i _ => by
  simp only [List.getD_eq_getElem?_getD, List.getElem?_replicate]; split <;> rfl⟩
theorem own_pad : ∀ i, (List.replicate 1024 Value.null).getD i .null = ([] : List Value).getD i .null := fun i => by
  simp only [List.getD_eq_getElem?_getD, List.getElem?_replicate]; split <;> rfl
theorem pn_0 : plainName "com/example/portunus/portunus/Hashes" = true := by first | (simp [plainName, overriddenIn]; done) | decide +kernel
theorem ef_rmMx (m : MethodId) (p1 : Int32) : entryFrame m #[(.int p1)] 2 = mkF m 0 #[.val (.int p1), .unset] [] := by first | (simp [entryFrame, mkF, argsToLocals, Value.category]; done) | rfl
def QMx (Z : State) (p1 : Int32) (h0 : Heap) (n0 : Nat) (v : Option Value) (h : Heap) (L : List Loc) : Prop := ∃ r : Int32, v = some (.int r) ∧ Fr n0 L ∧ h = h0
theorem d10_0 : decode prog_9_method_2_code 0 = .ok (.iload_n 0, 1) := by decide +kernel
theorem d10_1 : decode prog_9_method_2_code 1 = .ok (.ldc 7, 2) := by decide +kernel
theorem d10_3 : decode prog_9_method_2_code 3 = .ok (.imul, 1) := by decide +kernel
theorem d10_4 : decode prog_9_method_2_code 4 = .ok (.istore_n 1, 1) := by decide +kernel
theorem d10_5 : decode prog_9_method_2_code 5 = .ok (.iload_n 1, 1) := by decide +kernel
theorem d10_6 : decode prog_9_method_2_code 6 = .ok (.iload_n 1, 1) := by decide +kernel
theorem d10_7 : decode prog_9_method_2_code 7 = .ok (.bipush 16, 2) := by decide +kernel
theorem d10_9 : decode prog_9_method_2_code 9 = .ok (.iushr, 1) := by decide +kernel
theorem d10_10 : decode prog_9_method_2_code 10 = .ok (.ixor, 1) := by decide +kernel
theorem d10_11 : decode prog_9_method_2_code 11 = .ok (.ireturn, 1) := by decide +kernel
set_option maxRecDepth 65536 in
set_option maxHeartbeats 40000000 in
theorem rmMx (l : Launch) (Z : State) (a0 : Array Value) (hw : ∀ d ∈ tables_1, d.before a0 Z = true) (ws : List Jvm.Cond) (p1 : Int32) (h0 : Heap) (n0 : Nat) (Z0 : n0 ≤ h0.size) :
    MetFree l (⟨"com/example/portunus/portunus/Hashes", "mix", "(I)I"⟩ : MethodName) (head1 (Jvm.Cond.code (⟨"com/example/portunus/portunus/Hashes", "mix", "(I)I"⟩ : MethodName) prog_9_method_2_code 2 (some .int) :: ws) ({ frames := 0, cells := 0, slots := 0, locals := 0 } : Room)) (fun a U => a = #[(.int p1)] ∧ Z.Warmed39 U.vm ∧ U.heap = h0) (fun _ _ _ _ _ => True) (fun _ U o U' => ∃ v L, o = .returned v ∧ QMx Z p1  h0 n0 v U'.heap L ∧ FrameEnd U o U' L ({ frames := 0, cells := 0, slots := 0, locals := 0 } : Room).cells ({ frames := 0, cells := 0, slots := 0, locals := 0 } : Room).slots) := by
  refine MetFree.of_bodySF (plainFor_of_name pn_0) hisR ?_
  intro p e s m args below meth c s₁ Bd hml0 hP hK
  obtain ⟨rfl, hZ, hh⟩ := hP
  have hx := Bd.exec
  have hby := Bd.bytes
  have hlk := BodyLoose.notSynchronized Bd
  have hml : c.maxLocals = 2 := hml0
  have hret := Bd.returns
  have hown : s.vm.findClass "com/example/portunus/portunus/Hashes" = some m.cls := findClass_of_methodNamed Bd.named
  have hnm := (name_of_methodNamed Bd.named Bd.method).1
  have X0 : Stand p l e ({ frames := 0, cells := 0, slots := 0, locals := 0 } : Room) s m #[(.int p1)] below meth c s₁ [] 0 0 := Stand.of_body Bd
  have e0 : s₁.heap = h0 := by rw [← hh, Bd.state]; rfl
  have N0 := Fr.nil n0
  show Go p e below s ({ frames := 0, cells := 0, slots := 0, locals := 0 } : Room).cells ({ frames := 0, cells := 0, slots := 0, locals := 0 } : Room).slots (QMx Z p1  h0 n0) s₁ (entryFrame m #[(.int p1)] 2)
  refine Go.cast (ef_rmMx m p1) ?_
  show Go _ _ _ _ _ _ _ s₁ (mkF m 0 #[.val (.int p1), .unset] [])
  refine Go.step (fun t_ k_ => XS.iloadN X0.here hx rfl (hb hby d10_0) rfl k_) ?_
  show Go _ _ _ _ _ _ _ s₁ (mkF m 1 #[.val (.int p1), .unset] [(.int p1)])
  refine Go.step (fun t_ k_ => X0.ldcI hx hown (mvT hZ (hw _ (List.mem_of_getElem? (i := 84) rfl))) rfl (hb hby d10_1) k_) ?_
  show Go _ _ _ _ _ _ _ s₁ (mkF m 3 #[.val (.int p1), .unset] [(.int (-1640531527 : Int32)), (.int p1)])
  refine Go.step (fun t_ k_ => XS.imul X0.here hx rfl (hb hby d10_3) rfl k_) ?_
  show Go _ _ _ _ _ _ _ s₁ (mkF m 4 #[.val (.int p1), .unset] [(.int (p1 * (-1640531527 : Int32)))])
  refine Go.step (fun t_ k_ => XS.istoreN X0.here hx rfl (hb hby d10_4) rfl (l' := #[.val (.int p1), .val (.int (p1 * (-1640531527 : Int32)))]) rfl k_) ?_
  show Go _ _ _ _ _ _ _ s₁ (mkF m 5 #[.val (.int p1), .val (.int (p1 * (-1640531527 : Int32)))] [])
  refine Go.step (fun t_ k_ => XS.iloadN X0.here hx rfl (hb hby d10_5) rfl k_) ?_
  show Go _ _ _ _ _ _ _ s₁ (mkF m 6 #[.val (.int p1), .val (.int (p1 * (-1640531527 : Int32)))] [(.int (p1 * (-1640531527 : Int32)))])
  refine Go.step (fun t_ k_ => XS.iloadN X0.here hx rfl (hb hby d10_6) rfl k_) ?_
  show Go _ _ _ _ _ _ _ s₁ (mkF m 7 #[.val (.int p1), .val (.int (p1 * (-1640531527 : Int32)))] [(.int (p1 * (-1640531527 : Int32))), (.int (p1 * (-1640531527 : Int32)))])
  refine Go.step (fun t_ k_ => XS.bipush X0.here hx rfl (hb hby d10_7) k_) ?_
  show Go _ _ _ _ _ _ _ s₁ (mkF m 9 #[.val (.int p1), .val (.int (p1 * (-1640531527 : Int32)))] [(.int (16 : Int32)), (.int (p1 * (-1640531527 : Int32))), (.int (p1 * (-1640531527 : Int32)))])
  refine Go.step (fun t_ k_ => XT.iushr X0.here hx rfl (hb hby d10_9) rfl k_) ?_
  show Go _ _ _ _ _ _ _ s₁ (mkF m 10 #[.val (.int p1), .val (.int (p1 * (-1640531527 : Int32)))] [(.int (XT.ushr (p1 * (-1640531527 : Int32)) (16 : Int32))), (.int (p1 * (-1640531527 : Int32)))])
  refine Go.step (fun t_ k_ => XT.ixor X0.here hx rfl (hb hby d10_10) rfl k_) ?_
  show Go _ _ _ _ _ _ _ s₁ (mkF m 11 #[.val (.int p1), .val (.int (p1 * (-1640531527 : Int32)))] [(.int ((p1 * (-1640531527 : Int32)) ^^^ (XT.ushr (p1 * (-1640531527 : Int32)) (16 : Int32))))])
  refine Go.ret X0 hx hlk hret rfl (Or.inl ⟨rfl, Or.inl rfl, _, rfl⟩) (hb hby d10_11) ?_ (by decide) (by decide)
  show QMx Z _ _ _ _ s₁.heap _
  exact ⟨_, rfl, N0, e0⟩
theorem pn_1 : plainName "java/lang/Long" = true := by first | (simp [plainName, overriddenIn]; done) | decide +kernel
theorem ef_rmLh (m : MethodId) (p1 : Int64) : entryFrame m #[(.long p1)] 2 = mkF m 0 #[.val (.long p1), .second] [] := by first | (simp [entryFrame, mkF, argsToLocals, Value.category]; done) | rfl
def QLh (Z : State) (p1 : Int64) (h0 : Heap) (n0 : Nat) (v : Option Value) (h : Heap) (L : List Loc) : Prop := ∃ r : Int32, v = some (.int r) ∧ Fr n0 L ∧ h = h0
theorem d8_0 : decode jdk_35_method_36_code 0 = .ok (.lload_n 0, 1) := by decide +kernel
theorem d8_1 : decode jdk_35_method_36_code 1 = .ok (.lload_n 0, 1) := by decide +kernel
theorem d8_2 : decode jdk_35_method_36_code 2 = .ok (.bipush 32, 2) := by decide +kernel
theorem d8_4 : decode jdk_35_method_36_code 4 = .ok (.lushr, 1) := by decide +kernel
theorem d8_5 : decode jdk_35_method_36_code 5 = .ok (.lxor, 1) := by decide +kernel
theorem d8_6 : decode jdk_35_method_36_code 6 = .ok (.l2i, 1) := by decide +kernel
theorem d8_7 : decode jdk_35_method_36_code 7 = .ok (.ireturn, 1) := by decide +kernel
set_option maxRecDepth 65536 in
set_option maxHeartbeats 40000000 in
theorem rmLh (l : Launch) (Z : State) (a0 : Array Value) (hw : ∀ d ∈ tables_1, d.before a0 Z = true) (ws : List Jvm.Cond) (p1 : Int64) (h0 : Heap) (n0 : Nat) (Z0 : n0 ≤ h0.size) :
    MetFree l (⟨"java/lang/Long", "hashCode", "(J)I"⟩ : MethodName) (head1 (Jvm.Cond.code (⟨"java/lang/Long", "hashCode", "(J)I"⟩ : MethodName) jdk_35_method_36_code 2 (some .int) :: ws) ({ frames := 0, cells := 0, slots := 0, locals := 0 } : Room)) (fun a U => a = #[(.long p1)] ∧ Z.Warmed39 U.vm ∧ U.heap = h0) (fun _ _ _ _ _ => True) (fun _ U o U' => ∃ v L, o = .returned v ∧ QLh Z p1  h0 n0 v U'.heap L ∧ FrameEnd U o U' L ({ frames := 0, cells := 0, slots := 0, locals := 0 } : Room).cells ({ frames := 0, cells := 0, slots := 0, locals := 0 } : Room).slots) := by
  refine MetFree.of_bodySF (plainFor_of_name pn_1) hisR ?_
  intro p e s m args below meth c s₁ Bd hml0 hP hK
  obtain ⟨rfl, hZ, hh⟩ := hP
  have hx := Bd.exec
  have hby := Bd.bytes
  have hlk := BodyLoose.notSynchronized Bd
  have hml : c.maxLocals = 2 := hml0
  have hret := Bd.returns
  have hown : s.vm.findClass "java/lang/Long" = some m.cls := findClass_of_methodNamed Bd.named
  have hnm := (name_of_methodNamed Bd.named Bd.method).1
  have X0 : Stand p l e ({ frames := 0, cells := 0, slots := 0, locals := 0 } : Room) s m #[(.long p1)] below meth c s₁ [] 0 0 := Stand.of_body Bd
  have e0 : s₁.heap = h0 := by rw [← hh, Bd.state]; rfl
  have N0 := Fr.nil n0
  show Go p e below s ({ frames := 0, cells := 0, slots := 0, locals := 0 } : Room).cells ({ frames := 0, cells := 0, slots := 0, locals := 0 } : Room).slots (QLh Z p1  h0 n0) s₁ (entryFrame m #[(.long p1)] 2)
  refine Go.cast (ef_rmLh m p1) ?_
  show Go _ _ _ _ _ _ _ s₁ (mkF m 0 #[.val (.long p1), .second] [])
  refine Go.step (fun t_ k_ => XT.lloadN X0.here hx rfl (hb hby d8_0) rfl k_) ?_
  show Go _ _ _ _ _ _ _ s₁ (mkF m 1 #[.val (.long p1), .second] [(.long p1)])
  refine Go.step (fun t_ k_ => XT.lloadN X0.here hx rfl (hb hby d8_1) rfl k_) ?_
  show Go _ _ _ _ _ _ _ s₁ (mkF m 2 #[.val (.long p1), .second] [(.long p1), (.long p1)])
  refine Go.step (fun t_ k_ => XS.bipush X0.here hx rfl (hb hby d8_2) k_) ?_
  show Go _ _ _ _ _ _ _ s₁ (mkF m 4 #[.val (.long p1), .second] [(.int (32 : Int32)), (.long p1), (.long p1)])
  refine Go.step (fun t_ k_ => XT.lushr X0.here hx rfl (hb hby d8_4) rfl k_) ?_
  show Go _ _ _ _ _ _ _ s₁ (mkF m 5 #[.val (.long p1), .second] [(.long (XT.ushrL p1 (32 : Int32))), (.long p1)])
  refine Go.step (fun t_ k_ => XT.lxor X0.here hx rfl (hb hby d8_5) rfl k_) ?_
  show Go _ _ _ _ _ _ _ s₁ (mkF m 6 #[.val (.long p1), .second] [(.long (p1 ^^^ (XT.ushrL p1 (32 : Int32))))])
  refine Go.step (fun t_ k_ => XT.l2i X0.here hx rfl (hb hby d8_6) rfl k_) ?_
  show Go _ _ _ _ _ _ _ s₁ (mkF m 7 #[.val (.long p1), .second] [(.int ((p1 ^^^ (XT.ushrL p1 (32 : Int32))).toInt32))])
  refine Go.ret X0 hx hlk hret rfl (Or.inl ⟨rfl, Or.inl rfl, _, rfl⟩) (hb hby d8_7) ?_ (by decide) (by decide)
  show QLh Z _ _ _ _ s₁.heap _
  exact ⟨_, rfl, N0, e0⟩
theorem pn_2 : plainName "com/example/portunus/portunus/Support" = true := by first | (simp [plainName, overriddenIn]; done) | decide +kernel
theorem ef_rmId (m : MethodId) (a1 : Addr) : entryFrame m #[(.ref a1)] 1 = mkF m 0 #[.val (.ref a1)] [] := by first | (simp [entryFrame, mkF, argsToLocals, Value.category]; done) | rfl
def QId (Z : State) (a1 : Addr) (r : Int32) (h0 : Heap) (n0 : Nat) (v : Option Value) (h : Heap) (L : List Loc) : Prop := ∃ r : Int32, v = some (.int r) ∧ Fr n0 L ∧ h = h0
theorem d9_0 : decode prog_14_method_7_code 0 = .ok (.aload_n 0, 1) := by decide +kernel
theorem d9_1 : decode prog_14_method_7_code 1 = .ok (.getfield 25, 3) := by decide +kernel
theorem d9_4 : decode prog_14_method_7_code 4 = .ok (.ldc 36, 2) := by decide +kernel
theorem d9_6 : decode prog_14_method_7_code 6 = .ok (.iand, 1) := by decide +kernel
theorem d9_7 : decode prog_14_method_7_code 7 = .ok (.ireturn, 1) := by decide +kernel
set_option maxRecDepth 65536 in
set_option maxHeartbeats 40000000 in
theorem rmId (l : Launch) (Z : State) (a0 : Array Value) (hw : ∀ d ∈ tables_1, d.before a0 Z = true) (ws : List Jvm.Cond) (a1 : Addr) (r : Int32) (h0 : Heap) (n0 : Nat) (Z0 : n0 ≤ h0.size) (PF1 : Fld Z h0 a1 "com/example/portunus/portunus/Support" "idAndOneSet" "I" (.int r)) :
    MetFree l (⟨"com/example/portunus/portunus/Support", "id", "()I"⟩ : MethodName) (head1 (Jvm.Cond.code (⟨"com/example/portunus/portunus/Support", "id", "()I"⟩ : MethodName) prog_14_method_7_code 1 (some .int) :: ws) ({ frames := 0, cells := 0, slots := 0, locals := 0 } : Room)) (fun a U => a = #[(.ref a1)] ∧ Z.Warmed39 U.vm ∧ U.heap = h0) (fun _ _ _ _ _ => True) (fun _ U o U' => ∃ v L, o = .returned v ∧ QId Z a1 r h0 n0 v U'.heap L ∧ FrameEnd U o U' L ({ frames := 0, cells := 0, slots := 0, locals := 0 } : Room).cells ({ frames := 0, cells := 0, slots := 0, locals := 0 } : Room).slots) := by
  refine MetFree.of_bodySF (plainFor_of_name pn_2) hisR ?_
  intro p e s m args below meth c s₁ Bd hml0 hP hK
  obtain ⟨rfl, hZ, hh⟩ := hP
  have hx := Bd.exec
  have hby := Bd.bytes
  have hlk := BodyLoose.notSynchronized Bd
  have hml : c.maxLocals = 1 := hml0
  have hret := Bd.returns
  have hown : s.vm.findClass "com/example/portunus/portunus/Support" = some m.cls := findClass_of_methodNamed Bd.named
  have hnm := (name_of_methodNamed Bd.named Bd.method).1
  have X0 : Stand p l e ({ frames := 0, cells := 0, slots := 0, locals := 0 } : Room) s m #[(.ref a1)] below meth c s₁ [] 0 0 := Stand.of_body Bd
  have e0 : s₁.heap = h0 := by rw [← hh, Bd.state]; rfl
  have N0 := Fr.nil n0
  show Go p e below s ({ frames := 0, cells := 0, slots := 0, locals := 0 } : Room).cells ({ frames := 0, cells := 0, slots := 0, locals := 0 } : Room).slots (QId Z a1 r h0 n0) s₁ (entryFrame m #[(.ref a1)] 1)
  refine Go.cast (ef_rmId m a1) ?_
  show Go _ _ _ _ _ _ _ s₁ (mkF m 0 #[.val (.ref a1)] [])
  refine Go.step (fun t_ k_ => XS.aloadN X0.here hx rfl (hb hby d9_0) rfl rfl k_) ?_
  show Go _ _ _ _ _ _ _ s₁ (mkF m 1 #[.val (.ref a1)] [(.ref a1)])
  obtain ⟨T1, X1, e1, st1⟩ := getF X0 hx hZ hown (host := "") (Or.inl (hw _ (List.mem_of_getElem? (i := 77) rfl))) Via.refl e0 PF1 (g := (mkF m 1 #[.val (.ref a1)] [(.ref a1)])) rfl rfl (hb hby d9_1)
  refine Go.step st1 ?_
  show Go _ _ _ _ _ _ _ T1 (mkF m 4 #[.val (.ref a1)] [(.int r)])
  refine Go.step (fun t_ k_ => X1.ldcI hx hown (mvT hZ (hw _ (List.mem_of_getElem? (i := 79) rfl))) rfl (hb hby d9_4) k_) ?_
  show Go _ _ _ _ _ _ _ T1 (mkF m 6 #[.val (.ref a1)] [(.int (2147483647 : Int32)), (.int r)])
  refine Go.step (fun t_ k_ => XS.iand X1.here hx rfl (hb hby d9_6) rfl k_) ?_
  show Go _ _ _ _ _ _ _ T1 (mkF m 7 #[.val (.ref a1)] [(.int (r &&& (2147483647 : Int32)))])
  refine Go.ret X1 hx hlk hret rfl (Or.inl ⟨rfl, Or.inl rfl, _, rfl⟩) (hb hby d9_7) ?_ (by decide) (by decide)
  show QId Z _ _ _ _ _ T1.heap _
  exact ⟨_, rfl, N0, e1⟩
theorem ef_rmOs (m : MethodId) (a1 : Addr) : entryFrame m #[(.ref a1)] 1 = mkF m 0 #[.val (.ref a1)] [] := by first | (simp [entryFrame, mkF, argsToLocals, Value.category]; done) | rfl
def QOs (Z : State) (a1 : Addr) (r : Int32) (h0 : Heap) (n0 : Nat) (v : Option Value) (h : Heap) (L : List Loc) : Prop := ∃ r : Int32, v = some (.int r) ∧ Fr n0 L ∧ h = h0
theorem d12_0 : decode prog_14_method_8_code 0 = .ok (.aload_n 0, 1) := by decide +kernel
theorem d12_1 : decode prog_14_method_8_code 1 = .ok (.getfield 25, 3) := by decide +kernel
theorem d12_4 : decode prog_14_method_8_code 4 = .ok (.ifCond .ge 7, 3) := by decide +kernel
theorem d12_7 : decode prog_14_method_8_code 7 = .ok (.iconst 1, 1) := by decide +kernel
theorem d12_8 : decode prog_14_method_8_code 8 = .ok (.goto 4, 3) := by decide +kernel
theorem d12_12 : decode prog_14_method_8_code 12 = .ok (.ireturn, 1) := by decide +kernel
theorem d12_11 : decode prog_14_method_8_code 11 = .ok (.iconst 0, 1) := by decide +kernel
set_option maxRecDepth 65536 in
set_option maxHeartbeats 40000000 in
theorem rmOs (l : Launch) (Z : State) (a0 : Array Value) (hw : ∀ d ∈ tables_1, d.before a0 Z = true) (ws : List Jvm.Cond) (a1 : Addr) (r : Int32) (h0 : Heap) (n0 : Nat) (Z0 : n0 ≤ h0.size) (PF1 : Fld Z h0 a1 "com/example/portunus/portunus/Support" "idAndOneSet" "I" (.int r)) :
    MetFree l (⟨"com/example/portunus/portunus/Support", "isOneSet", "()Z"⟩ : MethodName) (head1 (Jvm.Cond.code (⟨"com/example/portunus/portunus/Support", "isOneSet", "()Z"⟩ : MethodName) prog_14_method_8_code 1 (some .boolean) :: ws) ({ frames := 0, cells := 0, slots := 0, locals := 0 } : Room)) (fun a U => a = #[(.ref a1)] ∧ Z.Warmed39 U.vm ∧ U.heap = h0) (fun _ _ _ _ _ => True) (fun _ U o U' => ∃ v L, o = .returned v ∧ QOs Z a1 r h0 n0 v U'.heap L ∧ FrameEnd U o U' L ({ frames := 0, cells := 0, slots := 0, locals := 0 } : Room).cells ({ frames := 0, cells := 0, slots := 0, locals := 0 } : Room).slots) := by
  refine MetFree.of_bodySF (plainFor_of_name pn_2) hisR ?_
  intro p e s m args below meth c s₁ Bd hml0 hP hK
  obtain ⟨rfl, hZ, hh⟩ := hP
  have hx := Bd.exec
  have hby := Bd.bytes
  have hlk := BodyLoose.notSynchronized Bd
  have hml : c.maxLocals = 1 := hml0
  have hret := Bd.returns
  have hown : s.vm.findClass "com/example/portunus/portunus/Support" = some m.cls := findClass_of_methodNamed Bd.named
  have hnm := (name_of_methodNamed Bd.named Bd.method).1
  have X0 : Stand p l e ({ frames := 0, cells := 0, slots := 0, locals := 0 } : Room) s m #[(.ref a1)] below meth c s₁ [] 0 0 := Stand.of_body Bd
  have e0 : s₁.heap = h0 := by rw [← hh, Bd.state]; rfl
  have N0 := Fr.nil n0
  show Go p e below s ({ frames := 0, cells := 0, slots := 0, locals := 0 } : Room).cells ({ frames := 0, cells := 0, slots := 0, locals := 0 } : Room).slots (QOs Z a1 r h0 n0) s₁ (entryFrame m #[(.ref a1)] 1)
  refine Go.cast (ef_rmOs m a1) ?_
  show Go _ _ _ _ _ _ _ s₁ (mkF m 0 #[.val (.ref a1)] [])
  refine Go.step (fun t_ k_ => XS.aloadN X0.here hx rfl (hb hby d12_0) rfl rfl k_) ?_
  show Go _ _ _ _ _ _ _ s₁ (mkF m 1 #[.val (.ref a1)] [(.ref a1)])
  obtain ⟨T1, X1, e1, st1⟩ := getF X0 hx hZ hown (host := "") (Or.inl (hw _ (List.mem_of_getElem? (i := 77) rfl))) Via.refl e0 PF1 (g := (mkF m 1 #[.val (.ref a1)] [(.ref a1)])) rfl rfl (hb hby d12_1)
  refine Go.step st1 ?_
  show Go _ _ _ _ _ _ _ T1 (mkF m 4 #[.val (.ref a1)] [(.int r)])
  by_cases hb4_2 : r < (0 : Int32)
  · refine Go.step (fun t_ k_ => XS.ifNo X1.here hx rfl (hb hby d12_4) rfl (XT.i0_ge_f hb4_2) k_) ?_
    show Go _ _ _ _ _ _ _ T1 (mkF m 7 #[.val (.ref a1)] [])
    refine Go.step (fun t_ k_ => XS.iconst X1.here hx rfl (hb hby d12_7) k_) ?_
    show Go _ _ _ _ _ _ _ T1 (mkF m 8 #[.val (.ref a1)] [(.int (1 : Int32))])
    refine Go.step (fun t_ k_ => XS.goto X1.here hx rfl (pc0 := 8) (pc' := 12) rfl (hb hby d12_8) (by decide) (by decide) k_) ?_
    show Go _ _ _ _ _ _ _ T1 (mkF m 12 #[.val (.ref a1)] [(.int (1 : Int32))])
    refine Go.ret X1 hx hlk hret rfl (Or.inl ⟨rfl, Or.inr (Or.inl rfl), _, rfl⟩) (hb hby d12_12) ?_ (by decide) (by decide)
    show QOs Z _ _ _ _ _ T1.heap _
    exact ⟨_, rfl, N0, e1⟩
  · refine Go.step (fun t_ k_ => XS.ifYes X1.here hx rfl (pc0 := 4) (pc' := 11) rfl (hb hby d12_4) rfl (XT.i0_ge_t hb4_2) (by decide) (by decide) k_) ?_
    show Go _ _ _ _ _ _ _ T1 (mkF m 11 #[.val (.ref a1)] [])
    refine Go.step (fun t_ k_ => XS.iconst X1.here hx rfl (hb hby d12_11) k_) ?_
    show Go _ _ _ _ _ _ _ T1 (mkF m 12 #[.val (.ref a1)] [(.int (0 : Int32))])
    refine Go.ret X1 hx hlk hret rfl (Or.inl ⟨rfl, Or.inr (Or.inl rfl), _, rfl⟩) (hb hby d12_12) ?_ (by decide) (by decide)
    show QOs Z _ _ _ _ _ T1.heap _
    exact ⟨_, rfl, N0, e1⟩
theorem ef_rmOr (m : MethodId) (a1 : Addr) : entryFrame m #[(.ref a1)] 1 = mkF m 0 #[.val (.ref a1)] [] := by first | (simp [entryFrame, mkF, argsToLocals, Value.category]; done) | rfl
def QOr (Z : State) (a1 : Addr) (r : Int64) (h0 : Heap) (n0 : Nat) (v : Option Value) (h : Heap) (L : List Loc) : Prop := v = some (.long r) ∧ Fr n0 L ∧ h = h0
theorem d13_0 : decode prog_14_method_4_code 0 = .ok (.aload_n 0, 1) := by decide +kernel
theorem d13_1 : decode prog_14_method_4_code 1 = .ok (.getfield 9, 3) := by decide +kernel
theorem d13_4 : decode prog_14_method_4_code 4 = .ok (.lreturn, 1) := by decide +kernel
set_option maxRecDepth 65536 in
set_option maxHeartbeats 40000000 in
theorem rmOr (l : Launch) (Z : State) (a0 : Array Value) (hw : ∀ d ∈ tables_1, d.before a0 Z = true) (ws : List Jvm.Cond) (a1 : Addr) (r : Int64) (h0 : Heap) (n0 : Nat) (Z0 : n0 ≤ h0.size) (PF1 : Fld Z h0 a1 "com/example/portunus/portunus/Support" "order" "J" (.long r)) :
    MetFree l (⟨"com/example/portunus/portunus/Support", "order", "()J"⟩ : MethodName) (head1 (Jvm.Cond.code (⟨"com/example/portunus/portunus/Support", "order", "()J"⟩ : MethodName) prog_14_method_4_code 1 (some .long) :: ws) ({ frames := 0, cells := 0, slots := 0, locals := 0 } : Room)) (fun a U => a = #[(.ref a1)] ∧ Z.Warmed39 U.vm ∧ U.heap = h0) (fun _ _ _ _ _ => True) (fun _ U o U' => ∃ v L, o = .returned v ∧ QOr Z a1 r h0 n0 v U'.heap L ∧ FrameEnd U o U' L ({ frames := 0, cells := 0, slots := 0, locals := 0 } : Room).cells ({ frames := 0, cells := 0, slots := 0, locals := 0 } : Room).slots) := by
  refine MetFree.of_bodySF (plainFor_of_name pn_2) hisR ?_
  intro p e s m args below meth c s₁ Bd hml0 hP hK
  obtain ⟨rfl, hZ, hh⟩ := hP
  have hx := Bd.exec
  have hby := Bd.bytes
  have hlk := BodyLoose.notSynchronized Bd
  have hml : c.maxLocals = 1 := hml0
  have hret := Bd.returns
  have hown : s.vm.findClass "com/example/portunus/portunus/Support" = some m.cls := findClass_of_methodNamed Bd.named
  have hnm := (name_of_methodNamed Bd.named Bd.method).1
  have X0 : Stand p l e ({ frames := 0, cells := 0, slots := 0, locals := 0 } : Room) s m #[(.ref a1)] below meth c s₁ [] 0 0 := Stand.of_body Bd
  have e0 : s₁.heap = h0 := by rw [← hh, Bd.state]; rfl
  have N0 := Fr.nil n0
  show Go p e below s ({ frames := 0, cells := 0, slots := 0, locals := 0 } : Room).cells ({ frames := 0, cells := 0, slots := 0, locals := 0 } : Room).slots (QOr Z a1 r h0 n0) s₁ (entryFrame m #[(.ref a1)] 1)
  refine Go.cast (ef_rmOr m a1) ?_
  show Go _ _ _ _ _ _ _ s₁ (mkF m 0 #[.val (.ref a1)] [])
  refine Go.step (fun t_ k_ => XS.aloadN X0.here hx rfl (hb hby d13_0) rfl rfl k_) ?_
  show Go _ _ _ _ _ _ _ s₁ (mkF m 1 #[.val (.ref a1)] [(.ref a1)])
  obtain ⟨T1, X1, e1, st1⟩ := getF X0 hx hZ hown (host := "") (Or.inl (hw _ (List.mem_of_getElem? (i := 90) rfl))) Via.refl e0 PF1 (g := (mkF m 1 #[.val (.ref a1)] [(.ref a1)])) rfl rfl (hb hby d13_1)
  refine Go.step st1 ?_
  show Go _ _ _ _ _ _ _ T1 (mkF m 4 #[.val (.ref a1)] [(.long r)])
  refine Go.ret X1 hx hlk hret rfl (Or.inr (Or.inl ⟨rfl, rfl, _, rfl⟩)) (hb hby d13_4) ?_ (by decide) (by decide)
  show QOr Z _ _ _ _ _ T1.heap _
  exact ⟨rfl, N0, e1⟩
theorem ef_rmWo (m : MethodId) (a1 : Addr) : entryFrame m #[(.ref a1)] 1 = mkF m 0 #[.val (.ref a1)] [] := by first | (simp [entryFrame, mkF, argsToLocals, Value.category]; done) | rfl
def QWo (Z : State) (a1 : Addr) (r : Addr) (h0 : Heap) (n0 : Nat) (v : Option Value) (h : Heap) (L : List Loc) : Prop := v = some (.ref r) ∧ Fr n0 L ∧ h = h0
theorem d14_0 : decode prog_14_method_5_code 0 = .ok (.aload_n 0, 1) := by decide +kernel
theorem d14_1 : decode prog_14_method_5_code 1 = .ok (.getfield 15, 3) := by decide +kernel
theorem d14_4 : decode prog_14_method_5_code 4 = .ok (.areturn, 1) := by decide +kernel
set_option maxRecDepth 65536 in
set_option maxHeartbeats 40000000 in
theorem rmWo (l : Launch) (Z : State) (a0 : Array Value) (hw : ∀ d ∈ tables_1, d.before a0 Z = true) (ws : List Jvm.Cond) (a1 : Addr) (r : Addr) (h0 : Heap) (n0 : Nat) (Z0 : n0 ≤ h0.size) (PF1 : Fld Z h0 a1 "com/example/portunus/portunus/Support" "without" "Lcom/example/portunus/portunus/Support;" (.ref r)) :
    MetFree l (⟨"com/example/portunus/portunus/Support", "without", "()Lcom/example/portunus/portunus/Support;"⟩ : MethodName) (head1 (Jvm.Cond.code (⟨"com/example/portunus/portunus/Support", "without", "()Lcom/example/portunus/portunus/Support;"⟩ : MethodName) prog_14_method_5_code 1 (some (.object "com/example/portunus/portunus/Support")) :: ws) ({ frames := 0, cells := 0, slots := 0, locals := 0 } : Room)) (fun a U => a = #[(.ref a1)] ∧ Z.Warmed39 U.vm ∧ U.heap = h0) (fun _ _ _ _ _ => True) (fun _ U o U' => ∃ v L, o = .returned v ∧ QWo Z a1 r h0 n0 v U'.heap L ∧ FrameEnd U o U' L ({ frames := 0, cells := 0, slots := 0, locals := 0 } : Room).cells ({ frames := 0, cells := 0, slots := 0, locals := 0 } : Room).slots) := by
  refine MetFree.of_bodySF (plainFor_of_name pn_2) hisR ?_
  intro p e s m args below meth c s₁ Bd hml0 hP hK
  obtain ⟨rfl, hZ, hh⟩ := hP
  have hx := Bd.exec
  have hby := Bd.bytes
  have hlk := BodyLoose.notSynchronized Bd
  have hml : c.maxLocals = 1 := hml0
  have hret := Bd.returns
  have hown : s.vm.findClass "com/example/portunus/portunus/Support" = some m.cls := findClass_of_methodNamed Bd.named
  have hnm := (name_of_methodNamed Bd.named Bd.method).1
  have X0 : Stand p l e ({ frames := 0, cells := 0, slots := 0, locals := 0 } : Room) s m #[(.ref a1)] below meth c s₁ [] 0 0 := Stand.of_body Bd
  have e0 : s₁.heap = h0 := by rw [← hh, Bd.state]; rfl
  have N0 := Fr.nil n0
  show Go p e below s ({ frames := 0, cells := 0, slots := 0, locals := 0 } : Room).cells ({ frames := 0, cells := 0, slots := 0, locals := 0 } : Room).slots (QWo Z a1 r h0 n0) s₁ (entryFrame m #[(.ref a1)] 1)
  refine Go.cast (ef_rmWo m a1) ?_
  show Go _ _ _ _ _ _ _ s₁ (mkF m 0 #[.val (.ref a1)] [])
  refine Go.step (fun t_ k_ => XS.aloadN X0.here hx rfl (hb hby d14_0) rfl rfl k_) ?_
  show Go _ _ _ _ _ _ _ s₁ (mkF m 1 #[.val (.ref a1)] [(.ref a1)])
  obtain ⟨T1, X1, e1, st1⟩ := getF X0 hx hZ hown (host := "") (Or.inl (hw _ (List.mem_of_getElem? (i := 92) rfl))) Via.refl e0 PF1 (g := (mkF m 1 #[.val (.ref a1)] [(.ref a1)])) rfl rfl (hb hby d14_1)
  refine Go.step st1 ?_
  show Go _ _ _ _ _ _ _ T1 (mkF m 4 #[.val (.ref a1)] [(.ref r)])
  refine Go.ret X1 hx hlk hret rfl (Or.inr (Or.inr (Or.inr (Or.inr ⟨rfl, rfl, rfl⟩)))) (hb hby d14_4) ?_ (by decide) (by decide)
  show QWo Z _ _ _ _ _ T1.heap _
  exact ⟨rfl, N0, e1⟩
theorem ef_rmWi (m : MethodId) (a1 : Addr) : entryFrame m #[(.ref a1)] 1 = mkF m 0 #[.val (.ref a1)] [] := by first | (simp [entryFrame, mkF, argsToLocals, Value.category]; done) | rfl
def QWi (Z : State) (a1 : Addr) (r : Addr) (h0 : Heap) (n0 : Nat) (v : Option Value) (h : Heap) (L : List Loc) : Prop := v = some (.ref r) ∧ Fr n0 L ∧ h = h0
theorem d15_0 : decode prog_14_method_6_code 0 = .ok (.aload_n 0, 1) := by decide +kernel
theorem d15_1 : decode prog_14_method_6_code 1 = .ok (.getfield 19, 3) := by decide +kernel
theorem d15_4 : decode prog_14_method_6_code 4 = .ok (.areturn, 1) := by decide +kernel
set_option maxRecDepth 65536 in
set_option maxHeartbeats 40000000 in
theorem rmWi (l : Launch) (Z : State) (a0 : Array Value) (hw : ∀ d ∈ tables_1, d.before a0 Z = true) (ws : List Jvm.Cond) (a1 : Addr) (r : Addr) (h0 : Heap) (n0 : Nat) (Z0 : n0 ≤ h0.size) (PF1 : Fld Z h0 a1 "com/example/portunus/portunus/Support" "with" "Lcom/example/portunus/portunus/Support;" (.ref r)) :
    MetFree l (⟨"com/example/portunus/portunus/Support", "with", "()Lcom/example/portunus/portunus/Support;"⟩ : MethodName) (head1 (Jvm.Cond.code (⟨"com/example/portunus/portunus/Support", "with", "()Lcom/example/portunus/portunus/Support;"⟩ : MethodName) prog_14_method_6_code 1 (some (.object "com/example/portunus/portunus/Support")) :: ws) ({ frames := 0, cells := 0, slots := 0, locals := 0 } : Room)) (fun a U => a = #[(.ref a1)] ∧ Z.Warmed39 U.vm ∧ U.heap = h0) (fun _ _ _ _ _ => True) (fun _ U o U' => ∃ v L, o = .returned v ∧ QWi Z a1 r h0 n0 v U'.heap L ∧ FrameEnd U o U' L ({ frames := 0, cells := 0, slots := 0, locals := 0 } : Room).cells ({ frames := 0, cells := 0, slots := 0, locals := 0 } : Room).slots) := by
  refine MetFree.of_bodySF (plainFor_of_name pn_2) hisR ?_
  intro p e s m args below meth c s₁ Bd hml0 hP hK
  obtain ⟨rfl, hZ, hh⟩ := hP
  have hx := Bd.exec
  have hby := Bd.bytes
  have hlk := BodyLoose.notSynchronized Bd
  have hml : c.maxLocals = 1 := hml0
  have hret := Bd.returns
  have hown : s.vm.findClass "com/example/portunus/portunus/Support" = some m.cls := findClass_of_methodNamed Bd.named
  have hnm := (name_of_methodNamed Bd.named Bd.method).1
  have X0 : Stand p l e ({ frames := 0, cells := 0, slots := 0, locals := 0 } : Room) s m #[(.ref a1)] below meth c s₁ [] 0 0 := Stand.of_body Bd
  have e0 : s₁.heap = h0 := by rw [← hh, Bd.state]; rfl
  have N0 := Fr.nil n0
  show Go p e below s ({ frames := 0, cells := 0, slots := 0, locals := 0 } : Room).cells ({ frames := 0, cells := 0, slots := 0, locals := 0 } : Room).slots (QWi Z a1 r h0 n0) s₁ (entryFrame m #[(.ref a1)] 1)
  refine Go.cast (ef_rmWi m a1) ?_
  show Go _ _ _ _ _ _ _ s₁ (mkF m 0 #[.val (.ref a1)] [])
  refine Go.step (fun t_ k_ => XS.aloadN X0.here hx rfl (hb hby d15_0) rfl rfl k_) ?_
  show Go _ _ _ _ _ _ _ s₁ (mkF m 1 #[.val (.ref a1)] [(.ref a1)])
  obtain ⟨T1, X1, e1, st1⟩ := getF X0 hx hZ hown (host := "") (Or.inl (hw _ (List.mem_of_getElem? (i := 94) rfl))) Via.refl e0 PF1 (g := (mkF m 1 #[.val (.ref a1)] [(.ref a1)])) rfl rfl (hb hby d15_1)
  refine Go.step st1 ?_
  show Go _ _ _ _ _ _ _ T1 (mkF m 4 #[.val (.ref a1)] [(.ref r)])
  refine Go.ret X1 hx hlk hret rfl (Or.inr (Or.inr (Or.inr (Or.inr ⟨rfl, rfl, rfl⟩)))) (hb hby d15_4) ?_ (by decide) (by decide)
  show QWi Z _ _ _ _ _ T1.heap _
  exact ⟨rfl, N0, e1⟩
theorem pn_3 : plainName "com/example/portunus/portunus/Supports" = true := by first | (simp [plainName, overriddenIn]; done) | decide +kernel
theorem ef_rmH (m : MethodId) (p1 : Int64) (ns : Addr) (es : Addr) : entryFrame m #[(.long p1), (.ref ns), (.ref es)] 4 = mkF m 0 #[.val (.long p1), .second, .val (.ref ns), .val (.ref es)] [] := by first | (simp [entryFrame, mkF, argsToLocals, Value.category]; done) | rfl
def QH (Z : State) (p1 : Int64) (ns : Addr) (es : Addr) (h0 : Heap) (n0 : Nat) (v : Option Value) (h : Heap) (L : List Loc) : Prop := ∃ r : Int32, v = some (.int r) ∧ Fr n0 L ∧ h = h0
theorem d7_0 : decode prog_15_method_27_code 0 = .ok (.lload_n 0, 1) := by decide +kernel
theorem pd_0 : parseMethodDescriptor "(J)I" = some ⟨[.long], some .int⟩ := by decide +kernel
theorem d7_1 : decode prog_15_method_27_code 1 = .ok (.invokestatic 209, 3) := by decide +kernel
theorem d7_4 : decode prog_15_method_27_code 4 = .ok (.bipush 31, 2) := by decide +kernel
theorem d7_6 : decode prog_15_method_27_code 6 = .ok (.imul, 1) := by decide +kernel
theorem d7_7 : decode prog_15_method_27_code 7 = .ok (.aload_n 2, 1) := by decide +kernel
theorem pd_1 : parseMethodDescriptor "()I" = some ⟨[], some .int⟩ := by decide +kernel
theorem d7_8 : decode prog_15_method_27_code 8 = .ok (.invokevirtual 138, 3) := by decide +kernel
theorem d7_11 : decode prog_15_method_27_code 11 = .ok (.iadd, 1) := by decide +kernel
theorem pd_2 : parseMethodDescriptor "(I)I" = some ⟨[.int], some .int⟩ := by decide +kernel
theorem d7_12 : decode prog_15_method_27_code 12 = .ok (.invokestatic 183, 3) := by decide +kernel
theorem d7_15 : decode prog_15_method_27_code 15 = .ok (.aload_n 3, 1) := by decide +kernel
theorem d7_16 : decode prog_15_method_27_code 16 = .ok (.invokevirtual 138, 3) := by decide +kernel
theorem d7_19 : decode prog_15_method_27_code 19 = .ok (.iadd, 1) := by decide +kernel
theorem d7_20 : decode prog_15_method_27_code 20 = .ok (.invokestatic 183, 3) := by decide +kernel
theorem d7_23 : decode prog_15_method_27_code 23 = .ok (.ireturn, 1) := by decide +kernel
set_option maxRecDepth 65536 in
set_option maxHeartbeats 40000000 in
theorem rmH (l : Launch) (Z : State) (a0 : Array Value) (hw : ∀ d ∈ tables_1, d.before a0 Z = true) (ws : List Jvm.Cond) (p1 : Int64) (ns : Addr) (es : Addr) (h0 : Heap) (n0 : Nat) (Z0 : n0 ≤ h0.size) (O0 : Old Z n0 h0) (S_NO : Sta Z Z.heap "com/example/portunus/portunus/Support" "NO_SET" "Lcom/example/portunus/portunus/Support;" (.ref ns)) (S_ES : Sta Z Z.heap "com/example/portunus/portunus/Support" "EMPTY_SET" "Lcom/example/portunus/portunus/Support;" (.ref es)) (E_NO : Exa Z Z.heap ns "com/example/portunus/portunus/Support") (E_ES : Exa Z Z.heap es "com/example/portunus/portunus/Support") (F_NO : Fld Z Z.heap ns "com/example/portunus/portunus/Support" "idAndOneSet" "I" (.int (0 : Int32))) (F_ES : Fld Z Z.heap es "com/example/portunus/portunus/Support" "idAndOneSet" "I" (.int (-2147483647 : Int32))) (nEN : es ≠ ns) :
    MetFree l (⟨"com/example/portunus/portunus/Supports", "hash", "(JLcom/example/portunus/portunus/Support;Lcom/example/portunus/portunus/Support;)I"⟩ : MethodName) (head1 (Jvm.Cond.code (⟨"com/example/portunus/portunus/Supports", "hash", "(JLcom/example/portunus/portunus/Support;Lcom/example/portunus/portunus/Support;)I"⟩ : MethodName) prog_15_method_27_code 4 (some .int) :: ws) ({ frames := 1, cells := 0, slots := 0, locals := 16 } : Room)) (fun a U => a = #[(.long p1), (.ref ns), (.ref es)] ∧ Z.Warmed39 U.vm ∧ U.heap = h0) (fun _ _ _ _ _ => True) (fun _ U o U' => ∃ v L, o = .returned v ∧ QH Z p1 ns es  h0 n0 v U'.heap L ∧ FrameEnd U o U' L ({ frames := 1, cells := 0, slots := 0, locals := 16 } : Room).cells ({ frames := 1, cells := 0, slots := 0, locals := 16 } : Room).slots) := by
  refine MetFree.of_bodySF (plainFor_of_name pn_3) hisR ?_
  intro p e s m args below meth c s₁ Bd hml0 hP hK
  obtain ⟨rfl, hZ, hh⟩ := hP
  have hx := Bd.exec
  have hby := Bd.bytes
  have hlk := BodyLoose.notSynchronized Bd
  have hml : c.maxLocals = 4 := hml0
  have hret := Bd.returns
  have hown : s.vm.findClass "com/example/portunus/portunus/Supports" = some m.cls := findClass_of_methodNamed Bd.named
  have hnm := (name_of_methodNamed Bd.named Bd.method).1
  have X0 : Stand p l e ({ frames := 1, cells := 0, slots := 0, locals := 16 } : Room) s m #[(.long p1), (.ref ns), (.ref es)] below meth c s₁ [] 0 0 := Stand.of_body Bd
  have e0 : s₁.heap = h0 := by rw [← hh, Bd.state]; rfl
  have N0 := Fr.nil n0
  show Go p e below s ({ frames := 1, cells := 0, slots := 0, locals := 16 } : Room).cells ({ frames := 1, cells := 0, slots := 0, locals := 16 } : Room).slots (QH Z p1 ns es  h0 n0) s₁ (entryFrame m #[(.long p1), (.ref ns), (.ref es)] 4)
  refine Go.cast (ef_rmH m p1 ns es) ?_
  show Go _ _ _ _ _ _ _ s₁ (mkF m 0 #[.val (.long p1), .second, .val (.ref ns), .val (.ref es)] [])
  refine Go.step (fun t_ k_ => XT.lloadN X0.here hx rfl (hb hby d7_0) rfl k_) ?_
  show Go _ _ _ _ _ _ _ s₁ (mkF m 1 #[.val (.long p1), .second, .val (.ref ns), .val (.ref es)] [(.long p1)])
  obtain ⟨_, _, ⟨T1, L1, k1, n1⟩, -, X1, ⟨Lc1, hQ1, l1, y1, z1⟩, st1⟩ := Jvm.LawKit.callS X0 hx (y := (⟨"java/lang/Long", "hashCode", "(J)I"⟩ : MethodName)) hown (mvT hZ (hw _ (List.mem_of_getElem? (i := 68) rfl))) (mvT hZ (hw _ (List.mem_of_getElem? (i := 69) rfl))) (mvT hZ (hw _ (List.mem_of_getElem? (i := 70) rfl))) (mvT hZ (hw _ (List.mem_of_getElem? (i := 71) rfl))) (by decide) (backOf (W := 0) (rmLh l Z a0 hw [] p1 h0 n0 Z0 ) hZ (hw _ (List.mem_of_getElem? (i := 71) rfl)) (hw _ (List.mem_of_getElem? (i := 70) rfl)) (by decide) (by decide)) (g := (mkF m 1 #[.val (.long p1), .second, .val (.ref ns), .val (.ref es)] [(.long p1)])) rfl (by rw [hml]; rfl) (argsL := [(.long p1)]) (rest := []) (lenOf pd_0 rfl) rfl (by show 2 * 0 + _ ≤ _; exact Nat.le_of_eq rfl) (hb hby d7_1) (fun _ _ => ⟨rfl, e0, (by decide : 0 + 0 ≤ _), (by decide : 0 + 0 ≤ _)⟩)
  dsimp only [Pt.U, Pt.locs, Pt.cells, Pt.slots] at X1 l1 y1 z1 st1 hQ1
  subst l1 y1 z1
  obtain ⟨ra1, rfl, N1q, e1⟩ := hQ1
  have N1 := Fr.app N0 N1q
  refine Go.step st1 ?_
  show Go _ _ _ _ _ _ _ T1 (mkF m 4 #[.val (.long p1), .second, .val (.ref ns), .val (.ref es)] [(.int ra1)])
  refine Go.step (fun t_ k_ => XS.bipush X1.here hx rfl (hb hby d7_4) k_) ?_
  show Go _ _ _ _ _ _ _ T1 (mkF m 6 #[.val (.long p1), .second, .val (.ref ns), .val (.ref es)] [(.int (31 : Int32)), (.int ra1)])
  refine Go.step (fun t_ k_ => XS.imul X1.here hx rfl (hb hby d7_6) rfl k_) ?_
  show Go _ _ _ _ _ _ _ T1 (mkF m 7 #[.val (.long p1), .second, .val (.ref ns), .val (.ref es)] [(.int (ra1 * (31 : Int32)))])
  refine Go.step (fun t_ k_ => XS.aloadN X1.here hx rfl (hb hby d7_7) rfl rfl k_) ?_
  show Go _ _ _ _ _ _ _ T1 (mkF m 8 #[.val (.long p1), .second, .val (.ref ns), .val (.ref es)] [(.ref ns), (.int (ra1 * (31 : Int32)))])
  obtain ⟨cq2, kq2, qa2, qb2, qc2⟩ := isOf hZ (e1) (E_NO.ext O0.2)
  obtain ⟨_, _, ⟨T2, L2, k2, n2⟩, -, X2, ⟨Lc2, hQ2, l2, y2, z2⟩, st2⟩ := X1.virtualBack hx (y := (⟨"com/example/portunus/portunus/Support", "id", "()I"⟩ : MethodName)) (z := (⟨"com/example/portunus/portunus/Support", "id", "()I"⟩ : MethodName)) hown (mvT hZ (hw _ (List.mem_of_getElem? (i := 72) rfl))) (mvT hZ (hw _ (List.mem_of_getElem? (i := 73) rfl))) (notFace_of_selects (args := #[]) (mvT hZ (hw _ (List.mem_of_getElem? (i := 75) rfl)))) (mvT hZ (hw _ (List.mem_of_getElem? (i := 75) rfl))) (mvT hZ (hw _ (List.mem_of_getElem? (i := 74) rfl))) (by decide) (backOf (W := 1) (rmId l Z a0 hw [] ns (0 : Int32) h0 n0 Z0 (F_NO.ext O0.2)) hZ (hw _ (List.mem_of_getElem? (i := 76) rfl)) (hw _ (List.mem_of_getElem? (i := 57) rfl)) (by decide) (by decide)) qa2 qc2 (g := (mkF m 8 #[.val (.long p1), .second, .val (.ref ns), .val (.ref es)] [(.ref ns), (.int (ra1 * (31 : Int32)))])) rfl (by rw [hml]; rfl) (Steps.refl _) (argsL := []) (rest := [(.int (ra1 * (31 : Int32)))]) (lenOf pd_1 rfl) rfl (by show 2 * 0 + _ ≤ _; exact Nat.le_of_eq rfl) (hb hby d7_8) (fun _ _ => ⟨rfl, (e1), (by decide : 0 + 0 + 0 ≤ _), (by decide : 0 + 0 + 0 ≤ _)⟩)
  dsimp only [Pt.U, Pt.locs, Pt.cells, Pt.slots] at X2 l2 y2 z2 st2 hQ2
  subst l2 y2 z2
  obtain ⟨ra2, rfl, N2q, e2⟩ := hQ2
  have N2 := Fr.app N1 N2q
  refine Go.step (fun t_ k_ => st2.trans k_) ?_
  show Go _ _ _ _ _ _ _ T2 (mkF m 11 #[.val (.long p1), .second, .val (.ref ns), .val (.ref es)] [(.int ra2), (.int (ra1 * (31 : Int32)))])
  refine Go.step (fun t_ k_ => XS.iadd X2.here hx rfl (hb hby d7_11) rfl k_) ?_
  show Go _ _ _ _ _ _ _ T2 (mkF m 12 #[.val (.long p1), .second, .val (.ref ns), .val (.ref es)] [(.int ((ra1 * (31 : Int32)) + ra2))])
  obtain ⟨_, _, ⟨T3, L3, k3, n3⟩, -, X3, ⟨Lc3, hQ3, l3, y3, z3⟩, st3⟩ := Jvm.LawKit.callS X2 hx (y := (⟨"com/example/portunus/portunus/Hashes", "mix", "(I)I"⟩ : MethodName)) hown (mvT hZ (hw _ (List.mem_of_getElem? (i := 80) rfl))) (mvT hZ (hw _ (List.mem_of_getElem? (i := 81) rfl))) (mvT hZ (hw _ (List.mem_of_getElem? (i := 82) rfl))) (mvT hZ (hw _ (List.mem_of_getElem? (i := 83) rfl))) (by decide) (backOf (W := 0) (rmMx l Z a0 hw [] ((ra1 * (31 : Int32)) + ra2) h0 n0 Z0 ) hZ (hw _ (List.mem_of_getElem? (i := 83) rfl)) (hw _ (List.mem_of_getElem? (i := 82) rfl)) (by decide) (by decide)) (g := (mkF m 12 #[.val (.long p1), .second, .val (.ref ns), .val (.ref es)] [(.int ((ra1 * (31 : Int32)) + ra2))])) rfl (by rw [hml]; rfl) (argsL := [(.int ((ra1 * (31 : Int32)) + ra2))]) (rest := []) (lenOf pd_2 rfl) rfl (by show 2 * 0 + _ ≤ _; exact Nat.le_of_eq rfl) (hb hby d7_12) (fun _ _ => ⟨rfl, (e2), (by decide : 0 + 0 + 0 + 0 ≤ _), (by decide : 0 + 0 + 0 + 0 ≤ _)⟩)
  dsimp only [Pt.U, Pt.locs, Pt.cells, Pt.slots] at X3 l3 y3 z3 st3 hQ3
  subst l3 y3 z3
  obtain ⟨ra3, rfl, N3q, e3⟩ := hQ3
  have N3 := Fr.app N2 N3q
  refine Go.step st3 ?_
  show Go _ _ _ _ _ _ _ T3 (mkF m 15 #[.val (.long p1), .second, .val (.ref ns), .val (.ref es)] [(.int ra3)])
  refine Go.step (fun t_ k_ => XS.aloadN X3.here hx rfl (hb hby d7_15) rfl rfl k_) ?_
  show Go _ _ _ _ _ _ _ T3 (mkF m 16 #[.val (.long p1), .second, .val (.ref ns), .val (.ref es)] [(.ref es), (.int ra3)])
  obtain ⟨cq4, kq4, qa4, qb4, qc4⟩ := isOf hZ (e3) (E_ES.ext O0.2)
  obtain ⟨_, _, ⟨T4, L4, k4, n4⟩, -, X4, ⟨Lc4, hQ4, l4, y4, z4⟩, st4⟩ := X3.virtualBack hx (y := (⟨"com/example/portunus/portunus/Support", "id", "()I"⟩ : MethodName)) (z := (⟨"com/example/portunus/portunus/Support", "id", "()I"⟩ : MethodName)) hown (mvT hZ (hw _ (List.mem_of_getElem? (i := 72) rfl))) (mvT hZ (hw _ (List.mem_of_getElem? (i := 73) rfl))) (notFace_of_selects (args := #[]) (mvT hZ (hw _ (List.mem_of_getElem? (i := 75) rfl)))) (mvT hZ (hw _ (List.mem_of_getElem? (i := 75) rfl))) (mvT hZ (hw _ (List.mem_of_getElem? (i := 74) rfl))) (by decide) (backOf (W := 1) (rmId l Z a0 hw [] es (-2147483647 : Int32) h0 n0 Z0 (F_ES.ext O0.2)) hZ (hw _ (List.mem_of_getElem? (i := 76) rfl)) (hw _ (List.mem_of_getElem? (i := 57) rfl)) (by decide) (by decide)) qa4 qc4 (g := (mkF m 16 #[.val (.long p1), .second, .val (.ref ns), .val (.ref es)] [(.ref es), (.int ra3)])) rfl (by rw [hml]; rfl) (Steps.refl _) (argsL := []) (rest := [(.int ra3)]) (lenOf pd_1 rfl) rfl (by show 2 * 0 + _ ≤ _; exact Nat.le_of_eq rfl) (hb hby d7_16) (fun _ _ => ⟨rfl, (e3), (by decide : 0 + 0 + 0 + 0 + 0 ≤ _), (by decide : 0 + 0 + 0 + 0 + 0 ≤ _)⟩)
  dsimp only [Pt.U, Pt.locs, Pt.cells, Pt.slots] at X4 l4 y4 z4 st4 hQ4
  subst l4 y4 z4
  obtain ⟨ra4, rfl, N4q, e4⟩ := hQ4
  have N4 := Fr.app N3 N4q
  refine Go.step (fun t_ k_ => st4.trans k_) ?_
  show Go _ _ _ _ _ _ _ T4 (mkF m 19 #[.val (.long p1), .second, .val (.ref ns), .val (.ref es)] [(.int ra4), (.int ra3)])
  refine Go.step (fun t_ k_ => XS.iadd X4.here hx rfl (hb hby d7_19) rfl k_) ?_
  show Go _ _ _ _ _ _ _ T4 (mkF m 20 #[.val (.long p1), .second, .val (.ref ns), .val (.ref es)] [(.int (ra3 + ra4))])
  obtain ⟨_, _, ⟨T5, L5, k5, n5⟩, -, X5, ⟨Lc5, hQ5, l5, y5, z5⟩, st5⟩ := Jvm.LawKit.callS X4 hx (y := (⟨"com/example/portunus/portunus/Hashes", "mix", "(I)I"⟩ : MethodName)) hown (mvT hZ (hw _ (List.mem_of_getElem? (i := 80) rfl))) (mvT hZ (hw _ (List.mem_of_getElem? (i := 81) rfl))) (mvT hZ (hw _ (List.mem_of_getElem? (i := 82) rfl))) (mvT hZ (hw _ (List.mem_of_getElem? (i := 83) rfl))) (by decide) (backOf (W := 0) (rmMx l Z a0 hw [] (ra3 + ra4) h0 n0 Z0 ) hZ (hw _ (List.mem_of_getElem? (i := 83) rfl)) (hw _ (List.mem_of_getElem? (i := 82) rfl)) (by decide) (by decide)) (g := (mkF m 20 #[.val (.long p1), .second, .val (.ref ns), .val (.ref es)] [(.int (ra3 + ra4))])) rfl (by rw [hml]; rfl) (argsL := [(.int (ra3 + ra4))]) (rest := []) (lenOf pd_2 rfl) rfl (by show 2 * 0 + _ ≤ _; exact Nat.le_of_eq rfl) (hb hby d7_20) (fun _ _ => ⟨rfl, (e4), (by decide : 0 + 0 + 0 + 0 + 0 + 0 ≤ _), (by decide : 0 + 0 + 0 + 0 + 0 + 0 ≤ _)⟩)
  dsimp only [Pt.U, Pt.locs, Pt.cells, Pt.slots] at X5 l5 y5 z5 st5 hQ5
  subst l5 y5 z5
  obtain ⟨ra5, rfl, N5q, e5⟩ := hQ5
  have N5 := Fr.app N4 N5q
  refine Go.step st5 ?_
  show Go _ _ _ _ _ _ _ T5 (mkF m 23 #[.val (.long p1), .second, .val (.ref ns), .val (.ref es)] [(.int ra5)])
  refine Go.ret X5 hx hlk hret rfl (Or.inl ⟨rfl, Or.inl rfl, _, rfl⟩) (hb hby d7_23) ?_ (by decide) (by decide)
  show QH Z _ _ _ _ _ _ T5.heap _
  exact ⟨_, rfl, N5, (e5)⟩
theorem ef_rmSI (m : MethodId) (a1 : Addr) (p1 : Int64) (ns : Addr) (es : Addr) (p2 : Int32) : entryFrame m #[(.ref a1), (.long p1), (.ref ns), (.ref es), (.int p2)] 6 = mkF m 0 #[.val (.ref a1), .val (.long p1), .second, .val (.ref ns), .val (.ref es), .val (.int p2)] [] := by first | (simp [entryFrame, mkF, argsToLocals, Value.category]; done) | rfl
def QSI (Z : State) (a1 : Addr) (p1 : Int64) (ns : Addr) (es : Addr) (p2 : Int32) (h0 : Heap) (n0 : Nat) (v : Option Value) (h : Heap) (L : List Loc) : Prop := v = none ∧ Fr n0 L ∧ Keep h0 h [a1] ∧ Exa Z h a1 "com/example/portunus/portunus/Support" ∧ Fld Z h a1 "com/example/portunus/portunus/Support" "order" "J" (.long p1) ∧ Fld Z h a1 "com/example/portunus/portunus/Support" "without" "Lcom/example/portunus/portunus/Support;" (.ref ns) ∧ Fld Z h a1 "com/example/portunus/portunus/Support" "with" "Lcom/example/portunus/portunus/Support;" (.ref es)
theorem d11_0 : decode prog_14_method_2_code 0 = .ok (.aload_n 0, 1) := by decide +kernel
theorem d11_1 : decode prog_14_method_2_code 1 = .ok (.invokespecial 1, 3) := by decide +kernel
theorem d11_4 : decode prog_14_method_2_code 4 = .ok (.aload_n 0, 1) := by decide +kernel
theorem d11_5 : decode prog_14_method_2_code 5 = .ok (.lload_n 1, 1) := by decide +kernel
theorem d11_6 : decode prog_14_method_2_code 6 = .ok (.putfield 9, 3) := by decide +kernel
theorem d11_9 : decode prog_14_method_2_code 9 = .ok (.aload_n 0, 1) := by decide +kernel
theorem d11_10 : decode prog_14_method_2_code 10 = .ok (.aload_n 3, 1) := by decide +kernel
theorem d11_11 : decode prog_14_method_2_code 11 = .ok (.putfield 15, 3) := by decide +kernel
theorem d11_14 : decode prog_14_method_2_code 14 = .ok (.aload_n 0, 1) := by decide +kernel
theorem d11_15 : decode prog_14_method_2_code 15 = .ok (.aload 4, 2) := by decide +kernel
theorem d11_17 : decode prog_14_method_2_code 17 = .ok (.putfield 19, 3) := by decide +kernel
theorem d11_20 : decode prog_14_method_2_code 20 = .ok (.aload_n 0, 1) := by decide +kernel
theorem d11_21 : decode prog_14_method_2_code 21 = .ok (.aload_n 3, 1) := by decide +kernel
theorem d11_22 : decode prog_14_method_2_code 22 = .ok (.getstatic 29, 3) := by decide +kernel
theorem d11_25 : decode prog_14_method_2_code 25 = .ok (.if_acmp .ne 19, 3) := by decide +kernel
theorem d11_28 : decode prog_14_method_2_code 28 = .ok (.aload 4, 2) := by decide +kernel
theorem pd_3 : parseMethodDescriptor "()Z" = some ⟨[], some .boolean⟩ := by decide +kernel
theorem d11_30 : decode prog_14_method_2_code 30 = .ok (.invokevirtual 32, 3) := by decide +kernel
theorem d11_33 : decode prog_14_method_2_code 33 = .ok (.ifCond .eq 11, 3) := by decide +kernel
theorem d11_44 : decode prog_14_method_2_code 44 = .ok (.iload 5, 2) := by decide +kernel
theorem d11_46 : decode prog_14_method_2_code 46 = .ok (.ldc 36, 2) := by decide +kernel
theorem d11_48 : decode prog_14_method_2_code 48 = .ok (.iand, 1) := by decide +kernel
theorem d11_49 : decode prog_14_method_2_code 49 = .ok (.putfield 25, 3) := by decide +kernel
theorem d11_52 : decode prog_14_method_2_code 52 = .ok (.return_, 1) := by decide +kernel
theorem d11_36 : decode prog_14_method_2_code 36 = .ok (.iload 5, 2) := by decide +kernel
theorem d11_38 : decode prog_14_method_2_code 38 = .ok (.ldc 24, 2) := by decide +kernel
theorem d11_40 : decode prog_14_method_2_code 40 = .ok (.ior, 1) := by decide +kernel
theorem d11_41 : decode prog_14_method_2_code 41 = .ok (.goto 8, 3) := by decide +kernel
set_option maxRecDepth 65536 in
set_option maxHeartbeats 40000000 in
theorem rmSI (l : Launch) (Z : State) (a0 : Array Value) (hw : ∀ d ∈ tables_1, d.before a0 Z = true) (ws : List Jvm.Cond) (a1 : Addr) (p1 : Int64) (ns : Addr) (es : Addr) (p2 : Int32) (h0 : Heap) (n0 : Nat) (Z0 : n0 ≤ h0.size) (O0 : Old Z n0 h0) (S_NO : Sta Z Z.heap "com/example/portunus/portunus/Support" "NO_SET" "Lcom/example/portunus/portunus/Support;" (.ref ns)) (S_ES : Sta Z Z.heap "com/example/portunus/portunus/Support" "EMPTY_SET" "Lcom/example/portunus/portunus/Support;" (.ref es)) (E_NO : Exa Z Z.heap ns "com/example/portunus/portunus/Support") (E_ES : Exa Z Z.heap es "com/example/portunus/portunus/Support") (F_NO : Fld Z Z.heap ns "com/example/portunus/portunus/Support" "idAndOneSet" "I" (.int (0 : Int32))) (F_ES : Fld Z Z.heap es "com/example/portunus/portunus/Support" "idAndOneSet" "I" (.int (-2147483647 : Int32))) (nEN : es ≠ ns) (g1 : n0 ≤ a1) (QE1 : Exa Z h0 a1 "com/example/portunus/portunus/Support") (Q_order : Fld Z h0 a1 "com/example/portunus/portunus/Support" "order" "J" (.long (0 : Int64))) (Q_without : Fld Z h0 a1 "com/example/portunus/portunus/Support" "without" "Lcom/example/portunus/portunus/Support;" .null) (Q_with : Fld Z h0 a1 "com/example/portunus/portunus/Support" "with" "Lcom/example/portunus/portunus/Support;" .null) (Q_idAndOneSet : Fld Z h0 a1 "com/example/portunus/portunus/Support" "idAndOneSet" "I" (.int (0 : Int32))) :
    MetFree l (⟨"com/example/portunus/portunus/Support", "<init>", "(JLcom/example/portunus/portunus/Support;Lcom/example/portunus/portunus/Support;I)V"⟩ : MethodName) (head1 (Jvm.Cond.code (⟨"com/example/portunus/portunus/Support", "<init>", "(JLcom/example/portunus/portunus/Support;Lcom/example/portunus/portunus/Support;I)V"⟩ : MethodName) prog_14_method_2_code 6 none :: ws) ({ frames := 1, cells := 0, slots := 0, locals := 16 } : Room)) (fun a U => a = #[(.ref a1), (.long p1), (.ref ns), (.ref es), (.int p2)] ∧ Z.Warmed39 U.vm ∧ U.heap = h0) (fun _ _ _ _ _ => True) (fun _ U o U' => ∃ v L, o = .returned v ∧ QSI Z a1 p1 ns es p2  h0 n0 v U'.heap L ∧ FrameEnd U o U' L ({ frames := 1, cells := 0, slots := 0, locals := 16 } : Room).cells ({ frames := 1, cells := 0, slots := 0, locals := 16 } : Room).slots) := by
  refine MetFree.of_bodySF (plainFor_of_name pn_2) hisR ?_
  intro p e s m args below meth c s₁ Bd hml0 hP hK
  obtain ⟨rfl, hZ, hh⟩ := hP
  have hx := Bd.exec
  have hby := Bd.bytes
  have hlk := BodyLoose.notSynchronized Bd
  have hml : c.maxLocals = 6 := hml0
  have hret := Bd.returns
  have hown : s.vm.findClass "com/example/portunus/portunus/Support" = some m.cls := findClass_of_methodNamed Bd.named
  have hnm := (name_of_methodNamed Bd.named Bd.method).1
  have X0 : Stand p l e ({ frames := 1, cells := 0, slots := 0, locals := 16 } : Room) s m #[(.ref a1), (.long p1), (.ref ns), (.ref es), (.int p2)] below meth c s₁ [] 0 0 := Stand.of_body Bd
  have e0 : s₁.heap = h0 := by rw [← hh, Bd.state]; rfl
  have N0 := Fr.nil n0
  show Go p e below s ({ frames := 1, cells := 0, slots := 0, locals := 16 } : Room).cells ({ frames := 1, cells := 0, slots := 0, locals := 16 } : Room).slots (QSI Z a1 p1 ns es p2  h0 n0) s₁ (entryFrame m #[(.ref a1), (.long p1), (.ref ns), (.ref es), (.int p2)] 6)
  refine Go.cast (ef_rmSI m a1 p1 ns es p2) ?_
  have K0 : Keep h0 h0 [a1] := Keep.refl _ _
  show Go _ _ _ _ _ _ _ s₁ (mkF m 0 #[.val (.ref a1), .val (.long p1), .second, .val (.ref ns), .val (.ref es), .val (.int p2)] [])
  refine Go.step (fun t_ k_ => XS.aloadN X0.here hx rfl (hb hby d11_0) rfl rfl k_) ?_
  show Go _ _ _ _ _ _ _ s₁ (mkF m 1 #[.val (.ref a1), .val (.long p1), .second, .val (.ref ns), .val (.ref es), .val (.int p2)] [(.ref a1)])
  obtain ⟨T1, X1, e1, st1⟩ := initO X0 hx hZ hown (hw _ (List.mem_of_getElem? (i := 89) rfl)) (hw _ (List.mem_of_getElem? (i := 7) rfl)) (hw _ (List.mem_of_getElem? (i := 8) rfl)) e0 (g := (mkF m 1 #[.val (.ref a1), .val (.long p1), .second, .val (.ref ns), .val (.ref es), .val (.int p2)] [(.ref a1)])) rfl (by rw [hml]; rfl) rfl (hb hby d11_1) (by decide) (W := 0) (by show 2 * 0 + _ ≤ _; exact Nat.le_of_eq rfl) (by decide)
  refine Go.step st1 ?_
  show Go _ _ _ _ _ _ _ T1 (mkF m 4 #[.val (.ref a1), .val (.long p1), .second, .val (.ref ns), .val (.ref es), .val (.int p2)] [])
  refine Go.step (fun t_ k_ => XS.aloadN X1.here hx rfl (hb hby d11_4) rfl rfl k_) ?_
  show Go _ _ _ _ _ _ _ T1 (mkF m 5 #[.val (.ref a1), .val (.long p1), .second, .val (.ref ns), .val (.ref es), .val (.int p2)] [(.ref a1)])
  refine Go.step (fun t_ k_ => XT.lloadN X1.here hx rfl (hb hby d11_5) rfl k_) ?_
  show Go _ _ _ _ _ _ _ T1 (mkF m 6 #[.val (.ref a1), .val (.long p1), .second, .val (.ref ns), .val (.ref es), .val (.int p2)] [(.long p1), (.ref a1)])
  obtain ⟨T2, h2, X2, e2, W2, st2⟩ := putF X1 hx hZ hown (host := "") (Or.inl (hw _ (List.mem_of_getElem? (i := 90) rfl))) Via.refl e1 Q_order QE1 (Or.inr ⟨(hw _ (List.mem_of_getElem? (i := 91) rfl)), rfl, hnm⟩) (hw _ (List.mem_of_getElem? (i := 85) rfl)) (ty := .long) (by decide) rfl rfl (g := (mkF m 6 #[.val (.ref a1), .val (.long p1), .second, .val (.ref ns), .val (.ref es), .val (.int p2)] [(.long p1), (.ref a1)])) rfl rfl (hb hby d11_6)
  have N2 := Fr.snoc X2 N0 g1
  refine Go.step st2 ?_
  have f2_2 : Exa Z h2 a1 "com/example/portunus/portunus/Support" := (QE1.wr W2)
  have f2_3 : Fld Z h2 a1 "com/example/portunus/portunus/Support" "order" "J" (.long p1) := (Q_order.same W2)
  have f2_4 : Fld Z h2 a1 "com/example/portunus/portunus/Support" "without" "Lcom/example/portunus/portunus/Support;" .null := (Q_without.other W2 (Or.inr (slot_ne (Or.inr (hw _ (List.mem_of_getElem? (i := 93) rfl))) (Or.inr (hw _ (List.mem_of_getElem? (i := 91) rfl))) (by decide) (t := (.object "com/example/portunus/portunus/Support")) (t' := .long) (by decide) (by decide))))
  have f2_5 : Fld Z h2 a1 "com/example/portunus/portunus/Support" "with" "Lcom/example/portunus/portunus/Support;" .null := (Q_with.other W2 (Or.inr (slot_ne (Or.inr (hw _ (List.mem_of_getElem? (i := 95) rfl))) (Or.inr (hw _ (List.mem_of_getElem? (i := 91) rfl))) (by decide) (t := (.object "com/example/portunus/portunus/Support")) (t' := .long) (by decide) (by decide))))
  have f2_6 : Fld Z h2 a1 "com/example/portunus/portunus/Support" "idAndOneSet" "I" (.int (0 : Int32)) := (Q_idAndOneSet.other W2 (Or.inr (slot_ne (Or.inr (hw _ (List.mem_of_getElem? (i := 78) rfl))) (Or.inr (hw _ (List.mem_of_getElem? (i := 91) rfl))) (by decide) (t := .int) (t' := .long) (by decide) (by decide))))
  have Zs2 : n0 ≤ h2.size := (Nat.le_trans Z0 (Keep.of_wr W2).1)
  have O2 : Old Z n0 h2 := O0.wr W2 g1
  have K2 : Keep h0 h2 [a1] := K0.wr W2 (Or.inl (List.mem_of_getElem? (i := 0) rfl))
  show Go _ _ _ _ _ _ _ T2 (mkF m 9 #[.val (.ref a1), .val (.long p1), .second, .val (.ref ns), .val (.ref es), .val (.int p2)] [])
  refine Go.step (fun t_ k_ => XS.aloadN X2.here hx rfl (hb hby d11_9) rfl rfl k_) ?_
  show Go _ _ _ _ _ _ _ T2 (mkF m 10 #[.val (.ref a1), .val (.long p1), .second, .val (.ref ns), .val (.ref es), .val (.int p2)] [(.ref a1)])
  refine Go.step (fun t_ k_ => XS.aloadN X2.here hx rfl (hb hby d11_10) rfl rfl k_) ?_
  show Go _ _ _ _ _ _ _ T2 (mkF m 11 #[.val (.ref a1), .val (.long p1), .second, .val (.ref ns), .val (.ref es), .val (.int p2)] [(.ref ns), (.ref a1)])
  obtain ⟨T3, h3, X3, e3, W3, st3⟩ := putF X2 hx hZ hown (host := "") (Or.inl (hw _ (List.mem_of_getElem? (i := 92) rfl))) Via.refl e2 f2_4 f2_2 (Or.inr ⟨(hw _ (List.mem_of_getElem? (i := 93) rfl)), rfl, hnm⟩) (hw _ (List.mem_of_getElem? (i := 85) rfl)) (ty := (.object "com/example/portunus/portunus/Support")) (by decide) rfl rfl (g := (mkF m 11 #[.val (.ref a1), .val (.long p1), .second, .val (.ref ns), .val (.ref es), .val (.int p2)] [(.ref ns), (.ref a1)])) rfl rfl (hb hby d11_11)
  have N3 := Fr.snoc X3 N2 g1
  refine Go.step st3 ?_
  have f3_2 : Exa Z h3 a1 "com/example/portunus/portunus/Support" := (f2_2.wr W3)
  have f3_3 : Fld Z h3 a1 "com/example/portunus/portunus/Support" "order" "J" (.long p1) := (f2_3.other W3 (Or.inr (slot_ne (Or.inr (hw _ (List.mem_of_getElem? (i := 91) rfl))) (Or.inr (hw _ (List.mem_of_getElem? (i := 93) rfl))) (by decide) (t := .long) (t' := (.object "com/example/portunus/portunus/Support")) (by decide) (by decide))))
  have f3_4 : Fld Z h3 a1 "com/example/portunus/portunus/Support" "without" "Lcom/example/portunus/portunus/Support;" (.ref ns) := (f2_4.same W3)
  have f3_5 : Fld Z h3 a1 "com/example/portunus/portunus/Support" "with" "Lcom/example/portunus/portunus/Support;" .null := (f2_5.other W3 (Or.inr (slot_ne (Or.inr (hw _ (List.mem_of_getElem? (i := 95) rfl))) (Or.inr (hw _ (List.mem_of_getElem? (i := 93) rfl))) (by decide) (t := (.object "com/example/portunus/portunus/Support")) (t' := (.object "com/example/portunus/portunus/Support")) (by decide) (by decide))))
  have f3_6 : Fld Z h3 a1 "com/example/portunus/portunus/Support" "idAndOneSet" "I" (.int (0 : Int32)) := (f2_6.other W3 (Or.inr (slot_ne (Or.inr (hw _ (List.mem_of_getElem? (i := 78) rfl))) (Or.inr (hw _ (List.mem_of_getElem? (i := 93) rfl))) (by decide) (t := .int) (t' := (.object "com/example/portunus/portunus/Support")) (by decide) (by decide))))
  have Zs3 : n0 ≤ h3.size := (Nat.le_trans Zs2 (Keep.of_wr W3).1)
  have O3 : Old Z n0 h3 := O2.wr W3 g1
  have K3 : Keep h0 h3 [a1] := K2.wr W3 (Or.inl (List.mem_of_getElem? (i := 0) rfl))
  show Go _ _ _ _ _ _ _ T3 (mkF m 14 #[.val (.ref a1), .val (.long p1), .second, .val (.ref ns), .val (.ref es), .val (.int p2)] [])
  refine Go.step (fun t_ k_ => XS.aloadN X3.here hx rfl (hb hby d11_14) rfl rfl k_) ?_
  show Go _ _ _ _ _ _ _ T3 (mkF m 15 #[.val (.ref a1), .val (.long p1), .second, .val (.ref ns), .val (.ref es), .val (.int p2)] [(.ref a1)])
  refine Go.step (fun t_ k_ => XS.aload X3.here hx rfl (hb hby d11_15) rfl rfl k_) ?_
  show Go _ _ _ _ _ _ _ T3 (mkF m 17 #[.val (.ref a1), .val (.long p1), .second, .val (.ref ns), .val (.ref es), .val (.int p2)] [(.ref es), (.ref a1)])
  obtain ⟨T4, h4, X4, e4, W4, st4⟩ := putF X3 hx hZ hown (host := "") (Or.inl (hw _ (List.mem_of_getElem? (i := 94) rfl))) Via.refl e3 f3_5 f3_2 (Or.inr ⟨(hw _ (List.mem_of_getElem? (i := 95) rfl)), rfl, hnm⟩) (hw _ (List.mem_of_getElem? (i := 85) rfl)) (ty := (.object "com/example/portunus/portunus/Support")) (by decide) rfl rfl (g := (mkF m 17 #[.val (.ref a1), .val (.long p1), .second, .val (.ref ns), .val (.ref es), .val (.int p2)] [(.ref es), (.ref a1)])) rfl rfl (hb hby d11_17)
  have N4 := Fr.snoc X4 N3 g1
  refine Go.step st4 ?_
  have f4_2 : Exa Z h4 a1 "com/example/portunus/portunus/Support" := (f3_2.wr W4)
  have f4_3 : Fld Z h4 a1 "com/example/portunus/portunus/Support" "order" "J" (.long p1) := (f3_3.other W4 (Or.inr (slot_ne (Or.inr (hw _ (List.mem_of_getElem? (i := 91) rfl))) (Or.inr (hw _ (List.mem_of_getElem? (i := 95) rfl))) (by decide) (t := .long) (t' := (.object "com/example/portunus/portunus/Support")) (by decide) (by decide))))
  have f4_4 : Fld Z h4 a1 "com/example/portunus/portunus/Support" "without" "Lcom/example/portunus/portunus/Support;" (.ref ns) := (f3_4.other W4 (Or.inr (slot_ne (Or.inr (hw _ (List.mem_of_getElem? (i := 93) rfl))) (Or.inr (hw _ (List.mem_of_getElem? (i := 95) rfl))) (by decide) (t := (.object "com/example/portunus/portunus/Support")) (t' := (.object "com/example/portunus/portunus/Support")) (by decide) (by decide))))
  have f4_5 : Fld Z h4 a1 "com/example/portunus/portunus/Support" "with" "Lcom/example/portunus/portunus/Support;" (.ref es) := (f3_5.same W4)
  have f4_6 : Fld Z h4 a1 "com/example/portunus/portunus/Support" "idAndOneSet" "I" (.int (0 : Int32)) := (f3_6.other W4 (Or.inr (slot_ne (Or.inr (hw _ (List.mem_of_getElem? (i := 78) rfl))) (Or.inr (hw _ (List.mem_of_getElem? (i := 95) rfl))) (by decide) (t := .int) (t' := (.object "com/example/portunus/portunus/Support")) (by decide) (by decide))))
  have Zs4 : n0 ≤ h4.size := (Nat.le_trans Zs3 (Keep.of_wr W4).1)
  have O4 : Old Z n0 h4 := O3.wr W4 g1
  have K4 : Keep h0 h4 [a1] := K3.wr W4 (Or.inl (List.mem_of_getElem? (i := 0) rfl))
  show Go _ _ _ _ _ _ _ T4 (mkF m 20 #[.val (.ref a1), .val (.long p1), .second, .val (.ref ns), .val (.ref es), .val (.int p2)] [])
  refine Go.step (fun t_ k_ => XS.aloadN X4.here hx rfl (hb hby d11_20) rfl rfl k_) ?_
  show Go _ _ _ _ _ _ _ T4 (mkF m 21 #[.val (.ref a1), .val (.long p1), .second, .val (.ref ns), .val (.ref es), .val (.int p2)] [(.ref a1)])
  refine Go.step (fun t_ k_ => XS.aloadN X4.here hx rfl (hb hby d11_21) rfl rfl k_) ?_
  show Go _ _ _ _ _ _ _ T4 (mkF m 22 #[.val (.ref a1), .val (.long p1), .second, .val (.ref ns), .val (.ref es), .val (.int p2)] [(.ref ns), (.ref a1)])
  obtain ⟨T5, X5, e5, st5⟩ := getS2 X4 hx hZ hown (host := "") (Or.inl (hw _ (List.mem_of_getElem? (i := 96) rfl))) Via.refl e4 (S_NO.ext O4.2) (g := (mkF m 22 #[.val (.ref a1), .val (.long p1), .second, .val (.ref ns), .val (.ref es), .val (.int p2)] [(.ref ns), (.ref a1)])) rfl (hb hby d11_22)
  refine Go.step st5 ?_
  show Go _ _ _ _ _ _ _ T5 (mkF m 25 #[.val (.ref a1), .val (.long p1), .second, .val (.ref ns), .val (.ref es), .val (.int p2)] [(.ref ns), (.ref ns), (.ref a1)])
  have hb25_6 : ((.ref ns) : Value) = (.ref ns) := by rfl
  refine Go.step (fun t_ k_ => XT.acmpNo X5.here hx rfl (hb hby d11_25) rfl rfl rfl (XT.aa_ne_f hb25_6) k_) ?_
  show Go _ _ _ _ _ _ _ T5 (mkF m 28 #[.val (.ref a1), .val (.long p1), .second, .val (.ref ns), .val (.ref es), .val (.int p2)] [(.ref a1)])
  refine Go.step (fun t_ k_ => XS.aload X5.here hx rfl (hb hby d11_28) rfl rfl k_) ?_
  show Go _ _ _ _ _ _ _ T5 (mkF m 30 #[.val (.ref a1), .val (.long p1), .second, .val (.ref ns), .val (.ref es), .val (.int p2)] [(.ref es), (.ref a1)])
  obtain ⟨cq7, kq7, qa7, qb7, qc7⟩ := isOf hZ e5 (E_ES.ext O4.2)
  obtain ⟨_, _, ⟨T7, L7, k7, n7⟩, -, X7, ⟨Lc7, hQ7, l7, y7, z7⟩, st7⟩ := X5.virtualBack hx (y := (⟨"com/example/portunus/portunus/Support", "isOneSet", "()Z"⟩ : MethodName)) (z := (⟨"com/example/portunus/portunus/Support", "isOneSet", "()Z"⟩ : MethodName)) hown (mvT hZ (hw _ (List.mem_of_getElem? (i := 97) rfl))) (mvT hZ (hw _ (List.mem_of_getElem? (i := 98) rfl))) (notFace_of_selects (args := #[]) (mvT hZ (hw _ (List.mem_of_getElem? (i := 100) rfl)))) (mvT hZ (hw _ (List.mem_of_getElem? (i := 100) rfl))) (mvT hZ (hw _ (List.mem_of_getElem? (i := 99) rfl))) (by decide) (backOf (W := 1) (rmOs l Z a0 hw [] es (-2147483647 : Int32) h4 n0 Zs4 (F_ES.ext O4.2)) hZ (hw _ (List.mem_of_getElem? (i := 101) rfl)) (hw _ (List.mem_of_getElem? (i := 57) rfl)) (by decide) (by decide)) qa7 qc7 (g := (mkF m 30 #[.val (.ref a1), .val (.long p1), .second, .val (.ref ns), .val (.ref es), .val (.int p2)] [(.ref es), (.ref a1)])) rfl (by rw [hml]; rfl) (Steps.refl _) (argsL := []) (rest := [(.ref a1)]) (lenOf pd_3 rfl) rfl (by show 2 * 0 + _ ≤ _; exact Nat.le_of_eq rfl) (hb hby d11_30) (fun _ _ => ⟨rfl, e5, (by decide : 0 + 0 ≤ _), (by decide : 0 + 0 ≤ _)⟩)
  dsimp only [Pt.U, Pt.locs, Pt.cells, Pt.slots] at X7 l7 y7 z7 st7 hQ7
  subst l7 y7 z7
  obtain ⟨ra7, rfl, N7q, e7⟩ := hQ7
  have N7 := Fr.app N4 N7q
  refine Go.step (fun t_ k_ => st7.trans k_) ?_
  show Go _ _ _ _ _ _ _ T7 (mkF m 33 #[.val (.ref a1), .val (.long p1), .second, .val (.ref ns), .val (.ref es), .val (.int p2)] [(.int ra7), (.ref a1)])
  by_cases hb33_8 : ra7 = (0 : Int32)
  · refine Go.step (fun t_ k_ => XS.ifYes X7.here hx rfl (pc0 := 33) (pc' := 44) rfl (hb hby d11_33) rfl (XT.i0_eq_t hb33_8) (by decide) (by decide) k_) ?_
    show Go _ _ _ _ _ _ _ T7 (mkF m 44 #[.val (.ref a1), .val (.long p1), .second, .val (.ref ns), .val (.ref es), .val (.int p2)] [(.ref a1)])
    refine Go.step (fun t_ k_ => XS.iload X7.here hx rfl (hb hby d11_44) rfl k_) ?_
    show Go _ _ _ _ _ _ _ T7 (mkF m 46 #[.val (.ref a1), .val (.long p1), .second, .val (.ref ns), .val (.ref es), .val (.int p2)] [(.int p2), (.ref a1)])
    refine Go.step (fun t_ k_ => X7.ldcI hx hown (mvT hZ (hw _ (List.mem_of_getElem? (i := 79) rfl))) rfl (hb hby d11_46) k_) ?_
    show Go _ _ _ _ _ _ _ T7 (mkF m 48 #[.val (.ref a1), .val (.long p1), .second, .val (.ref ns), .val (.ref es), .val (.int p2)] [(.int (2147483647 : Int32)), (.int p2), (.ref a1)])
    refine Go.step (fun t_ k_ => XS.iand X7.here hx rfl (hb hby d11_48) rfl k_) ?_
    show Go _ _ _ _ _ _ _ T7 (mkF m 49 #[.val (.ref a1), .val (.long p1), .second, .val (.ref ns), .val (.ref es), .val (.int p2)] [(.int (p2 &&& (2147483647 : Int32))), (.ref a1)])
    obtain ⟨T9, h9, X9, e9, W9, st9⟩ := putF X7 hx hZ hown (host := "") (Or.inl (hw _ (List.mem_of_getElem? (i := 77) rfl))) Via.refl (e7) f4_6 f4_2 (Or.inr ⟨(hw _ (List.mem_of_getElem? (i := 78) rfl)), rfl, hnm⟩) (hw _ (List.mem_of_getElem? (i := 85) rfl)) (ty := .int) (by decide) rfl rfl (g := (mkF m 49 #[.val (.ref a1), .val (.long p1), .second, .val (.ref ns), .val (.ref es), .val (.int p2)] [(.int (p2 &&& (2147483647 : Int32))), (.ref a1)])) rfl rfl (hb hby d11_49)
    have N9 := Fr.snoc X9 N7 g1
    refine Go.step st9 ?_
    have f9_2 : Exa Z h9 a1 "com/example/portunus/portunus/Support" := (f4_2.wr W9)
    have f9_3 : Fld Z h9 a1 "com/example/portunus/portunus/Support" "order" "J" (.long p1) := (f4_3.other W9 (Or.inr (slot_ne (Or.inr (hw _ (List.mem_of_getElem? (i := 91) rfl))) (Or.inr (hw _ (List.mem_of_getElem? (i := 78) rfl))) (by decide) (t := .long) (t' := .int) (by decide) (by decide))))
    have f9_4 : Fld Z h9 a1 "com/example/portunus/portunus/Support" "without" "Lcom/example/portunus/portunus/Support;" (.ref ns) := (f4_4.other W9 (Or.inr (slot_ne (Or.inr (hw _ (List.mem_of_getElem? (i := 93) rfl))) (Or.inr (hw _ (List.mem_of_getElem? (i := 78) rfl))) (by decide) (t := (.object "com/example/portunus/portunus/Support")) (t' := .int) (by decide) (by decide))))
    have f9_5 : Fld Z h9 a1 "com/example/portunus/portunus/Support" "with" "Lcom/example/portunus/portunus/Support;" (.ref es) := (f4_5.other W9 (Or.inr (slot_ne (Or.inr (hw _ (List.mem_of_getElem? (i := 95) rfl))) (Or.inr (hw _ (List.mem_of_getElem? (i := 78) rfl))) (by decide) (t := (.object "com/example/portunus/portunus/Support")) (t' := .int) (by decide) (by decide))))
    have f9_6 : Fld Z h9 a1 "com/example/portunus/portunus/Support" "idAndOneSet" "I" (.int (p2 &&& (2147483647 : Int32))) := (f4_6.same W9)
    have f9_7 : Fld Z h9 es "com/example/portunus/portunus/Support" "idAndOneSet" "I" (.int (-2147483647 : Int32)) := ((F_ES.ext O4.2).other W9 (Or.inl (O0.ne E_ES.lt g1)))
    have f9_8 : Exa Z h9 es "com/example/portunus/portunus/Support" := ((E_ES.ext O4.2).wr W9)
    have Zs9 : n0 ≤ h9.size := (Nat.le_trans Zs4 (Keep.of_wr W9).1)
    have O9 : Old Z n0 h9 := O4.wr W9 g1
    have K9 : Keep h0 h9 [a1] := K4.wr W9 (Or.inl (List.mem_of_getElem? (i := 0) rfl))
    show Go _ _ _ _ _ _ _ T9 (mkF m 52 #[.val (.ref a1), .val (.long p1), .second, .val (.ref ns), .val (.ref es), .val (.int p2)] [])
    refine Go.retV X9 hx hlk hret (hb hby d11_52) ?_ (by decide) (by decide)
    show QSI Z _ _ _ _ _ _ _ _ T9.heap _
    rw [e9]
    exact ⟨rfl, N9, K9, f9_2, f9_3, f9_4, f9_5⟩
  · refine Go.step (fun t_ k_ => XS.ifNo X7.here hx rfl (hb hby d11_33) rfl (XT.i0_eq_f hb33_8) k_) ?_
    show Go _ _ _ _ _ _ _ T7 (mkF m 36 #[.val (.ref a1), .val (.long p1), .second, .val (.ref ns), .val (.ref es), .val (.int p2)] [(.ref a1)])
    refine Go.step (fun t_ k_ => XS.iload X7.here hx rfl (hb hby d11_36) rfl k_) ?_
    show Go _ _ _ _ _ _ _ T7 (mkF m 38 #[.val (.ref a1), .val (.long p1), .second, .val (.ref ns), .val (.ref es), .val (.int p2)] [(.int p2), (.ref a1)])
    refine Go.step (fun t_ k_ => X7.ldcI hx hown (mvT hZ (hw _ (List.mem_of_getElem? (i := 102) rfl))) rfl (hb hby d11_38) k_) ?_
    show Go _ _ _ _ _ _ _ T7 (mkF m 40 #[.val (.ref a1), .val (.long p1), .second, .val (.ref ns), .val (.ref es), .val (.int p2)] [(.int (-2147483648 : Int32)), (.int p2), (.ref a1)])
    refine Go.step (fun t_ k_ => XT.ior X7.here hx rfl (hb hby d11_40) rfl k_) ?_
    show Go _ _ _ _ _ _ _ T7 (mkF m 41 #[.val (.ref a1), .val (.long p1), .second, .val (.ref ns), .val (.ref es), .val (.int p2)] [(.int (p2 ||| (-2147483648 : Int32))), (.ref a1)])
    refine Go.step (fun t_ k_ => XS.goto X7.here hx rfl (pc0 := 41) (pc' := 49) rfl (hb hby d11_41) (by decide) (by decide) k_) ?_
    show Go _ _ _ _ _ _ _ T7 (mkF m 49 #[.val (.ref a1), .val (.long p1), .second, .val (.ref ns), .val (.ref es), .val (.int p2)] [(.int (p2 ||| (-2147483648 : Int32))), (.ref a1)])
    obtain ⟨T10, h10, X10, e10, W10, st10⟩ := putF X7 hx hZ hown (host := "") (Or.inl (hw _ (List.mem_of_getElem? (i := 77) rfl))) Via.refl (e7) f4_6 f4_2 (Or.inr ⟨(hw _ (List.mem_of_getElem? (i := 78) rfl)), rfl, hnm⟩) (hw _ (List.mem_of_getElem? (i := 85) rfl)) (ty := .int) (by decide) rfl rfl (g := (mkF m 49 #[.val (.ref a1), .val (.long p1), .second, .val (.ref ns), .val (.ref es), .val (.int p2)] [(.int (p2 ||| (-2147483648 : Int32))), (.ref a1)])) rfl rfl (hb hby d11_49)
    have N10 := Fr.snoc X10 N7 g1
    refine Go.step st10 ?_
    have f10_2 : Exa Z h10 a1 "com/example/portunus/portunus/Support" := (f4_2.wr W10)
    have f10_3 : Fld Z h10 a1 "com/example/portunus/portunus/Support" "order" "J" (.long p1) := (f4_3.other W10 (Or.inr (slot_ne (Or.inr (hw _ (List.mem_of_getElem? (i := 91) rfl))) (Or.inr (hw _ (List.mem_of_getElem? (i := 78) rfl))) (by decide) (t := .long) (t' := .int) (by decide) (by decide))))
    have f10_4 : Fld Z h10 a1 "com/example/portunus/portunus/Support" "without" "Lcom/example/portunus/portunus/Support;" (.ref ns) := (f4_4.other W10 (Or.inr (slot_ne (Or.inr (hw _ (List.mem_of_getElem? (i := 93) rfl))) (Or.inr (hw _ (List.mem_of_getElem? (i := 78) rfl))) (by decide) (t := (.object "com/example/portunus/portunus/Support")) (t' := .int) (by decide) (by decide))))
    have f10_5 : Fld Z h10 a1 "com/example/portunus/portunus/Support" "with" "Lcom/example/portunus/portunus/Support;" (.ref es) := (f4_5.other W10 (Or.inr (slot_ne (Or.inr (hw _ (List.mem_of_getElem? (i := 95) rfl))) (Or.inr (hw _ (List.mem_of_getElem? (i := 78) rfl))) (by decide) (t := (.object "com/example/portunus/portunus/Support")) (t' := .int) (by decide) (by decide))))
    have f10_6 : Fld Z h10 a1 "com/example/portunus/portunus/Support" "idAndOneSet" "I" (.int (p2 ||| (-2147483648 : Int32))) := (f4_6.same W10)
    have f10_7 : Fld Z h10 es "com/example/portunus/portunus/Support" "idAndOneSet" "I" (.int (-2147483647 : Int32)) := ((F_ES.ext O4.2).other W10 (Or.inl (O0.ne E_ES.lt g1)))
    have f10_8 : Exa Z h10 es "com/example/portunus/portunus/Support" := ((E_ES.ext O4.2).wr W10)
    have Zs10 : n0 ≤ h10.size := (Nat.le_trans Zs4 (Keep.of_wr W10).1)
    have O10 : Old Z n0 h10 := O4.wr W10 g1
    have K10 : Keep h0 h10 [a1] := K4.wr W10 (Or.inl (List.mem_of_getElem? (i := 0) rfl))
    show Go _ _ _ _ _ _ _ T10 (mkF m 52 #[.val (.ref a1), .val (.long p1), .second, .val (.ref ns), .val (.ref es), .val (.int p2)] [])
    refine Go.retV X10 hx hlk hret (hb hby d11_52) ?_ (by decide) (by decide)
    show QSI Z _ _ _ _ _ _ _ _ T10.heap _
    rw [e10]
    exact ⟨rfl, N10, K10, f10_2, f10_3, f10_4, f10_5⟩
theorem ef_rmN (m : MethodId) (a1 : Addr) (p1 : Int64) (ns : Addr) (es : Addr) : entryFrame m #[(.ref a1), (.long p1), (.ref ns), (.ref es)] 8 = mkF m 0 #[.val (.ref a1), .val (.long p1), .second, .val (.ref ns), .val (.ref es), .unset, .unset, .unset] [] := by first | (simp [entryFrame, mkF, argsToLocals, Value.category]; done) | rfl
def QN (Z : State) (a1 : Addr) (p1 : Int64) (ns : Addr) (es : Addr) (tn : Addr) (kn : ClassId) (nn : Nat) (nid : Int32) (vs : List Value) (h0 : Heap) (n0 : Nat) (v : Option Value) (h : Heap) (L : List Loc) : Prop := ∃ (nn2 : Nat) (nid2 : Int32) (vs2 : List Value) (rr : Addr), v = some (.ref rr) ∧ Fr n0 L ∧ Keep h0 h [a1, tn] ∧ nn2 ≤ nn + 1 ∧ Exa Z h a1 "com/example/portunus/portunus/Supports" ∧ Fld Z h a1 "com/example/portunus/portunus/Supports" "nodes" "[Lcom/example/portunus/portunus/Support;" (.ref tn) ∧ Fld Z h a1 "com/example/portunus/portunus/Supports" "size" "I" (.int (Int32.ofNat nn2)) ∧ Fld Z h a1 "com/example/portunus/portunus/Supports" "nextId" "I" (.int nid2) ∧ Arv Z h tn kn (.object "com/example/portunus/portunus/Support") (1024 : Int32) vs2 .null ∧ vs2.length = 1024 ∧ own_ent Z h ns es vs2 ∧ own_few vs2 nn2
theorem d6_0 : decode prog_15_method_23_code 0 = .ok (.aload_n 3, 1) := by decide +kernel
theorem d6_1 : decode prog_15_method_23_code 1 = .ok (.astore 5, 2) := by decide +kernel
theorem d6_3 : decode prog_15_method_23_code 3 = .ok (.aload 4, 2) := by decide +kernel
theorem d6_5 : decode prog_15_method_23_code 5 = .ok (.getstatic 50, 3) := by decide +kernel
theorem d6_8 : decode prog_15_method_23_code 8 = .ok (.if_acmp .eq 154, 3) := by decide +kernel
theorem d6_11 : decode prog_15_method_23_code 11 = .ok (.aload_n 0, 1) := by decide +kernel
theorem d6_12 : decode prog_15_method_23_code 12 = .ok (.getfield 11, 3) := by decide +kernel
theorem d6_15 : decode prog_15_method_23_code 15 = .ok (.arraylength, 1) := by decide +kernel
theorem d6_16 : decode prog_15_method_23_code 16 = .ok (.iconst 1, 1) := by decide +kernel
theorem d6_17 : decode prog_15_method_23_code 17 = .ok (.isub, 1) := by decide +kernel
theorem d6_18 : decode prog_15_method_23_code 18 = .ok (.istore 6, 2) := by decide +kernel
theorem d6_20 : decode prog_15_method_23_code 20 = .ok (.lload_n 1, 1) := by decide +kernel
theorem d6_21 : decode prog_15_method_23_code 21 = .ok (.aload_n 3, 1) := by decide +kernel
theorem d6_22 : decode prog_15_method_23_code 22 = .ok (.aload 4, 2) := by decide +kernel
theorem pd_4 : parseMethodDescriptor "(JLcom/example/portunus/portunus/Support;Lcom/example/portunus/portunus/Support;)I" = some ⟨[.long, (.object "com/example/portunus/portunus/Support"), (.object "com/example/portunus/portunus/Support")], some .int⟩ := by decide +kernel
theorem d6_24 : decode prog_15_method_23_code 24 = .ok (.invokestatic 189, 3) := by decide +kernel
theorem d6_27 : decode prog_15_method_23_code 27 = .ok (.iload 6, 2) := by decide +kernel
theorem d6_29 : decode prog_15_method_23_code 29 = .ok (.iand, 1) := by decide +kernel
theorem d6_30 : decode prog_15_method_23_code 30 = .ok (.istore 7, 2) := by decide +kernel
theorem d6_32 : decode prog_15_method_23_code 32 = .ok (.aload_n 0, 1) := by decide +kernel
theorem d6_33 : decode prog_15_method_23_code 33 = .ok (.getfield 11, 3) := by decide +kernel
theorem d6_36 : decode prog_15_method_23_code 36 = .ok (.iload 7, 2) := by decide +kernel
theorem d6_38 : decode prog_15_method_23_code 38 = .ok (.aaload, 1) := by decide +kernel
theorem d6_39 : decode prog_15_method_23_code 39 = .ok (.astore 5, 2) := by decide +kernel
theorem d6_41 : decode prog_15_method_23_code 41 = .ok (.aload 5, 2) := by decide +kernel
theorem d6_43 : decode prog_15_method_23_code 43 = .ok (.ifnull 53, 3) := by decide +kernel
theorem d6_96 : decode prog_15_method_23_code 96 = .ok (.aload 5, 2) := by decide +kernel
theorem d6_98 : decode prog_15_method_23_code 98 = .ok (.ifnonnull 64, 3) := by decide +kernel
theorem d6_101 : decode prog_15_method_23_code 101 = .ok (.new 9, 3) := by decide +kernel
theorem d6_104 : decode prog_15_method_23_code 104 = .ok (.dup, 1) := by decide +kernel
theorem d6_105 : decode prog_15_method_23_code 105 = .ok (.lload_n 1, 1) := by decide +kernel
theorem d6_106 : decode prog_15_method_23_code 106 = .ok (.aload_n 3, 1) := by decide +kernel
theorem d6_107 : decode prog_15_method_23_code 107 = .ok (.aload 4, 2) := by decide +kernel
theorem d6_109 : decode prog_15_method_23_code 109 = .ok (.aload_n 0, 1) := by decide +kernel
theorem d6_110 : decode prog_15_method_23_code 110 = .ok (.dup, 1) := by decide +kernel
theorem d6_111 : decode prog_15_method_23_code 111 = .ok (.getfield 15, 3) := by decide +kernel
theorem d6_114 : decode prog_15_method_23_code 114 = .ok (.dup_x1, 1) := by decide +kernel
theorem d6_115 : decode prog_15_method_23_code 115 = .ok (.iconst 1, 1) := by decide +kernel
theorem d6_116 : decode prog_15_method_23_code 116 = .ok (.iadd, 1) := by decide +kernel
theorem d6_117 : decode prog_15_method_23_code 117 = .ok (.putfield 15, 3) := by decide +kernel
theorem pd_5 : parseMethodDescriptor "(JLcom/example/portunus/portunus/Support;Lcom/example/portunus/portunus/Support;I)V" = some ⟨[.long, (.object "com/example/portunus/portunus/Support"), (.object "com/example/portunus/portunus/Support"), .int], none⟩ := by decide +kernel
theorem d6_120 : decode prog_15_method_23_code 120 = .ok (.invokespecial 193, 3) := by decide +kernel
theorem d6_123 : decode prog_15_method_23_code 123 = .ok (.astore 5, 2) := by decide +kernel
theorem d6_125 : decode prog_15_method_23_code 125 = .ok (.aload_n 0, 1) := by decide +kernel
theorem d6_126 : decode prog_15_method_23_code 126 = .ok (.getfield 11, 3) := by decide +kernel
theorem d6_129 : decode prog_15_method_23_code 129 = .ok (.iload 7, 2) := by decide +kernel
theorem d6_131 : decode prog_15_method_23_code 131 = .ok (.aload 5, 2) := by decide +kernel
theorem d6_133 : decode prog_15_method_23_code 133 = .ok (.aastore, 1) := by decide +kernel
theorem d6_134 : decode prog_15_method_23_code 134 = .ok (.aload_n 0, 1) := by decide +kernel
theorem d6_135 : decode prog_15_method_23_code 135 = .ok (.dup, 1) := by decide +kernel
theorem d6_136 : decode prog_15_method_23_code 136 = .ok (.getfield 90, 3) := by decide +kernel
theorem d6_139 : decode prog_15_method_23_code 139 = .ok (.iconst 1, 1) := by decide +kernel
theorem d6_140 : decode prog_15_method_23_code 140 = .ok (.iadd, 1) := by decide +kernel
theorem d6_141 : decode prog_15_method_23_code 141 = .ok (.putfield 90, 3) := by decide +kernel
theorem d6_144 : decode prog_15_method_23_code 144 = .ok (.aload_n 0, 1) := by decide +kernel
theorem d6_145 : decode prog_15_method_23_code 145 = .ok (.getfield 90, 3) := by decide +kernel
theorem d6_148 : decode prog_15_method_23_code 148 = .ok (.iconst 2, 1) := by decide +kernel
theorem d6_149 : decode prog_15_method_23_code 149 = .ok (.imul, 1) := by decide +kernel
theorem d6_150 : decode prog_15_method_23_code 150 = .ok (.aload_n 0, 1) := by decide +kernel
theorem d6_151 : decode prog_15_method_23_code 151 = .ok (.getfield 11, 3) := by decide +kernel
theorem d6_154 : decode prog_15_method_23_code 154 = .ok (.arraylength, 1) := by decide +kernel
theorem d6_155 : decode prog_15_method_23_code 155 = .ok (.if_icmp .le 7, 3) := by decide +kernel
theorem d6_162 : decode prog_15_method_23_code 162 = .ok (.aload 5, 2) := by decide +kernel
theorem d6_164 : decode prog_15_method_23_code 164 = .ok (.areturn, 1) := by decide +kernel
set_option maxRecDepth 65536 in
set_option maxHeartbeats 40000000 in
theorem sgN_0 (l : Launch) (Z : State) (a0 : Array Value) (hw : ∀ d ∈ tables_1, d.before a0 Z = true) (a1 : Addr) (p1 : Int64) (ns : Addr) (es : Addr) (tn : Addr) (kn : ClassId) (nn : Nat) (nid : Int32) (vs : List Value) (h0 : Heap) (n0 : Nat) (Z0 : n0 ≤ h0.size) (O0 : Old Z n0 h0) (S_NO : Sta Z Z.heap "com/example/portunus/portunus/Support" "NO_SET" "Lcom/example/portunus/portunus/Support;" (.ref ns)) (S_ES : Sta Z Z.heap "com/example/portunus/portunus/Support" "EMPTY_SET" "Lcom/example/portunus/portunus/Support;" (.ref es)) (E_NO : Exa Z Z.heap ns "com/example/portunus/portunus/Support") (E_ES : Exa Z Z.heap es "com/example/portunus/portunus/Support") (F_NO : Fld Z Z.heap ns "com/example/portunus/portunus/Support" "idAndOneSet" "I" (.int (0 : Int32))) (F_ES : Fld Z Z.heap es "com/example/portunus/portunus/Support" "idAndOneSet" "I" (.int (-2147483647 : Int32))) (nEN : es ≠ ns) (g1 : n0 ≤ a1) (gt1 : n0 ≤ tn) (hnn : nn ≤ 2) (OV : Ovr Z kn "com/example/portunus/portunus/Support") (PE1 : Exa Z h0 a1 "com/example/portunus/portunus/Supports") (P_nodes : Fld Z h0 a1 "com/example/portunus/portunus/Supports" "nodes" "[Lcom/example/portunus/portunus/Support;" (.ref tn)) (P_size : Fld Z h0 a1 "com/example/portunus/portunus/Supports" "size" "I" (.int (Int32.ofNat nn))) (P_nid : Fld Z h0 a1 "com/example/portunus/portunus/Supports" "nextId" "I" (.int nid)) (PA : Arv Z h0 tn kn (.object "com/example/portunus/portunus/Support") (1024 : Int32) vs .null) (hlv : vs.length = 1024) (hent : own_ent Z h0 ns es vs) (hfew : own_few vs nn) (i_0 : Int32) (i_1 : Int32) {p : Program} {e : Env} {s : State} {m : MethodId} {below : List Frame} {meth : Method} {c : Code} {T : State} {locs : List Loc} {h : Heap} (X1 : Stand p l e ({ frames := 2, cells := 1, slots := 4, locals := 50 } : Room) s m #[(.ref a1), (.long p1), (.ref ns), (.ref es)] below meth c T locs 0 0) (hx : p.tables.exec = Jvm.exec) (hby : c.code = prog_15_method_23_code) (hlk : meth.locks = false) (hml : c.maxLocals = 8) (hret : meth.sig.returnType = some (.object "com/example/portunus/portunus/Support")) (hnm : meth.name = "node") (e1 : T.heap = h) (N1 : Fr n0 locs) (Zs1 : n0 ≤ h.size) (O1 : Old Z n0 h) (K1 : Keep h0 h [a1, tn]) (hZ : Z.Warmed39 s.vm) (hown : s.vm.findClass "com/example/portunus/portunus/Supports" = some m.cls) (H_0 : Exa Z h a1 "com/example/portunus/portunus/Supports") (H_1 : Fld Z h a1 "com/example/portunus/portunus/Supports" "nodes" "[Lcom/example/portunus/portunus/Support;" (.ref tn)) (H_2 : Fld Z h a1 "com/example/portunus/portunus/Supports" "size" "I" (.int i_1)) (H_3 : Fld Z h a1 "com/example/portunus/portunus/Supports" "nextId" "I" (.int nid)) (H_4 : Arv Z h tn kn (.object "com/example/portunus/portunus/Support") (1024 : Int32) vs .null) (H_4o : Ovr Z kn "com/example/portunus/portunus/Support") (ge_a1 : n0 ≤ a1) (ge_tn : n0 ≤ tn) (hsx : ∃ x : Nat, x < 1024 ∧ vs.getD x .null = .null ∧ i_0 = Int32.ofNat x) (hsz : ∃ z : Nat, z = nn ∧ i_1 = Int32.ofNat z) :
    Go p e below s ({ frames := 2, cells := 1, slots := 4, locals := 50 } : Room).cells ({ frames := 2, cells := 1, slots := 4, locals := 50 } : Room).slots (QN Z a1 p1 ns es tn kn nn nid vs h0 n0) T (mkF m 101 #[.val (.ref a1), .val (.long p1), .second, .val (.ref ns), .val (.ref es), .val .null, .val (.int (1023 : Int32)), .val (.int i_0)] []) := by
  show Go _ _ _ _ _ _ _ T (mkF m 101 #[.val (.ref a1), .val (.long p1), .second, .val (.ref ns), .val (.ref es), .val .null, .val (.int (1023 : Int32)), .val (.int i_0)] [])
  obtain ⟨T9, h9, X9, e9, E9, A9, D9, -, st9⟩ := newO X1 hx hZ hown (hw _ (List.mem_of_getElem? (i := 9) rfl)) (hw _ (List.mem_of_getElem? (i := 85) rfl)) (hw _ (List.mem_of_getElem? (i := 57) rfl)) e1 (g := (mkF m 101 #[.val (.ref a1), .val (.long p1), .second, .val (.ref ns), .val (.ref es), .val .null, .val (.int (1023 : Int32)), .val (.int i_0)] [])) rfl (hb hby d6_101) (by decide) (by decide)
  obtain ⟨o9, g9⟩ : ∃ z, z = h.size := ⟨_, rfl⟩
  rw [← g9] at A9 D9 st9
  have ne_a1_o9 : a1 ≠ o9 := Nat.ne_of_lt (Nat.lt_of_lt_of_le H_0.lt (Nat.le_of_eq g9.symm))
  have ne_tn_o9 : tn ≠ o9 := Nat.ne_of_lt (Nat.lt_of_lt_of_le H_4.lt (Nat.le_of_eq g9.symm))
  have ge_o9 : n0 ≤ o9 := Nat.le_trans Zs1 (Nat.le_of_eq g9.symm)
  have geh_o9 : h0.size ≤ o9 := Nat.le_trans K1.1 (Nat.le_of_eq g9.symm)
  have f9_2 : Exa Z h9 a1 "com/example/portunus/portunus/Supports" := (H_0.ext E9)
  have f9_3 : Fld Z h9 a1 "com/example/portunus/portunus/Supports" "nodes" "[Lcom/example/portunus/portunus/Support;" (.ref tn) := (H_1.ext E9)
  have f9_4 : Fld Z h9 a1 "com/example/portunus/portunus/Supports" "size" "I" (.int i_1) := (H_2.ext E9)
  have f9_5 : Fld Z h9 a1 "com/example/portunus/portunus/Supports" "nextId" "I" (.int nid) := (H_3.ext E9)
  have f9_6 : Arv Z h9 tn kn (.object "com/example/portunus/portunus/Support") (1024 : Int32) vs .null := (H_4.ext E9)
  have f9_7 : Exa Z h9 o9 "com/example/portunus/portunus/Support" := A9
  have f9_8 : Fld Z h9 o9 "com/example/portunus/portunus/Support" "idAndOneSet" "I" (.int (0 : Int32)) := (D9 (Or.inr (hw _ (List.mem_of_getElem? (i := 78) rfl))) (ty := .int) (by decide))
  have f9_9 : Fld Z h9 o9 "com/example/portunus/portunus/Support" "order" "J" (.long (0 : Int64)) := (D9 (Or.inr (hw _ (List.mem_of_getElem? (i := 91) rfl))) (ty := .long) (by decide))
  have f9_10 : Fld Z h9 o9 "com/example/portunus/portunus/Support" "without" "Lcom/example/portunus/portunus/Support;" .null := (D9 (Or.inr (hw _ (List.mem_of_getElem? (i := 93) rfl))) (ty := (.object "com/example/portunus/portunus/Support")) (by decide))
  have f9_11 : Fld Z h9 o9 "com/example/portunus/portunus/Support" "with" "Lcom/example/portunus/portunus/Support;" .null := (D9 (Or.inr (hw _ (List.mem_of_getElem? (i := 95) rfl))) (ty := (.object "com/example/portunus/portunus/Support")) (by decide))
  have Zs9 : n0 ≤ h9.size := (Nat.le_trans Zs1 E9.1)
  have O9 : Old Z n0 h9 := O1.ext E9
  have K9 : Keep h0 h9 [a1, tn] := K1.ext E9
  refine Go.step st9 ?_
  show Go _ _ _ _ _ _ _ T9 (mkF m 104 #[.val (.ref a1), .val (.long p1), .second, .val (.ref ns), .val (.ref es), .val .null, .val (.int (1023 : Int32)), .val (.int i_0)] [(.ref o9)])
  refine Go.step (fun t_ k_ => XS.dup X9.here hx rfl (hb hby d6_104) rfl rfl k_) ?_
  show Go _ _ _ _ _ _ _ T9 (mkF m 105 #[.val (.ref a1), .val (.long p1), .second, .val (.ref ns), .val (.ref es), .val .null, .val (.int (1023 : Int32)), .val (.int i_0)] [(.ref o9), (.ref o9)])
  refine Go.step (fun t_ k_ => XT.lloadN X9.here hx rfl (hb hby d6_105) rfl k_) ?_
  show Go _ _ _ _ _ _ _ T9 (mkF m 106 #[.val (.ref a1), .val (.long p1), .second, .val (.ref ns), .val (.ref es), .val .null, .val (.int (1023 : Int32)), .val (.int i_0)] [(.long p1), (.ref o9), (.ref o9)])
  refine Go.step (fun t_ k_ => XS.aloadN X9.here hx rfl (hb hby d6_106) rfl rfl k_) ?_
  show Go _ _ _ _ _ _ _ T9 (mkF m 107 #[.val (.ref a1), .val (.long p1), .second, .val (.ref ns), .val (.ref es), .val .null, .val (.int (1023 : Int32)), .val (.int i_0)] [(.ref ns), (.long p1), (.ref o9), (.ref o9)])
  refine Go.step (fun t_ k_ => XS.aload X9.here hx rfl (hb hby d6_107) rfl rfl k_) ?_
  show Go _ _ _ _ _ _ _ T9 (mkF m 109 #[.val (.ref a1), .val (.long p1), .second, .val (.ref ns), .val (.ref es), .val .null, .val (.int (1023 : Int32)), .val (.int i_0)] [(.ref es), (.ref ns), (.long p1), (.ref o9), (.ref o9)])
  refine Go.step (fun t_ k_ => XS.aloadN X9.here hx rfl (hb hby d6_109) rfl rfl k_) ?_
  show Go _ _ _ _ _ _ _ T9 (mkF m 110 #[.val (.ref a1), .val (.long p1), .second, .val (.ref ns), .val (.ref es), .val .null, .val (.int (1023 : Int32)), .val (.int i_0)] [(.ref a1), (.ref es), (.ref ns), (.long p1), (.ref o9), (.ref o9)])
  refine Go.step (fun t_ k_ => XS.dup X9.here hx rfl (hb hby d6_110) rfl rfl k_) ?_
  show Go _ _ _ _ _ _ _ T9 (mkF m 111 #[.val (.ref a1), .val (.long p1), .second, .val (.ref ns), .val (.ref es), .val .null, .val (.int (1023 : Int32)), .val (.int i_0)] [(.ref a1), (.ref a1), (.ref es), (.ref ns), (.long p1), (.ref o9), (.ref o9)])
  obtain ⟨T10, X10, e10, st10⟩ := getF X9 hx hZ hown (host := "") (Or.inl (hw _ (List.mem_of_getElem? (i := 13) rfl))) Via.refl e9 f9_5 (g := (mkF m 111 #[.val (.ref a1), .val (.long p1), .second, .val (.ref ns), .val (.ref es), .val .null, .val (.int (1023 : Int32)), .val (.int i_0)] [(.ref a1), (.ref a1), (.ref es), (.ref ns), (.long p1), (.ref o9), (.ref o9)])) rfl rfl (hb hby d6_111)
  refine Go.step st10 ?_
  show Go _ _ _ _ _ _ _ T10 (mkF m 114 #[.val (.ref a1), .val (.long p1), .second, .val (.ref ns), .val (.ref es), .val .null, .val (.int (1023 : Int32)), .val (.int i_0)] [(.int nid), (.ref a1), (.ref es), (.ref ns), (.long p1), (.ref o9), (.ref o9)])
  refine Go.step (fun t_ k_ => XT.dupX1 X10.here hx rfl (hb hby d6_114) rfl rfl rfl k_) ?_
  show Go _ _ _ _ _ _ _ T10 (mkF m 115 #[.val (.ref a1), .val (.long p1), .second, .val (.ref ns), .val (.ref es), .val .null, .val (.int (1023 : Int32)), .val (.int i_0)] [(.int nid), (.ref a1), (.int nid), (.ref es), (.ref ns), (.long p1), (.ref o9), (.ref o9)])
  refine Go.step (fun t_ k_ => XS.iconst X10.here hx rfl (hb hby d6_115) k_) ?_
  show Go _ _ _ _ _ _ _ T10 (mkF m 116 #[.val (.ref a1), .val (.long p1), .second, .val (.ref ns), .val (.ref es), .val .null, .val (.int (1023 : Int32)), .val (.int i_0)] [(.int (1 : Int32)), (.int nid), (.ref a1), (.int nid), (.ref es), (.ref ns), (.long p1), (.ref o9), (.ref o9)])
  refine Go.step (fun t_ k_ => XS.iadd X10.here hx rfl (hb hby d6_116) rfl k_) ?_
  show Go _ _ _ _ _ _ _ T10 (mkF m 117 #[.val (.ref a1), .val (.long p1), .second, .val (.ref ns), .val (.ref es), .val .null, .val (.int (1023 : Int32)), .val (.int i_0)] [(.int (nid + (1 : Int32))), (.ref a1), (.int nid), (.ref es), (.ref ns), (.long p1), (.ref o9), (.ref o9)])
  obtain ⟨T11, h11, X11, e11, W11, st11⟩ := putF X10 hx hZ hown (host := "") (Or.inl (hw _ (List.mem_of_getElem? (i := 13) rfl))) Via.refl e10 f9_5 f9_2 (Or.inl (hw _ (List.mem_of_getElem? (i := 14) rfl))) (hw _ (List.mem_of_getElem? (i := 1) rfl)) (ty := .int) (by decide) rfl rfl (g := (mkF m 117 #[.val (.ref a1), .val (.long p1), .second, .val (.ref ns), .val (.ref es), .val .null, .val (.int (1023 : Int32)), .val (.int i_0)] [(.int (nid + (1 : Int32))), (.ref a1), (.int nid), (.ref es), (.ref ns), (.long p1), (.ref o9), (.ref o9)])) rfl rfl (hb hby d6_117)
  have N11 := Fr.snoc X11 N1 ge_a1
  refine Go.step st11 ?_
  have f11_2 : Exa Z h11 a1 "com/example/portunus/portunus/Supports" := (f9_2.wr W11)
  have f11_3 : Fld Z h11 a1 "com/example/portunus/portunus/Supports" "nodes" "[Lcom/example/portunus/portunus/Support;" (.ref tn) := (f9_3.other W11 (Or.inr (slot_ne (Or.inl (hw _ (List.mem_of_getElem? (i := 12) rfl))) (Or.inl (hw _ (List.mem_of_getElem? (i := 14) rfl))) (by decide) (t := (.array (.object "com/example/portunus/portunus/Support"))) (t' := .int) (by decide) (by decide))))
  have f11_4 : Fld Z h11 a1 "com/example/portunus/portunus/Supports" "size" "I" (.int i_1) := (f9_4.other W11 (Or.inr (slot_ne (Or.inl (hw _ (List.mem_of_getElem? (i := 44) rfl))) (Or.inl (hw _ (List.mem_of_getElem? (i := 14) rfl))) (by decide) (t := .int) (t' := .int) (by decide) (by decide))))
  have f11_5 : Fld Z h11 a1 "com/example/portunus/portunus/Supports" "nextId" "I" (.int (nid + (1 : Int32))) := (f9_5.same W11)
  have f11_6 : Arv Z h11 tn kn (.object "com/example/portunus/portunus/Support") (1024 : Int32) vs .null := (f9_6.other W11 (Ne.symm (own_ne_arv f9_2 (hw _ (List.mem_of_getElem? (i := 1) rfl)) f9_6)))
  have f11_7 : Exa Z h11 o9 "com/example/portunus/portunus/Support" := (f9_7.wr W11)
  have f11_8 : Fld Z h11 o9 "com/example/portunus/portunus/Support" "idAndOneSet" "I" (.int (0 : Int32)) := (f9_8.other W11 (Or.inl (Ne.symm ne_a1_o9)))
  have f11_9 : Fld Z h11 o9 "com/example/portunus/portunus/Support" "order" "J" (.long (0 : Int64)) := (f9_9.other W11 (Or.inl (Ne.symm ne_a1_o9)))
  have f11_10 : Fld Z h11 o9 "com/example/portunus/portunus/Support" "without" "Lcom/example/portunus/portunus/Support;" .null := (f9_10.other W11 (Or.inl (Ne.symm ne_a1_o9)))
  have f11_11 : Fld Z h11 o9 "com/example/portunus/portunus/Support" "with" "Lcom/example/portunus/portunus/Support;" .null := (f9_11.other W11 (Or.inl (Ne.symm ne_a1_o9)))
  have Zs11 : n0 ≤ h11.size := (Nat.le_trans Zs9 (Keep.of_wr W11).1)
  have O11 : Old Z n0 h11 := O9.wr W11 ge_a1
  have K11 : Keep h0 h11 [a1, tn] := K9.wr W11 (Or.inl (List.mem_of_getElem? (i := 0) rfl))
  show Go _ _ _ _ _ _ _ T11 (mkF m 120 #[.val (.ref a1), .val (.long p1), .second, .val (.ref ns), .val (.ref es), .val .null, .val (.int (1023 : Int32)), .val (.int i_0)] [(.int nid), (.ref es), (.ref ns), (.long p1), (.ref o9), (.ref o9)])
  obtain ⟨_, _, ⟨T12, L12, k12, n12⟩, -, X12, ⟨Lc12, hQ12, l12, y12, z12⟩, st12⟩ := X11.specialBack hx (y := (⟨"com/example/portunus/portunus/Support", "<init>", "(JLcom/example/portunus/portunus/Support;Lcom/example/portunus/portunus/Support;I)V"⟩ : MethodName)) rfl hown (mvT hZ (hw _ (List.mem_of_getElem? (i := 86) rfl))) (mvT hZ (hw _ (List.mem_of_getElem? (i := 87) rfl))) (mvT hZ (hw _ (List.mem_of_getElem? (i := 88) rfl))) (by decide) (backOf (W := 1) (rmSI l Z a0 hw [] o9 p1 ns es nid h11 n0 Zs11 O11 S_NO S_ES E_NO E_ES F_NO F_ES nEN ge_o9 f11_7 f11_9 f11_10 f11_11 f11_8) hZ (hw _ (List.mem_of_getElem? (i := 88) rfl)) (hw _ (List.mem_of_getElem? (i := 57) rfl)) (by decide) (by decide)) (g := (mkF m 120 #[.val (.ref a1), .val (.long p1), .second, .val (.ref ns), .val (.ref es), .val .null, .val (.int (1023 : Int32)), .val (.int i_0)] [(.int nid), (.ref es), (.ref ns), (.long p1), (.ref o9), (.ref o9)])) rfl (by rw [hml]; rfl) (Steps.refl _) (a := o9) (argsL := [(.long p1), (.ref ns), (.ref es), (.int nid)]) (rest := [(.ref o9)]) (lenOf pd_5 rfl) rfl (by show 2 * 0 + _ ≤ _; exact Nat.le_of_eq rfl) (hb hby d6_120) (fun _ _ => ⟨rfl, e11, (by decide : 0 + 1 + 0 ≤ _), (by decide : 0 + 4 + 0 ≤ _)⟩)
  dsimp only [Pt.U, Pt.locs, Pt.cells, Pt.slots] at X12 l12 y12 z12 st12 hQ12
  subst l12 y12 z12
  obtain ⟨rfl, N12q, Kq12, Eq12, Fa12, Fb12, Fc12⟩ := hQ12
  have N12 := Fr.app N11 N12q
  have f12_2 : Exa Z T12.heap a1 "com/example/portunus/portunus/Supports" := (f11_2.keep Kq12)
  have f12_3 : Fld Z T12.heap a1 "com/example/portunus/portunus/Supports" "nodes" "[Lcom/example/portunus/portunus/Support;" (.ref tn) := (f11_3.keep Kq12 (ninS ne_a1_o9 nin0))
  have f12_4 : Fld Z T12.heap a1 "com/example/portunus/portunus/Supports" "size" "I" (.int i_1) := (f11_4.keep Kq12 (ninS ne_a1_o9 nin0))
  have f12_5 : Fld Z T12.heap a1 "com/example/portunus/portunus/Supports" "nextId" "I" (.int (nid + (1 : Int32))) := (f11_5.keep Kq12 (ninS ne_a1_o9 nin0))
  have f12_6 : Arv Z T12.heap tn kn (.object "com/example/portunus/portunus/Support") (1024 : Int32) vs .null := (f11_6.keep Kq12 (ninS ne_tn_o9 nin0))
  have f12_7 : Exa Z T12.heap o9 "com/example/portunus/portunus/Support" := Eq12
  have f12_8 : Fld Z T12.heap o9 "com/example/portunus/portunus/Support" "order" "J" (.long p1) := Fa12
  have f12_9 : Fld Z T12.heap o9 "com/example/portunus/portunus/Support" "without" "Lcom/example/portunus/portunus/Support;" (.ref ns) := Fb12
  have f12_10 : Fld Z T12.heap o9 "com/example/portunus/portunus/Support" "with" "Lcom/example/portunus/portunus/Support;" (.ref es) := Fc12
  have Zs12 : n0 ≤ T12.heap.size := (Nat.le_trans Zs11 Kq12.1)
  have O12 : Old Z n0 T12.heap := O11.keep Kq12 (allS ge_o9 all0)
  have K12 : Keep h0 T12.heap [a1, tn] := K11.trans Kq12 (allS (Or.inr geh_o9) all0)
  refine Go.step (fun t_ k_ => st12.trans k_) ?_
  show Go _ _ _ _ _ _ _ T12 (mkF m 123 #[.val (.ref a1), .val (.long p1), .second, .val (.ref ns), .val (.ref es), .val .null, .val (.int (1023 : Int32)), .val (.int i_0)] [(.ref o9)])
  refine Go.step (fun t_ k_ => XS.astore X12.here hx rfl (hb hby d6_123) rfl rfl (l' := #[.val (.ref a1), .val (.long p1), .second, .val (.ref ns), .val (.ref es), .val (.ref o9), .val (.int (1023 : Int32)), .val (.int i_0)]) rfl k_) ?_
  show Go _ _ _ _ _ _ _ T12 (mkF m 125 #[.val (.ref a1), .val (.long p1), .second, .val (.ref ns), .val (.ref es), .val (.ref o9), .val (.int (1023 : Int32)), .val (.int i_0)] [])
  refine Go.step (fun t_ k_ => XS.aloadN X12.here hx rfl (hb hby d6_125) rfl rfl k_) ?_
  show Go _ _ _ _ _ _ _ T12 (mkF m 126 #[.val (.ref a1), .val (.long p1), .second, .val (.ref ns), .val (.ref es), .val (.ref o9), .val (.int (1023 : Int32)), .val (.int i_0)] [(.ref a1)])
  obtain ⟨T13, X13, e13, st13⟩ := getF X12 hx hZ hown (host := "") (Or.inl (hw _ (List.mem_of_getElem? (i := 11) rfl))) Via.refl rfl f12_3 (g := (mkF m 126 #[.val (.ref a1), .val (.long p1), .second, .val (.ref ns), .val (.ref es), .val (.ref o9), .val (.int (1023 : Int32)), .val (.int i_0)] [(.ref a1)])) rfl rfl (hb hby d6_126)
  refine Go.step st13 ?_
  show Go _ _ _ _ _ _ _ T13 (mkF m 129 #[.val (.ref a1), .val (.long p1), .second, .val (.ref ns), .val (.ref es), .val (.ref o9), .val (.int (1023 : Int32)), .val (.int i_0)] [(.ref tn)])
  obtain ⟨xs, hs_xs, hz_xs, hq_xs⟩ := hsx
  subst hq_xs
  show Go _ _ _ _ _ _ _ T13 (mkF m 129 #[.val (.ref a1), .val (.long p1), .second, .val (.ref ns), .val (.ref es), .val (.ref o9), .val (.int (1023 : Int32)), .val (.int (Int32.ofNat xs))] [(.ref tn)])
  refine Go.step (fun t_ k_ => XS.iload X13.here hx rfl (hb hby d6_129) rfl k_) ?_
  show Go _ _ _ _ _ _ _ T13 (mkF m 131 #[.val (.ref a1), .val (.long p1), .second, .val (.ref ns), .val (.ref es), .val (.ref o9), .val (.int (1023 : Int32)), .val (.int (Int32.ofNat xs))] [(.int (Int32.ofNat xs)), (.ref tn)])
  refine Go.step (fun t_ k_ => XS.aload X13.here hx rfl (hb hby d6_131) rfl rfl k_) ?_
  show Go _ _ _ _ _ _ _ T13 (mkF m 133 #[.val (.ref a1), .val (.long p1), .second, .val (.ref ns), .val (.ref es), .val (.ref o9), .val (.int (1023 : Int32)), .val (.int (Int32.ofNat xs))] [(.ref o9), (.int (Int32.ofNat xs)), (.ref tn)])
  obtain ⟨c14, Ar14, q14, S14, M14, H14, U14⟩ := id f12_6
  obtain ⟨T14, h14, X14, e14, W14, st14⟩ := stR X13 hx hZ e13 Ar14 (j := (Int32.ofNat xs)) (inb_of S14 (own_inb hs_xs)) rfl (Sto.ofV Ar14 q14 H_4o (Ins.self f12_7)) (g := (mkF m 133 #[.val (.ref a1), .val (.long p1), .second, .val (.ref ns), .val (.ref es), .val (.ref o9), .val (.int (1023 : Int32)), .val (.int (Int32.ofNat xs))] [(.ref o9), (.int (Int32.ofNat xs)), (.ref tn)])) rfl rfl (hb hby d6_133)
  have N14 := Fr.snoc X14 N12 ge_tn
  refine Go.step st14 ?_
  have f14_2 : Exa Z h14 a1 "com/example/portunus/portunus/Supports" := (f12_2.wr W14)
  have f14_3 : Fld Z h14 a1 "com/example/portunus/portunus/Supports" "nodes" "[Lcom/example/portunus/portunus/Support;" (.ref tn) := (f12_3.other W14 (Or.inl (own_ne_arv f12_2 (hw _ (List.mem_of_getElem? (i := 1) rfl)) f12_6)))
  have f14_4 : Fld Z h14 a1 "com/example/portunus/portunus/Supports" "size" "I" (.int i_1) := (f12_4.other W14 (Or.inl (own_ne_arv f12_2 (hw _ (List.mem_of_getElem? (i := 1) rfl)) f12_6)))
  have f14_5 : Fld Z h14 a1 "com/example/portunus/portunus/Supports" "nextId" "I" (.int (nid + (1 : Int32))) := (f12_5.other W14 (Or.inl (own_ne_arv f12_2 (hw _ (List.mem_of_getElem? (i := 1) rfl)) f12_6)))
  have f14_6 : Exa Z h14 o9 "com/example/portunus/portunus/Support" := (f12_7.wr W14)
  have f14_7 : Fld Z h14 o9 "com/example/portunus/portunus/Support" "order" "J" (.long p1) := (f12_8.other W14 (Or.inl (Ne.symm ne_tn_o9)))
  have f14_8 : Fld Z h14 o9 "com/example/portunus/portunus/Support" "without" "Lcom/example/portunus/portunus/Support;" (.ref ns) := (f12_9.other W14 (Or.inl (Ne.symm ne_tn_o9)))
  have f14_9 : Fld Z h14 o9 "com/example/portunus/portunus/Support" "with" "Lcom/example/portunus/portunus/Support;" (.ref es) := (f12_10.other W14 (Or.inl (Ne.symm ne_tn_o9)))
  have Zs14 : n0 ≤ h14.size := (Nat.le_trans Zs12 (Keep.of_wr W14).1)
  have O14 : Old Z n0 h14 := O12.wr W14 ge_tn
  have K14 : Keep h0 h14 [a1, tn] := K12.wr W14 (Or.inl (List.mem_of_getElem? (i := 1) rfl))
  have fA14 : Arv Z h14 tn kn (.object "com/example/portunus/portunus/Support") (1024 : Int32) (vs.set xs (.ref o9)) .null := (Arv.set Ar14 q14 S14 M14 H14 U14 rfl W14 xs (own_tnc hs_xs) (by rw [hlv]; exact hs_xs))
  show Go _ _ _ _ _ _ _ T14 (mkF m 134 #[.val (.ref a1), .val (.long p1), .second, .val (.ref ns), .val (.ref es), .val (.ref o9), .val (.int (1023 : Int32)), .val (.int (Int32.ofNat xs))] [])
  refine Go.step (fun t_ k_ => XS.aloadN X14.here hx rfl (hb hby d6_134) rfl rfl k_) ?_
  show Go _ _ _ _ _ _ _ T14 (mkF m 135 #[.val (.ref a1), .val (.long p1), .second, .val (.ref ns), .val (.ref es), .val (.ref o9), .val (.int (1023 : Int32)), .val (.int (Int32.ofNat xs))] [(.ref a1)])
  refine Go.step (fun t_ k_ => XS.dup X14.here hx rfl (hb hby d6_135) rfl rfl k_) ?_
  show Go _ _ _ _ _ _ _ T14 (mkF m 136 #[.val (.ref a1), .val (.long p1), .second, .val (.ref ns), .val (.ref es), .val (.ref o9), .val (.int (1023 : Int32)), .val (.int (Int32.ofNat xs))] [(.ref a1), (.ref a1)])
  obtain ⟨T15, X15, e15, st15⟩ := getF X14 hx hZ hown (host := "") (Or.inl (hw _ (List.mem_of_getElem? (i := 43) rfl))) Via.refl e14 f14_4 (g := (mkF m 136 #[.val (.ref a1), .val (.long p1), .second, .val (.ref ns), .val (.ref es), .val (.ref o9), .val (.int (1023 : Int32)), .val (.int (Int32.ofNat xs))] [(.ref a1), (.ref a1)])) rfl rfl (hb hby d6_136)
  refine Go.step st15 ?_
  show Go _ _ _ _ _ _ _ T15 (mkF m 139 #[.val (.ref a1), .val (.long p1), .second, .val (.ref ns), .val (.ref es), .val (.ref o9), .val (.int (1023 : Int32)), .val (.int (Int32.ofNat xs))] [(.int i_1), (.ref a1)])
  refine Go.step (fun t_ k_ => XS.iconst X15.here hx rfl (hb hby d6_139) k_) ?_
  show Go _ _ _ _ _ _ _ T15 (mkF m 140 #[.val (.ref a1), .val (.long p1), .second, .val (.ref ns), .val (.ref es), .val (.ref o9), .val (.int (1023 : Int32)), .val (.int (Int32.ofNat xs))] [(.int (1 : Int32)), (.int i_1), (.ref a1)])
  refine Go.step (fun t_ k_ => XS.iadd X15.here hx rfl (hb hby d6_140) rfl k_) ?_
  show Go _ _ _ _ _ _ _ T15 (mkF m 141 #[.val (.ref a1), .val (.long p1), .second, .val (.ref ns), .val (.ref es), .val (.ref o9), .val (.int (1023 : Int32)), .val (.int (Int32.ofNat xs))] [(.int (i_1 + (1 : Int32))), (.ref a1)])
  obtain ⟨z_, hz_, hzq⟩ := hsz
  rw [hz_] at hzq
  rw [hzq, own_inc hnn]
  show Go _ _ _ _ _ _ _ T15 (mkF m 141 #[.val (.ref a1), .val (.long p1), .second, .val (.ref ns), .val (.ref es), .val (.ref o9), .val (.int (1023 : Int32)), .val (.int (Int32.ofNat xs))] [(.int (Int32.ofNat (nn + 1))), (.ref a1)])
  obtain ⟨T16, h16, X16, e16, W16, st16⟩ := putF X15 hx hZ hown (host := "") (Or.inl (hw _ (List.mem_of_getElem? (i := 43) rfl))) Via.refl e15 f14_4 f14_2 (Or.inl (hw _ (List.mem_of_getElem? (i := 44) rfl))) (hw _ (List.mem_of_getElem? (i := 1) rfl)) (ty := .int) (by decide) rfl rfl (g := (mkF m 141 #[.val (.ref a1), .val (.long p1), .second, .val (.ref ns), .val (.ref es), .val (.ref o9), .val (.int (1023 : Int32)), .val (.int (Int32.ofNat xs))] [(.int (Int32.ofNat (nn + 1))), (.ref a1)])) rfl rfl (hb hby d6_141)
  have N16 := Fr.snoc X16 N14 ge_a1
  refine Go.step st16 ?_
  have f16_2 : Exa Z h16 a1 "com/example/portunus/portunus/Supports" := (f14_2.wr W16)
  have f16_3 : Fld Z h16 a1 "com/example/portunus/portunus/Supports" "nodes" "[Lcom/example/portunus/portunus/Support;" (.ref tn) := (f14_3.other W16 (Or.inr (slot_ne (Or.inl (hw _ (List.mem_of_getElem? (i := 12) rfl))) (Or.inl (hw _ (List.mem_of_getElem? (i := 44) rfl))) (by decide) (t := (.array (.object "com/example/portunus/portunus/Support"))) (t' := .int) (by decide) (by decide))))
  have f16_4 : Fld Z h16 a1 "com/example/portunus/portunus/Supports" "size" "I" (.int (Int32.ofNat (nn + 1))) := (f14_4.same W16)
  have f16_5 : Fld Z h16 a1 "com/example/portunus/portunus/Supports" "nextId" "I" (.int (nid + (1 : Int32))) := (f14_5.other W16 (Or.inr (slot_ne (Or.inl (hw _ (List.mem_of_getElem? (i := 14) rfl))) (Or.inl (hw _ (List.mem_of_getElem? (i := 44) rfl))) (by decide) (t := .int) (t' := .int) (by decide) (by decide))))
  have f16_6 : Exa Z h16 o9 "com/example/portunus/portunus/Support" := (f14_6.wr W16)
  have f16_7 : Fld Z h16 o9 "com/example/portunus/portunus/Support" "order" "J" (.long p1) := (f14_7.other W16 (Or.inl (Ne.symm ne_a1_o9)))
  have f16_8 : Fld Z h16 o9 "com/example/portunus/portunus/Support" "without" "Lcom/example/portunus/portunus/Support;" (.ref ns) := (f14_8.other W16 (Or.inl (Ne.symm ne_a1_o9)))
  have f16_9 : Fld Z h16 o9 "com/example/portunus/portunus/Support" "with" "Lcom/example/portunus/portunus/Support;" (.ref es) := (f14_9.other W16 (Or.inl (Ne.symm ne_a1_o9)))
  have f16_10 : Arv Z h16 tn kn (.object "com/example/portunus/portunus/Support") (1024 : Int32) (vs.set xs (.ref o9)) .null := (fA14.other W16 (Ne.symm (own_ne_arv f14_2 (hw _ (List.mem_of_getElem? (i := 1) rfl)) fA14)))
  have Zs16 : n0 ≤ h16.size := (Nat.le_trans Zs14 (Keep.of_wr W16).1)
  have O16 : Old Z n0 h16 := O14.wr W16 ge_a1
  have K16 : Keep h0 h16 [a1, tn] := K14.wr W16 (Or.inl (List.mem_of_getElem? (i := 0) rfl))
  show Go _ _ _ _ _ _ _ T16 (mkF m 144 #[.val (.ref a1), .val (.long p1), .second, .val (.ref ns), .val (.ref es), .val (.ref o9), .val (.int (1023 : Int32)), .val (.int (Int32.ofNat xs))] [])
  refine Go.step (fun t_ k_ => XS.aloadN X16.here hx rfl (hb hby d6_144) rfl rfl k_) ?_
  show Go _ _ _ _ _ _ _ T16 (mkF m 145 #[.val (.ref a1), .val (.long p1), .second, .val (.ref ns), .val (.ref es), .val (.ref o9), .val (.int (1023 : Int32)), .val (.int (Int32.ofNat xs))] [(.ref a1)])
  obtain ⟨T17, X17, e17, st17⟩ := getF X16 hx hZ hown (host := "") (Or.inl (hw _ (List.mem_of_getElem? (i := 43) rfl))) Via.refl e16 f16_4 (g := (mkF m 145 #[.val (.ref a1), .val (.long p1), .second, .val (.ref ns), .val (.ref es), .val (.ref o9), .val (.int (1023 : Int32)), .val (.int (Int32.ofNat xs))] [(.ref a1)])) rfl rfl (hb hby d6_145)
  refine Go.step st17 ?_
  show Go _ _ _ _ _ _ _ T17 (mkF m 148 #[.val (.ref a1), .val (.long p1), .second, .val (.ref ns), .val (.ref es), .val (.ref o9), .val (.int (1023 : Int32)), .val (.int (Int32.ofNat xs))] [(.int (Int32.ofNat (nn + 1)))])
  refine Go.step (fun t_ k_ => XS.iconst X17.here hx rfl (hb hby d6_148) k_) ?_
  show Go _ _ _ _ _ _ _ T17 (mkF m 149 #[.val (.ref a1), .val (.long p1), .second, .val (.ref ns), .val (.ref es), .val (.ref o9), .val (.int (1023 : Int32)), .val (.int (Int32.ofNat xs))] [(.int (2 : Int32)), (.int (Int32.ofNat (nn + 1)))])
  refine Go.step (fun t_ k_ => XS.imul X17.here hx rfl (hb hby d6_149) rfl k_) ?_
  show Go _ _ _ _ _ _ _ T17 (mkF m 150 #[.val (.ref a1), .val (.long p1), .second, .val (.ref ns), .val (.ref es), .val (.ref o9), .val (.int (1023 : Int32)), .val (.int (Int32.ofNat xs))] [(.int ((Int32.ofNat (nn + 1)) * (2 : Int32)))])
  refine Go.step (fun t_ k_ => XS.aloadN X17.here hx rfl (hb hby d6_150) rfl rfl k_) ?_
  show Go _ _ _ _ _ _ _ T17 (mkF m 151 #[.val (.ref a1), .val (.long p1), .second, .val (.ref ns), .val (.ref es), .val (.ref o9), .val (.int (1023 : Int32)), .val (.int (Int32.ofNat xs))] [(.ref a1), (.int ((Int32.ofNat (nn + 1)) * (2 : Int32)))])
  obtain ⟨T18, X18, e18, st18⟩ := getF X17 hx hZ hown (host := "") (Or.inl (hw _ (List.mem_of_getElem? (i := 11) rfl))) Via.refl e17 f16_3 (g := (mkF m 151 #[.val (.ref a1), .val (.long p1), .second, .val (.ref ns), .val (.ref es), .val (.ref o9), .val (.int (1023 : Int32)), .val (.int (Int32.ofNat xs))] [(.ref a1), (.int ((Int32.ofNat (nn + 1)) * (2 : Int32)))])) rfl rfl (hb hby d6_151)
  refine Go.step st18 ?_
  show Go _ _ _ _ _ _ _ T18 (mkF m 154 #[.val (.ref a1), .val (.long p1), .second, .val (.ref ns), .val (.ref es), .val (.ref o9), .val (.int (1023 : Int32)), .val (.int (Int32.ofNat xs))] [(.ref tn), (.int ((Int32.ofNat (nn + 1)) * (2 : Int32)))])
  obtain ⟨c19, Ar19, q19, S19, M19, H19, U19⟩ := id f16_10
  refine Go.step (fun t_ k_ => X18.arraylength hx (by rw [e18]; exact Ar19.1) (State.isArrayOf_alike hZ.alike Ar19.2.1) (g := (mkF m 154 #[.val (.ref a1), .val (.long p1), .second, .val (.ref ns), .val (.ref es), .val (.ref o9), .val (.int (1023 : Int32)), .val (.int (Int32.ofNat xs))] [(.ref tn), (.int ((Int32.ofNat (nn + 1)) * (2 : Int32)))])) rfl rfl (hb hby d6_154) _ k_) ?_
  rw [len_of S19 M19]
  show Go _ _ _ _ _ _ _ T18 (mkF m 155 #[.val (.ref a1), .val (.long p1), .second, .val (.ref ns), .val (.ref es), .val (.ref o9), .val (.int (1023 : Int32)), .val (.int (Int32.ofNat xs))] [(.int (1024 : Int32)), (.int ((Int32.ofNat (nn + 1)) * (2 : Int32)))])
  have hb155_20 : ¬ ((1024 : Int32) < ((Int32.ofNat (nn + 1)) * (2 : Int32))) := by exact own_half hnn
  refine Go.step (fun t_ k_ => XS.icmpYes X18.here hx rfl (pc0 := 155) (pc' := 162) rfl (hb hby d6_155) rfl (XT.ii_le_t hb155_20) (by decide) (by decide) k_) ?_
  show Go _ _ _ _ _ _ _ T18 (mkF m 162 #[.val (.ref a1), .val (.long p1), .second, .val (.ref ns), .val (.ref es), .val (.ref o9), .val (.int (1023 : Int32)), .val (.int (Int32.ofNat xs))] [])
  refine Go.step (fun t_ k_ => XS.aload X18.here hx rfl (hb hby d6_162) rfl rfl k_) ?_
  show Go _ _ _ _ _ _ _ T18 (mkF m 164 #[.val (.ref a1), .val (.long p1), .second, .val (.ref ns), .val (.ref es), .val (.ref o9), .val (.int (1023 : Int32)), .val (.int (Int32.ofNat xs))] [(.ref o9)])
  refine Go.ret X18 hx hlk hret rfl (Or.inr (Or.inr (Or.inr (Or.inr ⟨rfl, rfl, rfl⟩)))) (hb hby d6_164) ?_ (by decide) (by decide)
  show QN Z _ _ _ _ _ _ _ _ _ _ _ _ T18.heap _
  rw [e18]
  exact ⟨nn + 1, _, _, o9, rfl, N16, K16, Nat.le_refl _, f16_2, f16_3, f16_4, f16_5, f16_10, (by rw [List.length_set]; exact hlv), own_ent_new hent K16 PE1 PA (hw _ (List.mem_of_getElem? (i := 85) rfl)) (by rw [hlv]; exact hs_xs) f16_6 f16_7 f16_8 f16_9, own_few_set hfew⟩
theorem d6_46 : decode prog_15_method_23_code 46 = .ok (.aload 5, 2) := by decide +kernel
theorem pd_6 : parseMethodDescriptor "()J" = some ⟨[], some .long⟩ := by decide +kernel
theorem d6_48 : decode prog_15_method_23_code 48 = .ok (.invokevirtual 69, 3) := by decide +kernel
theorem d6_51 : decode prog_15_method_23_code 51 = .ok (.lload_n 1, 1) := by decide +kernel
theorem d6_52 : decode prog_15_method_23_code 52 = .ok (.lcmp, 1) := by decide +kernel
theorem d6_53 : decode prog_15_method_23_code 53 = .ok (.ifCond .ne 22, 3) := by decide +kernel
theorem d6_56 : decode prog_15_method_23_code 56 = .ok (.aload 5, 2) := by decide +kernel
theorem pd_7 : parseMethodDescriptor "()Lcom/example/portunus/portunus/Support;" = some ⟨[], some (.object "com/example/portunus/portunus/Support")⟩ := by decide +kernel
theorem d6_58 : decode prog_15_method_23_code 58 = .ok (.invokevirtual 87, 3) := by decide +kernel
theorem d6_61 : decode prog_15_method_23_code 61 = .ok (.aload_n 3, 1) := by decide +kernel
theorem d6_62 : decode prog_15_method_23_code 62 = .ok (.if_acmp .ne 13, 3) := by decide +kernel
theorem d6_65 : decode prog_15_method_23_code 65 = .ok (.aload 5, 2) := by decide +kernel
theorem d6_67 : decode prog_15_method_23_code 67 = .ok (.invokevirtual 79, 3) := by decide +kernel
theorem d6_70 : decode prog_15_method_23_code 70 = .ok (.aload 4, 2) := by decide +kernel
theorem d6_72 : decode prog_15_method_23_code 72 = .ok (.if_acmp .eq 24, 3) := by decide +kernel
theorem d6_75 : decode prog_15_method_23_code 75 = .ok (.iload 7, 2) := by decide +kernel
theorem d6_77 : decode prog_15_method_23_code 77 = .ok (.iconst 1, 1) := by decide +kernel
theorem d6_78 : decode prog_15_method_23_code 78 = .ok (.iadd, 1) := by decide +kernel
theorem d6_79 : decode prog_15_method_23_code 79 = .ok (.iload 6, 2) := by decide +kernel
theorem d6_81 : decode prog_15_method_23_code 81 = .ok (.iand, 1) := by decide +kernel
theorem d6_82 : decode prog_15_method_23_code 82 = .ok (.istore 7, 2) := by decide +kernel
theorem d6_84 : decode prog_15_method_23_code 84 = .ok (.aload_n 0, 1) := by decide +kernel
theorem d6_85 : decode prog_15_method_23_code 85 = .ok (.getfield 11, 3) := by decide +kernel
theorem d6_88 : decode prog_15_method_23_code 88 = .ok (.iload 7, 2) := by decide +kernel
theorem d6_90 : decode prog_15_method_23_code 90 = .ok (.aaload, 1) := by decide +kernel
theorem d6_91 : decode prog_15_method_23_code 91 = .ok (.astore 5, 2) := by decide +kernel
theorem d6_93 : decode prog_15_method_23_code 93 = .ok (.goto (-52), 3) := by decide +kernel
set_option maxRecDepth 65536 in
set_option maxHeartbeats 40000000 in
theorem rmN (l : Launch) (Z : State) (a0 : Array Value) (hw : ∀ d ∈ tables_1, d.before a0 Z = true) (ws : List Jvm.Cond) (a1 : Addr) (p1 : Int64) (ns : Addr) (es : Addr) (tn : Addr) (kn : ClassId) (nn : Nat) (nid : Int32) (vs : List Value) (h0 : Heap) (n0 : Nat) (Z0 : n0 ≤ h0.size) (O0 : Old Z n0 h0) (S_NO : Sta Z Z.heap "com/example/portunus/portunus/Support" "NO_SET" "Lcom/example/portunus/portunus/Support;" (.ref ns)) (S_ES : Sta Z Z.heap "com/example/portunus/portunus/Support" "EMPTY_SET" "Lcom/example/portunus/portunus/Support;" (.ref es)) (E_NO : Exa Z Z.heap ns "com/example/portunus/portunus/Support") (E_ES : Exa Z Z.heap es "com/example/portunus/portunus/Support") (F_NO : Fld Z Z.heap ns "com/example/portunus/portunus/Support" "idAndOneSet" "I" (.int (0 : Int32))) (F_ES : Fld Z Z.heap es "com/example/portunus/portunus/Support" "idAndOneSet" "I" (.int (-2147483647 : Int32))) (nEN : es ≠ ns) (g1 : n0 ≤ a1) (gt1 : n0 ≤ tn) (hnn : nn ≤ 2) (OV : Ovr Z kn "com/example/portunus/portunus/Support") (PE1 : Exa Z h0 a1 "com/example/portunus/portunus/Supports") (P_nodes : Fld Z h0 a1 "com/example/portunus/portunus/Supports" "nodes" "[Lcom/example/portunus/portunus/Support;" (.ref tn)) (P_size : Fld Z h0 a1 "com/example/portunus/portunus/Supports" "size" "I" (.int (Int32.ofNat nn))) (P_nid : Fld Z h0 a1 "com/example/portunus/portunus/Supports" "nextId" "I" (.int nid)) (PA : Arv Z h0 tn kn (.object "com/example/portunus/portunus/Support") (1024 : Int32) vs .null) (hlv : vs.length = 1024) (hent : own_ent Z h0 ns es vs) (hfew : own_few vs nn) :
    MetFree l (⟨"com/example/portunus/portunus/Supports", "node", "(JLcom/example/portunus/portunus/Support;Lcom/example/portunus/portunus/Support;)Lcom/example/portunus/portunus/Support;"⟩ : MethodName) (head1 (Jvm.Cond.code (⟨"com/example/portunus/portunus/Supports", "node", "(JLcom/example/portunus/portunus/Support;Lcom/example/portunus/portunus/Support;)Lcom/example/portunus/portunus/Support;"⟩ : MethodName) prog_15_method_23_code 8 (some (.object "com/example/portunus/portunus/Support")) :: ws) ({ frames := 2, cells := 1, slots := 4, locals := 50 } : Room)) (fun a U => a = #[(.ref a1), (.long p1), (.ref ns), (.ref es)] ∧ Z.Warmed39 U.vm ∧ U.heap = h0) (fun _ _ _ _ _ => True) (fun _ U o U' => ∃ v L, o = .returned v ∧ QN Z a1 p1 ns es tn kn nn nid vs h0 n0 v U'.heap L ∧ FrameEnd U o U' L ({ frames := 2, cells := 1, slots := 4, locals := 50 } : Room).cells ({ frames := 2, cells := 1, slots := 4, locals := 50 } : Room).slots) := by
  refine MetFree.of_bodySF (plainFor_of_name pn_3) hisR ?_
  intro p e s m args below meth c s₁ Bd hml0 hP hK
  obtain ⟨rfl, hZ, hh⟩ := hP
  have hx := Bd.exec
  have hby := Bd.bytes
  have hlk := BodyLoose.notSynchronized Bd
  have hml : c.maxLocals = 8 := hml0
  have hret := Bd.returns
  have hown : s.vm.findClass "com/example/portunus/portunus/Supports" = some m.cls := findClass_of_methodNamed Bd.named
  have hnm := (name_of_methodNamed Bd.named Bd.method).1
  have X0 : Stand p l e ({ frames := 2, cells := 1, slots := 4, locals := 50 } : Room) s m #[(.ref a1), (.long p1), (.ref ns), (.ref es)] below meth c s₁ [] 0 0 := Stand.of_body Bd
  have e0 : s₁.heap = h0 := by rw [← hh, Bd.state]; rfl
  have N0 := Fr.nil n0
  show Go p e below s ({ frames := 2, cells := 1, slots := 4, locals := 50 } : Room).cells ({ frames := 2, cells := 1, slots := 4, locals := 50 } : Room).slots (QN Z a1 p1 ns es tn kn nn nid vs h0 n0) s₁ (entryFrame m #[(.ref a1), (.long p1), (.ref ns), (.ref es)] 8)
  refine Go.cast (ef_rmN m a1 p1 ns es) ?_
  have K0 : Keep h0 h0 [a1, tn] := Keep.refl _ _
  show Go _ _ _ _ _ _ _ s₁ (mkF m 0 #[.val (.ref a1), .val (.long p1), .second, .val (.ref ns), .val (.ref es), .unset, .unset, .unset] [])
  refine Go.step (fun t_ k_ => XS.aloadN X0.here hx rfl (hb hby d6_0) rfl rfl k_) ?_
  show Go _ _ _ _ _ _ _ s₁ (mkF m 1 #[.val (.ref a1), .val (.long p1), .second, .val (.ref ns), .val (.ref es), .unset, .unset, .unset] [(.ref ns)])
  refine Go.step (fun t_ k_ => XS.astore X0.here hx rfl (hb hby d6_1) rfl rfl (l' := #[.val (.ref a1), .val (.long p1), .second, .val (.ref ns), .val (.ref es), .val (.ref ns), .unset, .unset]) rfl k_) ?_
  show Go _ _ _ _ _ _ _ s₁ (mkF m 3 #[.val (.ref a1), .val (.long p1), .second, .val (.ref ns), .val (.ref es), .val (.ref ns), .unset, .unset] [])
  refine Go.step (fun t_ k_ => XS.aload X0.here hx rfl (hb hby d6_3) rfl rfl k_) ?_
  show Go _ _ _ _ _ _ _ s₁ (mkF m 5 #[.val (.ref a1), .val (.long p1), .second, .val (.ref ns), .val (.ref es), .val (.ref ns), .unset, .unset] [(.ref es)])
  obtain ⟨T1, X1, e1, st1⟩ := getS2 X0 hx hZ hown (host := "") (Or.inl (hw _ (List.mem_of_getElem? (i := 56) rfl))) Via.refl e0 (S_NO.ext O0.2) (g := (mkF m 5 #[.val (.ref a1), .val (.long p1), .second, .val (.ref ns), .val (.ref es), .val (.ref ns), .unset, .unset] [(.ref es)])) rfl (hb hby d6_5)
  refine Go.step st1 ?_
  show Go _ _ _ _ _ _ _ T1 (mkF m 8 #[.val (.ref a1), .val (.long p1), .second, .val (.ref ns), .val (.ref es), .val (.ref ns), .unset, .unset] [(.ref ns), (.ref es)])
  have hb8_2 : ¬ (((.ref es) : Value) = (.ref ns)) := by intro q; cases q; exact nEN rfl
  refine Go.step (fun t_ k_ => XT.acmpNo X1.here hx rfl (hb hby d6_8) rfl rfl rfl (XT.aa_eq_f hb8_2) k_) ?_
  show Go _ _ _ _ _ _ _ T1 (mkF m 11 #[.val (.ref a1), .val (.long p1), .second, .val (.ref ns), .val (.ref es), .val (.ref ns), .unset, .unset] [])
  refine Go.step (fun t_ k_ => XS.aloadN X1.here hx rfl (hb hby d6_11) rfl rfl k_) ?_
  show Go _ _ _ _ _ _ _ T1 (mkF m 12 #[.val (.ref a1), .val (.long p1), .second, .val (.ref ns), .val (.ref es), .val (.ref ns), .unset, .unset] [(.ref a1)])
  obtain ⟨T3, X3, e3, st3⟩ := getF X1 hx hZ hown (host := "") (Or.inl (hw _ (List.mem_of_getElem? (i := 11) rfl))) Via.refl e1 P_nodes (g := (mkF m 12 #[.val (.ref a1), .val (.long p1), .second, .val (.ref ns), .val (.ref es), .val (.ref ns), .unset, .unset] [(.ref a1)])) rfl rfl (hb hby d6_12)
  refine Go.step st3 ?_
  show Go _ _ _ _ _ _ _ T3 (mkF m 15 #[.val (.ref a1), .val (.long p1), .second, .val (.ref ns), .val (.ref es), .val (.ref ns), .unset, .unset] [(.ref tn)])
  obtain ⟨c4, Ar4, q4, S4, M4, H4, U4⟩ := id PA
  refine Go.step (fun t_ k_ => X3.arraylength hx (by rw [e3]; exact Ar4.1) (State.isArrayOf_alike hZ.alike Ar4.2.1) (g := (mkF m 15 #[.val (.ref a1), .val (.long p1), .second, .val (.ref ns), .val (.ref es), .val (.ref ns), .unset, .unset] [(.ref tn)])) rfl rfl (hb hby d6_15) _ k_) ?_
  rw [len_of S4 M4]
  show Go _ _ _ _ _ _ _ T3 (mkF m 16 #[.val (.ref a1), .val (.long p1), .second, .val (.ref ns), .val (.ref es), .val (.ref ns), .unset, .unset] [(.int (1024 : Int32))])
  refine Go.step (fun t_ k_ => XS.iconst X3.here hx rfl (hb hby d6_16) k_) ?_
  show Go _ _ _ _ _ _ _ T3 (mkF m 17 #[.val (.ref a1), .val (.long p1), .second, .val (.ref ns), .val (.ref es), .val (.ref ns), .unset, .unset] [(.int (1 : Int32)), (.int (1024 : Int32))])
  refine Go.step (fun t_ k_ => XS.isub X3.here hx rfl (hb hby d6_17) rfl k_) ?_
  show Go _ _ _ _ _ _ _ T3 (mkF m 18 #[.val (.ref a1), .val (.long p1), .second, .val (.ref ns), .val (.ref es), .val (.ref ns), .unset, .unset] [(.int (1023 : Int32))])
  refine Go.step (fun t_ k_ => XS.istore X3.here hx rfl (hb hby d6_18) rfl (l' := #[.val (.ref a1), .val (.long p1), .second, .val (.ref ns), .val (.ref es), .val (.ref ns), .val (.int (1023 : Int32)), .unset]) rfl k_) ?_
  show Go _ _ _ _ _ _ _ T3 (mkF m 20 #[.val (.ref a1), .val (.long p1), .second, .val (.ref ns), .val (.ref es), .val (.ref ns), .val (.int (1023 : Int32)), .unset] [])
  refine Go.step (fun t_ k_ => XT.lloadN X3.here hx rfl (hb hby d6_20) rfl k_) ?_
  show Go _ _ _ _ _ _ _ T3 (mkF m 21 #[.val (.ref a1), .val (.long p1), .second, .val (.ref ns), .val (.ref es), .val (.ref ns), .val (.int (1023 : Int32)), .unset] [(.long p1)])
  refine Go.step (fun t_ k_ => XS.aloadN X3.here hx rfl (hb hby d6_21) rfl rfl k_) ?_
  show Go _ _ _ _ _ _ _ T3 (mkF m 22 #[.val (.ref a1), .val (.long p1), .second, .val (.ref ns), .val (.ref es), .val (.ref ns), .val (.int (1023 : Int32)), .unset] [(.ref ns), (.long p1)])
  refine Go.step (fun t_ k_ => XS.aload X3.here hx rfl (hb hby d6_22) rfl rfl k_) ?_
  show Go _ _ _ _ _ _ _ T3 (mkF m 24 #[.val (.ref a1), .val (.long p1), .second, .val (.ref ns), .val (.ref es), .val (.ref ns), .val (.int (1023 : Int32)), .unset] [(.ref es), (.ref ns), (.long p1)])
  obtain ⟨_, _, ⟨T5, L5, k5, n5⟩, -, X5, ⟨Lc5, hQ5, l5, y5, z5⟩, st5⟩ := Jvm.LawKit.callS X3 hx (y := (⟨"com/example/portunus/portunus/Supports", "hash", "(JLcom/example/portunus/portunus/Support;Lcom/example/portunus/portunus/Support;)I"⟩ : MethodName)) hown (mvT hZ (hw _ (List.mem_of_getElem? (i := 65) rfl))) (mvT hZ (hw _ (List.mem_of_getElem? (i := 66) rfl))) (mvT hZ (hw _ (List.mem_of_getElem? (i := 2) rfl))) (mvT hZ (hw _ (List.mem_of_getElem? (i := 67) rfl))) (by decide) (backOf (W := 0) (rmH l Z a0 hw [] p1 ns es h0 n0 Z0 O0 S_NO S_ES E_NO E_ES F_NO F_ES nEN) hZ (hw _ (List.mem_of_getElem? (i := 67) rfl)) (hw _ (List.mem_of_getElem? (i := 2) rfl)) (by decide) (by decide)) (g := (mkF m 24 #[.val (.ref a1), .val (.long p1), .second, .val (.ref ns), .val (.ref es), .val (.ref ns), .val (.int (1023 : Int32)), .unset] [(.ref es), (.ref ns), (.long p1)])) rfl (by rw [hml]; rfl) (argsL := [(.long p1), (.ref ns), (.ref es)]) (rest := []) (lenOf pd_4 rfl) rfl (by show 2 * 0 + _ ≤ _; exact Nat.le_of_eq rfl) (hb hby d6_24) (fun _ _ => ⟨rfl, e3, (by decide : 0 + 0 ≤ _), (by decide : 0 + 0 ≤ _)⟩)
  dsimp only [Pt.U, Pt.locs, Pt.cells, Pt.slots] at X5 l5 y5 z5 st5 hQ5
  subst l5 y5 z5
  obtain ⟨ra5, rfl, N5q, e5⟩ := hQ5
  have N5 := Fr.app N0 N5q
  refine Go.step st5 ?_
  show Go _ _ _ _ _ _ _ T5 (mkF m 27 #[.val (.ref a1), .val (.long p1), .second, .val (.ref ns), .val (.ref es), .val (.ref ns), .val (.int (1023 : Int32)), .unset] [(.int ra5)])
  refine Go.step (fun t_ k_ => XS.iload X5.here hx rfl (hb hby d6_27) rfl k_) ?_
  show Go _ _ _ _ _ _ _ T5 (mkF m 29 #[.val (.ref a1), .val (.long p1), .second, .val (.ref ns), .val (.ref es), .val (.ref ns), .val (.int (1023 : Int32)), .unset] [(.int (1023 : Int32)), (.int ra5)])
  refine Go.step (fun t_ k_ => XS.iand X5.here hx rfl (hb hby d6_29) rfl k_) ?_
  show Go _ _ _ _ _ _ _ T5 (mkF m 30 #[.val (.ref a1), .val (.long p1), .second, .val (.ref ns), .val (.ref es), .val (.ref ns), .val (.int (1023 : Int32)), .unset] [(.int (ra5 &&& (1023 : Int32)))])
  obtain ⟨sl0, hs_sl0, hq_sl0⟩ := own_mask ra5
  rw [hq_sl0]
  show Go _ _ _ _ _ _ _ T5 (mkF m 30 #[.val (.ref a1), .val (.long p1), .second, .val (.ref ns), .val (.ref es), .val (.ref ns), .val (.int (1023 : Int32)), .unset] [(.int (Int32.ofNat sl0))])
  refine Go.step (fun t_ k_ => XS.istore X5.here hx rfl (hb hby d6_30) rfl (l' := #[.val (.ref a1), .val (.long p1), .second, .val (.ref ns), .val (.ref es), .val (.ref ns), .val (.int (1023 : Int32)), .val (.int (Int32.ofNat sl0))]) rfl k_) ?_
  show Go _ _ _ _ _ _ _ T5 (mkF m 32 #[.val (.ref a1), .val (.long p1), .second, .val (.ref ns), .val (.ref es), .val (.ref ns), .val (.int (1023 : Int32)), .val (.int (Int32.ofNat sl0))] [])
  refine Go.step (fun t_ k_ => XS.aloadN X5.here hx rfl (hb hby d6_32) rfl rfl k_) ?_
  show Go _ _ _ _ _ _ _ T5 (mkF m 33 #[.val (.ref a1), .val (.long p1), .second, .val (.ref ns), .val (.ref es), .val (.ref ns), .val (.int (1023 : Int32)), .val (.int (Int32.ofNat sl0))] [(.ref a1)])
  obtain ⟨T6, X6, e6, st6⟩ := getF X5 hx hZ hown (host := "") (Or.inl (hw _ (List.mem_of_getElem? (i := 11) rfl))) Via.refl (e5) P_nodes (g := (mkF m 33 #[.val (.ref a1), .val (.long p1), .second, .val (.ref ns), .val (.ref es), .val (.ref ns), .val (.int (1023 : Int32)), .val (.int (Int32.ofNat sl0))] [(.ref a1)])) rfl rfl (hb hby d6_33)
  refine Go.step st6 ?_
  show Go _ _ _ _ _ _ _ T6 (mkF m 36 #[.val (.ref a1), .val (.long p1), .second, .val (.ref ns), .val (.ref es), .val (.ref ns), .val (.int (1023 : Int32)), .val (.int (Int32.ofNat sl0))] [(.ref tn)])
  refine Go.step (fun t_ k_ => XS.iload X6.here hx rfl (hb hby d6_36) rfl k_) ?_
  show Go _ _ _ _ _ _ _ T6 (mkF m 38 #[.val (.ref a1), .val (.long p1), .second, .val (.ref ns), .val (.ref es), .val (.ref ns), .val (.int (1023 : Int32)), .val (.int (Int32.ofNat sl0))] [(.int (Int32.ofNat sl0)), (.ref tn)])
  rcases hent sl0 with hz7 | ⟨eb7, eo7, hz7, ebE7, ebO7, ebW7, ebI7⟩
  · skip
    obtain ⟨c8, Ar8, q8, S8, M8, H8, U8⟩ := id PA
    have hin8 := inb_of (j := (Int32.ofNat sl0)) S8 (own_inb hs_sl0)
    refine Go.step (fun t_ k_ => X6.aaload hx (j := (Int32.ofNat sl0)) (v := .null) (by rw [e6]; exact Ar8.1) (State.isArrayOf_alike hZ.alike Ar8.2.1) rfl Ar8.2.2 hin8 (H8.at hin8 (by rw [own_tnc hs_sl0]; exact hz7)) (g := (mkF m 38 #[.val (.ref a1), .val (.long p1), .second, .val (.ref ns), .val (.ref es), .val (.ref ns), .val (.int (1023 : Int32)), .val (.int (Int32.ofNat sl0))] [(.int (Int32.ofNat sl0)), (.ref tn)])) rfl rfl (hb hby d6_38) _ k_) ?_
    show Go _ _ _ _ _ _ _ T6 (mkF m 39 #[.val (.ref a1), .val (.long p1), .second, .val (.ref ns), .val (.ref es), .val (.ref ns), .val (.int (1023 : Int32)), .val (.int (Int32.ofNat sl0))] [.null])
    refine Go.step (fun t_ k_ => XS.astore X6.here hx rfl (hb hby d6_39) rfl rfl (l' := #[.val (.ref a1), .val (.long p1), .second, .val (.ref ns), .val (.ref es), .val .null, .val (.int (1023 : Int32)), .val (.int (Int32.ofNat sl0))]) rfl k_) ?_
    show Go _ _ _ _ _ _ _ T6 (mkF m 41 #[.val (.ref a1), .val (.long p1), .second, .val (.ref ns), .val (.ref es), .val .null, .val (.int (1023 : Int32)), .val (.int (Int32.ofNat sl0))] [])
    refine Go.step (fun t_ k_ => XS.aload X6.here hx rfl (hb hby d6_41) rfl rfl k_) ?_
    show Go _ _ _ _ _ _ _ T6 (mkF m 43 #[.val (.ref a1), .val (.long p1), .second, .val (.ref ns), .val (.ref es), .val .null, .val (.int (1023 : Int32)), .val (.int (Int32.ofNat sl0))] [.null])
    refine Go.step (fun t_ k_ => XS.ifnullYes X6.here hx rfl (pc0 := 43) (pc' := 96) rfl (hb hby d6_43) rfl (by decide) (by decide) k_) ?_
    show Go _ _ _ _ _ _ _ T6 (mkF m 96 #[.val (.ref a1), .val (.long p1), .second, .val (.ref ns), .val (.ref es), .val .null, .val (.int (1023 : Int32)), .val (.int (Int32.ofNat sl0))] [])
    refine Go.step (fun t_ k_ => XS.aload X6.here hx rfl (hb hby d6_96) rfl rfl k_) ?_
    show Go _ _ _ _ _ _ _ T6 (mkF m 98 #[.val (.ref a1), .val (.long p1), .second, .val (.ref ns), .val (.ref es), .val .null, .val (.int (1023 : Int32)), .val (.int (Int32.ofNat sl0))] [.null])
    refine Go.step (fun t_ k_ => XT.ifnonnullNo X6.here hx rfl (hb hby d6_98) rfl k_) ?_
    show Go _ _ _ _ _ _ _ T6 (mkF m 101 #[.val (.ref a1), .val (.long p1), .second, .val (.ref ns), .val (.ref es), .val .null, .val (.int (1023 : Int32)), .val (.int (Int32.ofNat sl0))] [])
    have hsx : ∃ x : Nat, x < 1024 ∧ vs.getD x .null = .null ∧ (Int32.ofNat sl0) = Int32.ofNat x := ⟨sl0, hs_sl0, hz7, rfl⟩
    have hsz : ∃ z : Nat, z = nn ∧ (Int32.ofNat nn) = Int32.ofNat z := ⟨nn, rfl, rfl⟩
    exact sgN_0 l Z a0 hw a1 p1 ns es tn kn nn nid vs h0 n0 Z0 O0 S_NO S_ES E_NO E_ES F_NO F_ES nEN g1 gt1 hnn OV PE1 P_nodes P_size P_nid PA hlv hent hfew ((Int32.ofNat sl0)) ((Int32.ofNat nn)) (X6.mono (by decide) (by decide)) hx hby hlk hml hret hnm e6 N5 Z0 O0 K0 hZ hown PE1 P_nodes P_size P_nid PA OV g1 gt1 hsx hsz
  · skip
    obtain ⟨c21, Ar21, q21, S21, M21, H21, U21⟩ := id PA
    have hin21 := inb_of (j := (Int32.ofNat sl0)) S21 (own_inb hs_sl0)
    refine Go.step (fun t_ k_ => X6.aaload hx (j := (Int32.ofNat sl0)) (v := (.ref eb7)) (by rw [e6]; exact Ar21.1) (State.isArrayOf_alike hZ.alike Ar21.2.1) rfl Ar21.2.2 hin21 (H21.at hin21 (by rw [own_tnc hs_sl0]; exact hz7)) (g := (mkF m 38 #[.val (.ref a1), .val (.long p1), .second, .val (.ref ns), .val (.ref es), .val (.ref ns), .val (.int (1023 : Int32)), .val (.int (Int32.ofNat sl0))] [(.int (Int32.ofNat sl0)), (.ref tn)])) rfl rfl (hb hby d6_38) _ k_) ?_
    show Go _ _ _ _ _ _ _ T6 (mkF m 39 #[.val (.ref a1), .val (.long p1), .second, .val (.ref ns), .val (.ref es), .val (.ref ns), .val (.int (1023 : Int32)), .val (.int (Int32.ofNat sl0))] [(.ref eb7)])
    refine Go.step (fun t_ k_ => XS.astore X6.here hx rfl (hb hby d6_39) rfl rfl (l' := #[.val (.ref a1), .val (.long p1), .second, .val (.ref ns), .val (.ref es), .val (.ref eb7), .val (.int (1023 : Int32)), .val (.int (Int32.ofNat sl0))]) rfl k_) ?_
    show Go _ _ _ _ _ _ _ T6 (mkF m 41 #[.val (.ref a1), .val (.long p1), .second, .val (.ref ns), .val (.ref es), .val (.ref eb7), .val (.int (1023 : Int32)), .val (.int (Int32.ofNat sl0))] [])
    refine Go.step (fun t_ k_ => XS.aload X6.here hx rfl (hb hby d6_41) rfl rfl k_) ?_
    show Go _ _ _ _ _ _ _ T6 (mkF m 43 #[.val (.ref a1), .val (.long p1), .second, .val (.ref ns), .val (.ref es), .val (.ref eb7), .val (.int (1023 : Int32)), .val (.int (Int32.ofNat sl0))] [(.ref eb7)])
    refine Go.step (fun t_ k_ => XS.ifnullNo X6.here hx rfl (hb hby d6_43) rfl k_) ?_
    show Go _ _ _ _ _ _ _ T6 (mkF m 46 #[.val (.ref a1), .val (.long p1), .second, .val (.ref ns), .val (.ref es), .val (.ref eb7), .val (.int (1023 : Int32)), .val (.int (Int32.ofNat sl0))] [])
    refine Go.step (fun t_ k_ => XS.aload X6.here hx rfl (hb hby d6_46) rfl rfl k_) ?_
    show Go _ _ _ _ _ _ _ T6 (mkF m 48 #[.val (.ref a1), .val (.long p1), .second, .val (.ref ns), .val (.ref es), .val (.ref eb7), .val (.int (1023 : Int32)), .val (.int (Int32.ofNat sl0))] [(.ref eb7)])
    obtain ⟨cq22, kq22, qa22, qb22, qc22⟩ := isOf hZ e6 ebE7
    obtain ⟨_, _, ⟨T22, L22, k22, n22⟩, -, X22, ⟨Lc22, hQ22, l22, y22, z22⟩, st22⟩ := X6.virtualBack hx (y := (⟨"com/example/portunus/portunus/Support", "order", "()J"⟩ : MethodName)) (z := (⟨"com/example/portunus/portunus/Support", "order", "()J"⟩ : MethodName)) hown (mvT hZ (hw _ (List.mem_of_getElem? (i := 104) rfl))) (mvT hZ (hw _ (List.mem_of_getElem? (i := 105) rfl))) (notFace_of_selects (args := #[]) (mvT hZ (hw _ (List.mem_of_getElem? (i := 107) rfl)))) (mvT hZ (hw _ (List.mem_of_getElem? (i := 107) rfl))) (mvT hZ (hw _ (List.mem_of_getElem? (i := 106) rfl))) (by decide) (backOf (W := 0) (rmOr l Z a0 hw [] eb7 eo7 h0 n0 Z0 ebO7) hZ (hw _ (List.mem_of_getElem? (i := 108) rfl)) (hw _ (List.mem_of_getElem? (i := 57) rfl)) (by decide) (by decide)) qa22 qc22 (g := (mkF m 48 #[.val (.ref a1), .val (.long p1), .second, .val (.ref ns), .val (.ref es), .val (.ref eb7), .val (.int (1023 : Int32)), .val (.int (Int32.ofNat sl0))] [(.ref eb7)])) rfl (by rw [hml]; rfl) (Steps.refl _) (argsL := []) (rest := []) (lenOf pd_6 rfl) rfl (by show 2 * 0 + _ ≤ _; exact Nat.le_of_eq rfl) (hb hby d6_48) (fun _ _ => ⟨rfl, e6, (by decide : 0 + 0 + 0 ≤ _), (by decide : 0 + 0 + 0 ≤ _)⟩)
    dsimp only [Pt.U, Pt.locs, Pt.cells, Pt.slots] at X22 l22 y22 z22 st22 hQ22
    subst l22 y22 z22
    obtain ⟨rfl, N22q, e22⟩ := hQ22
    have N22 := Fr.app N5 N22q
    refine Go.step (fun t_ k_ => st22.trans k_) ?_
    show Go _ _ _ _ _ _ _ T22 (mkF m 51 #[.val (.ref a1), .val (.long p1), .second, .val (.ref ns), .val (.ref es), .val (.ref eb7), .val (.int (1023 : Int32)), .val (.int (Int32.ofNat sl0))] [(.long eo7)])
    refine Go.step (fun t_ k_ => XT.lloadN X22.here hx rfl (hb hby d6_51) rfl k_) ?_
    show Go _ _ _ _ _ _ _ T22 (mkF m 52 #[.val (.ref a1), .val (.long p1), .second, .val (.ref ns), .val (.ref es), .val (.ref eb7), .val (.int (1023 : Int32)), .val (.int (Int32.ofNat sl0))] [(.long p1), (.long eo7)])
    refine Go.step (fun t_ k_ => XT.lcmp X22.here hx rfl (hb hby d6_52) rfl k_) ?_
    show Go _ _ _ _ _ _ _ T22 (mkF m 53 #[.val (.ref a1), .val (.long p1), .second, .val (.ref ns), .val (.ref es), .val (.ref eb7), .val (.int (1023 : Int32)), .val (.int (Int32.ofNat sl0))] [(.int (XT.cmpL eo7 p1))])
    by_cases hb53_23 : eo7 = p1
    · refine Go.step (fun t_ k_ => XS.ifNo X22.here hx rfl (hb hby d6_53) rfl (XT.ll_ne_f hb53_23) k_) ?_
      show Go _ _ _ _ _ _ _ T22 (mkF m 56 #[.val (.ref a1), .val (.long p1), .second, .val (.ref ns), .val (.ref es), .val (.ref eb7), .val (.int (1023 : Int32)), .val (.int (Int32.ofNat sl0))] [])
      refine Go.step (fun t_ k_ => XS.aload X22.here hx rfl (hb hby d6_56) rfl rfl k_) ?_
      show Go _ _ _ _ _ _ _ T22 (mkF m 58 #[.val (.ref a1), .val (.long p1), .second, .val (.ref ns), .val (.ref es), .val (.ref eb7), .val (.int (1023 : Int32)), .val (.int (Int32.ofNat sl0))] [(.ref eb7)])
      obtain ⟨cq24, kq24, qa24, qb24, qc24⟩ := isOf hZ (e22) ebE7
      obtain ⟨_, _, ⟨T24, L24, k24, n24⟩, -, X24, ⟨Lc24, hQ24, l24, y24, z24⟩, st24⟩ := X22.virtualBack hx (y := (⟨"com/example/portunus/portunus/Support", "without", "()Lcom/example/portunus/portunus/Support;"⟩ : MethodName)) (z := (⟨"com/example/portunus/portunus/Support", "without", "()Lcom/example/portunus/portunus/Support;"⟩ : MethodName)) hown (mvT hZ (hw _ (List.mem_of_getElem? (i := 109) rfl))) (mvT hZ (hw _ (List.mem_of_getElem? (i := 110) rfl))) (notFace_of_selects (args := #[]) (mvT hZ (hw _ (List.mem_of_getElem? (i := 112) rfl)))) (mvT hZ (hw _ (List.mem_of_getElem? (i := 112) rfl))) (mvT hZ (hw _ (List.mem_of_getElem? (i := 111) rfl))) (by decide) (backOf (W := 0) (rmWo l Z a0 hw [] eb7 ns h0 n0 Z0 ebW7) hZ (hw _ (List.mem_of_getElem? (i := 113) rfl)) (hw _ (List.mem_of_getElem? (i := 57) rfl)) (by decide) (by decide)) qa24 qc24 (g := (mkF m 58 #[.val (.ref a1), .val (.long p1), .second, .val (.ref ns), .val (.ref es), .val (.ref eb7), .val (.int (1023 : Int32)), .val (.int (Int32.ofNat sl0))] [(.ref eb7)])) rfl (by rw [hml]; rfl) (Steps.refl _) (argsL := []) (rest := []) (lenOf pd_7 rfl) rfl (by show 2 * 0 + _ ≤ _; exact Nat.le_of_eq rfl) (hb hby d6_58) (fun _ _ => ⟨rfl, (e22), (by decide : 0 + 0 + 0 + 0 ≤ _), (by decide : 0 + 0 + 0 + 0 ≤ _)⟩)
      dsimp only [Pt.U, Pt.locs, Pt.cells, Pt.slots] at X24 l24 y24 z24 st24 hQ24
      subst l24 y24 z24
      obtain ⟨rfl, N24q, e24⟩ := hQ24
      have N24 := Fr.app N22 N24q
      refine Go.step (fun t_ k_ => st24.trans k_) ?_
      show Go _ _ _ _ _ _ _ T24 (mkF m 61 #[.val (.ref a1), .val (.long p1), .second, .val (.ref ns), .val (.ref es), .val (.ref eb7), .val (.int (1023 : Int32)), .val (.int (Int32.ofNat sl0))] [(.ref ns)])
      refine Go.step (fun t_ k_ => XS.aloadN X24.here hx rfl (hb hby d6_61) rfl rfl k_) ?_
      show Go _ _ _ _ _ _ _ T24 (mkF m 62 #[.val (.ref a1), .val (.long p1), .second, .val (.ref ns), .val (.ref es), .val (.ref eb7), .val (.int (1023 : Int32)), .val (.int (Int32.ofNat sl0))] [(.ref ns), (.ref ns)])
      have hb62_25 : ((.ref ns) : Value) = (.ref ns) := by rfl
      refine Go.step (fun t_ k_ => XT.acmpNo X24.here hx rfl (hb hby d6_62) rfl rfl rfl (XT.aa_ne_f hb62_25) k_) ?_
      show Go _ _ _ _ _ _ _ T24 (mkF m 65 #[.val (.ref a1), .val (.long p1), .second, .val (.ref ns), .val (.ref es), .val (.ref eb7), .val (.int (1023 : Int32)), .val (.int (Int32.ofNat sl0))] [])
      refine Go.step (fun t_ k_ => XS.aload X24.here hx rfl (hb hby d6_65) rfl rfl k_) ?_
      show Go _ _ _ _ _ _ _ T24 (mkF m 67 #[.val (.ref a1), .val (.long p1), .second, .val (.ref ns), .val (.ref es), .val (.ref eb7), .val (.int (1023 : Int32)), .val (.int (Int32.ofNat sl0))] [(.ref eb7)])
      obtain ⟨cq26, kq26, qa26, qb26, qc26⟩ := isOf hZ (e24) ebE7
      obtain ⟨_, _, ⟨T26, L26, k26, n26⟩, -, X26, ⟨Lc26, hQ26, l26, y26, z26⟩, st26⟩ := X24.virtualBack hx (y := (⟨"com/example/portunus/portunus/Support", "with", "()Lcom/example/portunus/portunus/Support;"⟩ : MethodName)) (z := (⟨"com/example/portunus/portunus/Support", "with", "()Lcom/example/portunus/portunus/Support;"⟩ : MethodName)) hown (mvT hZ (hw _ (List.mem_of_getElem? (i := 114) rfl))) (mvT hZ (hw _ (List.mem_of_getElem? (i := 115) rfl))) (notFace_of_selects (args := #[]) (mvT hZ (hw _ (List.mem_of_getElem? (i := 117) rfl)))) (mvT hZ (hw _ (List.mem_of_getElem? (i := 117) rfl))) (mvT hZ (hw _ (List.mem_of_getElem? (i := 116) rfl))) (by decide) (backOf (W := 0) (rmWi l Z a0 hw [] eb7 es h0 n0 Z0 ebI7) hZ (hw _ (List.mem_of_getElem? (i := 118) rfl)) (hw _ (List.mem_of_getElem? (i := 57) rfl)) (by decide) (by decide)) qa26 qc26 (g := (mkF m 67 #[.val (.ref a1), .val (.long p1), .second, .val (.ref ns), .val (.ref es), .val (.ref eb7), .val (.int (1023 : Int32)), .val (.int (Int32.ofNat sl0))] [(.ref eb7)])) rfl (by rw [hml]; rfl) (Steps.refl _) (argsL := []) (rest := []) (lenOf pd_7 rfl) rfl (by show 2 * 0 + _ ≤ _; exact Nat.le_of_eq rfl) (hb hby d6_67) (fun _ _ => ⟨rfl, (e24), (by decide : 0 + 0 + 0 + 0 + 0 ≤ _), (by decide : 0 + 0 + 0 + 0 + 0 ≤ _)⟩)
      dsimp only [Pt.U, Pt.locs, Pt.cells, Pt.slots] at X26 l26 y26 z26 st26 hQ26
      subst l26 y26 z26
      obtain ⟨rfl, N26q, e26⟩ := hQ26
      have N26 := Fr.app N24 N26q
      refine Go.step (fun t_ k_ => st26.trans k_) ?_
      show Go _ _ _ _ _ _ _ T26 (mkF m 70 #[.val (.ref a1), .val (.long p1), .second, .val (.ref ns), .val (.ref es), .val (.ref eb7), .val (.int (1023 : Int32)), .val (.int (Int32.ofNat sl0))] [(.ref es)])
      refine Go.step (fun t_ k_ => XS.aload X26.here hx rfl (hb hby d6_70) rfl rfl k_) ?_
      show Go _ _ _ _ _ _ _ T26 (mkF m 72 #[.val (.ref a1), .val (.long p1), .second, .val (.ref ns), .val (.ref es), .val (.ref eb7), .val (.int (1023 : Int32)), .val (.int (Int32.ofNat sl0))] [(.ref es), (.ref es)])
      have hb72_27 : ((.ref es) : Value) = (.ref es) := by rfl
      refine Go.step (fun t_ k_ => XT.acmpYes X26.here hx rfl (pc0 := 72) (pc' := 96) rfl (hb hby d6_72) rfl rfl rfl (XT.aa_eq_t hb72_27) (by decide) (by decide) k_) ?_
      show Go _ _ _ _ _ _ _ T26 (mkF m 96 #[.val (.ref a1), .val (.long p1), .second, .val (.ref ns), .val (.ref es), .val (.ref eb7), .val (.int (1023 : Int32)), .val (.int (Int32.ofNat sl0))] [])
      refine Go.step (fun t_ k_ => XS.aload X26.here hx rfl (hb hby d6_96) rfl rfl k_) ?_
      show Go _ _ _ _ _ _ _ T26 (mkF m 98 #[.val (.ref a1), .val (.long p1), .second, .val (.ref ns), .val (.ref es), .val (.ref eb7), .val (.int (1023 : Int32)), .val (.int (Int32.ofNat sl0))] [(.ref eb7)])
      refine Go.step (fun t_ k_ => XT.ifnonnullYes X26.here hx rfl (pc0 := 98) (pc' := 162) rfl (hb hby d6_98) rfl (by decide) (by decide) k_) ?_
      show Go _ _ _ _ _ _ _ T26 (mkF m 162 #[.val (.ref a1), .val (.long p1), .second, .val (.ref ns), .val (.ref es), .val (.ref eb7), .val (.int (1023 : Int32)), .val (.int (Int32.ofNat sl0))] [])
      refine Go.step (fun t_ k_ => XS.aload X26.here hx rfl (hb hby d6_162) rfl rfl k_) ?_
      show Go _ _ _ _ _ _ _ T26 (mkF m 164 #[.val (.ref a1), .val (.long p1), .second, .val (.ref ns), .val (.ref es), .val (.ref eb7), .val (.int (1023 : Int32)), .val (.int (Int32.ofNat sl0))] [(.ref eb7)])
      refine Go.ret X26 hx hlk hret rfl (Or.inr (Or.inr (Or.inr (Or.inr ⟨rfl, rfl, rfl⟩)))) (hb hby d6_164) ?_ (by decide) (by decide)
      show QN Z _ _ _ _ _ _ _ _ _ _ _ _ T26.heap _
      rw [(e26)]
      exact ⟨nn, nid, vs, eb7, rfl, N26, K0, Nat.le_succ _, PE1, P_nodes, P_size, P_nid, PA, hlv, hent, hfew⟩
    · refine Go.step (fun t_ k_ => XS.ifYes X22.here hx rfl (pc0 := 53) (pc' := 75) rfl (hb hby d6_53) rfl (XT.ll_ne_t hb53_23) (by decide) (by decide) k_) ?_
      show Go _ _ _ _ _ _ _ T22 (mkF m 75 #[.val (.ref a1), .val (.long p1), .second, .val (.ref ns), .val (.ref es), .val (.ref eb7), .val (.int (1023 : Int32)), .val (.int (Int32.ofNat sl0))] [])
      refine Go.step (fun t_ k_ => XS.iload X22.here hx rfl (hb hby d6_75) rfl k_) ?_
      show Go _ _ _ _ _ _ _ T22 (mkF m 77 #[.val (.ref a1), .val (.long p1), .second, .val (.ref ns), .val (.ref es), .val (.ref eb7), .val (.int (1023 : Int32)), .val (.int (Int32.ofNat sl0))] [(.int (Int32.ofNat sl0))])
      refine Go.step (fun t_ k_ => XS.iconst X22.here hx rfl (hb hby d6_77) k_) ?_
      show Go _ _ _ _ _ _ _ T22 (mkF m 78 #[.val (.ref a1), .val (.long p1), .second, .val (.ref ns), .val (.ref es), .val (.ref eb7), .val (.int (1023 : Int32)), .val (.int (Int32.ofNat sl0))] [(.int (1 : Int32)), (.int (Int32.ofNat sl0))])
      refine Go.step (fun t_ k_ => XS.iadd X22.here hx rfl (hb hby d6_78) rfl k_) ?_
      show Go _ _ _ _ _ _ _ T22 (mkF m 79 #[.val (.ref a1), .val (.long p1), .second, .val (.ref ns), .val (.ref es), .val (.ref eb7), .val (.int (1023 : Int32)), .val (.int (Int32.ofNat sl0))] [(.int ((Int32.ofNat sl0) + (1 : Int32)))])
      refine Go.step (fun t_ k_ => XS.iload X22.here hx rfl (hb hby d6_79) rfl k_) ?_
      show Go _ _ _ _ _ _ _ T22 (mkF m 81 #[.val (.ref a1), .val (.long p1), .second, .val (.ref ns), .val (.ref es), .val (.ref eb7), .val (.int (1023 : Int32)), .val (.int (Int32.ofNat sl0))] [(.int (1023 : Int32)), (.int ((Int32.ofNat sl0) + (1 : Int32)))])
      refine Go.step (fun t_ k_ => XS.iand X22.here hx rfl (hb hby d6_81) rfl k_) ?_
      show Go _ _ _ _ _ _ _ T22 (mkF m 82 #[.val (.ref a1), .val (.long p1), .second, .val (.ref ns), .val (.ref es), .val (.ref eb7), .val (.int (1023 : Int32)), .val (.int (Int32.ofNat sl0))] [(.int (((Int32.ofNat sl0) + (1 : Int32)) &&& (1023 : Int32)))])
      obtain ⟨sl1, hs_sl1, hm_sl1, hq_sl1⟩ := own_next hs_sl0
      rw [hq_sl1]
      show Go _ _ _ _ _ _ _ T22 (mkF m 82 #[.val (.ref a1), .val (.long p1), .second, .val (.ref ns), .val (.ref es), .val (.ref eb7), .val (.int (1023 : Int32)), .val (.int (Int32.ofNat sl0))] [(.int (Int32.ofNat sl1))])
      refine Go.step (fun t_ k_ => XS.istore X22.here hx rfl (hb hby d6_82) rfl (l' := #[.val (.ref a1), .val (.long p1), .second, .val (.ref ns), .val (.ref es), .val (.ref eb7), .val (.int (1023 : Int32)), .val (.int (Int32.ofNat sl1))]) rfl k_) ?_
      show Go _ _ _ _ _ _ _ T22 (mkF m 84 #[.val (.ref a1), .val (.long p1), .second, .val (.ref ns), .val (.ref es), .val (.ref eb7), .val (.int (1023 : Int32)), .val (.int (Int32.ofNat sl1))] [])
      refine Go.step (fun t_ k_ => XS.aloadN X22.here hx rfl (hb hby d6_84) rfl rfl k_) ?_
      show Go _ _ _ _ _ _ _ T22 (mkF m 85 #[.val (.ref a1), .val (.long p1), .second, .val (.ref ns), .val (.ref es), .val (.ref eb7), .val (.int (1023 : Int32)), .val (.int (Int32.ofNat sl1))] [(.ref a1)])
      obtain ⟨T28, X28, e28, st28⟩ := getF X22 hx hZ hown (host := "") (Or.inl (hw _ (List.mem_of_getElem? (i := 11) rfl))) Via.refl (e22) P_nodes (g := (mkF m 85 #[.val (.ref a1), .val (.long p1), .second, .val (.ref ns), .val (.ref es), .val (.ref eb7), .val (.int (1023 : Int32)), .val (.int (Int32.ofNat sl1))] [(.ref a1)])) rfl rfl (hb hby d6_85)
      refine Go.step st28 ?_
      show Go _ _ _ _ _ _ _ T28 (mkF m 88 #[.val (.ref a1), .val (.long p1), .second, .val (.ref ns), .val (.ref es), .val (.ref eb7), .val (.int (1023 : Int32)), .val (.int (Int32.ofNat sl1))] [(.ref tn)])
      refine Go.step (fun t_ k_ => XS.iload X28.here hx rfl (hb hby d6_88) rfl k_) ?_
      show Go _ _ _ _ _ _ _ T28 (mkF m 90 #[.val (.ref a1), .val (.long p1), .second, .val (.ref ns), .val (.ref es), .val (.ref eb7), .val (.int (1023 : Int32)), .val (.int (Int32.ofNat sl1))] [(.int (Int32.ofNat sl1)), (.ref tn)])
      rcases hent sl1 with hz29 | ⟨eb29, eo29, hz29, ebE29, ebO29, ebW29, ebI29⟩
      · skip
        obtain ⟨c30, Ar30, q30, S30, M30, H30, U30⟩ := id PA
        have hin30 := inb_of (j := (Int32.ofNat sl1)) S30 (own_inb hs_sl1)
        refine Go.step (fun t_ k_ => X28.aaload hx (j := (Int32.ofNat sl1)) (v := .null) (by rw [e28]; exact Ar30.1) (State.isArrayOf_alike hZ.alike Ar30.2.1) rfl Ar30.2.2 hin30 (H30.at hin30 (by rw [own_tnc hs_sl1]; exact hz29)) (g := (mkF m 90 #[.val (.ref a1), .val (.long p1), .second, .val (.ref ns), .val (.ref es), .val (.ref eb7), .val (.int (1023 : Int32)), .val (.int (Int32.ofNat sl1))] [(.int (Int32.ofNat sl1)), (.ref tn)])) rfl rfl (hb hby d6_90) _ k_) ?_
        show Go _ _ _ _ _ _ _ T28 (mkF m 91 #[.val (.ref a1), .val (.long p1), .second, .val (.ref ns), .val (.ref es), .val (.ref eb7), .val (.int (1023 : Int32)), .val (.int (Int32.ofNat sl1))] [.null])
        refine Go.step (fun t_ k_ => XS.astore X28.here hx rfl (hb hby d6_91) rfl rfl (l' := #[.val (.ref a1), .val (.long p1), .second, .val (.ref ns), .val (.ref es), .val .null, .val (.int (1023 : Int32)), .val (.int (Int32.ofNat sl1))]) rfl k_) ?_
        show Go _ _ _ _ _ _ _ T28 (mkF m 93 #[.val (.ref a1), .val (.long p1), .second, .val (.ref ns), .val (.ref es), .val .null, .val (.int (1023 : Int32)), .val (.int (Int32.ofNat sl1))] [])
        refine Go.step (fun t_ k_ => XS.goto X28.here hx rfl (pc0 := 93) (pc' := 41) rfl (hb hby d6_93) (by decide) (by decide) k_) ?_
        show Go _ _ _ _ _ _ _ T28 (mkF m 41 #[.val (.ref a1), .val (.long p1), .second, .val (.ref ns), .val (.ref es), .val .null, .val (.int (1023 : Int32)), .val (.int (Int32.ofNat sl1))] [])
        refine Go.step (fun t_ k_ => XS.aload X28.here hx rfl (hb hby d6_41) rfl rfl k_) ?_
        show Go _ _ _ _ _ _ _ T28 (mkF m 43 #[.val (.ref a1), .val (.long p1), .second, .val (.ref ns), .val (.ref es), .val .null, .val (.int (1023 : Int32)), .val (.int (Int32.ofNat sl1))] [.null])
        refine Go.step (fun t_ k_ => XS.ifnullYes X28.here hx rfl (pc0 := 43) (pc' := 96) rfl (hb hby d6_43) rfl (by decide) (by decide) k_) ?_
        show Go _ _ _ _ _ _ _ T28 (mkF m 96 #[.val (.ref a1), .val (.long p1), .second, .val (.ref ns), .val (.ref es), .val .null, .val (.int (1023 : Int32)), .val (.int (Int32.ofNat sl1))] [])
        refine Go.step (fun t_ k_ => XS.aload X28.here hx rfl (hb hby d6_96) rfl rfl k_) ?_
        show Go _ _ _ _ _ _ _ T28 (mkF m 98 #[.val (.ref a1), .val (.long p1), .second, .val (.ref ns), .val (.ref es), .val .null, .val (.int (1023 : Int32)), .val (.int (Int32.ofNat sl1))] [.null])
        refine Go.step (fun t_ k_ => XT.ifnonnullNo X28.here hx rfl (hb hby d6_98) rfl k_) ?_
        show Go _ _ _ _ _ _ _ T28 (mkF m 101 #[.val (.ref a1), .val (.long p1), .second, .val (.ref ns), .val (.ref es), .val .null, .val (.int (1023 : Int32)), .val (.int (Int32.ofNat sl1))] [])
        have hsx : ∃ x : Nat, x < 1024 ∧ vs.getD x .null = .null ∧ (Int32.ofNat sl1) = Int32.ofNat x := ⟨sl1, hs_sl1, hz29, rfl⟩
        have hsz : ∃ z : Nat, z = nn ∧ (Int32.ofNat nn) = Int32.ofNat z := ⟨nn, rfl, rfl⟩
        exact sgN_0 l Z a0 hw a1 p1 ns es tn kn nn nid vs h0 n0 Z0 O0 S_NO S_ES E_NO E_ES F_NO F_ES nEN g1 gt1 hnn OV PE1 P_nodes P_size P_nid PA hlv hent hfew ((Int32.ofNat sl1)) ((Int32.ofNat nn)) (X28.mono (by decide) (by decide)) hx hby hlk hml hret hnm e28 N22 Z0 O0 K0 hZ hown PE1 P_nodes P_size P_nid PA OV g1 gt1 hsx hsz
      · skip
        obtain ⟨c31, Ar31, q31, S31, M31, H31, U31⟩ := id PA
        have hin31 := inb_of (j := (Int32.ofNat sl1)) S31 (own_inb hs_sl1)
        refine Go.step (fun t_ k_ => X28.aaload hx (j := (Int32.ofNat sl1)) (v := (.ref eb29)) (by rw [e28]; exact Ar31.1) (State.isArrayOf_alike hZ.alike Ar31.2.1) rfl Ar31.2.2 hin31 (H31.at hin31 (by rw [own_tnc hs_sl1]; exact hz29)) (g := (mkF m 90 #[.val (.ref a1), .val (.long p1), .second, .val (.ref ns), .val (.ref es), .val (.ref eb7), .val (.int (1023 : Int32)), .val (.int (Int32.ofNat sl1))] [(.int (Int32.ofNat sl1)), (.ref tn)])) rfl rfl (hb hby d6_90) _ k_) ?_
        show Go _ _ _ _ _ _ _ T28 (mkF m 91 #[.val (.ref a1), .val (.long p1), .second, .val (.ref ns), .val (.ref es), .val (.ref eb7), .val (.int (1023 : Int32)), .val (.int (Int32.ofNat sl1))] [(.ref eb29)])
        refine Go.step (fun t_ k_ => XS.astore X28.here hx rfl (hb hby d6_91) rfl rfl (l' := #[.val (.ref a1), .val (.long p1), .second, .val (.ref ns), .val (.ref es), .val (.ref eb29), .val (.int (1023 : Int32)), .val (.int (Int32.ofNat sl1))]) rfl k_) ?_
        show Go _ _ _ _ _ _ _ T28 (mkF m 93 #[.val (.ref a1), .val (.long p1), .second, .val (.ref ns), .val (.ref es), .val (.ref eb29), .val (.int (1023 : Int32)), .val (.int (Int32.ofNat sl1))] [])
        refine Go.step (fun t_ k_ => XS.goto X28.here hx rfl (pc0 := 93) (pc' := 41) rfl (hb hby d6_93) (by decide) (by decide) k_) ?_
        show Go _ _ _ _ _ _ _ T28 (mkF m 41 #[.val (.ref a1), .val (.long p1), .second, .val (.ref ns), .val (.ref es), .val (.ref eb29), .val (.int (1023 : Int32)), .val (.int (Int32.ofNat sl1))] [])
        refine Go.step (fun t_ k_ => XS.aload X28.here hx rfl (hb hby d6_41) rfl rfl k_) ?_
        show Go _ _ _ _ _ _ _ T28 (mkF m 43 #[.val (.ref a1), .val (.long p1), .second, .val (.ref ns), .val (.ref es), .val (.ref eb29), .val (.int (1023 : Int32)), .val (.int (Int32.ofNat sl1))] [(.ref eb29)])
        refine Go.step (fun t_ k_ => XS.ifnullNo X28.here hx rfl (hb hby d6_43) rfl k_) ?_
        show Go _ _ _ _ _ _ _ T28 (mkF m 46 #[.val (.ref a1), .val (.long p1), .second, .val (.ref ns), .val (.ref es), .val (.ref eb29), .val (.int (1023 : Int32)), .val (.int (Int32.ofNat sl1))] [])
        refine Go.step (fun t_ k_ => XS.aload X28.here hx rfl (hb hby d6_46) rfl rfl k_) ?_
        show Go _ _ _ _ _ _ _ T28 (mkF m 48 #[.val (.ref a1), .val (.long p1), .second, .val (.ref ns), .val (.ref es), .val (.ref eb29), .val (.int (1023 : Int32)), .val (.int (Int32.ofNat sl1))] [(.ref eb29)])
        obtain ⟨cq32, kq32, qa32, qb32, qc32⟩ := isOf hZ e28 ebE29
        obtain ⟨_, _, ⟨T32, L32, k32, n32⟩, -, X32, ⟨Lc32, hQ32, l32, y32, z32⟩, st32⟩ := X28.virtualBack hx (y := (⟨"com/example/portunus/portunus/Support", "order", "()J"⟩ : MethodName)) (z := (⟨"com/example/portunus/portunus/Support", "order", "()J"⟩ : MethodName)) hown (mvT hZ (hw _ (List.mem_of_getElem? (i := 104) rfl))) (mvT hZ (hw _ (List.mem_of_getElem? (i := 105) rfl))) (notFace_of_selects (args := #[]) (mvT hZ (hw _ (List.mem_of_getElem? (i := 107) rfl)))) (mvT hZ (hw _ (List.mem_of_getElem? (i := 107) rfl))) (mvT hZ (hw _ (List.mem_of_getElem? (i := 106) rfl))) (by decide) (backOf (W := 0) (rmOr l Z a0 hw [] eb29 eo29 h0 n0 Z0 ebO29) hZ (hw _ (List.mem_of_getElem? (i := 108) rfl)) (hw _ (List.mem_of_getElem? (i := 57) rfl)) (by decide) (by decide)) qa32 qc32 (g := (mkF m 48 #[.val (.ref a1), .val (.long p1), .second, .val (.ref ns), .val (.ref es), .val (.ref eb29), .val (.int (1023 : Int32)), .val (.int (Int32.ofNat sl1))] [(.ref eb29)])) rfl (by rw [hml]; rfl) (Steps.refl _) (argsL := []) (rest := []) (lenOf pd_6 rfl) rfl (by show 2 * 0 + _ ≤ _; exact Nat.le_of_eq rfl) (hb hby d6_48) (fun _ _ => ⟨rfl, e28, (by decide : 0 + 0 + 0 + 0 ≤ _), (by decide : 0 + 0 + 0 + 0 ≤ _)⟩)
        dsimp only [Pt.U, Pt.locs, Pt.cells, Pt.slots] at X32 l32 y32 z32 st32 hQ32
        subst l32 y32 z32
        obtain ⟨rfl, N32q, e32⟩ := hQ32
        have N32 := Fr.app N22 N32q
        refine Go.step (fun t_ k_ => st32.trans k_) ?_
        show Go _ _ _ _ _ _ _ T32 (mkF m 51 #[.val (.ref a1), .val (.long p1), .second, .val (.ref ns), .val (.ref es), .val (.ref eb29), .val (.int (1023 : Int32)), .val (.int (Int32.ofNat sl1))] [(.long eo29)])
        refine Go.step (fun t_ k_ => XT.lloadN X32.here hx rfl (hb hby d6_51) rfl k_) ?_
        show Go _ _ _ _ _ _ _ T32 (mkF m 52 #[.val (.ref a1), .val (.long p1), .second, .val (.ref ns), .val (.ref es), .val (.ref eb29), .val (.int (1023 : Int32)), .val (.int (Int32.ofNat sl1))] [(.long p1), (.long eo29)])
        refine Go.step (fun t_ k_ => XT.lcmp X32.here hx rfl (hb hby d6_52) rfl k_) ?_
        show Go _ _ _ _ _ _ _ T32 (mkF m 53 #[.val (.ref a1), .val (.long p1), .second, .val (.ref ns), .val (.ref es), .val (.ref eb29), .val (.int (1023 : Int32)), .val (.int (Int32.ofNat sl1))] [(.int (XT.cmpL eo29 p1))])
        by_cases hb53_33 : eo29 = p1
        · refine Go.step (fun t_ k_ => XS.ifNo X32.here hx rfl (hb hby d6_53) rfl (XT.ll_ne_f hb53_33) k_) ?_
          show Go _ _ _ _ _ _ _ T32 (mkF m 56 #[.val (.ref a1), .val (.long p1), .second, .val (.ref ns), .val (.ref es), .val (.ref eb29), .val (.int (1023 : Int32)), .val (.int (Int32.ofNat sl1))] [])
          refine Go.step (fun t_ k_ => XS.aload X32.here hx rfl (hb hby d6_56) rfl rfl k_) ?_
          show Go _ _ _ _ _ _ _ T32 (mkF m 58 #[.val (.ref a1), .val (.long p1), .second, .val (.ref ns), .val (.ref es), .val (.ref eb29), .val (.int (1023 : Int32)), .val (.int (Int32.ofNat sl1))] [(.ref eb29)])
          obtain ⟨cq34, kq34, qa34, qb34, qc34⟩ := isOf hZ (e32) ebE29
          obtain ⟨_, _, ⟨T34, L34, k34, n34⟩, -, X34, ⟨Lc34, hQ34, l34, y34, z34⟩, st34⟩ := X32.virtualBack hx (y := (⟨"com/example/portunus/portunus/Support", "without", "()Lcom/example/portunus/portunus/Support;"⟩ : MethodName)) (z := (⟨"com/example/portunus/portunus/Support", "without", "()Lcom/example/portunus/portunus/Support;"⟩ : MethodName)) hown (mvT hZ (hw _ (List.mem_of_getElem? (i := 109) rfl))) (mvT hZ (hw _ (List.mem_of_getElem? (i := 110) rfl))) (notFace_of_selects (args := #[]) (mvT hZ (hw _ (List.mem_of_getElem? (i := 112) rfl)))) (mvT hZ (hw _ (List.mem_of_getElem? (i := 112) rfl))) (mvT hZ (hw _ (List.mem_of_getElem? (i := 111) rfl))) (by decide) (backOf (W := 0) (rmWo l Z a0 hw [] eb29 ns h0 n0 Z0 ebW29) hZ (hw _ (List.mem_of_getElem? (i := 113) rfl)) (hw _ (List.mem_of_getElem? (i := 57) rfl)) (by decide) (by decide)) qa34 qc34 (g := (mkF m 58 #[.val (.ref a1), .val (.long p1), .second, .val (.ref ns), .val (.ref es), .val (.ref eb29), .val (.int (1023 : Int32)), .val (.int (Int32.ofNat sl1))] [(.ref eb29)])) rfl (by rw [hml]; rfl) (Steps.refl _) (argsL := []) (rest := []) (lenOf pd_7 rfl) rfl (by show 2 * 0 + _ ≤ _; exact Nat.le_of_eq rfl) (hb hby d6_58) (fun _ _ => ⟨rfl, (e32), (by decide : 0 + 0 + 0 + 0 + 0 ≤ _), (by decide : 0 + 0 + 0 + 0 + 0 ≤ _)⟩)
          dsimp only [Pt.U, Pt.locs, Pt.cells, Pt.slots] at X34 l34 y34 z34 st34 hQ34
          subst l34 y34 z34
          obtain ⟨rfl, N34q, e34⟩ := hQ34
          have N34 := Fr.app N32 N34q
          refine Go.step (fun t_ k_ => st34.trans k_) ?_
          show Go _ _ _ _ _ _ _ T34 (mkF m 61 #[.val (.ref a1), .val (.long p1), .second, .val (.ref ns), .val (.ref es), .val (.ref eb29), .val (.int (1023 : Int32)), .val (.int (Int32.ofNat sl1))] [(.ref ns)])
          refine Go.step (fun t_ k_ => XS.aloadN X34.here hx rfl (hb hby d6_61) rfl rfl k_) ?_
          show Go _ _ _ _ _ _ _ T34 (mkF m 62 #[.val (.ref a1), .val (.long p1), .second, .val (.ref ns), .val (.ref es), .val (.ref eb29), .val (.int (1023 : Int32)), .val (.int (Int32.ofNat sl1))] [(.ref ns), (.ref ns)])
          have hb62_35 : ((.ref ns) : Value) = (.ref ns) := by rfl
          refine Go.step (fun t_ k_ => XT.acmpNo X34.here hx rfl (hb hby d6_62) rfl rfl rfl (XT.aa_ne_f hb62_35) k_) ?_
          show Go _ _ _ _ _ _ _ T34 (mkF m 65 #[.val (.ref a1), .val (.long p1), .second, .val (.ref ns), .val (.ref es), .val (.ref eb29), .val (.int (1023 : Int32)), .val (.int (Int32.ofNat sl1))] [])
          refine Go.step (fun t_ k_ => XS.aload X34.here hx rfl (hb hby d6_65) rfl rfl k_) ?_
          show Go _ _ _ _ _ _ _ T34 (mkF m 67 #[.val (.ref a1), .val (.long p1), .second, .val (.ref ns), .val (.ref es), .val (.ref eb29), .val (.int (1023 : Int32)), .val (.int (Int32.ofNat sl1))] [(.ref eb29)])
          obtain ⟨cq36, kq36, qa36, qb36, qc36⟩ := isOf hZ (e34) ebE29
          obtain ⟨_, _, ⟨T36, L36, k36, n36⟩, -, X36, ⟨Lc36, hQ36, l36, y36, z36⟩, st36⟩ := X34.virtualBack hx (y := (⟨"com/example/portunus/portunus/Support", "with", "()Lcom/example/portunus/portunus/Support;"⟩ : MethodName)) (z := (⟨"com/example/portunus/portunus/Support", "with", "()Lcom/example/portunus/portunus/Support;"⟩ : MethodName)) hown (mvT hZ (hw _ (List.mem_of_getElem? (i := 114) rfl))) (mvT hZ (hw _ (List.mem_of_getElem? (i := 115) rfl))) (notFace_of_selects (args := #[]) (mvT hZ (hw _ (List.mem_of_getElem? (i := 117) rfl)))) (mvT hZ (hw _ (List.mem_of_getElem? (i := 117) rfl))) (mvT hZ (hw _ (List.mem_of_getElem? (i := 116) rfl))) (by decide) (backOf (W := 0) (rmWi l Z a0 hw [] eb29 es h0 n0 Z0 ebI29) hZ (hw _ (List.mem_of_getElem? (i := 118) rfl)) (hw _ (List.mem_of_getElem? (i := 57) rfl)) (by decide) (by decide)) qa36 qc36 (g := (mkF m 67 #[.val (.ref a1), .val (.long p1), .second, .val (.ref ns), .val (.ref es), .val (.ref eb29), .val (.int (1023 : Int32)), .val (.int (Int32.ofNat sl1))] [(.ref eb29)])) rfl (by rw [hml]; rfl) (Steps.refl _) (argsL := []) (rest := []) (lenOf pd_7 rfl) rfl (by show 2 * 0 + _ ≤ _; exact Nat.le_of_eq rfl) (hb hby d6_67) (fun _ _ => ⟨rfl, (e34), (by decide : 0 + 0 + 0 + 0 + 0 + 0 ≤ _), (by decide : 0 + 0 + 0 + 0 + 0 + 0 ≤ _)⟩)
          dsimp only [Pt.U, Pt.locs, Pt.cells, Pt.slots] at X36 l36 y36 z36 st36 hQ36
          subst l36 y36 z36
          obtain ⟨rfl, N36q, e36⟩ := hQ36
          have N36 := Fr.app N34 N36q
          refine Go.step (fun t_ k_ => st36.trans k_) ?_
          show Go _ _ _ _ _ _ _ T36 (mkF m 70 #[.val (.ref a1), .val (.long p1), .second, .val (.ref ns), .val (.ref es), .val (.ref eb29), .val (.int (1023 : Int32)), .val (.int (Int32.ofNat sl1))] [(.ref es)])
          refine Go.step (fun t_ k_ => XS.aload X36.here hx rfl (hb hby d6_70) rfl rfl k_) ?_
          show Go _ _ _ _ _ _ _ T36 (mkF m 72 #[.val (.ref a1), .val (.long p1), .second, .val (.ref ns), .val (.ref es), .val (.ref eb29), .val (.int (1023 : Int32)), .val (.int (Int32.ofNat sl1))] [(.ref es), (.ref es)])
          have hb72_37 : ((.ref es) : Value) = (.ref es) := by rfl
          refine Go.step (fun t_ k_ => XT.acmpYes X36.here hx rfl (pc0 := 72) (pc' := 96) rfl (hb hby d6_72) rfl rfl rfl (XT.aa_eq_t hb72_37) (by decide) (by decide) k_) ?_
          show Go _ _ _ _ _ _ _ T36 (mkF m 96 #[.val (.ref a1), .val (.long p1), .second, .val (.ref ns), .val (.ref es), .val (.ref eb29), .val (.int (1023 : Int32)), .val (.int (Int32.ofNat sl1))] [])
          refine Go.step (fun t_ k_ => XS.aload X36.here hx rfl (hb hby d6_96) rfl rfl k_) ?_
          show Go _ _ _ _ _ _ _ T36 (mkF m 98 #[.val (.ref a1), .val (.long p1), .second, .val (.ref ns), .val (.ref es), .val (.ref eb29), .val (.int (1023 : Int32)), .val (.int (Int32.ofNat sl1))] [(.ref eb29)])
          refine Go.step (fun t_ k_ => XT.ifnonnullYes X36.here hx rfl (pc0 := 98) (pc' := 162) rfl (hb hby d6_98) rfl (by decide) (by decide) k_) ?_
          show Go _ _ _ _ _ _ _ T36 (mkF m 162 #[.val (.ref a1), .val (.long p1), .second, .val (.ref ns), .val (.ref es), .val (.ref eb29), .val (.int (1023 : Int32)), .val (.int (Int32.ofNat sl1))] [])
          refine Go.step (fun t_ k_ => XS.aload X36.here hx rfl (hb hby d6_162) rfl rfl k_) ?_
          show Go _ _ _ _ _ _ _ T36 (mkF m 164 #[.val (.ref a1), .val (.long p1), .second, .val (.ref ns), .val (.ref es), .val (.ref eb29), .val (.int (1023 : Int32)), .val (.int (Int32.ofNat sl1))] [(.ref eb29)])
          refine Go.ret X36 hx hlk hret rfl (Or.inr (Or.inr (Or.inr (Or.inr ⟨rfl, rfl, rfl⟩)))) (hb hby d6_164) ?_ (by decide) (by decide)
          show QN Z _ _ _ _ _ _ _ _ _ _ _ _ T36.heap _
          rw [(e36)]
          exact ⟨nn, nid, vs, eb29, rfl, N36, K0, Nat.le_succ _, PE1, P_nodes, P_size, P_nid, PA, hlv, hent, hfew⟩
        · refine Go.step (fun t_ k_ => XS.ifYes X32.here hx rfl (pc0 := 53) (pc' := 75) rfl (hb hby d6_53) rfl (XT.ll_ne_t hb53_33) (by decide) (by decide) k_) ?_
          show Go _ _ _ _ _ _ _ T32 (mkF m 75 #[.val (.ref a1), .val (.long p1), .second, .val (.ref ns), .val (.ref es), .val (.ref eb29), .val (.int (1023 : Int32)), .val (.int (Int32.ofNat sl1))] [])
          refine Go.step (fun t_ k_ => XS.iload X32.here hx rfl (hb hby d6_75) rfl k_) ?_
          show Go _ _ _ _ _ _ _ T32 (mkF m 77 #[.val (.ref a1), .val (.long p1), .second, .val (.ref ns), .val (.ref es), .val (.ref eb29), .val (.int (1023 : Int32)), .val (.int (Int32.ofNat sl1))] [(.int (Int32.ofNat sl1))])
          refine Go.step (fun t_ k_ => XS.iconst X32.here hx rfl (hb hby d6_77) k_) ?_
          show Go _ _ _ _ _ _ _ T32 (mkF m 78 #[.val (.ref a1), .val (.long p1), .second, .val (.ref ns), .val (.ref es), .val (.ref eb29), .val (.int (1023 : Int32)), .val (.int (Int32.ofNat sl1))] [(.int (1 : Int32)), (.int (Int32.ofNat sl1))])
          refine Go.step (fun t_ k_ => XS.iadd X32.here hx rfl (hb hby d6_78) rfl k_) ?_
          show Go _ _ _ _ _ _ _ T32 (mkF m 79 #[.val (.ref a1), .val (.long p1), .second, .val (.ref ns), .val (.ref es), .val (.ref eb29), .val (.int (1023 : Int32)), .val (.int (Int32.ofNat sl1))] [(.int ((Int32.ofNat sl1) + (1 : Int32)))])
          refine Go.step (fun t_ k_ => XS.iload X32.here hx rfl (hb hby d6_79) rfl k_) ?_
          show Go _ _ _ _ _ _ _ T32 (mkF m 81 #[.val (.ref a1), .val (.long p1), .second, .val (.ref ns), .val (.ref es), .val (.ref eb29), .val (.int (1023 : Int32)), .val (.int (Int32.ofNat sl1))] [(.int (1023 : Int32)), (.int ((Int32.ofNat sl1) + (1 : Int32)))])
          refine Go.step (fun t_ k_ => XS.iand X32.here hx rfl (hb hby d6_81) rfl k_) ?_
          show Go _ _ _ _ _ _ _ T32 (mkF m 82 #[.val (.ref a1), .val (.long p1), .second, .val (.ref ns), .val (.ref es), .val (.ref eb29), .val (.int (1023 : Int32)), .val (.int (Int32.ofNat sl1))] [(.int (((Int32.ofNat sl1) + (1 : Int32)) &&& (1023 : Int32)))])
          obtain ⟨sl2, hs_sl2, hm_sl2, hq_sl2⟩ := own_next hs_sl1
          rw [hq_sl2]
          show Go _ _ _ _ _ _ _ T32 (mkF m 82 #[.val (.ref a1), .val (.long p1), .second, .val (.ref ns), .val (.ref es), .val (.ref eb29), .val (.int (1023 : Int32)), .val (.int (Int32.ofNat sl1))] [(.int (Int32.ofNat sl2))])
          refine Go.step (fun t_ k_ => XS.istore X32.here hx rfl (hb hby d6_82) rfl (l' := #[.val (.ref a1), .val (.long p1), .second, .val (.ref ns), .val (.ref es), .val (.ref eb29), .val (.int (1023 : Int32)), .val (.int (Int32.ofNat sl2))]) rfl k_) ?_
          show Go _ _ _ _ _ _ _ T32 (mkF m 84 #[.val (.ref a1), .val (.long p1), .second, .val (.ref ns), .val (.ref es), .val (.ref eb29), .val (.int (1023 : Int32)), .val (.int (Int32.ofNat sl2))] [])
          refine Go.step (fun t_ k_ => XS.aloadN X32.here hx rfl (hb hby d6_84) rfl rfl k_) ?_
          show Go _ _ _ _ _ _ _ T32 (mkF m 85 #[.val (.ref a1), .val (.long p1), .second, .val (.ref ns), .val (.ref es), .val (.ref eb29), .val (.int (1023 : Int32)), .val (.int (Int32.ofNat sl2))] [(.ref a1)])
          obtain ⟨T38, X38, e38, st38⟩ := getF X32 hx hZ hown (host := "") (Or.inl (hw _ (List.mem_of_getElem? (i := 11) rfl))) Via.refl (e32) P_nodes (g := (mkF m 85 #[.val (.ref a1), .val (.long p1), .second, .val (.ref ns), .val (.ref es), .val (.ref eb29), .val (.int (1023 : Int32)), .val (.int (Int32.ofNat sl2))] [(.ref a1)])) rfl rfl (hb hby d6_85)
          refine Go.step st38 ?_
          show Go _ _ _ _ _ _ _ T38 (mkF m 88 #[.val (.ref a1), .val (.long p1), .second, .val (.ref ns), .val (.ref es), .val (.ref eb29), .val (.int (1023 : Int32)), .val (.int (Int32.ofNat sl2))] [(.ref tn)])
          refine Go.step (fun t_ k_ => XS.iload X38.here hx rfl (hb hby d6_88) rfl k_) ?_
          show Go _ _ _ _ _ _ _ T38 (mkF m 90 #[.val (.ref a1), .val (.long p1), .second, .val (.ref ns), .val (.ref es), .val (.ref eb29), .val (.int (1023 : Int32)), .val (.int (Int32.ofNat sl2))] [(.int (Int32.ofNat sl2)), (.ref tn)])
          have hz39 : vs.getD sl2 .null = .null := own_third hnn hfew hz7 hz29 (by omega) (by omega) (by omega)
          obtain ⟨c40, Ar40, q40, S40, M40, H40, U40⟩ := id PA
          have hin40 := inb_of (j := (Int32.ofNat sl2)) S40 (own_inb hs_sl2)
          refine Go.step (fun t_ k_ => X38.aaload hx (j := (Int32.ofNat sl2)) (v := .null) (by rw [e38]; exact Ar40.1) (State.isArrayOf_alike hZ.alike Ar40.2.1) rfl Ar40.2.2 hin40 (H40.at hin40 (by rw [own_tnc hs_sl2]; exact hz39)) (g := (mkF m 90 #[.val (.ref a1), .val (.long p1), .second, .val (.ref ns), .val (.ref es), .val (.ref eb29), .val (.int (1023 : Int32)), .val (.int (Int32.ofNat sl2))] [(.int (Int32.ofNat sl2)), (.ref tn)])) rfl rfl (hb hby d6_90) _ k_) ?_
          show Go _ _ _ _ _ _ _ T38 (mkF m 91 #[.val (.ref a1), .val (.long p1), .second, .val (.ref ns), .val (.ref es), .val (.ref eb29), .val (.int (1023 : Int32)), .val (.int (Int32.ofNat sl2))] [.null])
          refine Go.step (fun t_ k_ => XS.astore X38.here hx rfl (hb hby d6_91) rfl rfl (l' := #[.val (.ref a1), .val (.long p1), .second, .val (.ref ns), .val (.ref es), .val .null, .val (.int (1023 : Int32)), .val (.int (Int32.ofNat sl2))]) rfl k_) ?_
          show Go _ _ _ _ _ _ _ T38 (mkF m 93 #[.val (.ref a1), .val (.long p1), .second, .val (.ref ns), .val (.ref es), .val .null, .val (.int (1023 : Int32)), .val (.int (Int32.ofNat sl2))] [])
          refine Go.step (fun t_ k_ => XS.goto X38.here hx rfl (pc0 := 93) (pc' := 41) rfl (hb hby d6_93) (by decide) (by decide) k_) ?_
          show Go _ _ _ _ _ _ _ T38 (mkF m 41 #[.val (.ref a1), .val (.long p1), .second, .val (.ref ns), .val (.ref es), .val .null, .val (.int (1023 : Int32)), .val (.int (Int32.ofNat sl2))] [])
          refine Go.step (fun t_ k_ => XS.aload X38.here hx rfl (hb hby d6_41) rfl rfl k_) ?_
          show Go _ _ _ _ _ _ _ T38 (mkF m 43 #[.val (.ref a1), .val (.long p1), .second, .val (.ref ns), .val (.ref es), .val .null, .val (.int (1023 : Int32)), .val (.int (Int32.ofNat sl2))] [.null])
          refine Go.step (fun t_ k_ => XS.ifnullYes X38.here hx rfl (pc0 := 43) (pc' := 96) rfl (hb hby d6_43) rfl (by decide) (by decide) k_) ?_
          show Go _ _ _ _ _ _ _ T38 (mkF m 96 #[.val (.ref a1), .val (.long p1), .second, .val (.ref ns), .val (.ref es), .val .null, .val (.int (1023 : Int32)), .val (.int (Int32.ofNat sl2))] [])
          refine Go.step (fun t_ k_ => XS.aload X38.here hx rfl (hb hby d6_96) rfl rfl k_) ?_
          show Go _ _ _ _ _ _ _ T38 (mkF m 98 #[.val (.ref a1), .val (.long p1), .second, .val (.ref ns), .val (.ref es), .val .null, .val (.int (1023 : Int32)), .val (.int (Int32.ofNat sl2))] [.null])
          refine Go.step (fun t_ k_ => XT.ifnonnullNo X38.here hx rfl (hb hby d6_98) rfl k_) ?_
          show Go _ _ _ _ _ _ _ T38 (mkF m 101 #[.val (.ref a1), .val (.long p1), .second, .val (.ref ns), .val (.ref es), .val .null, .val (.int (1023 : Int32)), .val (.int (Int32.ofNat sl2))] [])
          have hsx : ∃ x : Nat, x < 1024 ∧ vs.getD x .null = .null ∧ (Int32.ofNat sl2) = Int32.ofNat x := ⟨sl2, hs_sl2, hz39, rfl⟩
          have hsz : ∃ z : Nat, z = nn ∧ (Int32.ofNat nn) = Int32.ofNat z := ⟨nn, rfl, rfl⟩
          exact sgN_0 l Z a0 hw a1 p1 ns es tn kn nn nid vs h0 n0 Z0 O0 S_NO S_ES E_NO E_ES F_NO F_ES nEN g1 gt1 hnn OV PE1 P_nodes P_size P_nid PA hlv hent hfew ((Int32.ofNat sl2)) ((Int32.ofNat nn)) (X38.mono (by decide) (by decide)) hx hby hlk hml hret hnm e38 N32 Z0 O0 K0 hZ hown PE1 P_nodes P_size P_nid PA OV g1 gt1 hsx hsz
theorem ef_rmOf (m : MethodId) (a1 : Addr) (p1 : Int32) (p2 : Int32) : entryFrame m #[(.ref a1), (.int p1), (.int p2)] 3 = mkF m 0 #[.val (.ref a1), .val (.int p1), .val (.int p2)] [] := by first | (simp [entryFrame, mkF, argsToLocals, Value.category]; done) | rfl
def QOf (Z : State) (a1 : Addr) (p1 : Int32) (p2 : Int32) (ns : Addr) (es : Addr) (tn : Addr) (kn : ClassId) (nn : Nat) (nid : Int32) (vs : List Value) (h0 : Heap) (n0 : Nat) (v : Option Value) (h : Heap) (L : List Loc) : Prop := ∃ (nn2 : Nat) (nid2 : Int32) (vs2 : List Value) (rr : Addr), v = some (.ref rr) ∧ Fr n0 L ∧ Keep h0 h [a1, tn] ∧ nn2 ≤ nn + 1 ∧ Exa Z h a1 "com/example/portunus/portunus/Supports" ∧ Fld Z h a1 "com/example/portunus/portunus/Supports" "nodes" "[Lcom/example/portunus/portunus/Support;" (.ref tn) ∧ Fld Z h a1 "com/example/portunus/portunus/Supports" "size" "I" (.int (Int32.ofNat nn2)) ∧ Fld Z h a1 "com/example/portunus/portunus/Supports" "nextId" "I" (.int nid2) ∧ Arv Z h tn kn (.object "com/example/portunus/portunus/Support") (1024 : Int32) vs2 .null ∧ vs2.length = 1024 ∧ own_ent Z h ns es vs2 ∧ own_few vs2 nn2
theorem d5_0 : decode prog_15_method_2_code 0 = .ok (.aload_n 0, 1) := by decide +kernel
theorem d5_1 : decode prog_15_method_2_code 1 = .ok (.iload_n 2, 1) := by decide +kernel
theorem d5_2 : decode prog_15_method_2_code 2 = .ok (.i2l, 1) := by decide +kernel
theorem d5_3 : decode prog_15_method_2_code 3 = .ok (.bipush 32, 2) := by decide +kernel
theorem d5_5 : decode prog_15_method_2_code 5 = .ok (.lshl, 1) := by decide +kernel
theorem d5_6 : decode prog_15_method_2_code 6 = .ok (.iload_n 1, 1) := by decide +kernel
theorem d5_7 : decode prog_15_method_2_code 7 = .ok (.i2l, 1) := by decide +kernel
theorem d5_8 : decode prog_15_method_2_code 8 = .ok (.lor, 1) := by decide +kernel
theorem d5_9 : decode prog_15_method_2_code 9 = .ok (.getstatic 50, 3) := by decide +kernel
theorem d5_12 : decode prog_15_method_2_code 12 = .ok (.getstatic 54, 3) := by decide +kernel
theorem pd_8 : parseMethodDescriptor "(JLcom/example/portunus/portunus/Support;Lcom/example/portunus/portunus/Support;)Lcom/example/portunus/portunus/Support;" = some ⟨[.long, (.object "com/example/portunus/portunus/Support"), (.object "com/example/portunus/portunus/Support")], some (.object "com/example/portunus/portunus/Support")⟩ := by decide +kernel
theorem d5_15 : decode prog_15_method_2_code 15 = .ok (.invokevirtual 57, 3) := by decide +kernel
theorem d5_18 : decode prog_15_method_2_code 18 = .ok (.areturn, 1) := by decide +kernel
set_option maxRecDepth 65536 in
set_option maxHeartbeats 40000000 in
theorem rmOf (l : Launch) (Z : State) (a0 : Array Value) (hw : ∀ d ∈ tables_1, d.before a0 Z = true) (ws : List Jvm.Cond) (a1 : Addr) (p1 : Int32) (p2 : Int32) (ns : Addr) (es : Addr) (tn : Addr) (kn : ClassId) (nn : Nat) (nid : Int32) (vs : List Value) (h0 : Heap) (n0 : Nat) (Z0 : n0 ≤ h0.size) (O0 : Old Z n0 h0) (S_NO : Sta Z Z.heap "com/example/portunus/portunus/Support" "NO_SET" "Lcom/example/portunus/portunus/Support;" (.ref ns)) (S_ES : Sta Z Z.heap "com/example/portunus/portunus/Support" "EMPTY_SET" "Lcom/example/portunus/portunus/Support;" (.ref es)) (E_NO : Exa Z Z.heap ns "com/example/portunus/portunus/Support") (E_ES : Exa Z Z.heap es "com/example/portunus/portunus/Support") (F_NO : Fld Z Z.heap ns "com/example/portunus/portunus/Support" "idAndOneSet" "I" (.int (0 : Int32))) (F_ES : Fld Z Z.heap es "com/example/portunus/portunus/Support" "idAndOneSet" "I" (.int (-2147483647 : Int32))) (nEN : es ≠ ns) (g1 : n0 ≤ a1) (gt1 : n0 ≤ tn) (hnn : nn ≤ 2) (OV : Ovr Z kn "com/example/portunus/portunus/Support") (PE1 : Exa Z h0 a1 "com/example/portunus/portunus/Supports") (P_nodes : Fld Z h0 a1 "com/example/portunus/portunus/Supports" "nodes" "[Lcom/example/portunus/portunus/Support;" (.ref tn)) (P_size : Fld Z h0 a1 "com/example/portunus/portunus/Supports" "size" "I" (.int (Int32.ofNat nn))) (P_nid : Fld Z h0 a1 "com/example/portunus/portunus/Supports" "nextId" "I" (.int nid)) (PA : Arv Z h0 tn kn (.object "com/example/portunus/portunus/Support") (1024 : Int32) vs .null) (hlv : vs.length = 1024) (hent : own_ent Z h0 ns es vs) (hfew : own_few vs nn) :
    MetFree l (⟨"com/example/portunus/portunus/Supports", "of", "(II)Lcom/example/portunus/portunus/Support;"⟩ : MethodName) (head1 (Jvm.Cond.code (⟨"com/example/portunus/portunus/Supports", "of", "(II)Lcom/example/portunus/portunus/Support;"⟩ : MethodName) prog_15_method_2_code 3 (some (.object "com/example/portunus/portunus/Support")) :: ws) ({ frames := 3, cells := 1, slots := 4, locals := 80 } : Room)) (fun a U => a = #[(.ref a1), (.int p1), (.int p2)] ∧ Z.Warmed39 U.vm ∧ U.heap = h0) (fun _ _ _ _ _ => True) (fun _ U o U' => ∃ v L, o = .returned v ∧ QOf Z a1 p1 p2 ns es tn kn nn nid vs h0 n0 v U'.heap L ∧ FrameEnd U o U' L ({ frames := 3, cells := 1, slots := 4, locals := 80 } : Room).cells ({ frames := 3, cells := 1, slots := 4, locals := 80 } : Room).slots) := by
  refine MetFree.of_bodySF (plainFor_of_name pn_3) hisR ?_
  intro p e s m args below meth c s₁ Bd hml0 hP hK
  obtain ⟨rfl, hZ, hh⟩ := hP
  have hx := Bd.exec
  have hby := Bd.bytes
  have hlk := BodyLoose.notSynchronized Bd
  have hml : c.maxLocals = 3 := hml0
  have hret := Bd.returns
  have hown : s.vm.findClass "com/example/portunus/portunus/Supports" = some m.cls := findClass_of_methodNamed Bd.named
  have hnm := (name_of_methodNamed Bd.named Bd.method).1
  have X0 : Stand p l e ({ frames := 3, cells := 1, slots := 4, locals := 80 } : Room) s m #[(.ref a1), (.int p1), (.int p2)] below meth c s₁ [] 0 0 := Stand.of_body Bd
  have e0 : s₁.heap = h0 := by rw [← hh, Bd.state]; rfl
  have N0 := Fr.nil n0
  show Go p e below s ({ frames := 3, cells := 1, slots := 4, locals := 80 } : Room).cells ({ frames := 3, cells := 1, slots := 4, locals := 80 } : Room).slots (QOf Z a1 p1 p2 ns es tn kn nn nid vs h0 n0) s₁ (entryFrame m #[(.ref a1), (.int p1), (.int p2)] 3)
  refine Go.cast (ef_rmOf m a1 p1 p2) ?_
  have K0 : Keep h0 h0 [a1, tn] := Keep.refl _ _
  show Go _ _ _ _ _ _ _ s₁ (mkF m 0 #[.val (.ref a1), .val (.int p1), .val (.int p2)] [])
  refine Go.step (fun t_ k_ => XS.aloadN X0.here hx rfl (hb hby d5_0) rfl rfl k_) ?_
  show Go _ _ _ _ _ _ _ s₁ (mkF m 1 #[.val (.ref a1), .val (.int p1), .val (.int p2)] [(.ref a1)])
  refine Go.step (fun t_ k_ => XS.iloadN X0.here hx rfl (hb hby d5_1) rfl k_) ?_
  show Go _ _ _ _ _ _ _ s₁ (mkF m 2 #[.val (.ref a1), .val (.int p1), .val (.int p2)] [(.int p2), (.ref a1)])
  refine Go.step (fun t_ k_ => XT.i2l X0.here hx rfl (hb hby d5_2) rfl k_) ?_
  show Go _ _ _ _ _ _ _ s₁ (mkF m 3 #[.val (.ref a1), .val (.int p1), .val (.int p2)] [(.long (p2.toInt64)), (.ref a1)])
  refine Go.step (fun t_ k_ => XS.bipush X0.here hx rfl (hb hby d5_3) k_) ?_
  show Go _ _ _ _ _ _ _ s₁ (mkF m 5 #[.val (.ref a1), .val (.int p1), .val (.int p2)] [(.int (32 : Int32)), (.long (p2.toInt64)), (.ref a1)])
  refine Go.step (fun t_ k_ => XT.lshl X0.here hx rfl (hb hby d5_5) rfl k_) ?_
  show Go _ _ _ _ _ _ _ s₁ (mkF m 6 #[.val (.ref a1), .val (.int p1), .val (.int p2)] [(.long ((p2.toInt64) <<< ((32 : Int32).toInt64 &&& 63))), (.ref a1)])
  refine Go.step (fun t_ k_ => XS.iloadN X0.here hx rfl (hb hby d5_6) rfl k_) ?_
  show Go _ _ _ _ _ _ _ s₁ (mkF m 7 #[.val (.ref a1), .val (.int p1), .val (.int p2)] [(.int p1), (.long ((p2.toInt64) <<< ((32 : Int32).toInt64 &&& 63))), (.ref a1)])
  refine Go.step (fun t_ k_ => XT.i2l X0.here hx rfl (hb hby d5_7) rfl k_) ?_
  show Go _ _ _ _ _ _ _ s₁ (mkF m 8 #[.val (.ref a1), .val (.int p1), .val (.int p2)] [(.long (p1.toInt64)), (.long ((p2.toInt64) <<< ((32 : Int32).toInt64 &&& 63))), (.ref a1)])
  refine Go.step (fun t_ k_ => XT.lor X0.here hx rfl (hb hby d5_8) rfl k_) ?_
  show Go _ _ _ _ _ _ _ s₁ (mkF m 9 #[.val (.ref a1), .val (.int p1), .val (.int p2)] [(.long (((p2.toInt64) <<< ((32 : Int32).toInt64 &&& 63)) ||| (p1.toInt64))), (.ref a1)])
  obtain ⟨T1, X1, e1, st1⟩ := getS2 X0 hx hZ hown (host := "") (Or.inl (hw _ (List.mem_of_getElem? (i := 56) rfl))) Via.refl e0 (S_NO.ext O0.2) (g := (mkF m 9 #[.val (.ref a1), .val (.int p1), .val (.int p2)] [(.long (((p2.toInt64) <<< ((32 : Int32).toInt64 &&& 63)) ||| (p1.toInt64))), (.ref a1)])) rfl (hb hby d5_9)
  refine Go.step st1 ?_
  show Go _ _ _ _ _ _ _ T1 (mkF m 12 #[.val (.ref a1), .val (.int p1), .val (.int p2)] [(.ref ns), (.long (((p2.toInt64) <<< ((32 : Int32).toInt64 &&& 63)) ||| (p1.toInt64))), (.ref a1)])
  obtain ⟨T2, X2, e2, st2⟩ := getS2 X1 hx hZ hown (host := "") (Or.inl (hw _ (List.mem_of_getElem? (i := 59) rfl))) Via.refl e1 (S_ES.ext O0.2) (g := (mkF m 12 #[.val (.ref a1), .val (.int p1), .val (.int p2)] [(.ref ns), (.long (((p2.toInt64) <<< ((32 : Int32).toInt64 &&& 63)) ||| (p1.toInt64))), (.ref a1)])) rfl (hb hby d5_12)
  refine Go.step st2 ?_
  show Go _ _ _ _ _ _ _ T2 (mkF m 15 #[.val (.ref a1), .val (.int p1), .val (.int p2)] [(.ref es), (.ref ns), (.long (((p2.toInt64) <<< ((32 : Int32).toInt64 &&& 63)) ||| (p1.toInt64))), (.ref a1)])
  obtain ⟨cq3, kq3, qa3, qb3, qc3⟩ := isOf hZ e2 PE1
  obtain ⟨cc3, cd3, -, ce3⟩ := qc3
  obtain ⟨_, _, ⟨T3, L3, k3, n3⟩, -, X3, ⟨Lc3, hQ3, l3, y3, z3⟩, st3⟩ := X2.privateBack hx (y := (⟨"com/example/portunus/portunus/Supports", "node", "(JLcom/example/portunus/portunus/Support;Lcom/example/portunus/portunus/Support;)Lcom/example/portunus/portunus/Support;"⟩ : MethodName)) hown (mvT hZ (hw _ (List.mem_of_getElem? (i := 61) rfl))) (mvT hZ (hw _ (List.mem_of_getElem? (i := 62) rfl))) (own_sel_priv (args := #[]) (mvT hZ (hw _ (List.mem_of_getElem? (i := 1) rfl))) (mvT hZ (hw _ (List.mem_of_getElem? (i := 63) rfl))) (mvT hZ (hw _ (List.mem_of_getElem? (i := 62) rfl))) (by decide)) (Cond.privateMethod_at (args := #[]) (mvT hZ (hw _ (List.mem_of_getElem? (i := 63) rfl)))) (mvT hZ (hw _ (List.mem_of_getElem? (i := 64) rfl))) (by decide) (backOf (W := 0) (rmN l Z a0 hw [] a1 (((p2.toInt64) <<< ((32 : Int32).toInt64 &&& 63)) ||| (p1.toInt64)) ns es tn kn nn nid vs h0 n0 Z0 O0 S_NO S_ES E_NO E_ES F_NO F_ES nEN g1 gt1 hnn OV PE1 P_nodes P_size P_nid PA hlv hent hfew) hZ (hw _ (List.mem_of_getElem? (i := 64) rfl)) (hw _ (List.mem_of_getElem? (i := 2) rfl)) (by decide) (by decide)) (g := (mkF m 15 #[.val (.ref a1), .val (.int p1), .val (.int p2)] [(.ref es), (.ref ns), (.long (((p2.toInt64) <<< ((32 : Int32).toInt64 &&& 63)) ||| (p1.toInt64))), (.ref a1)])) rfl (by rw [hml]; rfl) (Steps.refl _) (a := a1) cd3 (fun q_ e_ => by rw [e_] at ce3; cases ce3) (argsL := [(.long (((p2.toInt64) <<< ((32 : Int32).toInt64 &&& 63)) ||| (p1.toInt64))), (.ref ns), (.ref es)]) (rest := []) (lenOf pd_8 rfl) rfl (by show 2 * 0 + _ ≤ _; exact Nat.le_of_eq rfl) (hb hby d5_15) (fun _ _ => ⟨rfl, e2, (by decide : 0 + 1 ≤ _), (by decide : 0 + 4 ≤ _)⟩)
  dsimp only [Pt.U, Pt.locs, Pt.cells, Pt.slots] at X3 l3 y3 z3 st3 hQ3
  subst l3 y3 z3
  obtain ⟨nn3, nid3, vs3, rr3, rfl, N3q, Kq3, hle3, Eq3, Fa3, Fb3, Fc3, Aq3, hlv3, hent3, hfew3⟩ := hQ3
  have N3 := Fr.app N0 N3q
  have f3_2 : Exa Z T3.heap a1 "com/example/portunus/portunus/Supports" := Eq3
  have f3_3 : Fld Z T3.heap a1 "com/example/portunus/portunus/Supports" "nodes" "[Lcom/example/portunus/portunus/Support;" (.ref tn) := Fa3
  have f3_4 : Fld Z T3.heap a1 "com/example/portunus/portunus/Supports" "size" "I" (.int (Int32.ofNat nn3)) := Fb3
  have f3_5 : Fld Z T3.heap a1 "com/example/portunus/portunus/Supports" "nextId" "I" (.int nid3) := Fc3
  have f3_6 : Arv Z T3.heap tn kn (.object "com/example/portunus/portunus/Support") (1024 : Int32) vs3 .null := Aq3
  have Zs3 : n0 ≤ T3.heap.size := (Nat.le_trans Z0 Kq3.1)
  have O3 : Old Z n0 T3.heap := O0.keep Kq3 (allS g1 (allS gt1 all0))
  have K3 : Keep h0 T3.heap [a1, tn] := K0.trans Kq3 (allS (Or.inl (List.mem_of_getElem? (i := 0) rfl)) (allS (Or.inl (List.mem_of_getElem? (i := 1) rfl)) all0))
  refine Go.step (fun t_ k_ => st3.trans k_) ?_
  show Go _ _ _ _ _ _ _ T3 (mkF m 18 #[.val (.ref a1), .val (.int p1), .val (.int p2)] [(.ref rr3)])
  refine Go.ret X3 hx hlk hret rfl (Or.inr (Or.inr (Or.inr (Or.inr ⟨rfl, rfl, rfl⟩)))) (hb hby d5_18) ?_ (by decide) (by decide)
  show QOf Z _ _ _ _ _ _ _ _ _ _ _ _ _ T3.heap _
  exact ⟨nn3, nid3, vs3, _, rfl, N3, K3, hle3, f3_2, f3_3, f3_4, f3_5, f3_6, hlv3, hent3, hfew3⟩
theorem ef_rmI (m : MethodId) (a1 : Addr) : entryFrame m #[(.ref a1)] 1 = mkF m 0 #[.val (.ref a1)] [] := by first | (simp [entryFrame, mkF, argsToLocals, Value.category]; done) | rfl
def QI (Z : State) (a1 : Addr) (h0 : Heap) (n0 : Nat) (v : Option Value) (h : Heap) (L : List Loc) : Prop := v = none ∧ Fr n0 L ∧ Keep h0 h [a1] ∧ Exa Z h a1 "com/example/portunus/portunus/Supports" ∧ Fld Z h a1 "com/example/portunus/portunus/Supports" "size" "I" (.int (0 : Int32)) ∧ Fld Z h a1 "com/example/portunus/portunus/Supports" "nextId" "I" (.int (2 : Int32)) ∧ ∃ (tn : Addr) (kn : ClassId), Fld Z h a1 "com/example/portunus/portunus/Supports" "nodes" "[Lcom/example/portunus/portunus/Support;" (.ref tn) ∧ Arv Z h tn kn (.object "com/example/portunus/portunus/Support") (1024 : Int32) [] .null ∧ Ovr Z kn "com/example/portunus/portunus/Support" ∧ n0 ≤ tn ∧ h0.size ≤ tn
theorem d1_0 : decode prog_15_method_1_code 0 = .ok (.aload_n 0, 1) := by decide +kernel
theorem d1_1 : decode prog_15_method_1_code 1 = .ok (.invokespecial 1, 3) := by decide +kernel
theorem d1_4 : decode prog_15_method_1_code 4 = .ok (.aload_n 0, 1) := by decide +kernel
theorem d1_5 : decode prog_15_method_1_code 5 = .ok (.sipush 1024, 3) := by decide +kernel
theorem d1_8 : decode prog_15_method_1_code 8 = .ok (.anewarray 9, 3) := by decide +kernel
theorem d1_11 : decode prog_15_method_1_code 11 = .ok (.putfield 11, 3) := by decide +kernel
theorem d1_14 : decode prog_15_method_1_code 14 = .ok (.aload_n 0, 1) := by decide +kernel
theorem d1_15 : decode prog_15_method_1_code 15 = .ok (.iconst 2, 1) := by decide +kernel
theorem d1_16 : decode prog_15_method_1_code 16 = .ok (.putfield 15, 3) := by decide +kernel
theorem d1_19 : decode prog_15_method_1_code 19 = .ok (.aload_n 0, 1) := by decide +kernel
theorem d1_20 : decode prog_15_method_1_code 20 = .ok (.iconst 3, 1) := by decide +kernel
theorem d1_21 : decode prog_15_method_1_code 21 = .ok (.anewarray 19, 3) := by decide +kernel
theorem d1_24 : decode prog_15_method_1_code 24 = .ok (.dup, 1) := by decide +kernel
theorem d1_25 : decode prog_15_method_1_code 25 = .ok (.iconst 0, 1) := by decide +kernel
theorem d1_26 : decode prog_15_method_1_code 26 = .ok (.sipush 3072, 3) := by decide +kernel
theorem d1_29 : decode prog_15_method_1_code 29 = .ok (.anewarray 9, 3) := by decide +kernel
theorem d1_32 : decode prog_15_method_1_code 32 = .ok (.aastore, 1) := by decide +kernel
theorem d1_33 : decode prog_15_method_1_code 33 = .ok (.dup, 1) := by decide +kernel
theorem d1_34 : decode prog_15_method_1_code 34 = .ok (.iconst 1, 1) := by decide +kernel
theorem d1_35 : decode prog_15_method_1_code 35 = .ok (.sipush 3072, 3) := by decide +kernel
theorem d1_38 : decode prog_15_method_1_code 38 = .ok (.anewarray 9, 3) := by decide +kernel
theorem d1_41 : decode prog_15_method_1_code 41 = .ok (.aastore, 1) := by decide +kernel
theorem d1_42 : decode prog_15_method_1_code 42 = .ok (.dup, 1) := by decide +kernel
theorem d1_43 : decode prog_15_method_1_code 43 = .ok (.iconst 2, 1) := by decide +kernel
theorem d1_44 : decode prog_15_method_1_code 44 = .ok (.sipush 3072, 3) := by decide +kernel
theorem d1_47 : decode prog_15_method_1_code 47 = .ok (.anewarray 9, 3) := by decide +kernel
theorem d1_50 : decode prog_15_method_1_code 50 = .ok (.aastore, 1) := by decide +kernel
theorem d1_51 : decode prog_15_method_1_code 51 = .ok (.putfield 20, 3) := by decide +kernel
theorem d1_54 : decode prog_15_method_1_code 54 = .ok (.aload_n 0, 1) := by decide +kernel
theorem d1_55 : decode prog_15_method_1_code 55 = .ok (.sipush 1024, 3) := by decide +kernel
theorem d1_58 : decode prog_15_method_1_code 58 = .ok (.newarray .int, 2) := by decide +kernel
theorem d1_60 : decode prog_15_method_1_code 60 = .ok (.putfield 24, 3) := by decide +kernel
theorem d1_63 : decode prog_15_method_1_code 63 = .ok (.aload_n 0, 1) := by decide +kernel
theorem d1_64 : decode prog_15_method_1_code 64 = .ok (.sipush 1024, 3) := by decide +kernel
theorem d1_67 : decode prog_15_method_1_code 67 = .ok (.anewarray 9, 3) := by decide +kernel
theorem d1_70 : decode prog_15_method_1_code 70 = .ok (.putfield 28, 3) := by decide +kernel
theorem d1_73 : decode prog_15_method_1_code 73 = .ok (.aload_n 0, 1) := by decide +kernel
theorem d1_74 : decode prog_15_method_1_code 74 = .ok (.sipush 1024, 3) := by decide +kernel
theorem d1_77 : decode prog_15_method_1_code 77 = .ok (.anewarray 9, 3) := by decide +kernel
theorem d1_80 : decode prog_15_method_1_code 80 = .ok (.putfield 31, 3) := by decide +kernel
theorem d1_83 : decode prog_15_method_1_code 83 = .ok (.aload_n 0, 1) := by decide +kernel
theorem d1_84 : decode prog_15_method_1_code 84 = .ok (.sipush 1024, 3) := by decide +kernel
theorem d1_87 : decode prog_15_method_1_code 87 = .ok (.newarray .int, 2) := by decide +kernel
theorem d1_89 : decode prog_15_method_1_code 89 = .ok (.putfield 34, 3) := by decide +kernel
theorem d1_92 : decode prog_15_method_1_code 92 = .ok (.aload_n 0, 1) := by decide +kernel
theorem d1_93 : decode prog_15_method_1_code 93 = .ok (.sipush 1024, 3) := by decide +kernel
theorem d1_96 : decode prog_15_method_1_code 96 = .ok (.newarray .long, 2) := by decide +kernel
theorem d1_98 : decode prog_15_method_1_code 98 = .ok (.putfield 37, 3) := by decide +kernel
theorem d1_101 : decode prog_15_method_1_code 101 = .ok (.aload_n 0, 1) := by decide +kernel
theorem d1_102 : decode prog_15_method_1_code 102 = .ok (.sipush 1024, 3) := by decide +kernel
theorem d1_105 : decode prog_15_method_1_code 105 = .ok (.anewarray 9, 3) := by decide +kernel
theorem d1_108 : decode prog_15_method_1_code 108 = .ok (.putfield 41, 3) := by decide +kernel
theorem d1_111 : decode prog_15_method_1_code 111 = .ok (.aload_n 0, 1) := by decide +kernel
theorem d1_112 : decode prog_15_method_1_code 112 = .ok (.sipush 1024, 3) := by decide +kernel
theorem d1_115 : decode prog_15_method_1_code 115 = .ok (.anewarray 9, 3) := by decide +kernel
theorem d1_118 : decode prog_15_method_1_code 118 = .ok (.putfield 44, 3) := by decide +kernel
theorem d1_121 : decode prog_15_method_1_code 121 = .ok (.aload_n 0, 1) := by decide +kernel
theorem d1_122 : decode prog_15_method_1_code 122 = .ok (.sipush 1024, 3) := by decide +kernel
theorem d1_125 : decode prog_15_method_1_code 125 = .ok (.newarray .long, 2) := by decide +kernel
theorem d1_127 : decode prog_15_method_1_code 127 = .ok (.putfield 47, 3) := by decide +kernel
theorem d1_130 : decode prog_15_method_1_code 130 = .ok (.return_, 1) := by decide +kernel
set_option maxRecDepth 65536 in
set_option maxHeartbeats 40000000 in
theorem rmI (l : Launch) (Z : State) (a0 : Array Value) (hw : ∀ d ∈ tables_1, d.before a0 Z = true) (ws : List Jvm.Cond) (a1 : Addr) (h0 : Heap) (n0 : Nat) (Z0 : n0 ≤ h0.size) (g1 : n0 ≤ a1) (QE1 : Exa Z h0 a1 "com/example/portunus/portunus/Supports") (Q_nodes : Fld Z h0 a1 "com/example/portunus/portunus/Supports" "nodes" "[Lcom/example/portunus/portunus/Support;" .null) (Q_nextId : Fld Z h0 a1 "com/example/portunus/portunus/Supports" "nextId" "I" (.int (0 : Int32))) (Q_caches : Fld Z h0 a1 "com/example/portunus/portunus/Supports" "caches" "[[Lcom/example/portunus/portunus/Support;" .null) (Q_operations : Fld Z h0 a1 "com/example/portunus/portunus/Supports" "operations" "[I" .null) (Q_lefts : Fld Z h0 a1 "com/example/portunus/portunus/Supports" "lefts" "[Lcom/example/portunus/portunus/Support;" .null) (Q_rights : Fld Z h0 a1 "com/example/portunus/portunus/Supports" "rights" "[Lcom/example/portunus/portunus/Support;" .null) (Q_stages : Fld Z h0 a1 "com/example/portunus/portunus/Supports" "stages" "[I" .null) (Q_tops : Fld Z h0 a1 "com/example/portunus/portunus/Supports" "tops" "[J" .null) (Q_firsts : Fld Z h0 a1 "com/example/portunus/portunus/Supports" "firsts" "[Lcom/example/portunus/portunus/Support;" .null) (Q_seconds : Fld Z h0 a1 "com/example/portunus/portunus/Supports" "seconds" "[Lcom/example/portunus/portunus/Support;" .null) (Q_merged : Fld Z h0 a1 "com/example/portunus/portunus/Supports" "merged" "[J" .null) (Q_size : Fld Z h0 a1 "com/example/portunus/portunus/Supports" "size" "I" (.int (0 : Int32))) (Q_inUse : Fld Z h0 a1 "com/example/portunus/portunus/Supports" "inUse" "I" (.int (0 : Int32))) :
    MetFree l (⟨"com/example/portunus/portunus/Supports", "<init>", "()V"⟩ : MethodName) (head1 (Jvm.Cond.code (⟨"com/example/portunus/portunus/Supports", "<init>", "()V"⟩ : MethodName) prog_15_method_1_code 1 none :: ws) ({ frames := 1, cells := 13, slots := 18435, locals := 14 } : Room)) (fun a U => a = #[(.ref a1)] ∧ Z.Warmed39 U.vm ∧ U.heap = h0) (fun _ _ _ _ _ => True) (fun _ U o U' => ∃ v L, o = .returned v ∧ QI Z a1  h0 n0 v U'.heap L ∧ FrameEnd U o U' L ({ frames := 1, cells := 13, slots := 18435, locals := 14 } : Room).cells ({ frames := 1, cells := 13, slots := 18435, locals := 14 } : Room).slots) := by
  refine MetFree.of_bodySF (plainFor_of_name pn_3) hisR ?_
  intro p e s m args below meth c s₁ Bd hml0 hP hK
  obtain ⟨rfl, hZ, hh⟩ := hP
  have hx := Bd.exec
  have hby := Bd.bytes
  have hlk := BodyLoose.notSynchronized Bd
  have hml : c.maxLocals = 1 := hml0
  have hret := Bd.returns
  have hown : s.vm.findClass "com/example/portunus/portunus/Supports" = some m.cls := findClass_of_methodNamed Bd.named
  have hnm := (name_of_methodNamed Bd.named Bd.method).1
  have X0 : Stand p l e ({ frames := 1, cells := 13, slots := 18435, locals := 14 } : Room) s m #[(.ref a1)] below meth c s₁ [] 0 0 := Stand.of_body Bd
  have e0 : s₁.heap = h0 := by rw [← hh, Bd.state]; rfl
  have N0 := Fr.nil n0
  show Go p e below s ({ frames := 1, cells := 13, slots := 18435, locals := 14 } : Room).cells ({ frames := 1, cells := 13, slots := 18435, locals := 14 } : Room).slots (QI Z a1  h0 n0) s₁ (entryFrame m #[(.ref a1)] 1)
  refine Go.cast (ef_rmI m a1) ?_
  have K0 : Keep h0 h0 [a1] := Keep.refl _ _
  show Go _ _ _ _ _ _ _ s₁ (mkF m 0 #[.val (.ref a1)] [])
  refine Go.step (fun t_ k_ => XS.aloadN X0.here hx rfl (hb hby d1_0) rfl rfl k_) ?_
  show Go _ _ _ _ _ _ _ s₁ (mkF m 1 #[.val (.ref a1)] [(.ref a1)])
  obtain ⟨T1, X1, e1, st1⟩ := initO X0 hx hZ hown (hw _ (List.mem_of_getElem? (i := 6) rfl)) (hw _ (List.mem_of_getElem? (i := 7) rfl)) (hw _ (List.mem_of_getElem? (i := 8) rfl)) e0 (g := (mkF m 1 #[.val (.ref a1)] [(.ref a1)])) rfl (by rw [hml]; rfl) rfl (hb hby d1_1) (by decide) (W := 0) (by show 2 * 0 + _ ≤ _; exact Nat.le_of_eq rfl) (by decide)
  refine Go.step st1 ?_
  show Go _ _ _ _ _ _ _ T1 (mkF m 4 #[.val (.ref a1)] [])
  refine Go.step (fun t_ k_ => XS.aloadN X1.here hx rfl (hb hby d1_4) rfl rfl k_) ?_
  show Go _ _ _ _ _ _ _ T1 (mkF m 5 #[.val (.ref a1)] [(.ref a1)])
  refine Go.step (fun t_ k_ => XS.sipush X1.here hx rfl (hb hby d1_5) k_) ?_
  show Go _ _ _ _ _ _ _ T1 (mkF m 8 #[.val (.ref a1)] [(.int (1024 : Int32)), (.ref a1)])
  obtain ⟨T2, h2, k2, X2, e2, E2, A2, hO2, st2⟩ := newR X1 hx hZ hown (hw _ (List.mem_of_getElem? (i := 9) rfl)) (hw _ (List.mem_of_getElem? (i := 10) rfl)) e1 (g := (mkF m 8 #[.val (.ref a1)] [(.int (1024 : Int32)), (.ref a1)])) rfl (hb hby d1_8) rfl (by decide) (cap := 1024) (by decide) (by decide) (by decide) (by decide)
  obtain ⟨r2, g2⟩ : ∃ z, z = h0.size := ⟨_, rfl⟩
  rw [← g2] at A2 st2
  have ne_a1_r2 : a1 ≠ r2 := Nat.ne_of_lt (Nat.lt_of_lt_of_le QE1.lt (Nat.le_of_eq g2.symm))
  have ge_r2 : n0 ≤ r2 := Nat.le_trans Z0 (Nat.le_of_eq g2.symm)
  have geh_r2 : h0.size ≤ r2 := Nat.le_trans K0.1 (Nat.le_of_eq g2.symm)
  have f2_0 : Exa Z h2 a1 "com/example/portunus/portunus/Supports" := (QE1.ext E2)
  have f2_1 : Fld Z h2 a1 "com/example/portunus/portunus/Supports" "nodes" "[Lcom/example/portunus/portunus/Support;" .null := (Q_nodes.ext E2)
  have f2_2 : Fld Z h2 a1 "com/example/portunus/portunus/Supports" "nextId" "I" (.int (0 : Int32)) := (Q_nextId.ext E2)
  have f2_3 : Fld Z h2 a1 "com/example/portunus/portunus/Supports" "caches" "[[Lcom/example/portunus/portunus/Support;" .null := (Q_caches.ext E2)
  have f2_4 : Fld Z h2 a1 "com/example/portunus/portunus/Supports" "operations" "[I" .null := (Q_operations.ext E2)
  have f2_5 : Fld Z h2 a1 "com/example/portunus/portunus/Supports" "lefts" "[Lcom/example/portunus/portunus/Support;" .null := (Q_lefts.ext E2)
  have f2_6 : Fld Z h2 a1 "com/example/portunus/portunus/Supports" "rights" "[Lcom/example/portunus/portunus/Support;" .null := (Q_rights.ext E2)
  have f2_7 : Fld Z h2 a1 "com/example/portunus/portunus/Supports" "stages" "[I" .null := (Q_stages.ext E2)
  have f2_8 : Fld Z h2 a1 "com/example/portunus/portunus/Supports" "tops" "[J" .null := (Q_tops.ext E2)
  have f2_9 : Fld Z h2 a1 "com/example/portunus/portunus/Supports" "firsts" "[Lcom/example/portunus/portunus/Support;" .null := (Q_firsts.ext E2)
  have f2_10 : Fld Z h2 a1 "com/example/portunus/portunus/Supports" "seconds" "[Lcom/example/portunus/portunus/Support;" .null := (Q_seconds.ext E2)
  have f2_11 : Fld Z h2 a1 "com/example/portunus/portunus/Supports" "merged" "[J" .null := (Q_merged.ext E2)
  have f2_12 : Fld Z h2 a1 "com/example/portunus/portunus/Supports" "size" "I" (.int (0 : Int32)) := (Q_size.ext E2)
  have f2_13 : Fld Z h2 a1 "com/example/portunus/portunus/Supports" "inUse" "I" (.int (0 : Int32)) := (Q_inUse.ext E2)
  have f2_14 : Arv Z h2 r2 k2 (.object "com/example/portunus/portunus/Support") (1024 : Int32) [] .null := (Arv.new A2 (by decide))
  have Zs2 : n0 ≤ h2.size := (Nat.le_trans Z0 E2.1)
  have K2 : Keep h0 h2 [a1] := K0.ext E2
  refine Go.step st2 ?_
  show Go _ _ _ _ _ _ _ T2 (mkF m 11 #[.val (.ref a1)] [(.ref r2), (.ref a1)])
  obtain ⟨T3, h3, X3, e3, W3, st3⟩ := putF X2 hx hZ hown (host := "") (Or.inl (hw _ (List.mem_of_getElem? (i := 11) rfl))) Via.refl e2 f2_1 f2_0 (Or.inl (hw _ (List.mem_of_getElem? (i := 12) rfl))) (hw _ (List.mem_of_getElem? (i := 1) rfl)) (ty := (.array (.object "com/example/portunus/portunus/Support"))) (by decide) rfl rfl (g := (mkF m 11 #[.val (.ref a1)] [(.ref r2), (.ref a1)])) rfl rfl (hb hby d1_11)
  have N3 := Fr.snoc X3 N0 g1
  refine Go.step st3 ?_
  have f3_0 : Exa Z h3 a1 "com/example/portunus/portunus/Supports" := (f2_0.wr W3)
  have f3_1 : Fld Z h3 a1 "com/example/portunus/portunus/Supports" "nodes" "[Lcom/example/portunus/portunus/Support;" (.ref r2) := (f2_1.same W3)
  have f3_2 : Fld Z h3 a1 "com/example/portunus/portunus/Supports" "nextId" "I" (.int (0 : Int32)) := (f2_2.other W3 (Or.inr (slot_ne (Or.inl (hw _ (List.mem_of_getElem? (i := 14) rfl))) (Or.inl (hw _ (List.mem_of_getElem? (i := 12) rfl))) (by decide) (t := .int) (t' := (.array (.object "com/example/portunus/portunus/Support"))) (by decide) (by decide))))
  have f3_3 : Fld Z h3 a1 "com/example/portunus/portunus/Supports" "caches" "[[Lcom/example/portunus/portunus/Support;" .null := (f2_3.other W3 (Or.inr (slot_ne (Or.inl (hw _ (List.mem_of_getElem? (i := 19) rfl))) (Or.inl (hw _ (List.mem_of_getElem? (i := 12) rfl))) (by decide) (t := (.array (.array (.object "com/example/portunus/portunus/Support")))) (t' := (.array (.object "com/example/portunus/portunus/Support"))) (by decide) (by decide))))
  have f3_4 : Fld Z h3 a1 "com/example/portunus/portunus/Supports" "operations" "[I" .null := (f2_4.other W3 (Or.inr (slot_ne (Or.inl (hw _ (List.mem_of_getElem? (i := 22) rfl))) (Or.inl (hw _ (List.mem_of_getElem? (i := 12) rfl))) (by decide) (t := (.array .int)) (t' := (.array (.object "com/example/portunus/portunus/Support"))) (by decide) (by decide))))
  have f3_5 : Fld Z h3 a1 "com/example/portunus/portunus/Supports" "lefts" "[Lcom/example/portunus/portunus/Support;" .null := (f2_5.other W3 (Or.inr (slot_ne (Or.inl (hw _ (List.mem_of_getElem? (i := 24) rfl))) (Or.inl (hw _ (List.mem_of_getElem? (i := 12) rfl))) (by decide) (t := (.array (.object "com/example/portunus/portunus/Support"))) (t' := (.array (.object "com/example/portunus/portunus/Support"))) (by decide) (by decide))))
  have f3_6 : Fld Z h3 a1 "com/example/portunus/portunus/Supports" "rights" "[Lcom/example/portunus/portunus/Support;" .null := (f2_6.other W3 (Or.inr (slot_ne (Or.inl (hw _ (List.mem_of_getElem? (i := 26) rfl))) (Or.inl (hw _ (List.mem_of_getElem? (i := 12) rfl))) (by decide) (t := (.array (.object "com/example/portunus/portunus/Support"))) (t' := (.array (.object "com/example/portunus/portunus/Support"))) (by decide) (by decide))))
  have f3_7 : Fld Z h3 a1 "com/example/portunus/portunus/Supports" "stages" "[I" .null := (f2_7.other W3 (Or.inr (slot_ne (Or.inl (hw _ (List.mem_of_getElem? (i := 28) rfl))) (Or.inl (hw _ (List.mem_of_getElem? (i := 12) rfl))) (by decide) (t := (.array .int)) (t' := (.array (.object "com/example/portunus/portunus/Support"))) (by decide) (by decide))))
  have f3_8 : Fld Z h3 a1 "com/example/portunus/portunus/Supports" "tops" "[J" .null := (f2_8.other W3 (Or.inr (slot_ne (Or.inl (hw _ (List.mem_of_getElem? (i := 31) rfl))) (Or.inl (hw _ (List.mem_of_getElem? (i := 12) rfl))) (by decide) (t := (.array .long)) (t' := (.array (.object "com/example/portunus/portunus/Support"))) (by decide) (by decide))))
  have f3_9 : Fld Z h3 a1 "com/example/portunus/portunus/Supports" "firsts" "[Lcom/example/portunus/portunus/Support;" .null := (f2_9.other W3 (Or.inr (slot_ne (Or.inl (hw _ (List.mem_of_getElem? (i := 33) rfl))) (Or.inl (hw _ (List.mem_of_getElem? (i := 12) rfl))) (by decide) (t := (.array (.object "com/example/portunus/portunus/Support"))) (t' := (.array (.object "com/example/portunus/portunus/Support"))) (by decide) (by decide))))
  have f3_10 : Fld Z h3 a1 "com/example/portunus/portunus/Supports" "seconds" "[Lcom/example/portunus/portunus/Support;" .null := (f2_10.other W3 (Or.inr (slot_ne (Or.inl (hw _ (List.mem_of_getElem? (i := 35) rfl))) (Or.inl (hw _ (List.mem_of_getElem? (i := 12) rfl))) (by decide) (t := (.array (.object "com/example/portunus/portunus/Support"))) (t' := (.array (.object "com/example/portunus/portunus/Support"))) (by decide) (by decide))))
  have f3_11 : Fld Z h3 a1 "com/example/portunus/portunus/Supports" "merged" "[J" .null := (f2_11.other W3 (Or.inr (slot_ne (Or.inl (hw _ (List.mem_of_getElem? (i := 37) rfl))) (Or.inl (hw _ (List.mem_of_getElem? (i := 12) rfl))) (by decide) (t := (.array .long)) (t' := (.array (.object "com/example/portunus/portunus/Support"))) (by decide) (by decide))))
  have f3_12 : Fld Z h3 a1 "com/example/portunus/portunus/Supports" "size" "I" (.int (0 : Int32)) := (f2_12.other W3 (Or.inr (slot_ne (Or.inl (hw _ (List.mem_of_getElem? (i := 44) rfl))) (Or.inl (hw _ (List.mem_of_getElem? (i := 12) rfl))) (by decide) (t := .int) (t' := (.array (.object "com/example/portunus/portunus/Support"))) (by decide) (by decide))))
  have f3_13 : Fld Z h3 a1 "com/example/portunus/portunus/Supports" "inUse" "I" (.int (0 : Int32)) := (f2_13.other W3 (Or.inr (slot_ne (Or.inl (hw _ (List.mem_of_getElem? (i := 120) rfl))) (Or.inl (hw _ (List.mem_of_getElem? (i := 12) rfl))) (by decide) (t := .int) (t' := (.array (.object "com/example/portunus/portunus/Support"))) (by decide) (by decide))))
  have f3_14 : Arv Z h3 r2 k2 (.object "com/example/portunus/portunus/Support") (1024 : Int32) [] .null := (f2_14.other W3 (Ne.symm ne_a1_r2))
  have Zs3 : n0 ≤ h3.size := (Nat.le_trans Zs2 (Keep.of_wr W3).1)
  have K3 : Keep h0 h3 [a1] := K2.wr W3 (Or.inl (List.mem_of_getElem? (i := 0) rfl))
  show Go _ _ _ _ _ _ _ T3 (mkF m 14 #[.val (.ref a1)] [])
  refine Go.step (fun t_ k_ => XS.aloadN X3.here hx rfl (hb hby d1_14) rfl rfl k_) ?_
  show Go _ _ _ _ _ _ _ T3 (mkF m 15 #[.val (.ref a1)] [(.ref a1)])
  refine Go.step (fun t_ k_ => XS.iconst X3.here hx rfl (hb hby d1_15) k_) ?_
  show Go _ _ _ _ _ _ _ T3 (mkF m 16 #[.val (.ref a1)] [(.int (2 : Int32)), (.ref a1)])
  obtain ⟨T4, h4, X4, e4, W4, st4⟩ := putF X3 hx hZ hown (host := "") (Or.inl (hw _ (List.mem_of_getElem? (i := 13) rfl))) Via.refl e3 f3_2 f3_0 (Or.inl (hw _ (List.mem_of_getElem? (i := 14) rfl))) (hw _ (List.mem_of_getElem? (i := 1) rfl)) (ty := .int) (by decide) rfl rfl (g := (mkF m 16 #[.val (.ref a1)] [(.int (2 : Int32)), (.ref a1)])) rfl rfl (hb hby d1_16)
  have N4 := Fr.snoc X4 N3 g1
  refine Go.step st4 ?_
  have f4_0 : Exa Z h4 a1 "com/example/portunus/portunus/Supports" := (f3_0.wr W4)
  have f4_1 : Fld Z h4 a1 "com/example/portunus/portunus/Supports" "nodes" "[Lcom/example/portunus/portunus/Support;" (.ref r2) := (f3_1.other W4 (Or.inr (slot_ne (Or.inl (hw _ (List.mem_of_getElem? (i := 12) rfl))) (Or.inl (hw _ (List.mem_of_getElem? (i := 14) rfl))) (by decide) (t := (.array (.object "com/example/portunus/portunus/Support"))) (t' := .int) (by decide) (by decide))))
  have f4_2 : Fld Z h4 a1 "com/example/portunus/portunus/Supports" "nextId" "I" (.int (2 : Int32)) := (f3_2.same W4)
  have f4_3 : Fld Z h4 a1 "com/example/portunus/portunus/Supports" "caches" "[[Lcom/example/portunus/portunus/Support;" .null := (f3_3.other W4 (Or.inr (slot_ne (Or.inl (hw _ (List.mem_of_getElem? (i := 19) rfl))) (Or.inl (hw _ (List.mem_of_getElem? (i := 14) rfl))) (by decide) (t := (.array (.array (.object "com/example/portunus/portunus/Support")))) (t' := .int) (by decide) (by decide))))
  have f4_4 : Fld Z h4 a1 "com/example/portunus/portunus/Supports" "operations" "[I" .null := (f3_4.other W4 (Or.inr (slot_ne (Or.inl (hw _ (List.mem_of_getElem? (i := 22) rfl))) (Or.inl (hw _ (List.mem_of_getElem? (i := 14) rfl))) (by decide) (t := (.array .int)) (t' := .int) (by decide) (by decide))))
  have f4_5 : Fld Z h4 a1 "com/example/portunus/portunus/Supports" "lefts" "[Lcom/example/portunus/portunus/Support;" .null := (f3_5.other W4 (Or.inr (slot_ne (Or.inl (hw _ (List.mem_of_getElem? (i := 24) rfl))) (Or.inl (hw _ (List.mem_of_getElem? (i := 14) rfl))) (by decide) (t := (.array (.object "com/example/portunus/portunus/Support"))) (t' := .int) (by decide) (by decide))))
  have f4_6 : Fld Z h4 a1 "com/example/portunus/portunus/Supports" "rights" "[Lcom/example/portunus/portunus/Support;" .null := (f3_6.other W4 (Or.inr (slot_ne (Or.inl (hw _ (List.mem_of_getElem? (i := 26) rfl))) (Or.inl (hw _ (List.mem_of_getElem? (i := 14) rfl))) (by decide) (t := (.array (.object "com/example/portunus/portunus/Support"))) (t' := .int) (by decide) (by decide))))
  have f4_7 : Fld Z h4 a1 "com/example/portunus/portunus/Supports" "stages" "[I" .null := (f3_7.other W4 (Or.inr (slot_ne (Or.inl (hw _ (List.mem_of_getElem? (i := 28) rfl))) (Or.inl (hw _ (List.mem_of_getElem? (i := 14) rfl))) (by decide) (t := (.array .int)) (t' := .int) (by decide) (by decide))))
  have f4_8 : Fld Z h4 a1 "com/example/portunus/portunus/Supports" "tops" "[J" .null := (f3_8.other W4 (Or.inr (slot_ne (Or.inl (hw _ (List.mem_of_getElem? (i := 31) rfl))) (Or.inl (hw _ (List.mem_of_getElem? (i := 14) rfl))) (by decide) (t := (.array .long)) (t' := .int) (by decide) (by decide))))
  have f4_9 : Fld Z h4 a1 "com/example/portunus/portunus/Supports" "firsts" "[Lcom/example/portunus/portunus/Support;" .null := (f3_9.other W4 (Or.inr (slot_ne (Or.inl (hw _ (List.mem_of_getElem? (i := 33) rfl))) (Or.inl (hw _ (List.mem_of_getElem? (i := 14) rfl))) (by decide) (t := (.array (.object "com/example/portunus/portunus/Support"))) (t' := .int) (by decide) (by decide))))
  have f4_10 : Fld Z h4 a1 "com/example/portunus/portunus/Supports" "seconds" "[Lcom/example/portunus/portunus/Support;" .null := (f3_10.other W4 (Or.inr (slot_ne (Or.inl (hw _ (List.mem_of_getElem? (i := 35) rfl))) (Or.inl (hw _ (List.mem_of_getElem? (i := 14) rfl))) (by decide) (t := (.array (.object "com/example/portunus/portunus/Support"))) (t' := .int) (by decide) (by decide))))
  have f4_11 : Fld Z h4 a1 "com/example/portunus/portunus/Supports" "merged" "[J" .null := (f3_11.other W4 (Or.inr (slot_ne (Or.inl (hw _ (List.mem_of_getElem? (i := 37) rfl))) (Or.inl (hw _ (List.mem_of_getElem? (i := 14) rfl))) (by decide) (t := (.array .long)) (t' := .int) (by decide) (by decide))))
  have f4_12 : Fld Z h4 a1 "com/example/portunus/portunus/Supports" "size" "I" (.int (0 : Int32)) := (f3_12.other W4 (Or.inr (slot_ne (Or.inl (hw _ (List.mem_of_getElem? (i := 44) rfl))) (Or.inl (hw _ (List.mem_of_getElem? (i := 14) rfl))) (by decide) (t := .int) (t' := .int) (by decide) (by decide))))
  have f4_13 : Fld Z h4 a1 "com/example/portunus/portunus/Supports" "inUse" "I" (.int (0 : Int32)) := (f3_13.other W4 (Or.inr (slot_ne (Or.inl (hw _ (List.mem_of_getElem? (i := 120) rfl))) (Or.inl (hw _ (List.mem_of_getElem? (i := 14) rfl))) (by decide) (t := .int) (t' := .int) (by decide) (by decide))))
  have f4_14 : Arv Z h4 r2 k2 (.object "com/example/portunus/portunus/Support") (1024 : Int32) [] .null := (f3_14.other W4 (Ne.symm ne_a1_r2))
  have Zs4 : n0 ≤ h4.size := (Nat.le_trans Zs3 (Keep.of_wr W4).1)
  have K4 : Keep h0 h4 [a1] := K3.wr W4 (Or.inl (List.mem_of_getElem? (i := 0) rfl))
  show Go _ _ _ _ _ _ _ T4 (mkF m 19 #[.val (.ref a1)] [])
  refine Go.step (fun t_ k_ => XS.aloadN X4.here hx rfl (hb hby d1_19) rfl rfl k_) ?_
  show Go _ _ _ _ _ _ _ T4 (mkF m 20 #[.val (.ref a1)] [(.ref a1)])
  refine Go.step (fun t_ k_ => XS.iconst X4.here hx rfl (hb hby d1_20) k_) ?_
  show Go _ _ _ _ _ _ _ T4 (mkF m 21 #[.val (.ref a1)] [(.int (3 : Int32)), (.ref a1)])
  obtain ⟨T5, h5, k5, X5, e5, E5, A5, xA5, hO5, st5⟩ := newRA X4 hx hZ hown (C := "[Lcom/example/portunus/portunus/Support;") rfl (hw _ (List.mem_of_getElem? (i := 15) rfl)) (hw _ (List.mem_of_getElem? (i := 16) rfl)) e4 (g := (mkF m 21 #[.val (.ref a1)] [(.int (3 : Int32)), (.ref a1)])) rfl (hb hby d1_21) rfl (by decide) (cap := 3) (by decide) (by decide) (by decide) (by decide) (ad := "[[Lcom/example/portunus/portunus/Support;") rfl
  obtain ⟨r5, g5⟩ : ∃ z, z = h4.size := ⟨_, rfl⟩
  rw [← g5] at A5 st5
  have ne_a1_r5 : a1 ≠ r5 := Nat.ne_of_lt (Nat.lt_of_lt_of_le f4_0.lt (Nat.le_of_eq g5.symm))
  have ne_r2_r5 : r2 ≠ r5 := Nat.ne_of_lt (Nat.lt_of_lt_of_le f4_14.lt (Nat.le_of_eq g5.symm))
  have ge_r5 : n0 ≤ r5 := Nat.le_trans Zs4 (Nat.le_of_eq g5.symm)
  have geh_r5 : h0.size ≤ r5 := Nat.le_trans K4.1 (Nat.le_of_eq g5.symm)
  have f5_0 : Exa Z h5 a1 "com/example/portunus/portunus/Supports" := (f4_0.ext E5)
  have f5_1 : Fld Z h5 a1 "com/example/portunus/portunus/Supports" "nodes" "[Lcom/example/portunus/portunus/Support;" (.ref r2) := (f4_1.ext E5)
  have f5_2 : Fld Z h5 a1 "com/example/portunus/portunus/Supports" "nextId" "I" (.int (2 : Int32)) := (f4_2.ext E5)
  have f5_3 : Fld Z h5 a1 "com/example/portunus/portunus/Supports" "caches" "[[Lcom/example/portunus/portunus/Support;" .null := (f4_3.ext E5)
  have f5_4 : Fld Z h5 a1 "com/example/portunus/portunus/Supports" "operations" "[I" .null := (f4_4.ext E5)
  have f5_5 : Fld Z h5 a1 "com/example/portunus/portunus/Supports" "lefts" "[Lcom/example/portunus/portunus/Support;" .null := (f4_5.ext E5)
  have f5_6 : Fld Z h5 a1 "com/example/portunus/portunus/Supports" "rights" "[Lcom/example/portunus/portunus/Support;" .null := (f4_6.ext E5)
  have f5_7 : Fld Z h5 a1 "com/example/portunus/portunus/Supports" "stages" "[I" .null := (f4_7.ext E5)
  have f5_8 : Fld Z h5 a1 "com/example/portunus/portunus/Supports" "tops" "[J" .null := (f4_8.ext E5)
  have f5_9 : Fld Z h5 a1 "com/example/portunus/portunus/Supports" "firsts" "[Lcom/example/portunus/portunus/Support;" .null := (f4_9.ext E5)
  have f5_10 : Fld Z h5 a1 "com/example/portunus/portunus/Supports" "seconds" "[Lcom/example/portunus/portunus/Support;" .null := (f4_10.ext E5)
  have f5_11 : Fld Z h5 a1 "com/example/portunus/portunus/Supports" "merged" "[J" .null := (f4_11.ext E5)
  have f5_12 : Fld Z h5 a1 "com/example/portunus/portunus/Supports" "size" "I" (.int (0 : Int32)) := (f4_12.ext E5)
  have f5_13 : Fld Z h5 a1 "com/example/portunus/portunus/Supports" "inUse" "I" (.int (0 : Int32)) := (f4_13.ext E5)
  have f5_14 : Arv Z h5 r2 k2 (.object "com/example/portunus/portunus/Support") (1024 : Int32) [] .null := (f4_14.ext E5)
  have f5_15 : Arv Z h5 r5 k5 (.array (.object "com/example/portunus/portunus/Support")) (3 : Int32) [.null, .null, .null] .null := ((Arv.new A5 (by decide)).pad (pad_rep [] .null 3))
  have Zs5 : n0 ≤ h5.size := (Nat.le_trans Zs4 E5.1)
  have K5 : Keep h0 h5 [a1] := K4.ext E5
  refine Go.step st5 ?_
  show Go _ _ _ _ _ _ _ T5 (mkF m 24 #[.val (.ref a1)] [(.ref r5), (.ref a1)])
  refine Go.step (fun t_ k_ => XS.dup X5.here hx rfl (hb hby d1_24) rfl rfl k_) ?_
  show Go _ _ _ _ _ _ _ T5 (mkF m 25 #[.val (.ref a1)] [(.ref r5), (.ref r5), (.ref a1)])
  refine Go.step (fun t_ k_ => XS.iconst X5.here hx rfl (hb hby d1_25) k_) ?_
  show Go _ _ _ _ _ _ _ T5 (mkF m 26 #[.val (.ref a1)] [(.int (0 : Int32)), (.ref r5), (.ref r5), (.ref a1)])
  refine Go.step (fun t_ k_ => XS.sipush X5.here hx rfl (hb hby d1_26) k_) ?_
  show Go _ _ _ _ _ _ _ T5 (mkF m 29 #[.val (.ref a1)] [(.int (3072 : Int32)), (.int (0 : Int32)), (.ref r5), (.ref r5), (.ref a1)])
  obtain ⟨T6, h6, k6, X6, e6, E6, A6, xA6, hO6, st6⟩ := newRE X5 hx hZ hown (hw _ (List.mem_of_getElem? (i := 9) rfl)) (hw _ (List.mem_of_getElem? (i := 10) rfl)) e5 (g := (mkF m 29 #[.val (.ref a1)] [(.int (3072 : Int32)), (.int (0 : Int32)), (.ref r5), (.ref r5), (.ref a1)])) rfl (hb hby d1_29) rfl (by decide) (cap := 3072) (by decide) (by decide) (by decide) (by decide) (ad := "[Lcom/example/portunus/portunus/Support;") rfl
  obtain ⟨yA6, zA6⟩ : ∃ z_, z_ = h5.size := ⟨_, rfl⟩
  rw [← zA6] at xA6
  obtain ⟨r6, g6⟩ : ∃ z, z = h5.size := ⟨_, rfl⟩
  rw [← g6] at A6 st6
  have ne_a1_r6 : a1 ≠ r6 := Nat.ne_of_lt (Nat.lt_of_lt_of_le f5_0.lt (Nat.le_of_eq g6.symm))
  have ne_r2_r6 : r2 ≠ r6 := Nat.ne_of_lt (Nat.lt_of_lt_of_le f5_14.lt (Nat.le_of_eq g6.symm))
  have ne_r5_r6 : r5 ≠ r6 := Nat.ne_of_lt (Nat.lt_of_lt_of_le f5_15.lt (Nat.le_of_eq g6.symm))
  have ge_r6 : n0 ≤ r6 := Nat.le_trans Zs5 (Nat.le_of_eq g6.symm)
  have geh_r6 : h0.size ≤ r6 := Nat.le_trans K5.1 (Nat.le_of_eq g6.symm)
  have f6_0 : Exa Z h6 a1 "com/example/portunus/portunus/Supports" := (f5_0.ext E6)
  have f6_1 : Fld Z h6 a1 "com/example/portunus/portunus/Supports" "nodes" "[Lcom/example/portunus/portunus/Support;" (.ref r2) := (f5_1.ext E6)
  have f6_2 : Fld Z h6 a1 "com/example/portunus/portunus/Supports" "nextId" "I" (.int (2 : Int32)) := (f5_2.ext E6)
  have f6_3 : Fld Z h6 a1 "com/example/portunus/portunus/Supports" "caches" "[[Lcom/example/portunus/portunus/Support;" .null := (f5_3.ext E6)
  have f6_4 : Fld Z h6 a1 "com/example/portunus/portunus/Supports" "operations" "[I" .null := (f5_4.ext E6)
  have f6_5 : Fld Z h6 a1 "com/example/portunus/portunus/Supports" "lefts" "[Lcom/example/portunus/portunus/Support;" .null := (f5_5.ext E6)
  have f6_6 : Fld Z h6 a1 "com/example/portunus/portunus/Supports" "rights" "[Lcom/example/portunus/portunus/Support;" .null := (f5_6.ext E6)
  have f6_7 : Fld Z h6 a1 "com/example/portunus/portunus/Supports" "stages" "[I" .null := (f5_7.ext E6)
  have f6_8 : Fld Z h6 a1 "com/example/portunus/portunus/Supports" "tops" "[J" .null := (f5_8.ext E6)
  have f6_9 : Fld Z h6 a1 "com/example/portunus/portunus/Supports" "firsts" "[Lcom/example/portunus/portunus/Support;" .null := (f5_9.ext E6)
  have f6_10 : Fld Z h6 a1 "com/example/portunus/portunus/Supports" "seconds" "[Lcom/example/portunus/portunus/Support;" .null := (f5_10.ext E6)
  have f6_11 : Fld Z h6 a1 "com/example/portunus/portunus/Supports" "merged" "[J" .null := (f5_11.ext E6)
  have f6_12 : Fld Z h6 a1 "com/example/portunus/portunus/Supports" "size" "I" (.int (0 : Int32)) := (f5_12.ext E6)
  have f6_13 : Fld Z h6 a1 "com/example/portunus/portunus/Supports" "inUse" "I" (.int (0 : Int32)) := (f5_13.ext E6)
  have f6_14 : Arv Z h6 r2 k2 (.object "com/example/portunus/portunus/Support") (1024 : Int32) [] .null := (f5_14.ext E6)
  have f6_15 : Arv Z h6 r5 k5 (.array (.object "com/example/portunus/portunus/Support")) (3 : Int32) [.null, .null, .null] .null := (f5_15.ext E6)
  have f6_16 : Arv Z h6 r6 k6 (.object "com/example/portunus/portunus/Support") (3072 : Int32) [] .null := (Arv.new A6 (by decide))
  have Zs6 : n0 ≤ h6.size := (Nat.le_trans Zs5 E6.1)
  have K6 : Keep h0 h6 [a1] := K5.ext E6
  refine Go.step st6 ?_
  have xB6 : Exa Z h6 r6 "[Lcom/example/portunus/portunus/Support;" := (zA6.trans g6.symm) ▸ xA6
  show Go _ _ _ _ _ _ _ T6 (mkF m 32 #[.val (.ref a1)] [(.ref r6), (.int (0 : Int32)), (.ref r5), (.ref r5), (.ref a1)])
  obtain ⟨c7, Ar7, q7, S7, M7, H7, U7⟩ := id f6_15
  obtain ⟨T7, h7, X7, e7, W7, st7⟩ := stR X6 hx hZ e6 Ar7 (j := (0 : Int32)) (inb_of S7 ⟨(by decide), (by decide)⟩) rfl (Sto.ofVA Ar7 q7 hO5 (Ins.self xB6)) (g := (mkF m 32 #[.val (.ref a1)] [(.ref r6), (.int (0 : Int32)), (.ref r5), (.ref r5), (.ref a1)])) rfl rfl (hb hby d1_32)
  have N7 := Fr.snoc X7 N4 ge_r5
  refine Go.step st7 ?_
  have f7_0 : Exa Z h7 a1 "com/example/portunus/portunus/Supports" := (f6_0.wr W7)
  have f7_1 : Fld Z h7 a1 "com/example/portunus/portunus/Supports" "nodes" "[Lcom/example/portunus/portunus/Support;" (.ref r2) := (f6_1.other W7 (Or.inl ne_a1_r5))
  have f7_2 : Fld Z h7 a1 "com/example/portunus/portunus/Supports" "nextId" "I" (.int (2 : Int32)) := (f6_2.other W7 (Or.inl ne_a1_r5))
  have f7_3 : Fld Z h7 a1 "com/example/portunus/portunus/Supports" "caches" "[[Lcom/example/portunus/portunus/Support;" .null := (f6_3.other W7 (Or.inl ne_a1_r5))
  have f7_4 : Fld Z h7 a1 "com/example/portunus/portunus/Supports" "operations" "[I" .null := (f6_4.other W7 (Or.inl ne_a1_r5))
  have f7_5 : Fld Z h7 a1 "com/example/portunus/portunus/Supports" "lefts" "[Lcom/example/portunus/portunus/Support;" .null := (f6_5.other W7 (Or.inl ne_a1_r5))
  have f7_6 : Fld Z h7 a1 "com/example/portunus/portunus/Supports" "rights" "[Lcom/example/portunus/portunus/Support;" .null := (f6_6.other W7 (Or.inl ne_a1_r5))
  have f7_7 : Fld Z h7 a1 "com/example/portunus/portunus/Supports" "stages" "[I" .null := (f6_7.other W7 (Or.inl ne_a1_r5))
  have f7_8 : Fld Z h7 a1 "com/example/portunus/portunus/Supports" "tops" "[J" .null := (f6_8.other W7 (Or.inl ne_a1_r5))
  have f7_9 : Fld Z h7 a1 "com/example/portunus/portunus/Supports" "firsts" "[Lcom/example/portunus/portunus/Support;" .null := (f6_9.other W7 (Or.inl ne_a1_r5))
  have f7_10 : Fld Z h7 a1 "com/example/portunus/portunus/Supports" "seconds" "[Lcom/example/portunus/portunus/Support;" .null := (f6_10.other W7 (Or.inl ne_a1_r5))
  have f7_11 : Fld Z h7 a1 "com/example/portunus/portunus/Supports" "merged" "[J" .null := (f6_11.other W7 (Or.inl ne_a1_r5))
  have f7_12 : Fld Z h7 a1 "com/example/portunus/portunus/Supports" "size" "I" (.int (0 : Int32)) := (f6_12.other W7 (Or.inl ne_a1_r5))
  have f7_13 : Fld Z h7 a1 "com/example/portunus/portunus/Supports" "inUse" "I" (.int (0 : Int32)) := (f6_13.other W7 (Or.inl ne_a1_r5))
  have f7_14 : Arv Z h7 r2 k2 (.object "com/example/portunus/portunus/Support") (1024 : Int32) [] .null := (f6_14.other W7 ne_r2_r5)
  have f7_15 : Arv Z h7 r6 k6 (.object "com/example/portunus/portunus/Support") (3072 : Int32) [] .null := (f6_16.other W7 (Ne.symm ne_r5_r6))
  have f7_16 : Exa Z h7 r6 "[Lcom/example/portunus/portunus/Support;" := (xB6.wr W7)
  have Zs7 : n0 ≤ h7.size := (Nat.le_trans Zs6 (Keep.of_wr W7).1)
  have K7 : Keep h0 h7 [a1] := K6.wr W7 (Or.inr geh_r5)
  have fA7 : Arv Z h7 r5 k5 (.array (.object "com/example/portunus/portunus/Support")) (3 : Int32) [(.ref r6), .null, .null] .null := (Arv.set Ar7 q7 S7 M7 H7 U7 rfl W7 0 rfl (Nat.le_of_ble_eq_true rfl))
  show Go _ _ _ _ _ _ _ T7 (mkF m 33 #[.val (.ref a1)] [(.ref r5), (.ref a1)])
  refine Go.step (fun t_ k_ => XS.dup X7.here hx rfl (hb hby d1_33) rfl rfl k_) ?_
  show Go _ _ _ _ _ _ _ T7 (mkF m 34 #[.val (.ref a1)] [(.ref r5), (.ref r5), (.ref a1)])
  refine Go.step (fun t_ k_ => XS.iconst X7.here hx rfl (hb hby d1_34) k_) ?_
  show Go _ _ _ _ _ _ _ T7 (mkF m 35 #[.val (.ref a1)] [(.int (1 : Int32)), (.ref r5), (.ref r5), (.ref a1)])
  refine Go.step (fun t_ k_ => XS.sipush X7.here hx rfl (hb hby d1_35) k_) ?_
  show Go _ _ _ _ _ _ _ T7 (mkF m 38 #[.val (.ref a1)] [(.int (3072 : Int32)), (.int (1 : Int32)), (.ref r5), (.ref r5), (.ref a1)])
  obtain ⟨T8, h8, k8, X8, e8, E8, A8, xA8, hO8, st8⟩ := newRE X7 hx hZ hown (hw _ (List.mem_of_getElem? (i := 9) rfl)) (hw _ (List.mem_of_getElem? (i := 10) rfl)) e7 (g := (mkF m 38 #[.val (.ref a1)] [(.int (3072 : Int32)), (.int (1 : Int32)), (.ref r5), (.ref r5), (.ref a1)])) rfl (hb hby d1_38) rfl (by decide) (cap := 3072) (by decide) (by decide) (by decide) (by decide) (ad := "[Lcom/example/portunus/portunus/Support;") rfl
  obtain ⟨yA8, zA8⟩ : ∃ z_, z_ = h7.size := ⟨_, rfl⟩
  rw [← zA8] at xA8
  obtain ⟨r8, g8⟩ : ∃ z, z = h7.size := ⟨_, rfl⟩
  rw [← g8] at A8 st8
  have ne_a1_r8 : a1 ≠ r8 := Nat.ne_of_lt (Nat.lt_of_lt_of_le f7_0.lt (Nat.le_of_eq g8.symm))
  have ne_r2_r8 : r2 ≠ r8 := Nat.ne_of_lt (Nat.lt_of_lt_of_le f7_14.lt (Nat.le_of_eq g8.symm))
  have ne_r6_r8 : r6 ≠ r8 := Nat.ne_of_lt (Nat.lt_of_lt_of_le f7_15.lt (Nat.le_of_eq g8.symm))
  have ne_r5_r8 : r5 ≠ r8 := Nat.ne_of_lt (Nat.lt_of_lt_of_le fA7.lt (Nat.le_of_eq g8.symm))
  have ge_r8 : n0 ≤ r8 := Nat.le_trans Zs7 (Nat.le_of_eq g8.symm)
  have geh_r8 : h0.size ≤ r8 := Nat.le_trans K7.1 (Nat.le_of_eq g8.symm)
  have f8_0 : Exa Z h8 a1 "com/example/portunus/portunus/Supports" := (f7_0.ext E8)
  have f8_1 : Fld Z h8 a1 "com/example/portunus/portunus/Supports" "nodes" "[Lcom/example/portunus/portunus/Support;" (.ref r2) := (f7_1.ext E8)
  have f8_2 : Fld Z h8 a1 "com/example/portunus/portunus/Supports" "nextId" "I" (.int (2 : Int32)) := (f7_2.ext E8)
  have f8_3 : Fld Z h8 a1 "com/example/portunus/portunus/Supports" "caches" "[[Lcom/example/portunus/portunus/Support;" .null := (f7_3.ext E8)
  have f8_4 : Fld Z h8 a1 "com/example/portunus/portunus/Supports" "operations" "[I" .null := (f7_4.ext E8)
  have f8_5 : Fld Z h8 a1 "com/example/portunus/portunus/Supports" "lefts" "[Lcom/example/portunus/portunus/Support;" .null := (f7_5.ext E8)
  have f8_6 : Fld Z h8 a1 "com/example/portunus/portunus/Supports" "rights" "[Lcom/example/portunus/portunus/Support;" .null := (f7_6.ext E8)
  have f8_7 : Fld Z h8 a1 "com/example/portunus/portunus/Supports" "stages" "[I" .null := (f7_7.ext E8)
  have f8_8 : Fld Z h8 a1 "com/example/portunus/portunus/Supports" "tops" "[J" .null := (f7_8.ext E8)
  have f8_9 : Fld Z h8 a1 "com/example/portunus/portunus/Supports" "firsts" "[Lcom/example/portunus/portunus/Support;" .null := (f7_9.ext E8)
  have f8_10 : Fld Z h8 a1 "com/example/portunus/portunus/Supports" "seconds" "[Lcom/example/portunus/portunus/Support;" .null := (f7_10.ext E8)
  have f8_11 : Fld Z h8 a1 "com/example/portunus/portunus/Supports" "merged" "[J" .null := (f7_11.ext E8)
  have f8_12 : Fld Z h8 a1 "com/example/portunus/portunus/Supports" "size" "I" (.int (0 : Int32)) := (f7_12.ext E8)
  have f8_13 : Fld Z h8 a1 "com/example/portunus/portunus/Supports" "inUse" "I" (.int (0 : Int32)) := (f7_13.ext E8)
  have f8_14 : Arv Z h8 r2 k2 (.object "com/example/portunus/portunus/Support") (1024 : Int32) [] .null := (f7_14.ext E8)
  have f8_15 : Arv Z h8 r6 k6 (.object "com/example/portunus/portunus/Support") (3072 : Int32) [] .null := (f7_15.ext E8)
  have f8_16 : Exa Z h8 r6 "[Lcom/example/portunus/portunus/Support;" := (f7_16.ext E8)
  have f8_17 : Arv Z h8 r5 k5 (.array (.object "com/example/portunus/portunus/Support")) (3 : Int32) [(.ref r6), .null, .null] .null := (fA7.ext E8)
  have f8_18 : Arv Z h8 r8 k8 (.object "com/example/portunus/portunus/Support") (3072 : Int32) [] .null := (Arv.new A8 (by decide))
  have Zs8 : n0 ≤ h8.size := (Nat.le_trans Zs7 E8.1)
  have K8 : Keep h0 h8 [a1] := K7.ext E8
  refine Go.step st8 ?_
  have xB8 : Exa Z h8 r8 "[Lcom/example/portunus/portunus/Support;" := (zA8.trans g8.symm) ▸ xA8
  show Go _ _ _ _ _ _ _ T8 (mkF m 41 #[.val (.ref a1)] [(.ref r8), (.int (1 : Int32)), (.ref r5), (.ref r5), (.ref a1)])
  obtain ⟨c9, Ar9, q9, S9, M9, H9, U9⟩ := id f8_17
  obtain ⟨T9, h9, X9, e9, W9, st9⟩ := stR X8 hx hZ e8 Ar9 (j := (1 : Int32)) (inb_of S9 ⟨(by decide), (by decide)⟩) rfl (Sto.ofVA Ar9 q9 hO5 (Ins.self xB8)) (g := (mkF m 41 #[.val (.ref a1)] [(.ref r8), (.int (1 : Int32)), (.ref r5), (.ref r5), (.ref a1)])) rfl rfl (hb hby d1_41)
  have N9 := Fr.snoc X9 N7 ge_r5
  refine Go.step st9 ?_
  have f9_0 : Exa Z h9 a1 "com/example/portunus/portunus/Supports" := (f8_0.wr W9)
  have f9_1 : Fld Z h9 a1 "com/example/portunus/portunus/Supports" "nodes" "[Lcom/example/portunus/portunus/Support;" (.ref r2) := (f8_1.other W9 (Or.inl ne_a1_r5))
  have f9_2 : Fld Z h9 a1 "com/example/portunus/portunus/Supports" "nextId" "I" (.int (2 : Int32)) := (f8_2.other W9 (Or.inl ne_a1_r5))
  have f9_3 : Fld Z h9 a1 "com/example/portunus/portunus/Supports" "caches" "[[Lcom/example/portunus/portunus/Support;" .null := (f8_3.other W9 (Or.inl ne_a1_r5))
  have f9_4 : Fld Z h9 a1 "com/example/portunus/portunus/Supports" "operations" "[I" .null := (f8_4.other W9 (Or.inl ne_a1_r5))
  have f9_5 : Fld Z h9 a1 "com/example/portunus/portunus/Supports" "lefts" "[Lcom/example/portunus/portunus/Support;" .null := (f8_5.other W9 (Or.inl ne_a1_r5))
  have f9_6 : Fld Z h9 a1 "com/example/portunus/portunus/Supports" "rights" "[Lcom/example/portunus/portunus/Support;" .null := (f8_6.other W9 (Or.inl ne_a1_r5))
  have f9_7 : Fld Z h9 a1 "com/example/portunus/portunus/Supports" "stages" "[I" .null := (f8_7.other W9 (Or.inl ne_a1_r5))
  have f9_8 : Fld Z h9 a1 "com/example/portunus/portunus/Supports" "tops" "[J" .null := (f8_8.other W9 (Or.inl ne_a1_r5))
  have f9_9 : Fld Z h9 a1 "com/example/portunus/portunus/Supports" "firsts" "[Lcom/example/portunus/portunus/Support;" .null := (f8_9.other W9 (Or.inl ne_a1_r5))
  have f9_10 : Fld Z h9 a1 "com/example/portunus/portunus/Supports" "seconds" "[Lcom/example/portunus/portunus/Support;" .null := (f8_10.other W9 (Or.inl ne_a1_r5))
  have f9_11 : Fld Z h9 a1 "com/example/portunus/portunus/Supports" "merged" "[J" .null := (f8_11.other W9 (Or.inl ne_a1_r5))
  have f9_12 : Fld Z h9 a1 "com/example/portunus/portunus/Supports" "size" "I" (.int (0 : Int32)) := (f8_12.other W9 (Or.inl ne_a1_r5))
  have f9_13 : Fld Z h9 a1 "com/example/portunus/portunus/Supports" "inUse" "I" (.int (0 : Int32)) := (f8_13.other W9 (Or.inl ne_a1_r5))
  have f9_14 : Arv Z h9 r2 k2 (.object "com/example/portunus/portunus/Support") (1024 : Int32) [] .null := (f8_14.other W9 ne_r2_r5)
  have f9_15 : Arv Z h9 r6 k6 (.object "com/example/portunus/portunus/Support") (3072 : Int32) [] .null := (f8_15.other W9 (Ne.symm ne_r5_r6))
  have f9_16 : Exa Z h9 r6 "[Lcom/example/portunus/portunus/Support;" := (f8_16.wr W9)
  have f9_17 : Arv Z h9 r8 k8 (.object "com/example/portunus/portunus/Support") (3072 : Int32) [] .null := (f8_18.other W9 (Ne.symm ne_r5_r8))
  have f9_18 : Exa Z h9 r8 "[Lcom/example/portunus/portunus/Support;" := (xB8.wr W9)
  have Zs9 : n0 ≤ h9.size := (Nat.le_trans Zs8 (Keep.of_wr W9).1)
  have K9 : Keep h0 h9 [a1] := K8.wr W9 (Or.inr geh_r5)
  have fA9 : Arv Z h9 r5 k5 (.array (.object "com/example/portunus/portunus/Support")) (3 : Int32) [(.ref r6), (.ref r8), .null] .null := (Arv.set Ar9 q9 S9 M9 H9 U9 rfl W9 1 rfl (Nat.le_of_ble_eq_true rfl))
  show Go _ _ _ _ _ _ _ T9 (mkF m 42 #[.val (.ref a1)] [(.ref r5), (.ref a1)])
  refine Go.step (fun t_ k_ => XS.dup X9.here hx rfl (hb hby d1_42) rfl rfl k_) ?_
  show Go _ _ _ _ _ _ _ T9 (mkF m 43 #[.val (.ref a1)] [(.ref r5), (.ref r5), (.ref a1)])
  refine Go.step (fun t_ k_ => XS.iconst X9.here hx rfl (hb hby d1_43) k_) ?_
  show Go _ _ _ _ _ _ _ T9 (mkF m 44 #[.val (.ref a1)] [(.int (2 : Int32)), (.ref r5), (.ref r5), (.ref a1)])
  refine Go.step (fun t_ k_ => XS.sipush X9.here hx rfl (hb hby d1_44) k_) ?_
  show Go _ _ _ _ _ _ _ T9 (mkF m 47 #[.val (.ref a1)] [(.int (3072 : Int32)), (.int (2 : Int32)), (.ref r5), (.ref r5), (.ref a1)])
  obtain ⟨T10, h10, k10, X10, e10, E10, A10, xA10, hO10, st10⟩ := newRE X9 hx hZ hown (hw _ (List.mem_of_getElem? (i := 9) rfl)) (hw _ (List.mem_of_getElem? (i := 10) rfl)) e9 (g := (mkF m 47 #[.val (.ref a1)] [(.int (3072 : Int32)), (.int (2 : Int32)), (.ref r5), (.ref r5), (.ref a1)])) rfl (hb hby d1_47) rfl (by decide) (cap := 3072) (by decide) (by decide) (by decide) (by decide) (ad := "[Lcom/example/portunus/portunus/Support;") rfl
  obtain ⟨yA10, zA10⟩ : ∃ z_, z_ = h9.size := ⟨_, rfl⟩
  rw [← zA10] at xA10
  obtain ⟨r10, g10⟩ : ∃ z, z = h9.size := ⟨_, rfl⟩
  rw [← g10] at A10 st10
  have ne_a1_r10 : a1 ≠ r10 := Nat.ne_of_lt (Nat.lt_of_lt_of_le f9_0.lt (Nat.le_of_eq g10.symm))
  have ne_r2_r10 : r2 ≠ r10 := Nat.ne_of_lt (Nat.lt_of_lt_of_le f9_14.lt (Nat.le_of_eq g10.symm))
  have ne_r6_r10 : r6 ≠ r10 := Nat.ne_of_lt (Nat.lt_of_lt_of_le f9_15.lt (Nat.le_of_eq g10.symm))
  have ne_r8_r10 : r8 ≠ r10 := Nat.ne_of_lt (Nat.lt_of_lt_of_le f9_17.lt (Nat.le_of_eq g10.symm))
  have ne_r5_r10 : r5 ≠ r10 := Nat.ne_of_lt (Nat.lt_of_lt_of_le fA9.lt (Nat.le_of_eq g10.symm))
  have ge_r10 : n0 ≤ r10 := Nat.le_trans Zs9 (Nat.le_of_eq g10.symm)
  have geh_r10 : h0.size ≤ r10 := Nat.le_trans K9.1 (Nat.le_of_eq g10.symm)
  have f10_0 : Exa Z h10 a1 "com/example/portunus/portunus/Supports" := (f9_0.ext E10)
  have f10_1 : Fld Z h10 a1 "com/example/portunus/portunus/Supports" "nodes" "[Lcom/example/portunus/portunus/Support;" (.ref r2) := (f9_1.ext E10)
  have f10_2 : Fld Z h10 a1 "com/example/portunus/portunus/Supports" "nextId" "I" (.int (2 : Int32)) := (f9_2.ext E10)
  have f10_3 : Fld Z h10 a1 "com/example/portunus/portunus/Supports" "caches" "[[Lcom/example/portunus/portunus/Support;" .null := (f9_3.ext E10)
  have f10_4 : Fld Z h10 a1 "com/example/portunus/portunus/Supports" "operations" "[I" .null := (f9_4.ext E10)
  have f10_5 : Fld Z h10 a1 "com/example/portunus/portunus/Supports" "lefts" "[Lcom/example/portunus/portunus/Support;" .null := (f9_5.ext E10)
  have f10_6 : Fld Z h10 a1 "com/example/portunus/portunus/Supports" "rights" "[Lcom/example/portunus/portunus/Support;" .null := (f9_6.ext E10)
  have f10_7 : Fld Z h10 a1 "com/example/portunus/portunus/Supports" "stages" "[I" .null := (f9_7.ext E10)
  have f10_8 : Fld Z h10 a1 "com/example/portunus/portunus/Supports" "tops" "[J" .null := (f9_8.ext E10)
  have f10_9 : Fld Z h10 a1 "com/example/portunus/portunus/Supports" "firsts" "[Lcom/example/portunus/portunus/Support;" .null := (f9_9.ext E10)
  have f10_10 : Fld Z h10 a1 "com/example/portunus/portunus/Supports" "seconds" "[Lcom/example/portunus/portunus/Support;" .null := (f9_10.ext E10)
  have f10_11 : Fld Z h10 a1 "com/example/portunus/portunus/Supports" "merged" "[J" .null := (f9_11.ext E10)
  have f10_12 : Fld Z h10 a1 "com/example/portunus/portunus/Supports" "size" "I" (.int (0 : Int32)) := (f9_12.ext E10)
  have f10_13 : Fld Z h10 a1 "com/example/portunus/portunus/Supports" "inUse" "I" (.int (0 : Int32)) := (f9_13.ext E10)
  have f10_14 : Arv Z h10 r2 k2 (.object "com/example/portunus/portunus/Support") (1024 : Int32) [] .null := (f9_14.ext E10)
  have f10_15 : Arv Z h10 r6 k6 (.object "com/example/portunus/portunus/Support") (3072 : Int32) [] .null := (f9_15.ext E10)
  have f10_16 : Exa Z h10 r6 "[Lcom/example/portunus/portunus/Support;" := (f9_16.ext E10)
  have f10_17 : Arv Z h10 r8 k8 (.object "com/example/portunus/portunus/Support") (3072 : Int32) [] .null := (f9_17.ext E10)
  have f10_18 : Exa Z h10 r8 "[Lcom/example/portunus/portunus/Support;" := (f9_18.ext E10)
  have f10_19 : Arv Z h10 r5 k5 (.array (.object "com/example/portunus/portunus/Support")) (3 : Int32) [(.ref r6), (.ref r8), .null] .null := (fA9.ext E10)
  have f10_20 : Arv Z h10 r10 k10 (.object "com/example/portunus/portunus/Support") (3072 : Int32) [] .null := (Arv.new A10 (by decide))
  have Zs10 : n0 ≤ h10.size := (Nat.le_trans Zs9 E10.1)
  have K10 : Keep h0 h10 [a1] := K9.ext E10
  refine Go.step st10 ?_
  have xB10 : Exa Z h10 r10 "[Lcom/example/portunus/portunus/Support;" := (zA10.trans g10.symm) ▸ xA10
  show Go _ _ _ _ _ _ _ T10 (mkF m 50 #[.val (.ref a1)] [(.ref r10), (.int (2 : Int32)), (.ref r5), (.ref r5), (.ref a1)])
  obtain ⟨c11, Ar11, q11, S11, M11, H11, U11⟩ := id f10_19
  obtain ⟨T11, h11, X11, e11, W11, st11⟩ := stR X10 hx hZ e10 Ar11 (j := (2 : Int32)) (inb_of S11 ⟨(by decide), (by decide)⟩) rfl (Sto.ofVA Ar11 q11 hO5 (Ins.self xB10)) (g := (mkF m 50 #[.val (.ref a1)] [(.ref r10), (.int (2 : Int32)), (.ref r5), (.ref r5), (.ref a1)])) rfl rfl (hb hby d1_50)
  have N11 := Fr.snoc X11 N9 ge_r5
  refine Go.step st11 ?_
  have f11_0 : Exa Z h11 a1 "com/example/portunus/portunus/Supports" := (f10_0.wr W11)
  have f11_1 : Fld Z h11 a1 "com/example/portunus/portunus/Supports" "nodes" "[Lcom/example/portunus/portunus/Support;" (.ref r2) := (f10_1.other W11 (Or.inl ne_a1_r5))
  have f11_2 : Fld Z h11 a1 "com/example/portunus/portunus/Supports" "nextId" "I" (.int (2 : Int32)) := (f10_2.other W11 (Or.inl ne_a1_r5))
  have f11_3 : Fld Z h11 a1 "com/example/portunus/portunus/Supports" "caches" "[[Lcom/example/portunus/portunus/Support;" .null := (f10_3.other W11 (Or.inl ne_a1_r5))
  have f11_4 : Fld Z h11 a1 "com/example/portunus/portunus/Supports" "operations" "[I" .null := (f10_4.other W11 (Or.inl ne_a1_r5))
  have f11_5 : Fld Z h11 a1 "com/example/portunus/portunus/Supports" "lefts" "[Lcom/example/portunus/portunus/Support;" .null := (f10_5.other W11 (Or.inl ne_a1_r5))
  have f11_6 : Fld Z h11 a1 "com/example/portunus/portunus/Supports" "rights" "[Lcom/example/portunus/portunus/Support;" .null := (f10_6.other W11 (Or.inl ne_a1_r5))
  have f11_7 : Fld Z h11 a1 "com/example/portunus/portunus/Supports" "stages" "[I" .null := (f10_7.other W11 (Or.inl ne_a1_r5))
  have f11_8 : Fld Z h11 a1 "com/example/portunus/portunus/Supports" "tops" "[J" .null := (f10_8.other W11 (Or.inl ne_a1_r5))
  have f11_9 : Fld Z h11 a1 "com/example/portunus/portunus/Supports" "firsts" "[Lcom/example/portunus/portunus/Support;" .null := (f10_9.other W11 (Or.inl ne_a1_r5))
  have f11_10 : Fld Z h11 a1 "com/example/portunus/portunus/Supports" "seconds" "[Lcom/example/portunus/portunus/Support;" .null := (f10_10.other W11 (Or.inl ne_a1_r5))
  have f11_11 : Fld Z h11 a1 "com/example/portunus/portunus/Supports" "merged" "[J" .null := (f10_11.other W11 (Or.inl ne_a1_r5))
  have f11_12 : Fld Z h11 a1 "com/example/portunus/portunus/Supports" "size" "I" (.int (0 : Int32)) := (f10_12.other W11 (Or.inl ne_a1_r5))
  have f11_13 : Fld Z h11 a1 "com/example/portunus/portunus/Supports" "inUse" "I" (.int (0 : Int32)) := (f10_13.other W11 (Or.inl ne_a1_r5))
  have f11_14 : Arv Z h11 r2 k2 (.object "com/example/portunus/portunus/Support") (1024 : Int32) [] .null := (f10_14.other W11 ne_r2_r5)
  have f11_15 : Arv Z h11 r6 k6 (.object "com/example/portunus/portunus/Support") (3072 : Int32) [] .null := (f10_15.other W11 (Ne.symm ne_r5_r6))
  have f11_16 : Exa Z h11 r6 "[Lcom/example/portunus/portunus/Support;" := (f10_16.wr W11)
  have f11_17 : Arv Z h11 r8 k8 (.object "com/example/portunus/portunus/Support") (3072 : Int32) [] .null := (f10_17.other W11 (Ne.symm ne_r5_r8))
  have f11_18 : Exa Z h11 r8 "[Lcom/example/portunus/portunus/Support;" := (f10_18.wr W11)
  have f11_19 : Arv Z h11 r10 k10 (.object "com/example/portunus/portunus/Support") (3072 : Int32) [] .null := (f10_20.other W11 (Ne.symm ne_r5_r10))
  have f11_20 : Exa Z h11 r10 "[Lcom/example/portunus/portunus/Support;" := (xB10.wr W11)
  have Zs11 : n0 ≤ h11.size := (Nat.le_trans Zs10 (Keep.of_wr W11).1)
  have K11 : Keep h0 h11 [a1] := K10.wr W11 (Or.inr geh_r5)
  have fA11 : Arv Z h11 r5 k5 (.array (.object "com/example/portunus/portunus/Support")) (3 : Int32) [(.ref r6), (.ref r8), (.ref r10)] .null := (Arv.set Ar11 q11 S11 M11 H11 U11 rfl W11 2 rfl (Nat.le_of_ble_eq_true rfl))
  show Go _ _ _ _ _ _ _ T11 (mkF m 51 #[.val (.ref a1)] [(.ref r5), (.ref a1)])
  obtain ⟨T12, h12, X12, e12, W12, st12⟩ := putF X11 hx hZ hown (host := "") (Or.inl (hw _ (List.mem_of_getElem? (i := 18) rfl))) Via.refl e11 f11_3 f11_0 (Or.inl (hw _ (List.mem_of_getElem? (i := 19) rfl))) (hw _ (List.mem_of_getElem? (i := 1) rfl)) (ty := (.array (.array (.object "com/example/portunus/portunus/Support")))) (by decide) rfl rfl (g := (mkF m 51 #[.val (.ref a1)] [(.ref r5), (.ref a1)])) rfl rfl (hb hby d1_51)
  have N12 := Fr.snoc X12 N11 g1
  refine Go.step st12 ?_
  have f12_0 : Exa Z h12 a1 "com/example/portunus/portunus/Supports" := (f11_0.wr W12)
  have f12_1 : Fld Z h12 a1 "com/example/portunus/portunus/Supports" "nodes" "[Lcom/example/portunus/portunus/Support;" (.ref r2) := (f11_1.other W12 (Or.inr (slot_ne (Or.inl (hw _ (List.mem_of_getElem? (i := 12) rfl))) (Or.inl (hw _ (List.mem_of_getElem? (i := 19) rfl))) (by decide) (t := (.array (.object "com/example/portunus/portunus/Support"))) (t' := (.array (.array (.object "com/example/portunus/portunus/Support")))) (by decide) (by decide))))
  have f12_2 : Fld Z h12 a1 "com/example/portunus/portunus/Supports" "nextId" "I" (.int (2 : Int32)) := (f11_2.other W12 (Or.inr (slot_ne (Or.inl (hw _ (List.mem_of_getElem? (i := 14) rfl))) (Or.inl (hw _ (List.mem_of_getElem? (i := 19) rfl))) (by decide) (t := .int) (t' := (.array (.array (.object "com/example/portunus/portunus/Support")))) (by decide) (by decide))))
  have f12_3 : Fld Z h12 a1 "com/example/portunus/portunus/Supports" "caches" "[[Lcom/example/portunus/portunus/Support;" (.ref r5) := (f11_3.same W12)
  have f12_4 : Fld Z h12 a1 "com/example/portunus/portunus/Supports" "operations" "[I" .null := (f11_4.other W12 (Or.inr (slot_ne (Or.inl (hw _ (List.mem_of_getElem? (i := 22) rfl))) (Or.inl (hw _ (List.mem_of_getElem? (i := 19) rfl))) (by decide) (t := (.array .int)) (t' := (.array (.array (.object "com/example/portunus/portunus/Support")))) (by decide) (by decide))))
  have f12_5 : Fld Z h12 a1 "com/example/portunus/portunus/Supports" "lefts" "[Lcom/example/portunus/portunus/Support;" .null := (f11_5.other W12 (Or.inr (slot_ne (Or.inl (hw _ (List.mem_of_getElem? (i := 24) rfl))) (Or.inl (hw _ (List.mem_of_getElem? (i := 19) rfl))) (by decide) (t := (.array (.object "com/example/portunus/portunus/Support"))) (t' := (.array (.array (.object "com/example/portunus/portunus/Support")))) (by decide) (by decide))))
  have f12_6 : Fld Z h12 a1 "com/example/portunus/portunus/Supports" "rights" "[Lcom/example/portunus/portunus/Support;" .null := (f11_6.other W12 (Or.inr (slot_ne (Or.inl (hw _ (List.mem_of_getElem? (i := 26) rfl))) (Or.inl (hw _ (List.mem_of_getElem? (i := 19) rfl))) (by decide) (t := (.array (.object "com/example/portunus/portunus/Support"))) (t' := (.array (.array (.object "com/example/portunus/portunus/Support")))) (by decide) (by decide))))
  have f12_7 : Fld Z h12 a1 "com/example/portunus/portunus/Supports" "stages" "[I" .null := (f11_7.other W12 (Or.inr (slot_ne (Or.inl (hw _ (List.mem_of_getElem? (i := 28) rfl))) (Or.inl (hw _ (List.mem_of_getElem? (i := 19) rfl))) (by decide) (t := (.array .int)) (t' := (.array (.array (.object "com/example/portunus/portunus/Support")))) (by decide) (by decide))))
  have f12_8 : Fld Z h12 a1 "com/example/portunus/portunus/Supports" "tops" "[J" .null := (f11_8.other W12 (Or.inr (slot_ne (Or.inl (hw _ (List.mem_of_getElem? (i := 31) rfl))) (Or.inl (hw _ (List.mem_of_getElem? (i := 19) rfl))) (by decide) (t := (.array .long)) (t' := (.array (.array (.object "com/example/portunus/portunus/Support")))) (by decide) (by decide))))
  have f12_9 : Fld Z h12 a1 "com/example/portunus/portunus/Supports" "firsts" "[Lcom/example/portunus/portunus/Support;" .null := (f11_9.other W12 (Or.inr (slot_ne (Or.inl (hw _ (List.mem_of_getElem? (i := 33) rfl))) (Or.inl (hw _ (List.mem_of_getElem? (i := 19) rfl))) (by decide) (t := (.array (.object "com/example/portunus/portunus/Support"))) (t' := (.array (.array (.object "com/example/portunus/portunus/Support")))) (by decide) (by decide))))
  have f12_10 : Fld Z h12 a1 "com/example/portunus/portunus/Supports" "seconds" "[Lcom/example/portunus/portunus/Support;" .null := (f11_10.other W12 (Or.inr (slot_ne (Or.inl (hw _ (List.mem_of_getElem? (i := 35) rfl))) (Or.inl (hw _ (List.mem_of_getElem? (i := 19) rfl))) (by decide) (t := (.array (.object "com/example/portunus/portunus/Support"))) (t' := (.array (.array (.object "com/example/portunus/portunus/Support")))) (by decide) (by decide))))
  have f12_11 : Fld Z h12 a1 "com/example/portunus/portunus/Supports" "merged" "[J" .null := (f11_11.other W12 (Or.inr (slot_ne (Or.inl (hw _ (List.mem_of_getElem? (i := 37) rfl))) (Or.inl (hw _ (List.mem_of_getElem? (i := 19) rfl))) (by decide) (t := (.array .long)) (t' := (.array (.array (.object "com/example/portunus/portunus/Support")))) (by decide) (by decide))))
  have f12_12 : Fld Z h12 a1 "com/example/portunus/portunus/Supports" "size" "I" (.int (0 : Int32)) := (f11_12.other W12 (Or.inr (slot_ne (Or.inl (hw _ (List.mem_of_getElem? (i := 44) rfl))) (Or.inl (hw _ (List.mem_of_getElem? (i := 19) rfl))) (by decide) (t := .int) (t' := (.array (.array (.object "com/example/portunus/portunus/Support")))) (by decide) (by decide))))
  have f12_13 : Fld Z h12 a1 "com/example/portunus/portunus/Supports" "inUse" "I" (.int (0 : Int32)) := (f11_13.other W12 (Or.inr (slot_ne (Or.inl (hw _ (List.mem_of_getElem? (i := 120) rfl))) (Or.inl (hw _ (List.mem_of_getElem? (i := 19) rfl))) (by decide) (t := .int) (t' := (.array (.array (.object "com/example/portunus/portunus/Support")))) (by decide) (by decide))))
  have f12_14 : Arv Z h12 r2 k2 (.object "com/example/portunus/portunus/Support") (1024 : Int32) [] .null := (f11_14.other W12 (Ne.symm ne_a1_r2))
  have f12_15 : Arv Z h12 r6 k6 (.object "com/example/portunus/portunus/Support") (3072 : Int32) [] .null := (f11_15.other W12 (Ne.symm ne_a1_r6))
  have f12_16 : Exa Z h12 r6 "[Lcom/example/portunus/portunus/Support;" := (f11_16.wr W12)
  have f12_17 : Arv Z h12 r8 k8 (.object "com/example/portunus/portunus/Support") (3072 : Int32) [] .null := (f11_17.other W12 (Ne.symm ne_a1_r8))
  have f12_18 : Exa Z h12 r8 "[Lcom/example/portunus/portunus/Support;" := (f11_18.wr W12)
  have f12_19 : Arv Z h12 r10 k10 (.object "com/example/portunus/portunus/Support") (3072 : Int32) [] .null := (f11_19.other W12 (Ne.symm ne_a1_r10))
  have f12_20 : Exa Z h12 r10 "[Lcom/example/portunus/portunus/Support;" := (f11_20.wr W12)
  have f12_21 : Arv Z h12 r5 k5 (.array (.object "com/example/portunus/portunus/Support")) (3 : Int32) [(.ref r6), (.ref r8), (.ref r10)] .null := (fA11.other W12 (Ne.symm ne_a1_r5))
  have Zs12 : n0 ≤ h12.size := (Nat.le_trans Zs11 (Keep.of_wr W12).1)
  have K12 : Keep h0 h12 [a1] := K11.wr W12 (Or.inl (List.mem_of_getElem? (i := 0) rfl))
  show Go _ _ _ _ _ _ _ T12 (mkF m 54 #[.val (.ref a1)] [])
  refine Go.step (fun t_ k_ => XS.aloadN X12.here hx rfl (hb hby d1_54) rfl rfl k_) ?_
  show Go _ _ _ _ _ _ _ T12 (mkF m 55 #[.val (.ref a1)] [(.ref a1)])
  refine Go.step (fun t_ k_ => XS.sipush X12.here hx rfl (hb hby d1_55) k_) ?_
  show Go _ _ _ _ _ _ _ T12 (mkF m 58 #[.val (.ref a1)] [(.int (1024 : Int32)), (.ref a1)])
  obtain ⟨T13, h13, k13, X13, e13, E13, A13, st13⟩ := newP X12 hx hZ (hw _ (List.mem_of_getElem? (i := 20) rfl)) e12 (g := (mkF m 58 #[.val (.ref a1)] [(.int (1024 : Int32)), (.ref a1)])) rfl (hb hby d1_58) rfl (by decide) (cap := 1024) (by decide) (by decide) (by decide) (by decide)
  obtain ⟨r13, g13⟩ : ∃ z, z = h12.size := ⟨_, rfl⟩
  rw [← g13] at A13 st13
  have ne_a1_r13 : a1 ≠ r13 := Nat.ne_of_lt (Nat.lt_of_lt_of_le f12_0.lt (Nat.le_of_eq g13.symm))
  have ne_r2_r13 : r2 ≠ r13 := Nat.ne_of_lt (Nat.lt_of_lt_of_le f12_14.lt (Nat.le_of_eq g13.symm))
  have ge_r13 : n0 ≤ r13 := Nat.le_trans Zs12 (Nat.le_of_eq g13.symm)
  have geh_r13 : h0.size ≤ r13 := Nat.le_trans K12.1 (Nat.le_of_eq g13.symm)
  have f13_0 : Exa Z h13 a1 "com/example/portunus/portunus/Supports" := (f12_0.ext E13)
  have f13_1 : Fld Z h13 a1 "com/example/portunus/portunus/Supports" "nodes" "[Lcom/example/portunus/portunus/Support;" (.ref r2) := (f12_1.ext E13)
  have f13_2 : Fld Z h13 a1 "com/example/portunus/portunus/Supports" "nextId" "I" (.int (2 : Int32)) := (f12_2.ext E13)
  have f13_3 : Fld Z h13 a1 "com/example/portunus/portunus/Supports" "caches" "[[Lcom/example/portunus/portunus/Support;" (.ref r5) := (f12_3.ext E13)
  have f13_4 : Fld Z h13 a1 "com/example/portunus/portunus/Supports" "operations" "[I" .null := (f12_4.ext E13)
  have f13_5 : Fld Z h13 a1 "com/example/portunus/portunus/Supports" "lefts" "[Lcom/example/portunus/portunus/Support;" .null := (f12_5.ext E13)
  have f13_6 : Fld Z h13 a1 "com/example/portunus/portunus/Supports" "rights" "[Lcom/example/portunus/portunus/Support;" .null := (f12_6.ext E13)
  have f13_7 : Fld Z h13 a1 "com/example/portunus/portunus/Supports" "stages" "[I" .null := (f12_7.ext E13)
  have f13_8 : Fld Z h13 a1 "com/example/portunus/portunus/Supports" "tops" "[J" .null := (f12_8.ext E13)
  have f13_9 : Fld Z h13 a1 "com/example/portunus/portunus/Supports" "firsts" "[Lcom/example/portunus/portunus/Support;" .null := (f12_9.ext E13)
  have f13_10 : Fld Z h13 a1 "com/example/portunus/portunus/Supports" "seconds" "[Lcom/example/portunus/portunus/Support;" .null := (f12_10.ext E13)
  have f13_11 : Fld Z h13 a1 "com/example/portunus/portunus/Supports" "merged" "[J" .null := (f12_11.ext E13)
  have f13_12 : Fld Z h13 a1 "com/example/portunus/portunus/Supports" "size" "I" (.int (0 : Int32)) := (f12_12.ext E13)
  have f13_13 : Fld Z h13 a1 "com/example/portunus/portunus/Supports" "inUse" "I" (.int (0 : Int32)) := (f12_13.ext E13)
  have f13_14 : Arv Z h13 r2 k2 (.object "com/example/portunus/portunus/Support") (1024 : Int32) [] .null := (f12_14.ext E13)
  have f13_15 : Arv Z h13 r13 k13 .int (1024 : Int32) [] (.int (0 : Int32)) := (Arv.new A13 (by decide))
  have Zs13 : n0 ≤ h13.size := (Nat.le_trans Zs12 E13.1)
  have K13 : Keep h0 h13 [a1] := K12.ext E13
  refine Go.step st13 ?_
  show Go _ _ _ _ _ _ _ T13 (mkF m 60 #[.val (.ref a1)] [(.ref r13), (.ref a1)])
  obtain ⟨T14, h14, X14, e14, W14, st14⟩ := putF X13 hx hZ hown (host := "") (Or.inl (hw _ (List.mem_of_getElem? (i := 21) rfl))) Via.refl e13 f13_4 f13_0 (Or.inl (hw _ (List.mem_of_getElem? (i := 22) rfl))) (hw _ (List.mem_of_getElem? (i := 1) rfl)) (ty := (.array .int)) (by decide) rfl rfl (g := (mkF m 60 #[.val (.ref a1)] [(.ref r13), (.ref a1)])) rfl rfl (hb hby d1_60)
  have N14 := Fr.snoc X14 N12 g1
  refine Go.step st14 ?_
  have f14_0 : Exa Z h14 a1 "com/example/portunus/portunus/Supports" := (f13_0.wr W14)
  have f14_1 : Fld Z h14 a1 "com/example/portunus/portunus/Supports" "nodes" "[Lcom/example/portunus/portunus/Support;" (.ref r2) := (f13_1.other W14 (Or.inr (slot_ne (Or.inl (hw _ (List.mem_of_getElem? (i := 12) rfl))) (Or.inl (hw _ (List.mem_of_getElem? (i := 22) rfl))) (by decide) (t := (.array (.object "com/example/portunus/portunus/Support"))) (t' := (.array .int)) (by decide) (by decide))))
  have f14_2 : Fld Z h14 a1 "com/example/portunus/portunus/Supports" "nextId" "I" (.int (2 : Int32)) := (f13_2.other W14 (Or.inr (slot_ne (Or.inl (hw _ (List.mem_of_getElem? (i := 14) rfl))) (Or.inl (hw _ (List.mem_of_getElem? (i := 22) rfl))) (by decide) (t := .int) (t' := (.array .int)) (by decide) (by decide))))
  have f14_3 : Fld Z h14 a1 "com/example/portunus/portunus/Supports" "caches" "[[Lcom/example/portunus/portunus/Support;" (.ref r5) := (f13_3.other W14 (Or.inr (slot_ne (Or.inl (hw _ (List.mem_of_getElem? (i := 19) rfl))) (Or.inl (hw _ (List.mem_of_getElem? (i := 22) rfl))) (by decide) (t := (.array (.array (.object "com/example/portunus/portunus/Support")))) (t' := (.array .int)) (by decide) (by decide))))
  have f14_4 : Fld Z h14 a1 "com/example/portunus/portunus/Supports" "operations" "[I" (.ref r13) := (f13_4.same W14)
  have f14_5 : Fld Z h14 a1 "com/example/portunus/portunus/Supports" "lefts" "[Lcom/example/portunus/portunus/Support;" .null := (f13_5.other W14 (Or.inr (slot_ne (Or.inl (hw _ (List.mem_of_getElem? (i := 24) rfl))) (Or.inl (hw _ (List.mem_of_getElem? (i := 22) rfl))) (by decide) (t := (.array (.object "com/example/portunus/portunus/Support"))) (t' := (.array .int)) (by decide) (by decide))))
  have f14_6 : Fld Z h14 a1 "com/example/portunus/portunus/Supports" "rights" "[Lcom/example/portunus/portunus/Support;" .null := (f13_6.other W14 (Or.inr (slot_ne (Or.inl (hw _ (List.mem_of_getElem? (i := 26) rfl))) (Or.inl (hw _ (List.mem_of_getElem? (i := 22) rfl))) (by decide) (t := (.array (.object "com/example/portunus/portunus/Support"))) (t' := (.array .int)) (by decide) (by decide))))
  have f14_7 : Fld Z h14 a1 "com/example/portunus/portunus/Supports" "stages" "[I" .null := (f13_7.other W14 (Or.inr (slot_ne (Or.inl (hw _ (List.mem_of_getElem? (i := 28) rfl))) (Or.inl (hw _ (List.mem_of_getElem? (i := 22) rfl))) (by decide) (t := (.array .int)) (t' := (.array .int)) (by decide) (by decide))))
  have f14_8 : Fld Z h14 a1 "com/example/portunus/portunus/Supports" "tops" "[J" .null := (f13_8.other W14 (Or.inr (slot_ne (Or.inl (hw _ (List.mem_of_getElem? (i := 31) rfl))) (Or.inl (hw _ (List.mem_of_getElem? (i := 22) rfl))) (by decide) (t := (.array .long)) (t' := (.array .int)) (by decide) (by decide))))
  have f14_9 : Fld Z h14 a1 "com/example/portunus/portunus/Supports" "firsts" "[Lcom/example/portunus/portunus/Support;" .null := (f13_9.other W14 (Or.inr (slot_ne (Or.inl (hw _ (List.mem_of_getElem? (i := 33) rfl))) (Or.inl (hw _ (List.mem_of_getElem? (i := 22) rfl))) (by decide) (t := (.array (.object "com/example/portunus/portunus/Support"))) (t' := (.array .int)) (by decide) (by decide))))
  have f14_10 : Fld Z h14 a1 "com/example/portunus/portunus/Supports" "seconds" "[Lcom/example/portunus/portunus/Support;" .null := (f13_10.other W14 (Or.inr (slot_ne (Or.inl (hw _ (List.mem_of_getElem? (i := 35) rfl))) (Or.inl (hw _ (List.mem_of_getElem? (i := 22) rfl))) (by decide) (t := (.array (.object "com/example/portunus/portunus/Support"))) (t' := (.array .int)) (by decide) (by decide))))
  have f14_11 : Fld Z h14 a1 "com/example/portunus/portunus/Supports" "merged" "[J" .null := (f13_11.other W14 (Or.inr (slot_ne (Or.inl (hw _ (List.mem_of_getElem? (i := 37) rfl))) (Or.inl (hw _ (List.mem_of_getElem? (i := 22) rfl))) (by decide) (t := (.array .long)) (t' := (.array .int)) (by decide) (by decide))))
  have f14_12 : Fld Z h14 a1 "com/example/portunus/portunus/Supports" "size" "I" (.int (0 : Int32)) := (f13_12.other W14 (Or.inr (slot_ne (Or.inl (hw _ (List.mem_of_getElem? (i := 44) rfl))) (Or.inl (hw _ (List.mem_of_getElem? (i := 22) rfl))) (by decide) (t := .int) (t' := (.array .int)) (by decide) (by decide))))
  have f14_13 : Fld Z h14 a1 "com/example/portunus/portunus/Supports" "inUse" "I" (.int (0 : Int32)) := (f13_13.other W14 (Or.inr (slot_ne (Or.inl (hw _ (List.mem_of_getElem? (i := 120) rfl))) (Or.inl (hw _ (List.mem_of_getElem? (i := 22) rfl))) (by decide) (t := .int) (t' := (.array .int)) (by decide) (by decide))))
  have f14_14 : Arv Z h14 r2 k2 (.object "com/example/portunus/portunus/Support") (1024 : Int32) [] .null := (f13_14.other W14 (Ne.symm ne_a1_r2))
  have f14_15 : Arv Z h14 r13 k13 .int (1024 : Int32) [] (.int (0 : Int32)) := (f13_15.other W14 (Ne.symm ne_a1_r13))
  have Zs14 : n0 ≤ h14.size := (Nat.le_trans Zs13 (Keep.of_wr W14).1)
  have K14 : Keep h0 h14 [a1] := K13.wr W14 (Or.inl (List.mem_of_getElem? (i := 0) rfl))
  show Go _ _ _ _ _ _ _ T14 (mkF m 63 #[.val (.ref a1)] [])
  refine Go.step (fun t_ k_ => XS.aloadN X14.here hx rfl (hb hby d1_63) rfl rfl k_) ?_
  show Go _ _ _ _ _ _ _ T14 (mkF m 64 #[.val (.ref a1)] [(.ref a1)])
  refine Go.step (fun t_ k_ => XS.sipush X14.here hx rfl (hb hby d1_64) k_) ?_
  show Go _ _ _ _ _ _ _ T14 (mkF m 67 #[.val (.ref a1)] [(.int (1024 : Int32)), (.ref a1)])
  obtain ⟨T15, h15, k15, X15, e15, E15, A15, hO15, st15⟩ := newR X14 hx hZ hown (hw _ (List.mem_of_getElem? (i := 9) rfl)) (hw _ (List.mem_of_getElem? (i := 10) rfl)) e14 (g := (mkF m 67 #[.val (.ref a1)] [(.int (1024 : Int32)), (.ref a1)])) rfl (hb hby d1_67) rfl (by decide) (cap := 1024) (by decide) (by decide) (by decide) (by decide)
  obtain ⟨r15, g15⟩ : ∃ z, z = h14.size := ⟨_, rfl⟩
  rw [← g15] at A15 st15
  have ne_a1_r15 : a1 ≠ r15 := Nat.ne_of_lt (Nat.lt_of_lt_of_le f14_0.lt (Nat.le_of_eq g15.symm))
  have ne_r2_r15 : r2 ≠ r15 := Nat.ne_of_lt (Nat.lt_of_lt_of_le f14_14.lt (Nat.le_of_eq g15.symm))
  have ge_r15 : n0 ≤ r15 := Nat.le_trans Zs14 (Nat.le_of_eq g15.symm)
  have geh_r15 : h0.size ≤ r15 := Nat.le_trans K14.1 (Nat.le_of_eq g15.symm)
  have f15_0 : Exa Z h15 a1 "com/example/portunus/portunus/Supports" := (f14_0.ext E15)
  have f15_1 : Fld Z h15 a1 "com/example/portunus/portunus/Supports" "nodes" "[Lcom/example/portunus/portunus/Support;" (.ref r2) := (f14_1.ext E15)
  have f15_2 : Fld Z h15 a1 "com/example/portunus/portunus/Supports" "nextId" "I" (.int (2 : Int32)) := (f14_2.ext E15)
  have f15_3 : Fld Z h15 a1 "com/example/portunus/portunus/Supports" "caches" "[[Lcom/example/portunus/portunus/Support;" (.ref r5) := (f14_3.ext E15)
  have f15_4 : Fld Z h15 a1 "com/example/portunus/portunus/Supports" "operations" "[I" (.ref r13) := (f14_4.ext E15)
  have f15_5 : Fld Z h15 a1 "com/example/portunus/portunus/Supports" "lefts" "[Lcom/example/portunus/portunus/Support;" .null := (f14_5.ext E15)
  have f15_6 : Fld Z h15 a1 "com/example/portunus/portunus/Supports" "rights" "[Lcom/example/portunus/portunus/Support;" .null := (f14_6.ext E15)
  have f15_7 : Fld Z h15 a1 "com/example/portunus/portunus/Supports" "stages" "[I" .null := (f14_7.ext E15)
  have f15_8 : Fld Z h15 a1 "com/example/portunus/portunus/Supports" "tops" "[J" .null := (f14_8.ext E15)
  have f15_9 : Fld Z h15 a1 "com/example/portunus/portunus/Supports" "firsts" "[Lcom/example/portunus/portunus/Support;" .null := (f14_9.ext E15)
  have f15_10 : Fld Z h15 a1 "com/example/portunus/portunus/Supports" "seconds" "[Lcom/example/portunus/portunus/Support;" .null := (f14_10.ext E15)
  have f15_11 : Fld Z h15 a1 "com/example/portunus/portunus/Supports" "merged" "[J" .null := (f14_11.ext E15)
  have f15_12 : Fld Z h15 a1 "com/example/portunus/portunus/Supports" "size" "I" (.int (0 : Int32)) := (f14_12.ext E15)
  have f15_13 : Fld Z h15 a1 "com/example/portunus/portunus/Supports" "inUse" "I" (.int (0 : Int32)) := (f14_13.ext E15)
  have f15_14 : Arv Z h15 r2 k2 (.object "com/example/portunus/portunus/Support") (1024 : Int32) [] .null := (f14_14.ext E15)
  have f15_15 : Arv Z h15 r15 k15 (.object "com/example/portunus/portunus/Support") (1024 : Int32) [] .null := (Arv.new A15 (by decide))
  have Zs15 : n0 ≤ h15.size := (Nat.le_trans Zs14 E15.1)
  have K15 : Keep h0 h15 [a1] := K14.ext E15
  refine Go.step st15 ?_
  show Go _ _ _ _ _ _ _ T15 (mkF m 70 #[.val (.ref a1)] [(.ref r15), (.ref a1)])
  obtain ⟨T16, h16, X16, e16, W16, st16⟩ := putF X15 hx hZ hown (host := "") (Or.inl (hw _ (List.mem_of_getElem? (i := 23) rfl))) Via.refl e15 f15_5 f15_0 (Or.inl (hw _ (List.mem_of_getElem? (i := 24) rfl))) (hw _ (List.mem_of_getElem? (i := 1) rfl)) (ty := (.array (.object "com/example/portunus/portunus/Support"))) (by decide) rfl rfl (g := (mkF m 70 #[.val (.ref a1)] [(.ref r15), (.ref a1)])) rfl rfl (hb hby d1_70)
  have N16 := Fr.snoc X16 N14 g1
  refine Go.step st16 ?_
  have f16_0 : Exa Z h16 a1 "com/example/portunus/portunus/Supports" := (f15_0.wr W16)
  have f16_1 : Fld Z h16 a1 "com/example/portunus/portunus/Supports" "nodes" "[Lcom/example/portunus/portunus/Support;" (.ref r2) := (f15_1.other W16 (Or.inr (slot_ne (Or.inl (hw _ (List.mem_of_getElem? (i := 12) rfl))) (Or.inl (hw _ (List.mem_of_getElem? (i := 24) rfl))) (by decide) (t := (.array (.object "com/example/portunus/portunus/Support"))) (t' := (.array (.object "com/example/portunus/portunus/Support"))) (by decide) (by decide))))
  have f16_2 : Fld Z h16 a1 "com/example/portunus/portunus/Supports" "nextId" "I" (.int (2 : Int32)) := (f15_2.other W16 (Or.inr (slot_ne (Or.inl (hw _ (List.mem_of_getElem? (i := 14) rfl))) (Or.inl (hw _ (List.mem_of_getElem? (i := 24) rfl))) (by decide) (t := .int) (t' := (.array (.object "com/example/portunus/portunus/Support"))) (by decide) (by decide))))
  have f16_3 : Fld Z h16 a1 "com/example/portunus/portunus/Supports" "caches" "[[Lcom/example/portunus/portunus/Support;" (.ref r5) := (f15_3.other W16 (Or.inr (slot_ne (Or.inl (hw _ (List.mem_of_getElem? (i := 19) rfl))) (Or.inl (hw _ (List.mem_of_getElem? (i := 24) rfl))) (by decide) (t := (.array (.array (.object "com/example/portunus/portunus/Support")))) (t' := (.array (.object "com/example/portunus/portunus/Support"))) (by decide) (by decide))))
  have f16_4 : Fld Z h16 a1 "com/example/portunus/portunus/Supports" "operations" "[I" (.ref r13) := (f15_4.other W16 (Or.inr (slot_ne (Or.inl (hw _ (List.mem_of_getElem? (i := 22) rfl))) (Or.inl (hw _ (List.mem_of_getElem? (i := 24) rfl))) (by decide) (t := (.array .int)) (t' := (.array (.object "com/example/portunus/portunus/Support"))) (by decide) (by decide))))
  have f16_5 : Fld Z h16 a1 "com/example/portunus/portunus/Supports" "lefts" "[Lcom/example/portunus/portunus/Support;" (.ref r15) := (f15_5.same W16)
  have f16_6 : Fld Z h16 a1 "com/example/portunus/portunus/Supports" "rights" "[Lcom/example/portunus/portunus/Support;" .null := (f15_6.other W16 (Or.inr (slot_ne (Or.inl (hw _ (List.mem_of_getElem? (i := 26) rfl))) (Or.inl (hw _ (List.mem_of_getElem? (i := 24) rfl))) (by decide) (t := (.array (.object "com/example/portunus/portunus/Support"))) (t' := (.array (.object "com/example/portunus/portunus/Support"))) (by decide) (by decide))))
  have f16_7 : Fld Z h16 a1 "com/example/portunus/portunus/Supports" "stages" "[I" .null := (f15_7.other W16 (Or.inr (slot_ne (Or.inl (hw _ (List.mem_of_getElem? (i := 28) rfl))) (Or.inl (hw _ (List.mem_of_getElem? (i := 24) rfl))) (by decide) (t := (.array .int)) (t' := (.array (.object "com/example/portunus/portunus/Support"))) (by decide) (by decide))))
  have f16_8 : Fld Z h16 a1 "com/example/portunus/portunus/Supports" "tops" "[J" .null := (f15_8.other W16 (Or.inr (slot_ne (Or.inl (hw _ (List.mem_of_getElem? (i := 31) rfl))) (Or.inl (hw _ (List.mem_of_getElem? (i := 24) rfl))) (by decide) (t := (.array .long)) (t' := (.array (.object "com/example/portunus/portunus/Support"))) (by decide) (by decide))))
  have f16_9 : Fld Z h16 a1 "com/example/portunus/portunus/Supports" "firsts" "[Lcom/example/portunus/portunus/Support;" .null := (f15_9.other W16 (Or.inr (slot_ne (Or.inl (hw _ (List.mem_of_getElem? (i := 33) rfl))) (Or.inl (hw _ (List.mem_of_getElem? (i := 24) rfl))) (by decide) (t := (.array (.object "com/example/portunus/portunus/Support"))) (t' := (.array (.object "com/example/portunus/portunus/Support"))) (by decide) (by decide))))
  have f16_10 : Fld Z h16 a1 "com/example/portunus/portunus/Supports" "seconds" "[Lcom/example/portunus/portunus/Support;" .null := (f15_10.other W16 (Or.inr (slot_ne (Or.inl (hw _ (List.mem_of_getElem? (i := 35) rfl))) (Or.inl (hw _ (List.mem_of_getElem? (i := 24) rfl))) (by decide) (t := (.array (.object "com/example/portunus/portunus/Support"))) (t' := (.array (.object "com/example/portunus/portunus/Support"))) (by decide) (by decide))))
  have f16_11 : Fld Z h16 a1 "com/example/portunus/portunus/Supports" "merged" "[J" .null := (f15_11.other W16 (Or.inr (slot_ne (Or.inl (hw _ (List.mem_of_getElem? (i := 37) rfl))) (Or.inl (hw _ (List.mem_of_getElem? (i := 24) rfl))) (by decide) (t := (.array .long)) (t' := (.array (.object "com/example/portunus/portunus/Support"))) (by decide) (by decide))))
  have f16_12 : Fld Z h16 a1 "com/example/portunus/portunus/Supports" "size" "I" (.int (0 : Int32)) := (f15_12.other W16 (Or.inr (slot_ne (Or.inl (hw _ (List.mem_of_getElem? (i := 44) rfl))) (Or.inl (hw _ (List.mem_of_getElem? (i := 24) rfl))) (by decide) (t := .int) (t' := (.array (.object "com/example/portunus/portunus/Support"))) (by decide) (by decide))))
  have f16_13 : Fld Z h16 a1 "com/example/portunus/portunus/Supports" "inUse" "I" (.int (0 : Int32)) := (f15_13.other W16 (Or.inr (slot_ne (Or.inl (hw _ (List.mem_of_getElem? (i := 120) rfl))) (Or.inl (hw _ (List.mem_of_getElem? (i := 24) rfl))) (by decide) (t := .int) (t' := (.array (.object "com/example/portunus/portunus/Support"))) (by decide) (by decide))))
  have f16_14 : Arv Z h16 r2 k2 (.object "com/example/portunus/portunus/Support") (1024 : Int32) [] .null := (f15_14.other W16 (Ne.symm ne_a1_r2))
  have f16_15 : Arv Z h16 r15 k15 (.object "com/example/portunus/portunus/Support") (1024 : Int32) [] .null := (f15_15.other W16 (Ne.symm ne_a1_r15))
  have Zs16 : n0 ≤ h16.size := (Nat.le_trans Zs15 (Keep.of_wr W16).1)
  have K16 : Keep h0 h16 [a1] := K15.wr W16 (Or.inl (List.mem_of_getElem? (i := 0) rfl))
  show Go _ _ _ _ _ _ _ T16 (mkF m 73 #[.val (.ref a1)] [])
  refine Go.step (fun t_ k_ => XS.aloadN X16.here hx rfl (hb hby d1_73) rfl rfl k_) ?_
  show Go _ _ _ _ _ _ _ T16 (mkF m 74 #[.val (.ref a1)] [(.ref a1)])
  refine Go.step (fun t_ k_ => XS.sipush X16.here hx rfl (hb hby d1_74) k_) ?_
  show Go _ _ _ _ _ _ _ T16 (mkF m 77 #[.val (.ref a1)] [(.int (1024 : Int32)), (.ref a1)])
  obtain ⟨T17, h17, k17, X17, e17, E17, A17, hO17, st17⟩ := newR X16 hx hZ hown (hw _ (List.mem_of_getElem? (i := 9) rfl)) (hw _ (List.mem_of_getElem? (i := 10) rfl)) e16 (g := (mkF m 77 #[.val (.ref a1)] [(.int (1024 : Int32)), (.ref a1)])) rfl (hb hby d1_77) rfl (by decide) (cap := 1024) (by decide) (by decide) (by decide) (by decide)
  obtain ⟨r17, g17⟩ : ∃ z, z = h16.size := ⟨_, rfl⟩
  rw [← g17] at A17 st17
  have ne_a1_r17 : a1 ≠ r17 := Nat.ne_of_lt (Nat.lt_of_lt_of_le f16_0.lt (Nat.le_of_eq g17.symm))
  have ne_r2_r17 : r2 ≠ r17 := Nat.ne_of_lt (Nat.lt_of_lt_of_le f16_14.lt (Nat.le_of_eq g17.symm))
  have ge_r17 : n0 ≤ r17 := Nat.le_trans Zs16 (Nat.le_of_eq g17.symm)
  have geh_r17 : h0.size ≤ r17 := Nat.le_trans K16.1 (Nat.le_of_eq g17.symm)
  have f17_0 : Exa Z h17 a1 "com/example/portunus/portunus/Supports" := (f16_0.ext E17)
  have f17_1 : Fld Z h17 a1 "com/example/portunus/portunus/Supports" "nodes" "[Lcom/example/portunus/portunus/Support;" (.ref r2) := (f16_1.ext E17)
  have f17_2 : Fld Z h17 a1 "com/example/portunus/portunus/Supports" "nextId" "I" (.int (2 : Int32)) := (f16_2.ext E17)
  have f17_3 : Fld Z h17 a1 "com/example/portunus/portunus/Supports" "caches" "[[Lcom/example/portunus/portunus/Support;" (.ref r5) := (f16_3.ext E17)
  have f17_4 : Fld Z h17 a1 "com/example/portunus/portunus/Supports" "operations" "[I" (.ref r13) := (f16_4.ext E17)
  have f17_5 : Fld Z h17 a1 "com/example/portunus/portunus/Supports" "lefts" "[Lcom/example/portunus/portunus/Support;" (.ref r15) := (f16_5.ext E17)
  have f17_6 : Fld Z h17 a1 "com/example/portunus/portunus/Supports" "rights" "[Lcom/example/portunus/portunus/Support;" .null := (f16_6.ext E17)
  have f17_7 : Fld Z h17 a1 "com/example/portunus/portunus/Supports" "stages" "[I" .null := (f16_7.ext E17)
  have f17_8 : Fld Z h17 a1 "com/example/portunus/portunus/Supports" "tops" "[J" .null := (f16_8.ext E17)
  have f17_9 : Fld Z h17 a1 "com/example/portunus/portunus/Supports" "firsts" "[Lcom/example/portunus/portunus/Support;" .null := (f16_9.ext E17)
  have f17_10 : Fld Z h17 a1 "com/example/portunus/portunus/Supports" "seconds" "[Lcom/example/portunus/portunus/Support;" .null := (f16_10.ext E17)
  have f17_11 : Fld Z h17 a1 "com/example/portunus/portunus/Supports" "merged" "[J" .null := (f16_11.ext E17)
  have f17_12 : Fld Z h17 a1 "com/example/portunus/portunus/Supports" "size" "I" (.int (0 : Int32)) := (f16_12.ext E17)
  have f17_13 : Fld Z h17 a1 "com/example/portunus/portunus/Supports" "inUse" "I" (.int (0 : Int32)) := (f16_13.ext E17)
  have f17_14 : Arv Z h17 r2 k2 (.object "com/example/portunus/portunus/Support") (1024 : Int32) [] .null := (f16_14.ext E17)
  have f17_15 : Arv Z h17 r17 k17 (.object "com/example/portunus/portunus/Support") (1024 : Int32) [] .null := (Arv.new A17 (by decide))
  have Zs17 : n0 ≤ h17.size := (Nat.le_trans Zs16 E17.1)
  have K17 : Keep h0 h17 [a1] := K16.ext E17
  refine Go.step st17 ?_
  show Go _ _ _ _ _ _ _ T17 (mkF m 80 #[.val (.ref a1)] [(.ref r17), (.ref a1)])
  obtain ⟨T18, h18, X18, e18, W18, st18⟩ := putF X17 hx hZ hown (host := "") (Or.inl (hw _ (List.mem_of_getElem? (i := 25) rfl))) Via.refl e17 f17_6 f17_0 (Or.inl (hw _ (List.mem_of_getElem? (i := 26) rfl))) (hw _ (List.mem_of_getElem? (i := 1) rfl)) (ty := (.array (.object "com/example/portunus/portunus/Support"))) (by decide) rfl rfl (g := (mkF m 80 #[.val (.ref a1)] [(.ref r17), (.ref a1)])) rfl rfl (hb hby d1_80)
  have N18 := Fr.snoc X18 N16 g1
  refine Go.step st18 ?_
  have f18_0 : Exa Z h18 a1 "com/example/portunus/portunus/Supports" := (f17_0.wr W18)
  have f18_1 : Fld Z h18 a1 "com/example/portunus/portunus/Supports" "nodes" "[Lcom/example/portunus/portunus/Support;" (.ref r2) := (f17_1.other W18 (Or.inr (slot_ne (Or.inl (hw _ (List.mem_of_getElem? (i := 12) rfl))) (Or.inl (hw _ (List.mem_of_getElem? (i := 26) rfl))) (by decide) (t := (.array (.object "com/example/portunus/portunus/Support"))) (t' := (.array (.object "com/example/portunus/portunus/Support"))) (by decide) (by decide))))
  have f18_2 : Fld Z h18 a1 "com/example/portunus/portunus/Supports" "nextId" "I" (.int (2 : Int32)) := (f17_2.other W18 (Or.inr (slot_ne (Or.inl (hw _ (List.mem_of_getElem? (i := 14) rfl))) (Or.inl (hw _ (List.mem_of_getElem? (i := 26) rfl))) (by decide) (t := .int) (t' := (.array (.object "com/example/portunus/portunus/Support"))) (by decide) (by decide))))
  have f18_3 : Fld Z h18 a1 "com/example/portunus/portunus/Supports" "caches" "[[Lcom/example/portunus/portunus/Support;" (.ref r5) := (f17_3.other W18 (Or.inr (slot_ne (Or.inl (hw _ (List.mem_of_getElem? (i := 19) rfl))) (Or.inl (hw _ (List.mem_of_getElem? (i := 26) rfl))) (by decide) (t := (.array (.array (.object "com/example/portunus/portunus/Support")))) (t' := (.array (.object "com/example/portunus/portunus/Support"))) (by decide) (by decide))))
  have f18_4 : Fld Z h18 a1 "com/example/portunus/portunus/Supports" "operations" "[I" (.ref r13) := (f17_4.other W18 (Or.inr (slot_ne (Or.inl (hw _ (List.mem_of_getElem? (i := 22) rfl))) (Or.inl (hw _ (List.mem_of_getElem? (i := 26) rfl))) (by decide) (t := (.array .int)) (t' := (.array (.object "com/example/portunus/portunus/Support"))) (by decide) (by decide))))
  have f18_5 : Fld Z h18 a1 "com/example/portunus/portunus/Supports" "lefts" "[Lcom/example/portunus/portunus/Support;" (.ref r15) := (f17_5.other W18 (Or.inr (slot_ne (Or.inl (hw _ (List.mem_of_getElem? (i := 24) rfl))) (Or.inl (hw _ (List.mem_of_getElem? (i := 26) rfl))) (by decide) (t := (.array (.object "com/example/portunus/portunus/Support"))) (t' := (.array (.object "com/example/portunus/portunus/Support"))) (by decide) (by decide))))
  have f18_6 : Fld Z h18 a1 "com/example/portunus/portunus/Supports" "rights" "[Lcom/example/portunus/portunus/Support;" (.ref r17) := (f17_6.same W18)
  have f18_7 : Fld Z h18 a1 "com/example/portunus/portunus/Supports" "stages" "[I" .null := (f17_7.other W18 (Or.inr (slot_ne (Or.inl (hw _ (List.mem_of_getElem? (i := 28) rfl))) (Or.inl (hw _ (List.mem_of_getElem? (i := 26) rfl))) (by decide) (t := (.array .int)) (t' := (.array (.object "com/example/portunus/portunus/Support"))) (by decide) (by decide))))
  have f18_8 : Fld Z h18 a1 "com/example/portunus/portunus/Supports" "tops" "[J" .null := (f17_8.other W18 (Or.inr (slot_ne (Or.inl (hw _ (List.mem_of_getElem? (i := 31) rfl))) (Or.inl (hw _ (List.mem_of_getElem? (i := 26) rfl))) (by decide) (t := (.array .long)) (t' := (.array (.object "com/example/portunus/portunus/Support"))) (by decide) (by decide))))
  have f18_9 : Fld Z h18 a1 "com/example/portunus/portunus/Supports" "firsts" "[Lcom/example/portunus/portunus/Support;" .null := (f17_9.other W18 (Or.inr (slot_ne (Or.inl (hw _ (List.mem_of_getElem? (i := 33) rfl))) (Or.inl (hw _ (List.mem_of_getElem? (i := 26) rfl))) (by decide) (t := (.array (.object "com/example/portunus/portunus/Support"))) (t' := (.array (.object "com/example/portunus/portunus/Support"))) (by decide) (by decide))))
  have f18_10 : Fld Z h18 a1 "com/example/portunus/portunus/Supports" "seconds" "[Lcom/example/portunus/portunus/Support;" .null := (f17_10.other W18 (Or.inr (slot_ne (Or.inl (hw _ (List.mem_of_getElem? (i := 35) rfl))) (Or.inl (hw _ (List.mem_of_getElem? (i := 26) rfl))) (by decide) (t := (.array (.object "com/example/portunus/portunus/Support"))) (t' := (.array (.object "com/example/portunus/portunus/Support"))) (by decide) (by decide))))
  have f18_11 : Fld Z h18 a1 "com/example/portunus/portunus/Supports" "merged" "[J" .null := (f17_11.other W18 (Or.inr (slot_ne (Or.inl (hw _ (List.mem_of_getElem? (i := 37) rfl))) (Or.inl (hw _ (List.mem_of_getElem? (i := 26) rfl))) (by decide) (t := (.array .long)) (t' := (.array (.object "com/example/portunus/portunus/Support"))) (by decide) (by decide))))
  have f18_12 : Fld Z h18 a1 "com/example/portunus/portunus/Supports" "size" "I" (.int (0 : Int32)) := (f17_12.other W18 (Or.inr (slot_ne (Or.inl (hw _ (List.mem_of_getElem? (i := 44) rfl))) (Or.inl (hw _ (List.mem_of_getElem? (i := 26) rfl))) (by decide) (t := .int) (t' := (.array (.object "com/example/portunus/portunus/Support"))) (by decide) (by decide))))
  have f18_13 : Fld Z h18 a1 "com/example/portunus/portunus/Supports" "inUse" "I" (.int (0 : Int32)) := (f17_13.other W18 (Or.inr (slot_ne (Or.inl (hw _ (List.mem_of_getElem? (i := 120) rfl))) (Or.inl (hw _ (List.mem_of_getElem? (i := 26) rfl))) (by decide) (t := .int) (t' := (.array (.object "com/example/portunus/portunus/Support"))) (by decide) (by decide))))
  have f18_14 : Arv Z h18 r2 k2 (.object "com/example/portunus/portunus/Support") (1024 : Int32) [] .null := (f17_14.other W18 (Ne.symm ne_a1_r2))
  have f18_15 : Arv Z h18 r17 k17 (.object "com/example/portunus/portunus/Support") (1024 : Int32) [] .null := (f17_15.other W18 (Ne.symm ne_a1_r17))
  have Zs18 : n0 ≤ h18.size := (Nat.le_trans Zs17 (Keep.of_wr W18).1)
  have K18 : Keep h0 h18 [a1] := K17.wr W18 (Or.inl (List.mem_of_getElem? (i := 0) rfl))
  show Go _ _ _ _ _ _ _ T18 (mkF m 83 #[.val (.ref a1)] [])
  refine Go.step (fun t_ k_ => XS.aloadN X18.here hx rfl (hb hby d1_83) rfl rfl k_) ?_
  show Go _ _ _ _ _ _ _ T18 (mkF m 84 #[.val (.ref a1)] [(.ref a1)])
  refine Go.step (fun t_ k_ => XS.sipush X18.here hx rfl (hb hby d1_84) k_) ?_
  show Go _ _ _ _ _ _ _ T18 (mkF m 87 #[.val (.ref a1)] [(.int (1024 : Int32)), (.ref a1)])
  obtain ⟨T19, h19, k19, X19, e19, E19, A19, st19⟩ := newP X18 hx hZ (hw _ (List.mem_of_getElem? (i := 20) rfl)) e18 (g := (mkF m 87 #[.val (.ref a1)] [(.int (1024 : Int32)), (.ref a1)])) rfl (hb hby d1_87) rfl (by decide) (cap := 1024) (by decide) (by decide) (by decide) (by decide)
  obtain ⟨r19, g19⟩ : ∃ z, z = h18.size := ⟨_, rfl⟩
  rw [← g19] at A19 st19
  have ne_a1_r19 : a1 ≠ r19 := Nat.ne_of_lt (Nat.lt_of_lt_of_le f18_0.lt (Nat.le_of_eq g19.symm))
  have ne_r2_r19 : r2 ≠ r19 := Nat.ne_of_lt (Nat.lt_of_lt_of_le f18_14.lt (Nat.le_of_eq g19.symm))
  have ge_r19 : n0 ≤ r19 := Nat.le_trans Zs18 (Nat.le_of_eq g19.symm)
  have geh_r19 : h0.size ≤ r19 := Nat.le_trans K18.1 (Nat.le_of_eq g19.symm)
  have f19_0 : Exa Z h19 a1 "com/example/portunus/portunus/Supports" := (f18_0.ext E19)
  have f19_1 : Fld Z h19 a1 "com/example/portunus/portunus/Supports" "nodes" "[Lcom/example/portunus/portunus/Support;" (.ref r2) := (f18_1.ext E19)
  have f19_2 : Fld Z h19 a1 "com/example/portunus/portunus/Supports" "nextId" "I" (.int (2 : Int32)) := (f18_2.ext E19)
  have f19_3 : Fld Z h19 a1 "com/example/portunus/portunus/Supports" "caches" "[[Lcom/example/portunus/portunus/Support;" (.ref r5) := (f18_3.ext E19)
  have f19_4 : Fld Z h19 a1 "com/example/portunus/portunus/Supports" "operations" "[I" (.ref r13) := (f18_4.ext E19)
  have f19_5 : Fld Z h19 a1 "com/example/portunus/portunus/Supports" "lefts" "[Lcom/example/portunus/portunus/Support;" (.ref r15) := (f18_5.ext E19)
  have f19_6 : Fld Z h19 a1 "com/example/portunus/portunus/Supports" "rights" "[Lcom/example/portunus/portunus/Support;" (.ref r17) := (f18_6.ext E19)
  have f19_7 : Fld Z h19 a1 "com/example/portunus/portunus/Supports" "stages" "[I" .null := (f18_7.ext E19)
  have f19_8 : Fld Z h19 a1 "com/example/portunus/portunus/Supports" "tops" "[J" .null := (f18_8.ext E19)
  have f19_9 : Fld Z h19 a1 "com/example/portunus/portunus/Supports" "firsts" "[Lcom/example/portunus/portunus/Support;" .null := (f18_9.ext E19)
  have f19_10 : Fld Z h19 a1 "com/example/portunus/portunus/Supports" "seconds" "[Lcom/example/portunus/portunus/Support;" .null := (f18_10.ext E19)
  have f19_11 : Fld Z h19 a1 "com/example/portunus/portunus/Supports" "merged" "[J" .null := (f18_11.ext E19)
  have f19_12 : Fld Z h19 a1 "com/example/portunus/portunus/Supports" "size" "I" (.int (0 : Int32)) := (f18_12.ext E19)
  have f19_13 : Fld Z h19 a1 "com/example/portunus/portunus/Supports" "inUse" "I" (.int (0 : Int32)) := (f18_13.ext E19)
  have f19_14 : Arv Z h19 r2 k2 (.object "com/example/portunus/portunus/Support") (1024 : Int32) [] .null := (f18_14.ext E19)
  have f19_15 : Arv Z h19 r19 k19 .int (1024 : Int32) [] (.int (0 : Int32)) := (Arv.new A19 (by decide))
  have Zs19 : n0 ≤ h19.size := (Nat.le_trans Zs18 E19.1)
  have K19 : Keep h0 h19 [a1] := K18.ext E19
  refine Go.step st19 ?_
  show Go _ _ _ _ _ _ _ T19 (mkF m 89 #[.val (.ref a1)] [(.ref r19), (.ref a1)])
  obtain ⟨T20, h20, X20, e20, W20, st20⟩ := putF X19 hx hZ hown (host := "") (Or.inl (hw _ (List.mem_of_getElem? (i := 27) rfl))) Via.refl e19 f19_7 f19_0 (Or.inl (hw _ (List.mem_of_getElem? (i := 28) rfl))) (hw _ (List.mem_of_getElem? (i := 1) rfl)) (ty := (.array .int)) (by decide) rfl rfl (g := (mkF m 89 #[.val (.ref a1)] [(.ref r19), (.ref a1)])) rfl rfl (hb hby d1_89)
  have N20 := Fr.snoc X20 N18 g1
  refine Go.step st20 ?_
  have f20_0 : Exa Z h20 a1 "com/example/portunus/portunus/Supports" := (f19_0.wr W20)
  have f20_1 : Fld Z h20 a1 "com/example/portunus/portunus/Supports" "nodes" "[Lcom/example/portunus/portunus/Support;" (.ref r2) := (f19_1.other W20 (Or.inr (slot_ne (Or.inl (hw _ (List.mem_of_getElem? (i := 12) rfl))) (Or.inl (hw _ (List.mem_of_getElem? (i := 28) rfl))) (by decide) (t := (.array (.object "com/example/portunus/portunus/Support"))) (t' := (.array .int)) (by decide) (by decide))))
  have f20_2 : Fld Z h20 a1 "com/example/portunus/portunus/Supports" "nextId" "I" (.int (2 : Int32)) := (f19_2.other W20 (Or.inr (slot_ne (Or.inl (hw _ (List.mem_of_getElem? (i := 14) rfl))) (Or.inl (hw _ (List.mem_of_getElem? (i := 28) rfl))) (by decide) (t := .int) (t' := (.array .int)) (by decide) (by decide))))
  have f20_3 : Fld Z h20 a1 "com/example/portunus/portunus/Supports" "caches" "[[Lcom/example/portunus/portunus/Support;" (.ref r5) := (f19_3.other W20 (Or.inr (slot_ne (Or.inl (hw _ (List.mem_of_getElem? (i := 19) rfl))) (Or.inl (hw _ (List.mem_of_getElem? (i := 28) rfl))) (by decide) (t := (.array (.array (.object "com/example/portunus/portunus/Support")))) (t' := (.array .int)) (by decide) (by decide))))
  have f20_4 : Fld Z h20 a1 "com/example/portunus/portunus/Supports" "operations" "[I" (.ref r13) := (f19_4.other W20 (Or.inr (slot_ne (Or.inl (hw _ (List.mem_of_getElem? (i := 22) rfl))) (Or.inl (hw _ (List.mem_of_getElem? (i := 28) rfl))) (by decide) (t := (.array .int)) (t' := (.array .int)) (by decide) (by decide))))
  have f20_5 : Fld Z h20 a1 "com/example/portunus/portunus/Supports" "lefts" "[Lcom/example/portunus/portunus/Support;" (.ref r15) := (f19_5.other W20 (Or.inr (slot_ne (Or.inl (hw _ (List.mem_of_getElem? (i := 24) rfl))) (Or.inl (hw _ (List.mem_of_getElem? (i := 28) rfl))) (by decide) (t := (.array (.object "com/example/portunus/portunus/Support"))) (t' := (.array .int)) (by decide) (by decide))))
  have f20_6 : Fld Z h20 a1 "com/example/portunus/portunus/Supports" "rights" "[Lcom/example/portunus/portunus/Support;" (.ref r17) := (f19_6.other W20 (Or.inr (slot_ne (Or.inl (hw _ (List.mem_of_getElem? (i := 26) rfl))) (Or.inl (hw _ (List.mem_of_getElem? (i := 28) rfl))) (by decide) (t := (.array (.object "com/example/portunus/portunus/Support"))) (t' := (.array .int)) (by decide) (by decide))))
  have f20_7 : Fld Z h20 a1 "com/example/portunus/portunus/Supports" "stages" "[I" (.ref r19) := (f19_7.same W20)
  have f20_8 : Fld Z h20 a1 "com/example/portunus/portunus/Supports" "tops" "[J" .null := (f19_8.other W20 (Or.inr (slot_ne (Or.inl (hw _ (List.mem_of_getElem? (i := 31) rfl))) (Or.inl (hw _ (List.mem_of_getElem? (i := 28) rfl))) (by decide) (t := (.array .long)) (t' := (.array .int)) (by decide) (by decide))))
  have f20_9 : Fld Z h20 a1 "com/example/portunus/portunus/Supports" "firsts" "[Lcom/example/portunus/portunus/Support;" .null := (f19_9.other W20 (Or.inr (slot_ne (Or.inl (hw _ (List.mem_of_getElem? (i := 33) rfl))) (Or.inl (hw _ (List.mem_of_getElem? (i := 28) rfl))) (by decide) (t := (.array (.object "com/example/portunus/portunus/Support"))) (t' := (.array .int)) (by decide) (by decide))))
  have f20_10 : Fld Z h20 a1 "com/example/portunus/portunus/Supports" "seconds" "[Lcom/example/portunus/portunus/Support;" .null := (f19_10.other W20 (Or.inr (slot_ne (Or.inl (hw _ (List.mem_of_getElem? (i := 35) rfl))) (Or.inl (hw _ (List.mem_of_getElem? (i := 28) rfl))) (by decide) (t := (.array (.object "com/example/portunus/portunus/Support"))) (t' := (.array .int)) (by decide) (by decide))))
  have f20_11 : Fld Z h20 a1 "com/example/portunus/portunus/Supports" "merged" "[J" .null := (f19_11.other W20 (Or.inr (slot_ne (Or.inl (hw _ (List.mem_of_getElem? (i := 37) rfl))) (Or.inl (hw _ (List.mem_of_getElem? (i := 28) rfl))) (by decide) (t := (.array .long)) (t' := (.array .int)) (by decide) (by decide))))
  have f20_12 : Fld Z h20 a1 "com/example/portunus/portunus/Supports" "size" "I" (.int (0 : Int32)) := (f19_12.other W20 (Or.inr (slot_ne (Or.inl (hw _ (List.mem_of_getElem? (i := 44) rfl))) (Or.inl (hw _ (List.mem_of_getElem? (i := 28) rfl))) (by decide) (t := .int) (t' := (.array .int)) (by decide) (by decide))))
  have f20_13 : Fld Z h20 a1 "com/example/portunus/portunus/Supports" "inUse" "I" (.int (0 : Int32)) := (f19_13.other W20 (Or.inr (slot_ne (Or.inl (hw _ (List.mem_of_getElem? (i := 120) rfl))) (Or.inl (hw _ (List.mem_of_getElem? (i := 28) rfl))) (by decide) (t := .int) (t' := (.array .int)) (by decide) (by decide))))
  have f20_14 : Arv Z h20 r2 k2 (.object "com/example/portunus/portunus/Support") (1024 : Int32) [] .null := (f19_14.other W20 (Ne.symm ne_a1_r2))
  have f20_15 : Arv Z h20 r19 k19 .int (1024 : Int32) [] (.int (0 : Int32)) := (f19_15.other W20 (Ne.symm ne_a1_r19))
  have Zs20 : n0 ≤ h20.size := (Nat.le_trans Zs19 (Keep.of_wr W20).1)
  have K20 : Keep h0 h20 [a1] := K19.wr W20 (Or.inl (List.mem_of_getElem? (i := 0) rfl))
  show Go _ _ _ _ _ _ _ T20 (mkF m 92 #[.val (.ref a1)] [])
  refine Go.step (fun t_ k_ => XS.aloadN X20.here hx rfl (hb hby d1_92) rfl rfl k_) ?_
  show Go _ _ _ _ _ _ _ T20 (mkF m 93 #[.val (.ref a1)] [(.ref a1)])
  refine Go.step (fun t_ k_ => XS.sipush X20.here hx rfl (hb hby d1_93) k_) ?_
  show Go _ _ _ _ _ _ _ T20 (mkF m 96 #[.val (.ref a1)] [(.int (1024 : Int32)), (.ref a1)])
  obtain ⟨T21, h21, k21, X21, e21, E21, A21, st21⟩ := newP X20 hx hZ (hw _ (List.mem_of_getElem? (i := 29) rfl)) e20 (g := (mkF m 96 #[.val (.ref a1)] [(.int (1024 : Int32)), (.ref a1)])) rfl (hb hby d1_96) rfl (by decide) (cap := 1024) (by decide) (by decide) (by decide) (by decide)
  obtain ⟨r21, g21⟩ : ∃ z, z = h20.size := ⟨_, rfl⟩
  rw [← g21] at A21 st21
  have ne_a1_r21 : a1 ≠ r21 := Nat.ne_of_lt (Nat.lt_of_lt_of_le f20_0.lt (Nat.le_of_eq g21.symm))
  have ne_r2_r21 : r2 ≠ r21 := Nat.ne_of_lt (Nat.lt_of_lt_of_le f20_14.lt (Nat.le_of_eq g21.symm))
  have ge_r21 : n0 ≤ r21 := Nat.le_trans Zs20 (Nat.le_of_eq g21.symm)
  have geh_r21 : h0.size ≤ r21 := Nat.le_trans K20.1 (Nat.le_of_eq g21.symm)
  have f21_0 : Exa Z h21 a1 "com/example/portunus/portunus/Supports" := (f20_0.ext E21)
  have f21_1 : Fld Z h21 a1 "com/example/portunus/portunus/Supports" "nodes" "[Lcom/example/portunus/portunus/Support;" (.ref r2) := (f20_1.ext E21)
  have f21_2 : Fld Z h21 a1 "com/example/portunus/portunus/Supports" "nextId" "I" (.int (2 : Int32)) := (f20_2.ext E21)
  have f21_3 : Fld Z h21 a1 "com/example/portunus/portunus/Supports" "caches" "[[Lcom/example/portunus/portunus/Support;" (.ref r5) := (f20_3.ext E21)
  have f21_4 : Fld Z h21 a1 "com/example/portunus/portunus/Supports" "operations" "[I" (.ref r13) := (f20_4.ext E21)
  have f21_5 : Fld Z h21 a1 "com/example/portunus/portunus/Supports" "lefts" "[Lcom/example/portunus/portunus/Support;" (.ref r15) := (f20_5.ext E21)
  have f21_6 : Fld Z h21 a1 "com/example/portunus/portunus/Supports" "rights" "[Lcom/example/portunus/portunus/Support;" (.ref r17) := (f20_6.ext E21)
  have f21_7 : Fld Z h21 a1 "com/example/portunus/portunus/Supports" "stages" "[I" (.ref r19) := (f20_7.ext E21)
  have f21_8 : Fld Z h21 a1 "com/example/portunus/portunus/Supports" "tops" "[J" .null := (f20_8.ext E21)
  have f21_9 : Fld Z h21 a1 "com/example/portunus/portunus/Supports" "firsts" "[Lcom/example/portunus/portunus/Support;" .null := (f20_9.ext E21)
  have f21_10 : Fld Z h21 a1 "com/example/portunus/portunus/Supports" "seconds" "[Lcom/example/portunus/portunus/Support;" .null := (f20_10.ext E21)
  have f21_11 : Fld Z h21 a1 "com/example/portunus/portunus/Supports" "merged" "[J" .null := (f20_11.ext E21)
  have f21_12 : Fld Z h21 a1 "com/example/portunus/portunus/Supports" "size" "I" (.int (0 : Int32)) := (f20_12.ext E21)
  have f21_13 : Fld Z h21 a1 "com/example/portunus/portunus/Supports" "inUse" "I" (.int (0 : Int32)) := (f20_13.ext E21)
  have f21_14 : Arv Z h21 r2 k2 (.object "com/example/portunus/portunus/Support") (1024 : Int32) [] .null := (f20_14.ext E21)
  have f21_15 : Arv Z h21 r21 k21 .long (1024 : Int32) [] (.long (0 : Int64)) := (Arv.new A21 (by decide))
  have Zs21 : n0 ≤ h21.size := (Nat.le_trans Zs20 E21.1)
  have K21 : Keep h0 h21 [a1] := K20.ext E21
  refine Go.step st21 ?_
  show Go _ _ _ _ _ _ _ T21 (mkF m 98 #[.val (.ref a1)] [(.ref r21), (.ref a1)])
  obtain ⟨T22, h22, X22, e22, W22, st22⟩ := putF X21 hx hZ hown (host := "") (Or.inl (hw _ (List.mem_of_getElem? (i := 30) rfl))) Via.refl e21 f21_8 f21_0 (Or.inl (hw _ (List.mem_of_getElem? (i := 31) rfl))) (hw _ (List.mem_of_getElem? (i := 1) rfl)) (ty := (.array .long)) (by decide) rfl rfl (g := (mkF m 98 #[.val (.ref a1)] [(.ref r21), (.ref a1)])) rfl rfl (hb hby d1_98)
  have N22 := Fr.snoc X22 N20 g1
  refine Go.step st22 ?_
  have f22_0 : Exa Z h22 a1 "com/example/portunus/portunus/Supports" := (f21_0.wr W22)
  have f22_1 : Fld Z h22 a1 "com/example/portunus/portunus/Supports" "nodes" "[Lcom/example/portunus/portunus/Support;" (.ref r2) := (f21_1.other W22 (Or.inr (slot_ne (Or.inl (hw _ (List.mem_of_getElem? (i := 12) rfl))) (Or.inl (hw _ (List.mem_of_getElem? (i := 31) rfl))) (by decide) (t := (.array (.object "com/example/portunus/portunus/Support"))) (t' := (.array .long)) (by decide) (by decide))))
  have f22_2 : Fld Z h22 a1 "com/example/portunus/portunus/Supports" "nextId" "I" (.int (2 : Int32)) := (f21_2.other W22 (Or.inr (slot_ne (Or.inl (hw _ (List.mem_of_getElem? (i := 14) rfl))) (Or.inl (hw _ (List.mem_of_getElem? (i := 31) rfl))) (by decide) (t := .int) (t' := (.array .long)) (by decide) (by decide))))
  have f22_3 : Fld Z h22 a1 "com/example/portunus/portunus/Supports" "caches" "[[Lcom/example/portunus/portunus/Support;" (.ref r5) := (f21_3.other W22 (Or.inr (slot_ne (Or.inl (hw _ (List.mem_of_getElem? (i := 19) rfl))) (Or.inl (hw _ (List.mem_of_getElem? (i := 31) rfl))) (by decide) (t := (.array (.array (.object "com/example/portunus/portunus/Support")))) (t' := (.array .long)) (by decide) (by decide))))
  have f22_4 : Fld Z h22 a1 "com/example/portunus/portunus/Supports" "operations" "[I" (.ref r13) := (f21_4.other W22 (Or.inr (slot_ne (Or.inl (hw _ (List.mem_of_getElem? (i := 22) rfl))) (Or.inl (hw _ (List.mem_of_getElem? (i := 31) rfl))) (by decide) (t := (.array .int)) (t' := (.array .long)) (by decide) (by decide))))
  have f22_5 : Fld Z h22 a1 "com/example/portunus/portunus/Supports" "lefts" "[Lcom/example/portunus/portunus/Support;" (.ref r15) := (f21_5.other W22 (Or.inr (slot_ne (Or.inl (hw _ (List.mem_of_getElem? (i := 24) rfl))) (Or.inl (hw _ (List.mem_of_getElem? (i := 31) rfl))) (by decide) (t := (.array (.object "com/example/portunus/portunus/Support"))) (t' := (.array .long)) (by decide) (by decide))))
  have f22_6 : Fld Z h22 a1 "com/example/portunus/portunus/Supports" "rights" "[Lcom/example/portunus/portunus/Support;" (.ref r17) := (f21_6.other W22 (Or.inr (slot_ne (Or.inl (hw _ (List.mem_of_getElem? (i := 26) rfl))) (Or.inl (hw _ (List.mem_of_getElem? (i := 31) rfl))) (by decide) (t := (.array (.object "com/example/portunus/portunus/Support"))) (t' := (.array .long)) (by decide) (by decide))))
  have f22_7 : Fld Z h22 a1 "com/example/portunus/portunus/Supports" "stages" "[I" (.ref r19) := (f21_7.other W22 (Or.inr (slot_ne (Or.inl (hw _ (List.mem_of_getElem? (i := 28) rfl))) (Or.inl (hw _ (List.mem_of_getElem? (i := 31) rfl))) (by decide) (t := (.array .int)) (t' := (.array .long)) (by decide) (by decide))))
  have f22_8 : Fld Z h22 a1 "com/example/portunus/portunus/Supports" "tops" "[J" (.ref r21) := (f21_8.same W22)
  have f22_9 : Fld Z h22 a1 "com/example/portunus/portunus/Supports" "firsts" "[Lcom/example/portunus/portunus/Support;" .null := (f21_9.other W22 (Or.inr (slot_ne (Or.inl (hw _ (List.mem_of_getElem? (i := 33) rfl))) (Or.inl (hw _ (List.mem_of_getElem? (i := 31) rfl))) (by decide) (t := (.array (.object "com/example/portunus/portunus/Support"))) (t' := (.array .long)) (by decide) (by decide))))
  have f22_10 : Fld Z h22 a1 "com/example/portunus/portunus/Supports" "seconds" "[Lcom/example/portunus/portunus/Support;" .null := (f21_10.other W22 (Or.inr (slot_ne (Or.inl (hw _ (List.mem_of_getElem? (i := 35) rfl))) (Or.inl (hw _ (List.mem_of_getElem? (i := 31) rfl))) (by decide) (t := (.array (.object "com/example/portunus/portunus/Support"))) (t' := (.array .long)) (by decide) (by decide))))
  have f22_11 : Fld Z h22 a1 "com/example/portunus/portunus/Supports" "merged" "[J" .null := (f21_11.other W22 (Or.inr (slot_ne (Or.inl (hw _ (List.mem_of_getElem? (i := 37) rfl))) (Or.inl (hw _ (List.mem_of_getElem? (i := 31) rfl))) (by decide) (t := (.array .long)) (t' := (.array .long)) (by decide) (by decide))))
  have f22_12 : Fld Z h22 a1 "com/example/portunus/portunus/Supports" "size" "I" (.int (0 : Int32)) := (f21_12.other W22 (Or.inr (slot_ne (Or.inl (hw _ (List.mem_of_getElem? (i := 44) rfl))) (Or.inl (hw _ (List.mem_of_getElem? (i := 31) rfl))) (by decide) (t := .int) (t' := (.array .long)) (by decide) (by decide))))
  have f22_13 : Fld Z h22 a1 "com/example/portunus/portunus/Supports" "inUse" "I" (.int (0 : Int32)) := (f21_13.other W22 (Or.inr (slot_ne (Or.inl (hw _ (List.mem_of_getElem? (i := 120) rfl))) (Or.inl (hw _ (List.mem_of_getElem? (i := 31) rfl))) (by decide) (t := .int) (t' := (.array .long)) (by decide) (by decide))))
  have f22_14 : Arv Z h22 r2 k2 (.object "com/example/portunus/portunus/Support") (1024 : Int32) [] .null := (f21_14.other W22 (Ne.symm ne_a1_r2))
  have f22_15 : Arv Z h22 r21 k21 .long (1024 : Int32) [] (.long (0 : Int64)) := (f21_15.other W22 (Ne.symm ne_a1_r21))
  have Zs22 : n0 ≤ h22.size := (Nat.le_trans Zs21 (Keep.of_wr W22).1)
  have K22 : Keep h0 h22 [a1] := K21.wr W22 (Or.inl (List.mem_of_getElem? (i := 0) rfl))
  show Go _ _ _ _ _ _ _ T22 (mkF m 101 #[.val (.ref a1)] [])
  refine Go.step (fun t_ k_ => XS.aloadN X22.here hx rfl (hb hby d1_101) rfl rfl k_) ?_
  show Go _ _ _ _ _ _ _ T22 (mkF m 102 #[.val (.ref a1)] [(.ref a1)])
  refine Go.step (fun t_ k_ => XS.sipush X22.here hx rfl (hb hby d1_102) k_) ?_
  show Go _ _ _ _ _ _ _ T22 (mkF m 105 #[.val (.ref a1)] [(.int (1024 : Int32)), (.ref a1)])
  obtain ⟨T23, h23, k23, X23, e23, E23, A23, hO23, st23⟩ := newR X22 hx hZ hown (hw _ (List.mem_of_getElem? (i := 9) rfl)) (hw _ (List.mem_of_getElem? (i := 10) rfl)) e22 (g := (mkF m 105 #[.val (.ref a1)] [(.int (1024 : Int32)), (.ref a1)])) rfl (hb hby d1_105) rfl (by decide) (cap := 1024) (by decide) (by decide) (by decide) (by decide)
  obtain ⟨r23, g23⟩ : ∃ z, z = h22.size := ⟨_, rfl⟩
  rw [← g23] at A23 st23
  have ne_a1_r23 : a1 ≠ r23 := Nat.ne_of_lt (Nat.lt_of_lt_of_le f22_0.lt (Nat.le_of_eq g23.symm))
  have ne_r2_r23 : r2 ≠ r23 := Nat.ne_of_lt (Nat.lt_of_lt_of_le f22_14.lt (Nat.le_of_eq g23.symm))
  have ge_r23 : n0 ≤ r23 := Nat.le_trans Zs22 (Nat.le_of_eq g23.symm)
  have geh_r23 : h0.size ≤ r23 := Nat.le_trans K22.1 (Nat.le_of_eq g23.symm)
  have f23_0 : Exa Z h23 a1 "com/example/portunus/portunus/Supports" := (f22_0.ext E23)
  have f23_1 : Fld Z h23 a1 "com/example/portunus/portunus/Supports" "nodes" "[Lcom/example/portunus/portunus/Support;" (.ref r2) := (f22_1.ext E23)
  have f23_2 : Fld Z h23 a1 "com/example/portunus/portunus/Supports" "nextId" "I" (.int (2 : Int32)) := (f22_2.ext E23)
  have f23_3 : Fld Z h23 a1 "com/example/portunus/portunus/Supports" "caches" "[[Lcom/example/portunus/portunus/Support;" (.ref r5) := (f22_3.ext E23)
  have f23_4 : Fld Z h23 a1 "com/example/portunus/portunus/Supports" "operations" "[I" (.ref r13) := (f22_4.ext E23)
  have f23_5 : Fld Z h23 a1 "com/example/portunus/portunus/Supports" "lefts" "[Lcom/example/portunus/portunus/Support;" (.ref r15) := (f22_5.ext E23)
  have f23_6 : Fld Z h23 a1 "com/example/portunus/portunus/Supports" "rights" "[Lcom/example/portunus/portunus/Support;" (.ref r17) := (f22_6.ext E23)
  have f23_7 : Fld Z h23 a1 "com/example/portunus/portunus/Supports" "stages" "[I" (.ref r19) := (f22_7.ext E23)
  have f23_8 : Fld Z h23 a1 "com/example/portunus/portunus/Supports" "tops" "[J" (.ref r21) := (f22_8.ext E23)
  have f23_9 : Fld Z h23 a1 "com/example/portunus/portunus/Supports" "firsts" "[Lcom/example/portunus/portunus/Support;" .null := (f22_9.ext E23)
  have f23_10 : Fld Z h23 a1 "com/example/portunus/portunus/Supports" "seconds" "[Lcom/example/portunus/portunus/Support;" .null := (f22_10.ext E23)
  have f23_11 : Fld Z h23 a1 "com/example/portunus/portunus/Supports" "merged" "[J" .null := (f22_11.ext E23)
  have f23_12 : Fld Z h23 a1 "com/example/portunus/portunus/Supports" "size" "I" (.int (0 : Int32)) := (f22_12.ext E23)
  have f23_13 : Fld Z h23 a1 "com/example/portunus/portunus/Supports" "inUse" "I" (.int (0 : Int32)) := (f22_13.ext E23)
  have f23_14 : Arv Z h23 r2 k2 (.object "com/example/portunus/portunus/Support") (1024 : Int32) [] .null := (f22_14.ext E23)
  have f23_15 : Arv Z h23 r23 k23 (.object "com/example/portunus/portunus/Support") (1024 : Int32) [] .null := (Arv.new A23 (by decide))
  have Zs23 : n0 ≤ h23.size := (Nat.le_trans Zs22 E23.1)
  have K23 : Keep h0 h23 [a1] := K22.ext E23
  refine Go.step st23 ?_
  show Go _ _ _ _ _ _ _ T23 (mkF m 108 #[.val (.ref a1)] [(.ref r23), (.ref a1)])
  obtain ⟨T24, h24, X24, e24, W24, st24⟩ := putF X23 hx hZ hown (host := "") (Or.inl (hw _ (List.mem_of_getElem? (i := 32) rfl))) Via.refl e23 f23_9 f23_0 (Or.inl (hw _ (List.mem_of_getElem? (i := 33) rfl))) (hw _ (List.mem_of_getElem? (i := 1) rfl)) (ty := (.array (.object "com/example/portunus/portunus/Support"))) (by decide) rfl rfl (g := (mkF m 108 #[.val (.ref a1)] [(.ref r23), (.ref a1)])) rfl rfl (hb hby d1_108)
  have N24 := Fr.snoc X24 N22 g1
  refine Go.step st24 ?_
  have f24_0 : Exa Z h24 a1 "com/example/portunus/portunus/Supports" := (f23_0.wr W24)
  have f24_1 : Fld Z h24 a1 "com/example/portunus/portunus/Supports" "nodes" "[Lcom/example/portunus/portunus/Support;" (.ref r2) := (f23_1.other W24 (Or.inr (slot_ne (Or.inl (hw _ (List.mem_of_getElem? (i := 12) rfl))) (Or.inl (hw _ (List.mem_of_getElem? (i := 33) rfl))) (by decide) (t := (.array (.object "com/example/portunus/portunus/Support"))) (t' := (.array (.object "com/example/portunus/portunus/Support"))) (by decide) (by decide))))
  have f24_2 : Fld Z h24 a1 "com/example/portunus/portunus/Supports" "nextId" "I" (.int (2 : Int32)) := (f23_2.other W24 (Or.inr (slot_ne (Or.inl (hw _ (List.mem_of_getElem? (i := 14) rfl))) (Or.inl (hw _ (List.mem_of_getElem? (i := 33) rfl))) (by decide) (t := .int) (t' := (.array (.object "com/example/portunus/portunus/Support"))) (by decide) (by decide))))
  have f24_3 : Fld Z h24 a1 "com/example/portunus/portunus/Supports" "caches" "[[Lcom/example/portunus/portunus/Support;" (.ref r5) := (f23_3.other W24 (Or.inr (slot_ne (Or.inl (hw _ (List.mem_of_getElem? (i := 19) rfl))) (Or.inl (hw _ (List.mem_of_getElem? (i := 33) rfl))) (by decide) (t := (.array (.array (.object "com/example/portunus/portunus/Support")))) (t' := (.array (.object "com/example/portunus/portunus/Support"))) (by decide) (by decide))))
  have f24_4 : Fld Z h24 a1 "com/example/portunus/portunus/Supports" "operations" "[I" (.ref r13) := (f23_4.other W24 (Or.inr (slot_ne (Or.inl (hw _ (List.mem_of_getElem? (i := 22) rfl))) (Or.inl (hw _ (List.mem_of_getElem? (i := 33) rfl))) (by decide) (t := (.array .int)) (t' := (.array (.object "com/example/portunus/portunus/Support"))) (by decide) (by decide))))
  have f24_5 : Fld Z h24 a1 "com/example/portunus/portunus/Supports" "lefts" "[Lcom/example/portunus/portunus/Support;" (.ref r15) := (f23_5.other W24 (Or.inr (slot_ne (Or.inl (hw _ (List.mem_of_getElem? (i := 24) rfl))) (Or.inl (hw _ (List.mem_of_getElem? (i := 33) rfl))) (by decide) (t := (.array (.object "com/example/portunus/portunus/Support"))) (t' := (.array (.object "com/example/portunus/portunus/Support"))) (by decide) (by decide))))
  have f24_6 : Fld Z h24 a1 "com/example/portunus/portunus/Supports" "rights" "[Lcom/example/portunus/portunus/Support;" (.ref r17) := (f23_6.other W24 (Or.inr (slot_ne (Or.inl (hw _ (List.mem_of_getElem? (i := 26) rfl))) (Or.inl (hw _ (List.mem_of_getElem? (i := 33) rfl))) (by decide) (t := (.array (.object "com/example/portunus/portunus/Support"))) (t' := (.array (.object "com/example/portunus/portunus/Support"))) (by decide) (by decide))))
  have f24_7 : Fld Z h24 a1 "com/example/portunus/portunus/Supports" "stages" "[I" (.ref r19) := (f23_7.other W24 (Or.inr (slot_ne (Or.inl (hw _ (List.mem_of_getElem? (i := 28) rfl))) (Or.inl (hw _ (List.mem_of_getElem? (i := 33) rfl))) (by decide) (t := (.array .int)) (t' := (.array (.object "com/example/portunus/portunus/Support"))) (by decide) (by decide))))
  have f24_8 : Fld Z h24 a1 "com/example/portunus/portunus/Supports" "tops" "[J" (.ref r21) := (f23_8.other W24 (Or.inr (slot_ne (Or.inl (hw _ (List.mem_of_getElem? (i := 31) rfl))) (Or.inl (hw _ (List.mem_of_getElem? (i := 33) rfl))) (by decide) (t := (.array .long)) (t' := (.array (.object "com/example/portunus/portunus/Support"))) (by decide) (by decide))))
  have f24_9 : Fld Z h24 a1 "com/example/portunus/portunus/Supports" "firsts" "[Lcom/example/portunus/portunus/Support;" (.ref r23) := (f23_9.same W24)
  have f24_10 : Fld Z h24 a1 "com/example/portunus/portunus/Supports" "seconds" "[Lcom/example/portunus/portunus/Support;" .null := (f23_10.other W24 (Or.inr (slot_ne (Or.inl (hw _ (List.mem_of_getElem? (i := 35) rfl))) (Or.inl (hw _ (List.mem_of_getElem? (i := 33) rfl))) (by decide) (t := (.array (.object "com/example/portunus/portunus/Support"))) (t' := (.array (.object "com/example/portunus/portunus/Support"))) (by decide) (by decide))))
  have f24_11 : Fld Z h24 a1 "com/example/portunus/portunus/Supports" "merged" "[J" .null := (f23_11.other W24 (Or.inr (slot_ne (Or.inl (hw _ (List.mem_of_getElem? (i := 37) rfl))) (Or.inl (hw _ (List.mem_of_getElem? (i := 33) rfl))) (by decide) (t := (.array .long)) (t' := (.array (.object "com/example/portunus/portunus/Support"))) (by decide) (by decide))))
  have f24_12 : Fld Z h24 a1 "com/example/portunus/portunus/Supports" "size" "I" (.int (0 : Int32)) := (f23_12.other W24 (Or.inr (slot_ne (Or.inl (hw _ (List.mem_of_getElem? (i := 44) rfl))) (Or.inl (hw _ (List.mem_of_getElem? (i := 33) rfl))) (by decide) (t := .int) (t' := (.array (.object "com/example/portunus/portunus/Support"))) (by decide) (by decide))))
  have f24_13 : Fld Z h24 a1 "com/example/portunus/portunus/Supports" "inUse" "I" (.int (0 : Int32)) := (f23_13.other W24 (Or.inr (slot_ne (Or.inl (hw _ (List.mem_of_getElem? (i := 120) rfl))) (Or.inl (hw _ (List.mem_of_getElem? (i := 33) rfl))) (by decide) (t := .int) (t' := (.array (.object "com/example/portunus/portunus/Support"))) (by decide) (by decide))))
  have f24_14 : Arv Z h24 r2 k2 (.object "com/example/portunus/portunus/Support") (1024 : Int32) [] .null := (f23_14.other W24 (Ne.symm ne_a1_r2))
  have f24_15 : Arv Z h24 r23 k23 (.object "com/example/portunus/portunus/Support") (1024 : Int32) [] .null := (f23_15.other W24 (Ne.symm ne_a1_r23))
  have Zs24 : n0 ≤ h24.size := (Nat.le_trans Zs23 (Keep.of_wr W24).1)
  have K24 : Keep h0 h24 [a1] := K23.wr W24 (Or.inl (List.mem_of_getElem? (i := 0) rfl))
  show Go _ _ _ _ _ _ _ T24 (mkF m 111 #[.val (.ref a1)] [])
  refine Go.step (fun t_ k_ => XS.aloadN X24.here hx rfl (hb hby d1_111) rfl rfl k_) ?_
  show Go _ _ _ _ _ _ _ T24 (mkF m 112 #[.val (.ref a1)] [(.ref a1)])
  refine Go.step (fun t_ k_ => XS.sipush X24.here hx rfl (hb hby d1_112) k_) ?_
  show Go _ _ _ _ _ _ _ T24 (mkF m 115 #[.val (.ref a1)] [(.int (1024 : Int32)), (.ref a1)])
  obtain ⟨T25, h25, k25, X25, e25, E25, A25, hO25, st25⟩ := newR X24 hx hZ hown (hw _ (List.mem_of_getElem? (i := 9) rfl)) (hw _ (List.mem_of_getElem? (i := 10) rfl)) e24 (g := (mkF m 115 #[.val (.ref a1)] [(.int (1024 : Int32)), (.ref a1)])) rfl (hb hby d1_115) rfl (by decide) (cap := 1024) (by decide) (by decide) (by decide) (by decide)
  obtain ⟨r25, g25⟩ : ∃ z, z = h24.size := ⟨_, rfl⟩
  rw [← g25] at A25 st25
  have ne_a1_r25 : a1 ≠ r25 := Nat.ne_of_lt (Nat.lt_of_lt_of_le f24_0.lt (Nat.le_of_eq g25.symm))
  have ne_r2_r25 : r2 ≠ r25 := Nat.ne_of_lt (Nat.lt_of_lt_of_le f24_14.lt (Nat.le_of_eq g25.symm))
  have ge_r25 : n0 ≤ r25 := Nat.le_trans Zs24 (Nat.le_of_eq g25.symm)
  have geh_r25 : h0.size ≤ r25 := Nat.le_trans K24.1 (Nat.le_of_eq g25.symm)
  have f25_0 : Exa Z h25 a1 "com/example/portunus/portunus/Supports" := (f24_0.ext E25)
  have f25_1 : Fld Z h25 a1 "com/example/portunus/portunus/Supports" "nodes" "[Lcom/example/portunus/portunus/Support;" (.ref r2) := (f24_1.ext E25)
  have f25_2 : Fld Z h25 a1 "com/example/portunus/portunus/Supports" "nextId" "I" (.int (2 : Int32)) := (f24_2.ext E25)
  have f25_3 : Fld Z h25 a1 "com/example/portunus/portunus/Supports" "caches" "[[Lcom/example/portunus/portunus/Support;" (.ref r5) := (f24_3.ext E25)
  have f25_4 : Fld Z h25 a1 "com/example/portunus/portunus/Supports" "operations" "[I" (.ref r13) := (f24_4.ext E25)
  have f25_5 : Fld Z h25 a1 "com/example/portunus/portunus/Supports" "lefts" "[Lcom/example/portunus/portunus/Support;" (.ref r15) := (f24_5.ext E25)
  have f25_6 : Fld Z h25 a1 "com/example/portunus/portunus/Supports" "rights" "[Lcom/example/portunus/portunus/Support;" (.ref r17) := (f24_6.ext E25)
  have f25_7 : Fld Z h25 a1 "com/example/portunus/portunus/Supports" "stages" "[I" (.ref r19) := (f24_7.ext E25)
  have f25_8 : Fld Z h25 a1 "com/example/portunus/portunus/Supports" "tops" "[J" (.ref r21) := (f24_8.ext E25)
  have f25_9 : Fld Z h25 a1 "com/example/portunus/portunus/Supports" "firsts" "[Lcom/example/portunus/portunus/Support;" (.ref r23) := (f24_9.ext E25)
  have f25_10 : Fld Z h25 a1 "com/example/portunus/portunus/Supports" "seconds" "[Lcom/example/portunus/portunus/Support;" .null := (f24_10.ext E25)
  have f25_11 : Fld Z h25 a1 "com/example/portunus/portunus/Supports" "merged" "[J" .null := (f24_11.ext E25)
  have f25_12 : Fld Z h25 a1 "com/example/portunus/portunus/Supports" "size" "I" (.int (0 : Int32)) := (f24_12.ext E25)
  have f25_13 : Fld Z h25 a1 "com/example/portunus/portunus/Supports" "inUse" "I" (.int (0 : Int32)) := (f24_13.ext E25)
  have f25_14 : Arv Z h25 r2 k2 (.object "com/example/portunus/portunus/Support") (1024 : Int32) [] .null := (f24_14.ext E25)
  have f25_15 : Arv Z h25 r25 k25 (.object "com/example/portunus/portunus/Support") (1024 : Int32) [] .null := (Arv.new A25 (by decide))
  have Zs25 : n0 ≤ h25.size := (Nat.le_trans Zs24 E25.1)
  have K25 : Keep h0 h25 [a1] := K24.ext E25
  refine Go.step st25 ?_
  show Go _ _ _ _ _ _ _ T25 (mkF m 118 #[.val (.ref a1)] [(.ref r25), (.ref a1)])
  obtain ⟨T26, h26, X26, e26, W26, st26⟩ := putF X25 hx hZ hown (host := "") (Or.inl (hw _ (List.mem_of_getElem? (i := 34) rfl))) Via.refl e25 f25_10 f25_0 (Or.inl (hw _ (List.mem_of_getElem? (i := 35) rfl))) (hw _ (List.mem_of_getElem? (i := 1) rfl)) (ty := (.array (.object "com/example/portunus/portunus/Support"))) (by decide) rfl rfl (g := (mkF m 118 #[.val (.ref a1)] [(.ref r25), (.ref a1)])) rfl rfl (hb hby d1_118)
  have N26 := Fr.snoc X26 N24 g1
  refine Go.step st26 ?_
  have f26_0 : Exa Z h26 a1 "com/example/portunus/portunus/Supports" := (f25_0.wr W26)
  have f26_1 : Fld Z h26 a1 "com/example/portunus/portunus/Supports" "nodes" "[Lcom/example/portunus/portunus/Support;" (.ref r2) := (f25_1.other W26 (Or.inr (slot_ne (Or.inl (hw _ (List.mem_of_getElem? (i := 12) rfl))) (Or.inl (hw _ (List.mem_of_getElem? (i := 35) rfl))) (by decide) (t := (.array (.object "com/example/portunus/portunus/Support"))) (t' := (.array (.object "com/example/portunus/portunus/Support"))) (by decide) (by decide))))
  have f26_2 : Fld Z h26 a1 "com/example/portunus/portunus/Supports" "nextId" "I" (.int (2 : Int32)) := (f25_2.other W26 (Or.inr (slot_ne (Or.inl (hw _ (List.mem_of_getElem? (i := 14) rfl))) (Or.inl (hw _ (List.mem_of_getElem? (i := 35) rfl))) (by decide) (t := .int) (t' := (.array (.object "com/example/portunus/portunus/Support"))) (by decide) (by decide))))
  have f26_3 : Fld Z h26 a1 "com/example/portunus/portunus/Supports" "caches" "[[Lcom/example/portunus/portunus/Support;" (.ref r5) := (f25_3.other W26 (Or.inr (slot_ne (Or.inl (hw _ (List.mem_of_getElem? (i := 19) rfl))) (Or.inl (hw _ (List.mem_of_getElem? (i := 35) rfl))) (by decide) (t := (.array (.array (.object "com/example/portunus/portunus/Support")))) (t' := (.array (.object "com/example/portunus/portunus/Support"))) (by decide) (by decide))))
  have f26_4 : Fld Z h26 a1 "com/example/portunus/portunus/Supports" "operations" "[I" (.ref r13) := (f25_4.other W26 (Or.inr (slot_ne (Or.inl (hw _ (List.mem_of_getElem? (i := 22) rfl))) (Or.inl (hw _ (List.mem_of_getElem? (i := 35) rfl))) (by decide) (t := (.array .int)) (t' := (.array (.object "com/example/portunus/portunus/Support"))) (by decide) (by decide))))
  have f26_5 : Fld Z h26 a1 "com/example/portunus/portunus/Supports" "lefts" "[Lcom/example/portunus/portunus/Support;" (.ref r15) := (f25_5.other W26 (Or.inr (slot_ne (Or.inl (hw _ (List.mem_of_getElem? (i := 24) rfl))) (Or.inl (hw _ (List.mem_of_getElem? (i := 35) rfl))) (by decide) (t := (.array (.object "com/example/portunus/portunus/Support"))) (t' := (.array (.object "com/example/portunus/portunus/Support"))) (by decide) (by decide))))
  have f26_6 : Fld Z h26 a1 "com/example/portunus/portunus/Supports" "rights" "[Lcom/example/portunus/portunus/Support;" (.ref r17) := (f25_6.other W26 (Or.inr (slot_ne (Or.inl (hw _ (List.mem_of_getElem? (i := 26) rfl))) (Or.inl (hw _ (List.mem_of_getElem? (i := 35) rfl))) (by decide) (t := (.array (.object "com/example/portunus/portunus/Support"))) (t' := (.array (.object "com/example/portunus/portunus/Support"))) (by decide) (by decide))))
  have f26_7 : Fld Z h26 a1 "com/example/portunus/portunus/Supports" "stages" "[I" (.ref r19) := (f25_7.other W26 (Or.inr (slot_ne (Or.inl (hw _ (List.mem_of_getElem? (i := 28) rfl))) (Or.inl (hw _ (List.mem_of_getElem? (i := 35) rfl))) (by decide) (t := (.array .int)) (t' := (.array (.object "com/example/portunus/portunus/Support"))) (by decide) (by decide))))
  have f26_8 : Fld Z h26 a1 "com/example/portunus/portunus/Supports" "tops" "[J" (.ref r21) := (f25_8.other W26 (Or.inr (slot_ne (Or.inl (hw _ (List.mem_of_getElem? (i := 31) rfl))) (Or.inl (hw _ (List.mem_of_getElem? (i := 35) rfl))) (by decide) (t := (.array .long)) (t' := (.array (.object "com/example/portunus/portunus/Support"))) (by decide) (by decide))))
  have f26_9 : Fld Z h26 a1 "com/example/portunus/portunus/Supports" "firsts" "[Lcom/example/portunus/portunus/Support;" (.ref r23) := (f25_9.other W26 (Or.inr (slot_ne (Or.inl (hw _ (List.mem_of_getElem? (i := 33) rfl))) (Or.inl (hw _ (List.mem_of_getElem? (i := 35) rfl))) (by decide) (t := (.array (.object "com/example/portunus/portunus/Support"))) (t' := (.array (.object "com/example/portunus/portunus/Support"))) (by decide) (by decide))))
  have f26_10 : Fld Z h26 a1 "com/example/portunus/portunus/Supports" "seconds" "[Lcom/example/portunus/portunus/Support;" (.ref r25) := (f25_10.same W26)
  have f26_11 : Fld Z h26 a1 "com/example/portunus/portunus/Supports" "merged" "[J" .null := (f25_11.other W26 (Or.inr (slot_ne (Or.inl (hw _ (List.mem_of_getElem? (i := 37) rfl))) (Or.inl (hw _ (List.mem_of_getElem? (i := 35) rfl))) (by decide) (t := (.array .long)) (t' := (.array (.object "com/example/portunus/portunus/Support"))) (by decide) (by decide))))
  have f26_12 : Fld Z h26 a1 "com/example/portunus/portunus/Supports" "size" "I" (.int (0 : Int32)) := (f25_12.other W26 (Or.inr (slot_ne (Or.inl (hw _ (List.mem_of_getElem? (i := 44) rfl))) (Or.inl (hw _ (List.mem_of_getElem? (i := 35) rfl))) (by decide) (t := .int) (t' := (.array (.object "com/example/portunus/portunus/Support"))) (by decide) (by decide))))
  have f26_13 : Fld Z h26 a1 "com/example/portunus/portunus/Supports" "inUse" "I" (.int (0 : Int32)) := (f25_13.other W26 (Or.inr (slot_ne (Or.inl (hw _ (List.mem_of_getElem? (i := 120) rfl))) (Or.inl (hw _ (List.mem_of_getElem? (i := 35) rfl))) (by decide) (t := .int) (t' := (.array (.object "com/example/portunus/portunus/Support"))) (by decide) (by decide))))
  have f26_14 : Arv Z h26 r2 k2 (.object "com/example/portunus/portunus/Support") (1024 : Int32) [] .null := (f25_14.other W26 (Ne.symm ne_a1_r2))
  have f26_15 : Arv Z h26 r25 k25 (.object "com/example/portunus/portunus/Support") (1024 : Int32) [] .null := (f25_15.other W26 (Ne.symm ne_a1_r25))
  have Zs26 : n0 ≤ h26.size := (Nat.le_trans Zs25 (Keep.of_wr W26).1)
  have K26 : Keep h0 h26 [a1] := K25.wr W26 (Or.inl (List.mem_of_getElem? (i := 0) rfl))
  show Go _ _ _ _ _ _ _ T26 (mkF m 121 #[.val (.ref a1)] [])
  refine Go.step (fun t_ k_ => XS.aloadN X26.here hx rfl (hb hby d1_121) rfl rfl k_) ?_
  show Go _ _ _ _ _ _ _ T26 (mkF m 122 #[.val (.ref a1)] [(.ref a1)])
  refine Go.step (fun t_ k_ => XS.sipush X26.here hx rfl (hb hby d1_122) k_) ?_
  show Go _ _ _ _ _ _ _ T26 (mkF m 125 #[.val (.ref a1)] [(.int (1024 : Int32)), (.ref a1)])
  obtain ⟨T27, h27, k27, X27, e27, E27, A27, st27⟩ := newP X26 hx hZ (hw _ (List.mem_of_getElem? (i := 29) rfl)) e26 (g := (mkF m 125 #[.val (.ref a1)] [(.int (1024 : Int32)), (.ref a1)])) rfl (hb hby d1_125) rfl (by decide) (cap := 1024) (by decide) (by decide) (by decide) (by decide)
  obtain ⟨r27, g27⟩ : ∃ z, z = h26.size := ⟨_, rfl⟩
  rw [← g27] at A27 st27
  have ne_a1_r27 : a1 ≠ r27 := Nat.ne_of_lt (Nat.lt_of_lt_of_le f26_0.lt (Nat.le_of_eq g27.symm))
  have ne_r2_r27 : r2 ≠ r27 := Nat.ne_of_lt (Nat.lt_of_lt_of_le f26_14.lt (Nat.le_of_eq g27.symm))
  have ge_r27 : n0 ≤ r27 := Nat.le_trans Zs26 (Nat.le_of_eq g27.symm)
  have geh_r27 : h0.size ≤ r27 := Nat.le_trans K26.1 (Nat.le_of_eq g27.symm)
  have f27_0 : Exa Z h27 a1 "com/example/portunus/portunus/Supports" := (f26_0.ext E27)
  have f27_1 : Fld Z h27 a1 "com/example/portunus/portunus/Supports" "nodes" "[Lcom/example/portunus/portunus/Support;" (.ref r2) := (f26_1.ext E27)
  have f27_2 : Fld Z h27 a1 "com/example/portunus/portunus/Supports" "nextId" "I" (.int (2 : Int32)) := (f26_2.ext E27)
  have f27_3 : Fld Z h27 a1 "com/example/portunus/portunus/Supports" "caches" "[[Lcom/example/portunus/portunus/Support;" (.ref r5) := (f26_3.ext E27)
  have f27_4 : Fld Z h27 a1 "com/example/portunus/portunus/Supports" "operations" "[I" (.ref r13) := (f26_4.ext E27)
  have f27_5 : Fld Z h27 a1 "com/example/portunus/portunus/Supports" "lefts" "[Lcom/example/portunus/portunus/Support;" (.ref r15) := (f26_5.ext E27)
  have f27_6 : Fld Z h27 a1 "com/example/portunus/portunus/Supports" "rights" "[Lcom/example/portunus/portunus/Support;" (.ref r17) := (f26_6.ext E27)
  have f27_7 : Fld Z h27 a1 "com/example/portunus/portunus/Supports" "stages" "[I" (.ref r19) := (f26_7.ext E27)
  have f27_8 : Fld Z h27 a1 "com/example/portunus/portunus/Supports" "tops" "[J" (.ref r21) := (f26_8.ext E27)
  have f27_9 : Fld Z h27 a1 "com/example/portunus/portunus/Supports" "firsts" "[Lcom/example/portunus/portunus/Support;" (.ref r23) := (f26_9.ext E27)
  have f27_10 : Fld Z h27 a1 "com/example/portunus/portunus/Supports" "seconds" "[Lcom/example/portunus/portunus/Support;" (.ref r25) := (f26_10.ext E27)
  have f27_11 : Fld Z h27 a1 "com/example/portunus/portunus/Supports" "merged" "[J" .null := (f26_11.ext E27)
  have f27_12 : Fld Z h27 a1 "com/example/portunus/portunus/Supports" "size" "I" (.int (0 : Int32)) := (f26_12.ext E27)
  have f27_13 : Fld Z h27 a1 "com/example/portunus/portunus/Supports" "inUse" "I" (.int (0 : Int32)) := (f26_13.ext E27)
  have f27_14 : Arv Z h27 r2 k2 (.object "com/example/portunus/portunus/Support") (1024 : Int32) [] .null := (f26_14.ext E27)
  have f27_15 : Arv Z h27 r27 k27 .long (1024 : Int32) [] (.long (0 : Int64)) := (Arv.new A27 (by decide))
  have Zs27 : n0 ≤ h27.size := (Nat.le_trans Zs26 E27.1)
  have K27 : Keep h0 h27 [a1] := K26.ext E27
  refine Go.step st27 ?_
  show Go _ _ _ _ _ _ _ T27 (mkF m 127 #[.val (.ref a1)] [(.ref r27), (.ref a1)])
  obtain ⟨T28, h28, X28, e28, W28, st28⟩ := putF X27 hx hZ hown (host := "") (Or.inl (hw _ (List.mem_of_getElem? (i := 36) rfl))) Via.refl e27 f27_11 f27_0 (Or.inl (hw _ (List.mem_of_getElem? (i := 37) rfl))) (hw _ (List.mem_of_getElem? (i := 1) rfl)) (ty := (.array .long)) (by decide) rfl rfl (g := (mkF m 127 #[.val (.ref a1)] [(.ref r27), (.ref a1)])) rfl rfl (hb hby d1_127)
  have N28 := Fr.snoc X28 N26 g1
  refine Go.step st28 ?_
  have f28_0 : Exa Z h28 a1 "com/example/portunus/portunus/Supports" := (f27_0.wr W28)
  have f28_1 : Fld Z h28 a1 "com/example/portunus/portunus/Supports" "nodes" "[Lcom/example/portunus/portunus/Support;" (.ref r2) := (f27_1.other W28 (Or.inr (slot_ne (Or.inl (hw _ (List.mem_of_getElem? (i := 12) rfl))) (Or.inl (hw _ (List.mem_of_getElem? (i := 37) rfl))) (by decide) (t := (.array (.object "com/example/portunus/portunus/Support"))) (t' := (.array .long)) (by decide) (by decide))))
  have f28_2 : Fld Z h28 a1 "com/example/portunus/portunus/Supports" "nextId" "I" (.int (2 : Int32)) := (f27_2.other W28 (Or.inr (slot_ne (Or.inl (hw _ (List.mem_of_getElem? (i := 14) rfl))) (Or.inl (hw _ (List.mem_of_getElem? (i := 37) rfl))) (by decide) (t := .int) (t' := (.array .long)) (by decide) (by decide))))
  have f28_3 : Fld Z h28 a1 "com/example/portunus/portunus/Supports" "caches" "[[Lcom/example/portunus/portunus/Support;" (.ref r5) := (f27_3.other W28 (Or.inr (slot_ne (Or.inl (hw _ (List.mem_of_getElem? (i := 19) rfl))) (Or.inl (hw _ (List.mem_of_getElem? (i := 37) rfl))) (by decide) (t := (.array (.array (.object "com/example/portunus/portunus/Support")))) (t' := (.array .long)) (by decide) (by decide))))
  have f28_4 : Fld Z h28 a1 "com/example/portunus/portunus/Supports" "operations" "[I" (.ref r13) := (f27_4.other W28 (Or.inr (slot_ne (Or.inl (hw _ (List.mem_of_getElem? (i := 22) rfl))) (Or.inl (hw _ (List.mem_of_getElem? (i := 37) rfl))) (by decide) (t := (.array .int)) (t' := (.array .long)) (by decide) (by decide))))
  have f28_5 : Fld Z h28 a1 "com/example/portunus/portunus/Supports" "lefts" "[Lcom/example/portunus/portunus/Support;" (.ref r15) := (f27_5.other W28 (Or.inr (slot_ne (Or.inl (hw _ (List.mem_of_getElem? (i := 24) rfl))) (Or.inl (hw _ (List.mem_of_getElem? (i := 37) rfl))) (by decide) (t := (.array (.object "com/example/portunus/portunus/Support"))) (t' := (.array .long)) (by decide) (by decide))))
  have f28_6 : Fld Z h28 a1 "com/example/portunus/portunus/Supports" "rights" "[Lcom/example/portunus/portunus/Support;" (.ref r17) := (f27_6.other W28 (Or.inr (slot_ne (Or.inl (hw _ (List.mem_of_getElem? (i := 26) rfl))) (Or.inl (hw _ (List.mem_of_getElem? (i := 37) rfl))) (by decide) (t := (.array (.object "com/example/portunus/portunus/Support"))) (t' := (.array .long)) (by decide) (by decide))))
  have f28_7 : Fld Z h28 a1 "com/example/portunus/portunus/Supports" "stages" "[I" (.ref r19) := (f27_7.other W28 (Or.inr (slot_ne (Or.inl (hw _ (List.mem_of_getElem? (i := 28) rfl))) (Or.inl (hw _ (List.mem_of_getElem? (i := 37) rfl))) (by decide) (t := (.array .int)) (t' := (.array .long)) (by decide) (by decide))))
  have f28_8 : Fld Z h28 a1 "com/example/portunus/portunus/Supports" "tops" "[J" (.ref r21) := (f27_8.other W28 (Or.inr (slot_ne (Or.inl (hw _ (List.mem_of_getElem? (i := 31) rfl))) (Or.inl (hw _ (List.mem_of_getElem? (i := 37) rfl))) (by decide) (t := (.array .long)) (t' := (.array .long)) (by decide) (by decide))))
  have f28_9 : Fld Z h28 a1 "com/example/portunus/portunus/Supports" "firsts" "[Lcom/example/portunus/portunus/Support;" (.ref r23) := (f27_9.other W28 (Or.inr (slot_ne (Or.inl (hw _ (List.mem_of_getElem? (i := 33) rfl))) (Or.inl (hw _ (List.mem_of_getElem? (i := 37) rfl))) (by decide) (t := (.array (.object "com/example/portunus/portunus/Support"))) (t' := (.array .long)) (by decide) (by decide))))
  have f28_10 : Fld Z h28 a1 "com/example/portunus/portunus/Supports" "seconds" "[Lcom/example/portunus/portunus/Support;" (.ref r25) := (f27_10.other W28 (Or.inr (slot_ne (Or.inl (hw _ (List.mem_of_getElem? (i := 35) rfl))) (Or.inl (hw _ (List.mem_of_getElem? (i := 37) rfl))) (by decide) (t := (.array (.object "com/example/portunus/portunus/Support"))) (t' := (.array .long)) (by decide) (by decide))))
  have f28_11 : Fld Z h28 a1 "com/example/portunus/portunus/Supports" "merged" "[J" (.ref r27) := (f27_11.same W28)
  have f28_12 : Fld Z h28 a1 "com/example/portunus/portunus/Supports" "size" "I" (.int (0 : Int32)) := (f27_12.other W28 (Or.inr (slot_ne (Or.inl (hw _ (List.mem_of_getElem? (i := 44) rfl))) (Or.inl (hw _ (List.mem_of_getElem? (i := 37) rfl))) (by decide) (t := .int) (t' := (.array .long)) (by decide) (by decide))))
  have f28_13 : Fld Z h28 a1 "com/example/portunus/portunus/Supports" "inUse" "I" (.int (0 : Int32)) := (f27_13.other W28 (Or.inr (slot_ne (Or.inl (hw _ (List.mem_of_getElem? (i := 120) rfl))) (Or.inl (hw _ (List.mem_of_getElem? (i := 37) rfl))) (by decide) (t := .int) (t' := (.array .long)) (by decide) (by decide))))
  have f28_14 : Arv Z h28 r2 k2 (.object "com/example/portunus/portunus/Support") (1024 : Int32) [] .null := (f27_14.other W28 (Ne.symm ne_a1_r2))
  have f28_15 : Arv Z h28 r27 k27 .long (1024 : Int32) [] (.long (0 : Int64)) := (f27_15.other W28 (Ne.symm ne_a1_r27))
  have Zs28 : n0 ≤ h28.size := (Nat.le_trans Zs27 (Keep.of_wr W28).1)
  have K28 : Keep h0 h28 [a1] := K27.wr W28 (Or.inl (List.mem_of_getElem? (i := 0) rfl))
  show Go _ _ _ _ _ _ _ T28 (mkF m 130 #[.val (.ref a1)] [])
  refine Go.retV X28 hx hlk hret (hb hby d1_130) ?_ (by decide) (by decide)
  show QI Z _ _ _ _ T28.heap _
  rw [e28]
  exact ⟨rfl, N28, K28, f28_0, f28_12, f28_2, r2, k2, f28_1, f28_14, hO2, ge_r2, geh_r2⟩
theorem ef_rmZ (m : MethodId) (a1 : Addr) : entryFrame m #[(.ref a1)] 1 = mkF m 0 #[.val (.ref a1)] [] := by first | (simp [entryFrame, mkF, argsToLocals, Value.category]; done) | rfl
def QZ (Z : State) (a1 : Addr) (r : Int32) (h0 : Heap) (n0 : Nat) (v : Option Value) (h : Heap) (L : List Loc) : Prop := v = some (.int r) ∧ Fr n0 L ∧ h = h0
theorem d4_0 : decode prog_15_method_7_code 0 = .ok (.aload_n 0, 1) := by decide +kernel
theorem d4_1 : decode prog_15_method_7_code 1 = .ok (.getfield 90, 3) := by decide +kernel
theorem d4_4 : decode prog_15_method_7_code 4 = .ok (.ireturn, 1) := by decide +kernel
set_option maxRecDepth 65536 in
set_option maxHeartbeats 40000000 in
theorem rmZ (l : Launch) (Z : State) (a0 : Array Value) (hw : ∀ d ∈ tables_1, d.before a0 Z = true) (ws : List Jvm.Cond) (a1 : Addr) (r : Int32) (h0 : Heap) (n0 : Nat) (Z0 : n0 ≤ h0.size) (PF1 : Fld Z h0 a1 "com/example/portunus/portunus/Supports" "size" "I" (.int r)) :
    MetFree l (⟨"com/example/portunus/portunus/Supports", "size", "()I"⟩ : MethodName) (head1 (Jvm.Cond.code (⟨"com/example/portunus/portunus/Supports", "size", "()I"⟩ : MethodName) prog_15_method_7_code 1 (some .int) :: ws) ({ frames := 0, cells := 0, slots := 0, locals := 0 } : Room)) (fun a U => a = #[(.ref a1)] ∧ Z.Warmed39 U.vm ∧ U.heap = h0) (fun _ _ _ _ _ => True) (fun _ U o U' => ∃ v L, o = .returned v ∧ QZ Z a1 r h0 n0 v U'.heap L ∧ FrameEnd U o U' L ({ frames := 0, cells := 0, slots := 0, locals := 0 } : Room).cells ({ frames := 0, cells := 0, slots := 0, locals := 0 } : Room).slots) := by
  refine MetFree.of_bodySF (plainFor_of_name pn_3) hisR ?_
  intro p e s m args below meth c s₁ Bd hml0 hP hK
  obtain ⟨rfl, hZ, hh⟩ := hP
  have hx := Bd.exec
  have hby := Bd.bytes
  have hlk := BodyLoose.notSynchronized Bd
  have hml : c.maxLocals = 1 := hml0
  have hret := Bd.returns
  have hown : s.vm.findClass "com/example/portunus/portunus/Supports" = some m.cls := findClass_of_methodNamed Bd.named
  have hnm := (name_of_methodNamed Bd.named Bd.method).1
  have X0 : Stand p l e ({ frames := 0, cells := 0, slots := 0, locals := 0 } : Room) s m #[(.ref a1)] below meth c s₁ [] 0 0 := Stand.of_body Bd
  have e0 : s₁.heap = h0 := by rw [← hh, Bd.state]; rfl
  have N0 := Fr.nil n0
  show Go p e below s ({ frames := 0, cells := 0, slots := 0, locals := 0 } : Room).cells ({ frames := 0, cells := 0, slots := 0, locals := 0 } : Room).slots (QZ Z a1 r h0 n0) s₁ (entryFrame m #[(.ref a1)] 1)
  refine Go.cast (ef_rmZ m a1) ?_
  show Go _ _ _ _ _ _ _ s₁ (mkF m 0 #[.val (.ref a1)] [])
  refine Go.step (fun t_ k_ => XS.aloadN X0.here hx rfl (hb hby d4_0) rfl rfl k_) ?_
  show Go _ _ _ _ _ _ _ s₁ (mkF m 1 #[.val (.ref a1)] [(.ref a1)])
  obtain ⟨T1, X1, e1, st1⟩ := getF X0 hx hZ hown (host := "") (Or.inl (hw _ (List.mem_of_getElem? (i := 43) rfl))) Via.refl e0 PF1 (g := (mkF m 1 #[.val (.ref a1)] [(.ref a1)])) rfl rfl (hb hby d4_1)
  refine Go.step st1 ?_
  show Go _ _ _ _ _ _ _ T1 (mkF m 4 #[.val (.ref a1)] [(.int r)])
  refine Go.ret X1 hx hlk hret rfl (Or.inl ⟨rfl, Or.inl rfl, _, rfl⟩) (hb hby d4_4) ?_ (by decide) (by decide)
  show QZ Z _ _ _ _ _ T1.heap _
  exact ⟨rfl, N0, e1⟩
theorem ef_rmW (m : MethodId) (a1 : Addr) (p1 : Int32) : entryFrame m #[(.ref a1), (.int p1)] 2 = mkF m 0 #[.val (.ref a1), .val (.int p1)] [] := by first | (simp [entryFrame, mkF, argsToLocals, Value.category]; done) | rfl
def QW (Z : State) (a1 : Addr) (p1 : Int32) (r : Int32) (h0 : Heap) (n0 : Nat) (v : Option Value) (h : Heap) (L : List Loc) : Prop := v = some (.int (0 : Int32)) ∧ Fr n0 L ∧ h = h0
theorem d3_0 : decode prog_15_method_8_code 0 = .ok (.aload_n 0, 1) := by decide +kernel
theorem d3_1 : decode prog_15_method_8_code 1 = .ok (.getfield 90, 3) := by decide +kernel
theorem d3_4 : decode prog_15_method_8_code 4 = .ok (.ldc 93, 2) := by decide +kernel
theorem d3_6 : decode prog_15_method_8_code 6 = .ok (.if_icmp .lt 24, 3) := by decide +kernel
theorem d3_30 : decode prog_15_method_8_code 30 = .ok (.iconst 0, 1) := by decide +kernel
theorem d3_31 : decode prog_15_method_8_code 31 = .ok (.ireturn, 1) := by decide +kernel
set_option maxRecDepth 65536 in
set_option maxHeartbeats 40000000 in
theorem rmW (l : Launch) (Z : State) (a0 : Array Value) (hw : ∀ d ∈ tables_1, d.before a0 Z = true) (ws : List Jvm.Cond) (a1 : Addr) (p1 : Int32) (r : Int32) (h0 : Heap) (n0 : Nat) (Z0 : n0 ≤ h0.size) (PF1 : Fld Z h0 a1 "com/example/portunus/portunus/Supports" "size" "I" (.int r)) (hr : r < (65536 : Int32)) :
    MetFree l (⟨"com/example/portunus/portunus/Supports", "isWorthCollecting", "(I)Z"⟩ : MethodName) (head1 (Jvm.Cond.code (⟨"com/example/portunus/portunus/Supports", "isWorthCollecting", "(I)Z"⟩ : MethodName) prog_15_method_8_code 2 (some .boolean) :: ws) ({ frames := 0, cells := 0, slots := 0, locals := 0 } : Room)) (fun a U => a = #[(.ref a1), (.int p1)] ∧ Z.Warmed39 U.vm ∧ U.heap = h0) (fun _ _ _ _ _ => True) (fun _ U o U' => ∃ v L, o = .returned v ∧ QW Z a1 p1 r h0 n0 v U'.heap L ∧ FrameEnd U o U' L ({ frames := 0, cells := 0, slots := 0, locals := 0 } : Room).cells ({ frames := 0, cells := 0, slots := 0, locals := 0 } : Room).slots) := by
  refine MetFree.of_bodySF (plainFor_of_name pn_3) hisR ?_
  intro p e s m args below meth c s₁ Bd hml0 hP hK
  obtain ⟨rfl, hZ, hh⟩ := hP
  have hx := Bd.exec
  have hby := Bd.bytes
  have hlk := BodyLoose.notSynchronized Bd
  have hml : c.maxLocals = 2 := hml0
  have hret := Bd.returns
  have hown : s.vm.findClass "com/example/portunus/portunus/Supports" = some m.cls := findClass_of_methodNamed Bd.named
  have hnm := (name_of_methodNamed Bd.named Bd.method).1
  have X0 : Stand p l e ({ frames := 0, cells := 0, slots := 0, locals := 0 } : Room) s m #[(.ref a1), (.int p1)] below meth c s₁ [] 0 0 := Stand.of_body Bd
  have e0 : s₁.heap = h0 := by rw [← hh, Bd.state]; rfl
  have N0 := Fr.nil n0
  show Go p e below s ({ frames := 0, cells := 0, slots := 0, locals := 0 } : Room).cells ({ frames := 0, cells := 0, slots := 0, locals := 0 } : Room).slots (QW Z a1 p1 r h0 n0) s₁ (entryFrame m #[(.ref a1), (.int p1)] 2)
  refine Go.cast (ef_rmW m a1 p1) ?_
  show Go _ _ _ _ _ _ _ s₁ (mkF m 0 #[.val (.ref a1), .val (.int p1)] [])
  refine Go.step (fun t_ k_ => XS.aloadN X0.here hx rfl (hb hby d3_0) rfl rfl k_) ?_
  show Go _ _ _ _ _ _ _ s₁ (mkF m 1 #[.val (.ref a1), .val (.int p1)] [(.ref a1)])
  obtain ⟨T1, X1, e1, st1⟩ := getF X0 hx hZ hown (host := "") (Or.inl (hw _ (List.mem_of_getElem? (i := 43) rfl))) Via.refl e0 PF1 (g := (mkF m 1 #[.val (.ref a1), .val (.int p1)] [(.ref a1)])) rfl rfl (hb hby d3_1)
  refine Go.step st1 ?_
  show Go _ _ _ _ _ _ _ T1 (mkF m 4 #[.val (.ref a1), .val (.int p1)] [(.int r)])
  refine Go.step (fun t_ k_ => X1.ldcI hx hown (mvT hZ (hw _ (List.mem_of_getElem? (i := 45) rfl))) rfl (hb hby d3_4) k_) ?_
  show Go _ _ _ _ _ _ _ T1 (mkF m 6 #[.val (.ref a1), .val (.int p1)] [(.int (65536 : Int32)), (.int r)])
  have hb6_2 : r < (65536 : Int32) := by exact hr
  refine Go.step (fun t_ k_ => XS.icmpYes X1.here hx rfl (pc0 := 6) (pc' := 30) rfl (hb hby d3_6) rfl (XT.ii_lt_t hb6_2) (by decide) (by decide) k_) ?_
  show Go _ _ _ _ _ _ _ T1 (mkF m 30 #[.val (.ref a1), .val (.int p1)] [])
  refine Go.step (fun t_ k_ => XS.iconst X1.here hx rfl (hb hby d3_30) k_) ?_
  show Go _ _ _ _ _ _ _ T1 (mkF m 31 #[.val (.ref a1), .val (.int p1)] [(.int (0 : Int32))])
  refine Go.ret X1 hx hlk hret rfl (Or.inl ⟨rfl, Or.inr (Or.inl rfl), _, rfl⟩) (hb hby d3_31) ?_ (by decide) (by decide)
  show QW Z _ _ _ _ _ _ T1.heap _
  exact ⟨rfl, N0, e1⟩
theorem own_tr {k a b : Int32} (h : ¬ a < k) (hab : a.toInt ≤ b.toInt) : ¬ b < k := by
  rw [Int32.lt_iff_toInt_lt] at h ⊢; omega
theorem pn_4 : plainName "com/example/portunus/portunus/SupportsIsWorthCollectingPinLaw" = true := by first | (simp [plainName, overriddenIn]; done) | decide +kernel
theorem ef_rm0 (m : MethodId) (p1 : Int32) (p2 : Int32) (p3 : Int32) (p4 : Int32) (p5 : Int32) (p6 : Int32) : entryFrame m #[(.int p1), (.int p2), (.int p3), (.int p4), (.int p5), (.int p6)] maxLocals = mkF m 0 #[.val (.int p1), .val (.int p2), .val (.int p3), .val (.int p4), .val (.int p5), .val (.int p6), .unset, .unset, .unset, .unset] [] := by first | (simp [entryFrame, mkF, argsToLocals, Value.category, maxLocals]; done) | rfl
def Q0 (Z : State) (p1 : Int32) (p2 : Int32) (p3 : Int32) (p4 : Int32) (p5 : Int32) (p6 : Int32) (ns : Addr) (es : Addr) (h0 : Heap) (n0 : Nat) (v : Option Value) (h : Heap) (L : List Loc) : Prop := v = some (.int (1 : Int32)) ∧ Fr n0 L
theorem pd_9 : parseMethodDescriptor "()V" = some ⟨[], none⟩ := by decide +kernel
theorem pd_10 : parseMethodDescriptor "(II)Lcom/example/portunus/portunus/Support;" = some ⟨[.int, .int], some (.object "com/example/portunus/portunus/Support")⟩ := by decide +kernel
theorem pd_11 : parseMethodDescriptor "(I)Z" = some ⟨[.int], some .boolean⟩ := by decide +kernel
set_option maxRecDepth 65536 in
set_option maxHeartbeats 40000000 in
theorem rm0 (l : Launch) (Z : State) (a0 : Array Value) (hw : ∀ d ∈ tables_1, d.before a0 Z = true) (ws : List Jvm.Cond) (p1 : Int32) (p2 : Int32) (p3 : Int32) (p4 : Int32) (p5 : Int32) (p6 : Int32) (ns : Addr) (es : Addr) (h0 : Heap) (n0 : Nat) (Z0 : n0 ≤ h0.size) (O0 : Old Z n0 h0) (S_NO : Sta Z Z.heap "com/example/portunus/portunus/Support" "NO_SET" "Lcom/example/portunus/portunus/Support;" (.ref ns)) (S_ES : Sta Z Z.heap "com/example/portunus/portunus/Support" "EMPTY_SET" "Lcom/example/portunus/portunus/Support;" (.ref es)) (E_NO : Exa Z Z.heap ns "com/example/portunus/portunus/Support") (E_ES : Exa Z Z.heap es "com/example/portunus/portunus/Support") (F_NO : Fld Z Z.heap ns "com/example/portunus/portunus/Support" "idAndOneSet" "I" (.int (0 : Int32))) (F_ES : Fld Z Z.heap es "com/example/portunus/portunus/Support" "idAndOneSet" "I" (.int (-2147483647 : Int32))) (nEN : es ≠ ns) :
    MetFree l x (head1 (Jvm.Cond.code x code maxLocals ret :: ws) room_1) (fun a U => a = #[(.int p1), (.int p2), (.int p3), (.int p4), (.int p5), (.int p6)] ∧ Z.Warmed39 U.vm ∧ U.heap = h0) (fun _ _ _ _ _ => True) (fun _ U o U' => ∃ v L, o = .returned v ∧ Q0 Z p1 p2 p3 p4 p5 p6 ns es h0 n0 v U'.heap L ∧ FrameEnd U o U' L room_1.cells room_1.slots) := by
  refine MetFree.of_bodySF (plainFor_of_name pn_4) hisR ?_
  intro p e s m args below meth c s₁ Bd hml0 hP hK
  obtain ⟨rfl, hZ, hh⟩ := hP
  have hx := Bd.exec
  have hby := Bd.bytes
  have hlk := BodyLoose.notSynchronized Bd
  have hml : c.maxLocals = 10 := hml0
  have hret := Bd.returns
  have hown : s.vm.findClass "com/example/portunus/portunus/SupportsIsWorthCollectingPinLaw" = some m.cls := findClass_of_methodNamed Bd.named
  have hnm := (name_of_methodNamed Bd.named Bd.method).1
  have X0 : Stand p l e room_1 s m #[(.int p1), (.int p2), (.int p3), (.int p4), (.int p5), (.int p6)] below meth c s₁ [] 0 0 := Stand.of_body Bd
  have e0 : s₁.heap = h0 := by rw [← hh, Bd.state]; rfl
  have N0 := Fr.nil n0
  show Go p e below s room_1.cells room_1.slots (Q0 Z p1 p2 p3 p4 p5 p6 ns es h0 n0) s₁ (entryFrame m #[(.int p1), (.int p2), (.int p3), (.int p4), (.int p5), (.int p6)] maxLocals)
  refine Go.cast (ef_rm0 m p1 p2 p3 p4 p5 p6) ?_
  show Go _ _ _ _ _ _ _ s₁ (mkF m 0 #[.val (.int p1), .val (.int p2), .val (.int p3), .val (.int p4), .val (.int p5), .val (.int p6), .unset, .unset, .unset, .unset] [])
  obtain ⟨T1, h1, X1, e1, E1, A1, D1, -, st1⟩ := newO X0 hx hZ hown (hw _ (List.mem_of_getElem? (i := 0) rfl)) (hw _ (List.mem_of_getElem? (i := 1) rfl)) (hw _ (List.mem_of_getElem? (i := 2) rfl)) e0 (g := (mkF m 0 #[.val (.int p1), .val (.int p2), .val (.int p3), .val (.int p4), .val (.int p5), .val (.int p6), .unset, .unset, .unset, .unset] [])) rfl (hb hby at_0) (by decide) (by decide)
  obtain ⟨o1, g1⟩ : ∃ z, z = h0.size := ⟨_, rfl⟩
  rw [← g1] at A1 D1 st1
  have ge_o1 : n0 ≤ o1 := Nat.le_trans Z0 (Nat.le_of_eq g1.symm)
  have f1_2 : Exa Z h1 o1 "com/example/portunus/portunus/Supports" := A1
  have f1_3 : Fld Z h1 o1 "com/example/portunus/portunus/Supports" "nodes" "[Lcom/example/portunus/portunus/Support;" .null := (D1 (Or.inl (hw _ (List.mem_of_getElem? (i := 12) rfl))) (ty := (.array (.object "com/example/portunus/portunus/Support"))) (by decide))
  have f1_4 : Fld Z h1 o1 "com/example/portunus/portunus/Supports" "nextId" "I" (.int (0 : Int32)) := (D1 (Or.inl (hw _ (List.mem_of_getElem? (i := 14) rfl))) (ty := .int) (by decide))
  have f1_5 : Fld Z h1 o1 "com/example/portunus/portunus/Supports" "caches" "[[Lcom/example/portunus/portunus/Support;" .null := (D1 (Or.inl (hw _ (List.mem_of_getElem? (i := 19) rfl))) (ty := (.array (.array (.object "com/example/portunus/portunus/Support")))) (by decide))
  have f1_6 : Fld Z h1 o1 "com/example/portunus/portunus/Supports" "operations" "[I" .null := (D1 (Or.inl (hw _ (List.mem_of_getElem? (i := 22) rfl))) (ty := (.array .int)) (by decide))
  have f1_7 : Fld Z h1 o1 "com/example/portunus/portunus/Supports" "lefts" "[Lcom/example/portunus/portunus/Support;" .null := (D1 (Or.inl (hw _ (List.mem_of_getElem? (i := 24) rfl))) (ty := (.array (.object "com/example/portunus/portunus/Support"))) (by decide))
  have f1_8 : Fld Z h1 o1 "com/example/portunus/portunus/Supports" "rights" "[Lcom/example/portunus/portunus/Support;" .null := (D1 (Or.inl (hw _ (List.mem_of_getElem? (i := 26) rfl))) (ty := (.array (.object "com/example/portunus/portunus/Support"))) (by decide))
  have f1_9 : Fld Z h1 o1 "com/example/portunus/portunus/Supports" "stages" "[I" .null := (D1 (Or.inl (hw _ (List.mem_of_getElem? (i := 28) rfl))) (ty := (.array .int)) (by decide))
  have f1_10 : Fld Z h1 o1 "com/example/portunus/portunus/Supports" "tops" "[J" .null := (D1 (Or.inl (hw _ (List.mem_of_getElem? (i := 31) rfl))) (ty := (.array .long)) (by decide))
  have f1_11 : Fld Z h1 o1 "com/example/portunus/portunus/Supports" "firsts" "[Lcom/example/portunus/portunus/Support;" .null := (D1 (Or.inl (hw _ (List.mem_of_getElem? (i := 33) rfl))) (ty := (.array (.object "com/example/portunus/portunus/Support"))) (by decide))
  have f1_12 : Fld Z h1 o1 "com/example/portunus/portunus/Supports" "seconds" "[Lcom/example/portunus/portunus/Support;" .null := (D1 (Or.inl (hw _ (List.mem_of_getElem? (i := 35) rfl))) (ty := (.array (.object "com/example/portunus/portunus/Support"))) (by decide))
  have f1_13 : Fld Z h1 o1 "com/example/portunus/portunus/Supports" "merged" "[J" .null := (D1 (Or.inl (hw _ (List.mem_of_getElem? (i := 37) rfl))) (ty := (.array .long)) (by decide))
  have f1_14 : Fld Z h1 o1 "com/example/portunus/portunus/Supports" "size" "I" (.int (0 : Int32)) := (D1 (Or.inl (hw _ (List.mem_of_getElem? (i := 44) rfl))) (ty := .int) (by decide))
  have f1_15 : Fld Z h1 o1 "com/example/portunus/portunus/Supports" "inUse" "I" (.int (0 : Int32)) := (D1 (Or.inl (hw _ (List.mem_of_getElem? (i := 120) rfl))) (ty := .int) (by decide))
  have Zs1 : n0 ≤ h1.size := (Nat.le_trans Z0 E1.1)
  have O1 : Old Z n0 h1 := O0.ext E1
  refine Go.step st1 ?_
  show Go _ _ _ _ _ _ _ T1 (mkF m 3 #[.val (.int p1), .val (.int p2), .val (.int p3), .val (.int p4), .val (.int p5), .val (.int p6), .unset, .unset, .unset, .unset] [(.ref o1)])
  refine Go.step (fun t_ k_ => XS.dup X1.here hx rfl (hb hby at_3) rfl rfl k_) ?_
  show Go _ _ _ _ _ _ _ T1 (mkF m 4 #[.val (.int p1), .val (.int p2), .val (.int p3), .val (.int p4), .val (.int p5), .val (.int p6), .unset, .unset, .unset, .unset] [(.ref o1), (.ref o1)])
  obtain ⟨_, _, ⟨T2, L2, k2, n2⟩, -, X2, ⟨Lc2, hQ2, l2, y2, z2⟩, st2⟩ := X1.specialBack hx (y := (⟨"com/example/portunus/portunus/Supports", "<init>", "()V"⟩ : MethodName)) rfl hown (mvT hZ (hw _ (List.mem_of_getElem? (i := 3) rfl))) (mvT hZ (hw _ (List.mem_of_getElem? (i := 4) rfl))) (mvT hZ (hw _ (List.mem_of_getElem? (i := 5) rfl))) (by decide) (backOf (W := 1) (rmI l Z a0 hw [] o1 h1 n0 Zs1 ge_o1 f1_2 f1_3 f1_4 f1_5 f1_6 f1_7 f1_8 f1_9 f1_10 f1_11 f1_12 f1_13 f1_14 f1_15) hZ (hw _ (List.mem_of_getElem? (i := 5) rfl)) (hw _ (List.mem_of_getElem? (i := 2) rfl)) (by decide) (by decide)) (g := (mkF m 4 #[.val (.int p1), .val (.int p2), .val (.int p3), .val (.int p4), .val (.int p5), .val (.int p6), .unset, .unset, .unset, .unset] [(.ref o1), (.ref o1)])) rfl (by rw [hml]; rfl) (Steps.refl _) (a := o1) (argsL := []) (rest := [(.ref o1)]) (lenOf pd_9 rfl) rfl (by show 2 * 0 + _ ≤ _; exact Nat.le_of_eq rfl) (hb hby at_4) (fun _ _ => ⟨rfl, e1, (by decide : 0 + 1 + 13 ≤ _), (by decide : 0 + 15 + 18435 ≤ _)⟩)
  dsimp only [Pt.U, Pt.locs, Pt.cells, Pt.slots] at X2 l2 y2 z2 st2 hQ2
  subst l2 y2 z2
  obtain ⟨rfl, N2q, Kq2, Eq2, Fa2, Fb2, tn, kn, Fc2, Aq2, hOV, gtn, ghn⟩ := hQ2
  have N2 := Fr.app N0 N2q
  have f2_2 : Exa Z T2.heap o1 "com/example/portunus/portunus/Supports" := Eq2
  have f2_3 : Fld Z T2.heap o1 "com/example/portunus/portunus/Supports" "size" "I" (.int (0 : Int32)) := Fa2
  have f2_4 : Fld Z T2.heap o1 "com/example/portunus/portunus/Supports" "nextId" "I" (.int (2 : Int32)) := Fb2
  have f2_5 : Fld Z T2.heap o1 "com/example/portunus/portunus/Supports" "nodes" "[Lcom/example/portunus/portunus/Support;" (.ref tn) := Fc2
  have f2_6 : Arv Z T2.heap tn kn (.object "com/example/portunus/portunus/Support") (1024 : Int32) [] .null := Aq2
  have Zs2 : n0 ≤ T2.heap.size := (Nat.le_trans Zs1 Kq2.1)
  have O2 : Old Z n0 T2.heap := O1.keep Kq2 (allS ge_o1 all0)
  have pA2 : Arv Z T2.heap tn kn (.object "com/example/portunus/portunus/Support") (1024 : Int32) (List.replicate 1024 .null) .null := f2_6.pad own_pad
  have pS2 : Fld Z T2.heap o1 "com/example/portunus/portunus/Supports" "size" "I" (.int (Int32.ofNat 0)) := f2_3
  refine Go.step (fun t_ k_ => st2.trans k_) ?_
  show Go _ _ _ _ _ _ _ T2 (mkF m 7 #[.val (.int p1), .val (.int p2), .val (.int p3), .val (.int p4), .val (.int p5), .val (.int p6), .unset, .unset, .unset, .unset] [(.ref o1)])
  refine Go.step (fun t_ k_ => XS.astore X2.here hx rfl (hb hby at_7) rfl rfl (l' := #[.val (.int p1), .val (.int p2), .val (.int p3), .val (.int p4), .val (.int p5), .val (.int p6), .val (.ref o1), .unset, .unset, .unset]) rfl k_) ?_
  show Go _ _ _ _ _ _ _ T2 (mkF m 9 #[.val (.int p1), .val (.int p2), .val (.int p3), .val (.int p4), .val (.int p5), .val (.int p6), .val (.ref o1), .unset, .unset, .unset] [])
  refine Go.step (fun t_ k_ => XS.iloadN X2.here hx rfl (hb hby at_9) rfl k_) ?_
  show Go _ _ _ _ _ _ _ T2 (mkF m 10 #[.val (.int p1), .val (.int p2), .val (.int p3), .val (.int p4), .val (.int p5), .val (.int p6), .val (.ref o1), .unset, .unset, .unset] [(.int p1)])
  refine Go.step (fun t_ k_ => XS.iconst X2.here hx rfl (hb hby at_10) k_) ?_
  show Go _ _ _ _ _ _ _ T2 (mkF m 11 #[.val (.int p1), .val (.int p2), .val (.int p3), .val (.int p4), .val (.int p5), .val (.int p6), .val (.ref o1), .unset, .unset, .unset] [(.int (3 : Int32)), (.int p1)])
  refine Go.step (fun t_ k_ => XS.iand X2.here hx rfl (hb hby at_11) rfl k_) ?_
  show Go _ _ _ _ _ _ _ T2 (mkF m 12 #[.val (.int p1), .val (.int p2), .val (.int p3), .val (.int p4), .val (.int p5), .val (.int p6), .val (.ref o1), .unset, .unset, .unset] [(.int (p1 &&& (3 : Int32)))])
  refine Go.step (fun t_ k_ => XS.istore X2.here hx rfl (hb hby at_12) rfl (l' := #[.val (.int p1), .val (.int p2), .val (.int p3), .val (.int p4), .val (.int p5), .val (.int p6), .val (.ref o1), .val (.int (p1 &&& (3 : Int32))), .unset, .unset]) rfl k_) ?_
  show Go _ _ _ _ _ _ _ T2 (mkF m 14 #[.val (.int p1), .val (.int p2), .val (.int p3), .val (.int p4), .val (.int p5), .val (.int p6), .val (.ref o1), .val (.int (p1 &&& (3 : Int32))), .unset, .unset] [])
  generalize hkd : (p1 &&& (3 : Int32)) = kd
  show Go _ _ _ _ _ _ _ T2 (mkF m 14 #[.val (.int p1), .val (.int p2), .val (.int p3), .val (.int p4), .val (.int p5), .val (.int p6), .val (.ref o1), .val (.int kd), .unset, .unset] [])
  refine Go.step (fun t_ k_ => XS.iload X2.here hx rfl (hb hby at_14) rfl k_) ?_
  show Go _ _ _ _ _ _ _ T2 (mkF m 16 #[.val (.int p1), .val (.int p2), .val (.int p3), .val (.int p4), .val (.int p5), .val (.int p6), .val (.ref o1), .val (.int kd), .unset, .unset] [(.int kd)])
  by_cases hb16_3 : (0 : Int32) < kd
  · refine Go.step (fun t_ k_ => XS.ifNo X2.here hx rfl (hb hby at_16) rfl (XT.i0_le_f hb16_3) k_) ?_
    show Go _ _ _ _ _ _ _ T2 (mkF m 19 #[.val (.int p1), .val (.int p2), .val (.int p3), .val (.int p4), .val (.int p5), .val (.int p6), .val (.ref o1), .val (.int kd), .unset, .unset] [])
    refine Go.step (fun t_ k_ => XS.aload X2.here hx rfl (hb hby at_19) rfl rfl k_) ?_
    show Go _ _ _ _ _ _ _ T2 (mkF m 21 #[.val (.int p1), .val (.int p2), .val (.int p3), .val (.int p4), .val (.int p5), .val (.int p6), .val (.ref o1), .val (.int kd), .unset, .unset] [(.ref o1)])
    refine Go.step (fun t_ k_ => XS.iloadN X2.here hx rfl (hb hby at_21) rfl k_) ?_
    show Go _ _ _ _ _ _ _ T2 (mkF m 22 #[.val (.int p1), .val (.int p2), .val (.int p3), .val (.int p4), .val (.int p5), .val (.int p6), .val (.ref o1), .val (.int kd), .unset, .unset] [(.int p2), (.ref o1)])
    refine Go.step (fun t_ k_ => XS.iloadN X2.here hx rfl (hb hby at_22) rfl k_) ?_
    show Go _ _ _ _ _ _ _ T2 (mkF m 23 #[.val (.int p1), .val (.int p2), .val (.int p3), .val (.int p4), .val (.int p5), .val (.int p6), .val (.ref o1), .val (.int kd), .unset, .unset] [(.int p4), (.int p2), (.ref o1)])
    obtain ⟨cq4, kq4, qa4, qb4, qc4⟩ := isOf hZ rfl f2_2
    obtain ⟨_, _, ⟨T4, L4, k4, n4⟩, -, X4, ⟨Lc4, hQ4, l4, y4, z4⟩, st4⟩ := X2.virtualBack hx (y := (⟨"com/example/portunus/portunus/Supports", "of", "(II)Lcom/example/portunus/portunus/Support;"⟩ : MethodName)) (z := (⟨"com/example/portunus/portunus/Supports", "of", "(II)Lcom/example/portunus/portunus/Support;"⟩ : MethodName)) hown (mvT hZ (hw _ (List.mem_of_getElem? (i := 51) rfl))) (mvT hZ (hw _ (List.mem_of_getElem? (i := 52) rfl))) (notFace_of_selects (args := #[]) (mvT hZ (hw _ (List.mem_of_getElem? (i := 54) rfl)))) (mvT hZ (hw _ (List.mem_of_getElem? (i := 54) rfl))) (mvT hZ (hw _ (List.mem_of_getElem? (i := 53) rfl))) (by decide) (backOf (W := 0) (rmOf l Z a0 hw [] o1 p2 p4 ns es tn kn 0 (2 : Int32) (List.replicate 1024 .null) T2.heap n0 Zs2 O2 S_NO S_ES E_NO E_ES F_NO F_ES nEN ge_o1 gtn (by omega) hOV f2_2 f2_5 pS2 f2_4 pA2 (List.length_replicate) own_ent0 own_few0) hZ (hw _ (List.mem_of_getElem? (i := 55) rfl)) (hw _ (List.mem_of_getElem? (i := 2) rfl)) (by decide) (by decide)) qa4 qc4 (g := (mkF m 23 #[.val (.int p1), .val (.int p2), .val (.int p3), .val (.int p4), .val (.int p5), .val (.int p6), .val (.ref o1), .val (.int kd), .unset, .unset] [(.int p4), (.int p2), (.ref o1)])) rfl (by rw [hml]; rfl) (Steps.refl _) (argsL := [(.int p2), (.int p4)]) (rest := []) (lenOf pd_10 rfl) rfl (by show 2 * 0 + _ ≤ _; exact Nat.le_of_eq rfl) (hb hby at_23) (fun _ _ => ⟨rfl, rfl, (by decide : 0 + 1 + 13 + 1 ≤ _), (by decide : 0 + 15 + 18435 + 4 ≤ _)⟩)
    dsimp only [Pt.U, Pt.locs, Pt.cells, Pt.slots] at X4 l4 y4 z4 st4 hQ4
    subst l4 y4 z4
    obtain ⟨nn4, nid4, vs4, rr4, rfl, N4q, Kq4, hle4, Eq4, Fa4, Fb4, Fc4, Aq4, hlv4, hent4, hfew4⟩ := hQ4
    have N4 := Fr.app N2 N4q
    have f4_2 : Exa Z T4.heap o1 "com/example/portunus/portunus/Supports" := Eq4
    have f4_3 : Fld Z T4.heap o1 "com/example/portunus/portunus/Supports" "nodes" "[Lcom/example/portunus/portunus/Support;" (.ref tn) := Fa4
    have f4_4 : Fld Z T4.heap o1 "com/example/portunus/portunus/Supports" "size" "I" (.int (Int32.ofNat nn4)) := Fb4
    have f4_5 : Fld Z T4.heap o1 "com/example/portunus/portunus/Supports" "nextId" "I" (.int nid4) := Fc4
    have f4_6 : Arv Z T4.heap tn kn (.object "com/example/portunus/portunus/Support") (1024 : Int32) vs4 .null := Aq4
    have Zs4 : n0 ≤ T4.heap.size := (Nat.le_trans Zs2 Kq4.1)
    have O4 : Old Z n0 T4.heap := O2.keep Kq4 (allS ge_o1 (allS gtn all0))
    refine Go.step (fun t_ k_ => st4.trans k_) ?_
    show Go _ _ _ _ _ _ _ T4 (mkF m 26 #[.val (.int p1), .val (.int p2), .val (.int p3), .val (.int p4), .val (.int p5), .val (.int p6), .val (.ref o1), .val (.int kd), .unset, .unset] [(.ref rr4)])
    refine Go.step (fun t_ k_ => XT.pop X4.here hx rfl (hb hby at_26) rfl rfl k_) ?_
    show Go _ _ _ _ _ _ _ T4 (mkF m 27 #[.val (.int p1), .val (.int p2), .val (.int p3), .val (.int p4), .val (.int p5), .val (.int p6), .val (.ref o1), .val (.int kd), .unset, .unset] [])
    refine Go.step (fun t_ k_ => XS.iload X4.here hx rfl (hb hby at_27) rfl k_) ?_
    show Go _ _ _ _ _ _ _ T4 (mkF m 29 #[.val (.int p1), .val (.int p2), .val (.int p3), .val (.int p4), .val (.int p5), .val (.int p6), .val (.ref o1), .val (.int kd), .unset, .unset] [(.int kd)])
    refine Go.step (fun t_ k_ => XS.iconst X4.here hx rfl (hb hby at_29) k_) ?_
    show Go _ _ _ _ _ _ _ T4 (mkF m 30 #[.val (.int p1), .val (.int p2), .val (.int p3), .val (.int p4), .val (.int p5), .val (.int p6), .val (.ref o1), .val (.int kd), .unset, .unset] [(.int (1 : Int32)), (.int kd)])
    by_cases hb30_5 : (1 : Int32) < kd
    · refine Go.step (fun t_ k_ => XS.icmpNo X4.here hx rfl (hb hby at_30) rfl (XT.ii_le_f hb30_5) k_) ?_
      show Go _ _ _ _ _ _ _ T4 (mkF m 33 #[.val (.int p1), .val (.int p2), .val (.int p3), .val (.int p4), .val (.int p5), .val (.int p6), .val (.ref o1), .val (.int kd), .unset, .unset] [])
      refine Go.step (fun t_ k_ => XS.aload X4.here hx rfl (hb hby at_33) rfl rfl k_) ?_
      show Go _ _ _ _ _ _ _ T4 (mkF m 35 #[.val (.int p1), .val (.int p2), .val (.int p3), .val (.int p4), .val (.int p5), .val (.int p6), .val (.ref o1), .val (.int kd), .unset, .unset] [(.ref o1)])
      refine Go.step (fun t_ k_ => XS.iloadN X4.here hx rfl (hb hby at_35) rfl k_) ?_
      show Go _ _ _ _ _ _ _ T4 (mkF m 36 #[.val (.int p1), .val (.int p2), .val (.int p3), .val (.int p4), .val (.int p5), .val (.int p6), .val (.ref o1), .val (.int kd), .unset, .unset] [(.int p3), (.ref o1)])
      refine Go.step (fun t_ k_ => XS.iloadN X4.here hx rfl (hb hby at_36) rfl k_) ?_
      show Go _ _ _ _ _ _ _ T4 (mkF m 37 #[.val (.int p1), .val (.int p2), .val (.int p3), .val (.int p4), .val (.int p5), .val (.int p6), .val (.ref o1), .val (.int kd), .unset, .unset] [(.int p4), (.int p3), (.ref o1)])
      obtain ⟨cq6, kq6, qa6, qb6, qc6⟩ := isOf hZ rfl f4_2
      obtain ⟨_, _, ⟨T6, L6, k6, n6⟩, -, X6, ⟨Lc6, hQ6, l6, y6, z6⟩, st6⟩ := X4.virtualBack hx (y := (⟨"com/example/portunus/portunus/Supports", "of", "(II)Lcom/example/portunus/portunus/Support;"⟩ : MethodName)) (z := (⟨"com/example/portunus/portunus/Supports", "of", "(II)Lcom/example/portunus/portunus/Support;"⟩ : MethodName)) hown (mvT hZ (hw _ (List.mem_of_getElem? (i := 51) rfl))) (mvT hZ (hw _ (List.mem_of_getElem? (i := 52) rfl))) (notFace_of_selects (args := #[]) (mvT hZ (hw _ (List.mem_of_getElem? (i := 54) rfl)))) (mvT hZ (hw _ (List.mem_of_getElem? (i := 54) rfl))) (mvT hZ (hw _ (List.mem_of_getElem? (i := 53) rfl))) (by decide) (backOf (W := 0) (rmOf l Z a0 hw [] o1 p3 p4 ns es tn kn nn4 nid4 vs4 T4.heap n0 Zs4 O4 S_NO S_ES E_NO E_ES F_NO F_ES nEN ge_o1 gtn (by omega) hOV f4_2 f4_3 f4_4 f4_5 f4_6 hlv4 hent4 hfew4) hZ (hw _ (List.mem_of_getElem? (i := 55) rfl)) (hw _ (List.mem_of_getElem? (i := 2) rfl)) (by decide) (by decide)) qa6 qc6 (g := (mkF m 37 #[.val (.int p1), .val (.int p2), .val (.int p3), .val (.int p4), .val (.int p5), .val (.int p6), .val (.ref o1), .val (.int kd), .unset, .unset] [(.int p4), (.int p3), (.ref o1)])) rfl (by rw [hml]; rfl) (Steps.refl _) (argsL := [(.int p3), (.int p4)]) (rest := []) (lenOf pd_10 rfl) rfl (by show 2 * 0 + _ ≤ _; exact Nat.le_of_eq rfl) (hb hby at_37) (fun _ _ => ⟨rfl, rfl, (by decide : 0 + 1 + 13 + 1 + 1 ≤ _), (by decide : 0 + 15 + 18435 + 4 + 4 ≤ _)⟩)
      dsimp only [Pt.U, Pt.locs, Pt.cells, Pt.slots] at X6 l6 y6 z6 st6 hQ6
      subst l6 y6 z6
      obtain ⟨nn6, nid6, vs6, rr6, rfl, N6q, Kq6, hle6, Eq6, Fa6, Fb6, Fc6, Aq6, hlv6, hent6, hfew6⟩ := hQ6
      have N6 := Fr.app N4 N6q
      have f6_2 : Exa Z T6.heap o1 "com/example/portunus/portunus/Supports" := Eq6
      have f6_3 : Fld Z T6.heap o1 "com/example/portunus/portunus/Supports" "nodes" "[Lcom/example/portunus/portunus/Support;" (.ref tn) := Fa6
      have f6_4 : Fld Z T6.heap o1 "com/example/portunus/portunus/Supports" "size" "I" (.int (Int32.ofNat nn6)) := Fb6
      have f6_5 : Fld Z T6.heap o1 "com/example/portunus/portunus/Supports" "nextId" "I" (.int nid6) := Fc6
      have f6_6 : Arv Z T6.heap tn kn (.object "com/example/portunus/portunus/Support") (1024 : Int32) vs6 .null := Aq6
      have Zs6 : n0 ≤ T6.heap.size := (Nat.le_trans Zs4 Kq6.1)
      have O6 : Old Z n0 T6.heap := O4.keep Kq6 (allS ge_o1 (allS gtn all0))
      refine Go.step (fun t_ k_ => st6.trans k_) ?_
      show Go _ _ _ _ _ _ _ T6 (mkF m 40 #[.val (.int p1), .val (.int p2), .val (.int p3), .val (.int p4), .val (.int p5), .val (.int p6), .val (.ref o1), .val (.int kd), .unset, .unset] [(.ref rr6)])
      refine Go.step (fun t_ k_ => XT.pop X6.here hx rfl (hb hby at_40) rfl rfl k_) ?_
      show Go _ _ _ _ _ _ _ T6 (mkF m 41 #[.val (.int p1), .val (.int p2), .val (.int p3), .val (.int p4), .val (.int p5), .val (.int p6), .val (.ref o1), .val (.int kd), .unset, .unset] [])
      refine Go.step (fun t_ k_ => XS.iload X6.here hx rfl (hb hby at_41) rfl k_) ?_
      show Go _ _ _ _ _ _ _ T6 (mkF m 43 #[.val (.int p1), .val (.int p2), .val (.int p3), .val (.int p4), .val (.int p5), .val (.int p6), .val (.ref o1), .val (.int kd), .unset, .unset] [(.int kd)])
      refine Go.step (fun t_ k_ => XS.iconst X6.here hx rfl (hb hby at_43) k_) ?_
      show Go _ _ _ _ _ _ _ T6 (mkF m 44 #[.val (.int p1), .val (.int p2), .val (.int p3), .val (.int p4), .val (.int p5), .val (.int p6), .val (.ref o1), .val (.int kd), .unset, .unset] [(.int (2 : Int32)), (.int kd)])
      by_cases hb44_7 : (2 : Int32) < kd
      · refine Go.step (fun t_ k_ => XS.icmpNo X6.here hx rfl (hb hby at_44) rfl (XT.ii_le_f hb44_7) k_) ?_
        show Go _ _ _ _ _ _ _ T6 (mkF m 47 #[.val (.int p1), .val (.int p2), .val (.int p3), .val (.int p4), .val (.int p5), .val (.int p6), .val (.ref o1), .val (.int kd), .unset, .unset] [])
        refine Go.step (fun t_ k_ => XS.aload X6.here hx rfl (hb hby at_47) rfl rfl k_) ?_
        show Go _ _ _ _ _ _ _ T6 (mkF m 49 #[.val (.int p1), .val (.int p2), .val (.int p3), .val (.int p4), .val (.int p5), .val (.int p6), .val (.ref o1), .val (.int kd), .unset, .unset] [(.ref o1)])
        refine Go.step (fun t_ k_ => XS.iloadN X6.here hx rfl (hb hby at_49) rfl k_) ?_
        show Go _ _ _ _ _ _ _ T6 (mkF m 50 #[.val (.int p1), .val (.int p2), .val (.int p3), .val (.int p4), .val (.int p5), .val (.int p6), .val (.ref o1), .val (.int kd), .unset, .unset] [(.int p2), (.ref o1)])
        refine Go.step (fun t_ k_ => XS.iloadN X6.here hx rfl (hb hby at_50) rfl k_) ?_
        show Go _ _ _ _ _ _ _ T6 (mkF m 51 #[.val (.int p1), .val (.int p2), .val (.int p3), .val (.int p4), .val (.int p5), .val (.int p6), .val (.ref o1), .val (.int kd), .unset, .unset] [(.int p4), (.int p2), (.ref o1)])
        refine Go.step (fun t_ k_ => XS.iconst X6.here hx rfl (hb hby at_51) k_) ?_
        show Go _ _ _ _ _ _ _ T6 (mkF m 52 #[.val (.int p1), .val (.int p2), .val (.int p3), .val (.int p4), .val (.int p5), .val (.int p6), .val (.ref o1), .val (.int kd), .unset, .unset] [(.int (1 : Int32)), (.int p4), (.int p2), (.ref o1)])
        refine Go.step (fun t_ k_ => XT.ixor X6.here hx rfl (hb hby at_52) rfl k_) ?_
        show Go _ _ _ _ _ _ _ T6 (mkF m 53 #[.val (.int p1), .val (.int p2), .val (.int p3), .val (.int p4), .val (.int p5), .val (.int p6), .val (.ref o1), .val (.int kd), .unset, .unset] [(.int (p4 ^^^ (1 : Int32))), (.int p2), (.ref o1)])
        obtain ⟨cq8, kq8, qa8, qb8, qc8⟩ := isOf hZ rfl f6_2
        obtain ⟨_, _, ⟨T8, L8, k8, n8⟩, -, X8, ⟨Lc8, hQ8, l8, y8, z8⟩, st8⟩ := X6.virtualBack hx (y := (⟨"com/example/portunus/portunus/Supports", "of", "(II)Lcom/example/portunus/portunus/Support;"⟩ : MethodName)) (z := (⟨"com/example/portunus/portunus/Supports", "of", "(II)Lcom/example/portunus/portunus/Support;"⟩ : MethodName)) hown (mvT hZ (hw _ (List.mem_of_getElem? (i := 51) rfl))) (mvT hZ (hw _ (List.mem_of_getElem? (i := 52) rfl))) (notFace_of_selects (args := #[]) (mvT hZ (hw _ (List.mem_of_getElem? (i := 54) rfl)))) (mvT hZ (hw _ (List.mem_of_getElem? (i := 54) rfl))) (mvT hZ (hw _ (List.mem_of_getElem? (i := 53) rfl))) (by decide) (backOf (W := 0) (rmOf l Z a0 hw [] o1 p2 (p4 ^^^ (1 : Int32)) ns es tn kn nn6 nid6 vs6 T6.heap n0 Zs6 O6 S_NO S_ES E_NO E_ES F_NO F_ES nEN ge_o1 gtn (by omega) hOV f6_2 f6_3 f6_4 f6_5 f6_6 hlv6 hent6 hfew6) hZ (hw _ (List.mem_of_getElem? (i := 55) rfl)) (hw _ (List.mem_of_getElem? (i := 2) rfl)) (by decide) (by decide)) qa8 qc8 (g := (mkF m 53 #[.val (.int p1), .val (.int p2), .val (.int p3), .val (.int p4), .val (.int p5), .val (.int p6), .val (.ref o1), .val (.int kd), .unset, .unset] [(.int (p4 ^^^ (1 : Int32))), (.int p2), (.ref o1)])) rfl (by rw [hml]; rfl) (Steps.refl _) (argsL := [(.int p2), (.int (p4 ^^^ (1 : Int32)))]) (rest := []) (lenOf pd_10 rfl) rfl (by show 2 * 0 + _ ≤ _; exact Nat.le_of_eq rfl) (hb hby at_53) (fun _ _ => ⟨rfl, rfl, (by decide : 0 + 1 + 13 + 1 + 1 + 1 ≤ _), (by decide : 0 + 15 + 18435 + 4 + 4 + 4 ≤ _)⟩)
        dsimp only [Pt.U, Pt.locs, Pt.cells, Pt.slots] at X8 l8 y8 z8 st8 hQ8
        subst l8 y8 z8
        obtain ⟨nn8, nid8, vs8, rr8, rfl, N8q, Kq8, hle8, Eq8, Fa8, Fb8, Fc8, Aq8, hlv8, hent8, hfew8⟩ := hQ8
        have N8 := Fr.app N6 N8q
        have f8_2 : Exa Z T8.heap o1 "com/example/portunus/portunus/Supports" := Eq8
        have f8_3 : Fld Z T8.heap o1 "com/example/portunus/portunus/Supports" "nodes" "[Lcom/example/portunus/portunus/Support;" (.ref tn) := Fa8
        have f8_4 : Fld Z T8.heap o1 "com/example/portunus/portunus/Supports" "size" "I" (.int (Int32.ofNat nn8)) := Fb8
        have f8_5 : Fld Z T8.heap o1 "com/example/portunus/portunus/Supports" "nextId" "I" (.int nid8) := Fc8
        have f8_6 : Arv Z T8.heap tn kn (.object "com/example/portunus/portunus/Support") (1024 : Int32) vs8 .null := Aq8
        have Zs8 : n0 ≤ T8.heap.size := (Nat.le_trans Zs6 Kq8.1)
        have O8 : Old Z n0 T8.heap := O6.keep Kq8 (allS ge_o1 (allS gtn all0))
        refine Go.step (fun t_ k_ => st8.trans k_) ?_
        show Go _ _ _ _ _ _ _ T8 (mkF m 56 #[.val (.int p1), .val (.int p2), .val (.int p3), .val (.int p4), .val (.int p5), .val (.int p6), .val (.ref o1), .val (.int kd), .unset, .unset] [(.ref rr8)])
        refine Go.step (fun t_ k_ => XT.pop X8.here hx rfl (hb hby at_56) rfl rfl k_) ?_
        show Go _ _ _ _ _ _ _ T8 (mkF m 57 #[.val (.int p1), .val (.int p2), .val (.int p3), .val (.int p4), .val (.int p5), .val (.int p6), .val (.ref o1), .val (.int kd), .unset, .unset] [])
        refine Go.step (fun t_ k_ => XS.aload X8.here hx rfl (hb hby at_57) rfl rfl k_) ?_
        show Go _ _ _ _ _ _ _ T8 (mkF m 59 #[.val (.int p1), .val (.int p2), .val (.int p3), .val (.int p4), .val (.int p5), .val (.int p6), .val (.ref o1), .val (.int kd), .unset, .unset] [(.ref o1)])
        refine Go.step (fun t_ k_ => XS.iload X8.here hx rfl (hb hby at_59) rfl k_) ?_
        show Go _ _ _ _ _ _ _ T8 (mkF m 61 #[.val (.int p1), .val (.int p2), .val (.int p3), .val (.int p4), .val (.int p5), .val (.int p6), .val (.ref o1), .val (.int kd), .unset, .unset] [(.int p5), (.ref o1)])
        obtain ⟨cq9, kq9, qa9, qb9, qc9⟩ := isOf hZ rfl f8_2
        obtain ⟨_, _, ⟨T9, L9, k9, n9⟩, -, X9, ⟨Lc9, hQ9, l9, y9, z9⟩, st9⟩ := X8.virtualBack hx (y := (⟨"com/example/portunus/portunus/Supports", "isWorthCollecting", "(I)Z"⟩ : MethodName)) (z := (⟨"com/example/portunus/portunus/Supports", "isWorthCollecting", "(I)Z"⟩ : MethodName)) hown (mvT hZ (hw _ (List.mem_of_getElem? (i := 38) rfl))) (mvT hZ (hw _ (List.mem_of_getElem? (i := 39) rfl))) (notFace_of_selects (args := #[]) (mvT hZ (hw _ (List.mem_of_getElem? (i := 41) rfl)))) (mvT hZ (hw _ (List.mem_of_getElem? (i := 41) rfl))) (mvT hZ (hw _ (List.mem_of_getElem? (i := 40) rfl))) (by decide) (backOf (W := 0) (rmW l Z a0 hw [] o1 p5 (Int32.ofNat nn8) T8.heap n0 Zs8 f8_4 (own_small (by omega))) hZ (hw _ (List.mem_of_getElem? (i := 42) rfl)) (hw _ (List.mem_of_getElem? (i := 2) rfl)) (by decide) (by decide)) qa9 qc9 (g := (mkF m 61 #[.val (.int p1), .val (.int p2), .val (.int p3), .val (.int p4), .val (.int p5), .val (.int p6), .val (.ref o1), .val (.int kd), .unset, .unset] [(.int p5), (.ref o1)])) rfl (by rw [hml]; rfl) (Steps.refl _) (argsL := [(.int p5)]) (rest := []) (lenOf pd_11 rfl) rfl (by show 2 * 0 + _ ≤ _; exact Nat.le_of_eq rfl) (hb hby at_61) (fun _ _ => ⟨rfl, rfl, (by decide : 0 + 1 + 13 + 1 + 1 + 1 + 0 ≤ _), (by decide : 0 + 15 + 18435 + 4 + 4 + 4 + 0 ≤ _)⟩)
        dsimp only [Pt.U, Pt.locs, Pt.cells, Pt.slots] at X9 l9 y9 z9 st9 hQ9
        subst l9 y9 z9
        obtain ⟨rfl, N9q, e9⟩ := hQ9
        have N9 := Fr.app N8 N9q
        refine Go.step (fun t_ k_ => st9.trans k_) ?_
        show Go _ _ _ _ _ _ _ T9 (mkF m 64 #[.val (.int p1), .val (.int p2), .val (.int p3), .val (.int p4), .val (.int p5), .val (.int p6), .val (.ref o1), .val (.int kd), .unset, .unset] [(.int (0 : Int32))])
        refine Go.step (fun t_ k_ => XS.istore X9.here hx rfl (hb hby at_64) rfl (l' := #[.val (.int p1), .val (.int p2), .val (.int p3), .val (.int p4), .val (.int p5), .val (.int p6), .val (.ref o1), .val (.int kd), .val (.int (0 : Int32)), .unset]) rfl k_) ?_
        show Go _ _ _ _ _ _ _ T9 (mkF m 66 #[.val (.int p1), .val (.int p2), .val (.int p3), .val (.int p4), .val (.int p5), .val (.int p6), .val (.ref o1), .val (.int kd), .val (.int (0 : Int32)), .unset] [])
        refine Go.step (fun t_ k_ => XS.aload X9.here hx rfl (hb hby at_66) rfl rfl k_) ?_
        show Go _ _ _ _ _ _ _ T9 (mkF m 68 #[.val (.int p1), .val (.int p2), .val (.int p3), .val (.int p4), .val (.int p5), .val (.int p6), .val (.ref o1), .val (.int kd), .val (.int (0 : Int32)), .unset] [(.ref o1)])
        refine Go.step (fun t_ k_ => XS.iload X9.here hx rfl (hb hby at_68) rfl k_) ?_
        show Go _ _ _ _ _ _ _ T9 (mkF m 70 #[.val (.int p1), .val (.int p2), .val (.int p3), .val (.int p4), .val (.int p5), .val (.int p6), .val (.ref o1), .val (.int kd), .val (.int (0 : Int32)), .unset] [(.int p6), (.ref o1)])
        obtain ⟨cq10, kq10, qa10, qb10, qc10⟩ := isOf hZ (e9) f8_2
        obtain ⟨_, _, ⟨T10, L10, k10, n10⟩, -, X10, ⟨Lc10, hQ10, l10, y10, z10⟩, st10⟩ := X9.virtualBack hx (y := (⟨"com/example/portunus/portunus/Supports", "isWorthCollecting", "(I)Z"⟩ : MethodName)) (z := (⟨"com/example/portunus/portunus/Supports", "isWorthCollecting", "(I)Z"⟩ : MethodName)) hown (mvT hZ (hw _ (List.mem_of_getElem? (i := 38) rfl))) (mvT hZ (hw _ (List.mem_of_getElem? (i := 39) rfl))) (notFace_of_selects (args := #[]) (mvT hZ (hw _ (List.mem_of_getElem? (i := 41) rfl)))) (mvT hZ (hw _ (List.mem_of_getElem? (i := 41) rfl))) (mvT hZ (hw _ (List.mem_of_getElem? (i := 40) rfl))) (by decide) (backOf (W := 0) (rmW l Z a0 hw [] o1 p6 (Int32.ofNat nn8) T8.heap n0 Zs8 f8_4 (own_small (by omega))) hZ (hw _ (List.mem_of_getElem? (i := 42) rfl)) (hw _ (List.mem_of_getElem? (i := 2) rfl)) (by decide) (by decide)) qa10 qc10 (g := (mkF m 70 #[.val (.int p1), .val (.int p2), .val (.int p3), .val (.int p4), .val (.int p5), .val (.int p6), .val (.ref o1), .val (.int kd), .val (.int (0 : Int32)), .unset] [(.int p6), (.ref o1)])) rfl (by rw [hml]; rfl) (Steps.refl _) (argsL := [(.int p6)]) (rest := []) (lenOf pd_11 rfl) rfl (by show 2 * 0 + _ ≤ _; exact Nat.le_of_eq rfl) (hb hby at_70) (fun _ _ => ⟨rfl, (e9), (by decide : 0 + 1 + 13 + 1 + 1 + 1 + 0 + 0 ≤ _), (by decide : 0 + 15 + 18435 + 4 + 4 + 4 + 0 + 0 ≤ _)⟩)
        dsimp only [Pt.U, Pt.locs, Pt.cells, Pt.slots] at X10 l10 y10 z10 st10 hQ10
        subst l10 y10 z10
        obtain ⟨rfl, N10q, e10⟩ := hQ10
        have N10 := Fr.app N9 N10q
        refine Go.step (fun t_ k_ => st10.trans k_) ?_
        show Go _ _ _ _ _ _ _ T10 (mkF m 73 #[.val (.int p1), .val (.int p2), .val (.int p3), .val (.int p4), .val (.int p5), .val (.int p6), .val (.ref o1), .val (.int kd), .val (.int (0 : Int32)), .unset] [(.int (0 : Int32))])
        refine Go.step (fun t_ k_ => XS.istore X10.here hx rfl (hb hby at_73) rfl (l' := #[.val (.int p1), .val (.int p2), .val (.int p3), .val (.int p4), .val (.int p5), .val (.int p6), .val (.ref o1), .val (.int kd), .val (.int (0 : Int32)), .val (.int (0 : Int32))]) rfl k_) ?_
        show Go _ _ _ _ _ _ _ T10 (mkF m 75 #[.val (.int p1), .val (.int p2), .val (.int p3), .val (.int p4), .val (.int p5), .val (.int p6), .val (.ref o1), .val (.int kd), .val (.int (0 : Int32)), .val (.int (0 : Int32))] [])
        refine Go.step (fun t_ k_ => XS.iload X10.here hx rfl (hb hby at_75) rfl k_) ?_
        show Go _ _ _ _ _ _ _ T10 (mkF m 77 #[.val (.int p1), .val (.int p2), .val (.int p3), .val (.int p4), .val (.int p5), .val (.int p6), .val (.ref o1), .val (.int kd), .val (.int (0 : Int32)), .val (.int (0 : Int32))] [(.int (0 : Int32))])
        have hb77_11 : (0 : Int32) = (0 : Int32) := by decide
        refine Go.step (fun t_ k_ => XS.ifNo X10.here hx rfl (hb hby at_77) rfl (XT.i0_ne_f hb77_11) k_) ?_
        show Go _ _ _ _ _ _ _ T10 (mkF m 80 #[.val (.int p1), .val (.int p2), .val (.int p3), .val (.int p4), .val (.int p5), .val (.int p6), .val (.ref o1), .val (.int kd), .val (.int (0 : Int32)), .val (.int (0 : Int32))] [])
        refine Go.step (fun t_ k_ => XS.iload X10.here hx rfl (hb hby at_80) rfl k_) ?_
        show Go _ _ _ _ _ _ _ T10 (mkF m 82 #[.val (.int p1), .val (.int p2), .val (.int p3), .val (.int p4), .val (.int p5), .val (.int p6), .val (.ref o1), .val (.int kd), .val (.int (0 : Int32)), .val (.int (0 : Int32))] [(.int (0 : Int32))])
        have hb82_12 : (0 : Int32) = (0 : Int32) := by decide
        refine Go.step (fun t_ k_ => XS.ifNo X10.here hx rfl (hb hby at_82) rfl (XT.i0_ne_f hb82_12) k_) ?_
        show Go _ _ _ _ _ _ _ T10 (mkF m 85 #[.val (.int p1), .val (.int p2), .val (.int p3), .val (.int p4), .val (.int p5), .val (.int p6), .val (.ref o1), .val (.int kd), .val (.int (0 : Int32)), .val (.int (0 : Int32))] [])
        refine Go.step (fun t_ k_ => XS.aload X10.here hx rfl (hb hby at_85) rfl rfl k_) ?_
        show Go _ _ _ _ _ _ _ T10 (mkF m 87 #[.val (.int p1), .val (.int p2), .val (.int p3), .val (.int p4), .val (.int p5), .val (.int p6), .val (.ref o1), .val (.int kd), .val (.int (0 : Int32)), .val (.int (0 : Int32))] [(.ref o1)])
        obtain ⟨cq13, kq13, qa13, qb13, qc13⟩ := isOf hZ (e10) f8_2
        obtain ⟨_, _, ⟨T13, L13, k13, n13⟩, -, X13, ⟨Lc13, hQ13, l13, y13, z13⟩, st13⟩ := X10.virtualBack hx (y := (⟨"com/example/portunus/portunus/Supports", "size", "()I"⟩ : MethodName)) (z := (⟨"com/example/portunus/portunus/Supports", "size", "()I"⟩ : MethodName)) hown (mvT hZ (hw _ (List.mem_of_getElem? (i := 46) rfl))) (mvT hZ (hw _ (List.mem_of_getElem? (i := 47) rfl))) (notFace_of_selects (args := #[]) (mvT hZ (hw _ (List.mem_of_getElem? (i := 49) rfl)))) (mvT hZ (hw _ (List.mem_of_getElem? (i := 49) rfl))) (mvT hZ (hw _ (List.mem_of_getElem? (i := 48) rfl))) (by decide) (backOf (W := 0) (rmZ l Z a0 hw [] o1 (Int32.ofNat nn8) T8.heap n0 Zs8 f8_4) hZ (hw _ (List.mem_of_getElem? (i := 50) rfl)) (hw _ (List.mem_of_getElem? (i := 2) rfl)) (by decide) (by decide)) qa13 qc13 (g := (mkF m 87 #[.val (.int p1), .val (.int p2), .val (.int p3), .val (.int p4), .val (.int p5), .val (.int p6), .val (.ref o1), .val (.int kd), .val (.int (0 : Int32)), .val (.int (0 : Int32))] [(.ref o1)])) rfl (by rw [hml]; rfl) (Steps.refl _) (argsL := []) (rest := []) (lenOf pd_1 rfl) rfl (by show 2 * 0 + _ ≤ _; exact Nat.le_of_eq rfl) (hb hby at_87) (fun _ _ => ⟨rfl, (e10), (by decide : 0 + 1 + 13 + 1 + 1 + 1 + 0 + 0 + 0 ≤ _), (by decide : 0 + 15 + 18435 + 4 + 4 + 4 + 0 + 0 + 0 ≤ _)⟩)
        dsimp only [Pt.U, Pt.locs, Pt.cells, Pt.slots] at X13 l13 y13 z13 st13 hQ13
        subst l13 y13 z13
        obtain ⟨rfl, N13q, e13⟩ := hQ13
        have N13 := Fr.app N10 N13q
        refine Go.step (fun t_ k_ => st13.trans k_) ?_
        show Go _ _ _ _ _ _ _ T13 (mkF m 90 #[.val (.int p1), .val (.int p2), .val (.int p3), .val (.int p4), .val (.int p5), .val (.int p6), .val (.ref o1), .val (.int kd), .val (.int (0 : Int32)), .val (.int (0 : Int32))] [(.int (Int32.ofNat nn8))])
        refine Go.step (fun t_ k_ => XS.iconst X13.here hx rfl (hb hby at_90) k_) ?_
        show Go _ _ _ _ _ _ _ T13 (mkF m 91 #[.val (.int p1), .val (.int p2), .val (.int p3), .val (.int p4), .val (.int p5), .val (.int p6), .val (.ref o1), .val (.int kd), .val (.int (0 : Int32)), .val (.int (0 : Int32))] [(.int (3 : Int32)), (.int (Int32.ofNat nn8))])
        have hb91_14 : ¬ ((3 : Int32) < (Int32.ofNat nn8)) := by exact own_le3 (by omega)
        refine Go.step (fun t_ k_ => XS.icmpNo X13.here hx rfl (hb hby at_91) rfl (XT.ii_gt_f hb91_14) k_) ?_
        show Go _ _ _ _ _ _ _ T13 (mkF m 94 #[.val (.int p1), .val (.int p2), .val (.int p3), .val (.int p4), .val (.int p5), .val (.int p6), .val (.ref o1), .val (.int kd), .val (.int (0 : Int32)), .val (.int (0 : Int32))] [])
        refine Go.step (fun t_ k_ => XS.iconst X13.here hx rfl (hb hby at_94) k_) ?_
        show Go _ _ _ _ _ _ _ T13 (mkF m 95 #[.val (.int p1), .val (.int p2), .val (.int p3), .val (.int p4), .val (.int p5), .val (.int p6), .val (.ref o1), .val (.int kd), .val (.int (0 : Int32)), .val (.int (0 : Int32))] [(.int (1 : Int32))])
        refine Go.step (fun t_ k_ => XS.goto X13.here hx rfl (pc0 := 95) (pc' := 99) rfl (hb hby at_95) (by decide) (by decide) k_) ?_
        show Go _ _ _ _ _ _ _ T13 (mkF m 99 #[.val (.int p1), .val (.int p2), .val (.int p3), .val (.int p4), .val (.int p5), .val (.int p6), .val (.ref o1), .val (.int kd), .val (.int (0 : Int32)), .val (.int (0 : Int32))] [(.int (1 : Int32))])
        refine Go.ret X13 hx hlk hret rfl (Or.inl ⟨rfl, Or.inr (Or.inl rfl), _, rfl⟩) (hb hby at_99) ?_ (by decide) (by decide)
        show Q0 Z _ _ _ _ _ _ _ _ _ _ _ T13.heap _
        exact ⟨rfl, N13⟩
      · refine Go.step (fun t_ k_ => XS.icmpYes X6.here hx rfl (pc0 := 44) (pc' := 57) rfl (hb hby at_44) rfl (XT.ii_le_t hb44_7) (by decide) (by decide) k_) ?_
        show Go _ _ _ _ _ _ _ T6 (mkF m 57 #[.val (.int p1), .val (.int p2), .val (.int p3), .val (.int p4), .val (.int p5), .val (.int p6), .val (.ref o1), .val (.int kd), .unset, .unset] [])
        refine Go.step (fun t_ k_ => XS.aload X6.here hx rfl (hb hby at_57) rfl rfl k_) ?_
        show Go _ _ _ _ _ _ _ T6 (mkF m 59 #[.val (.int p1), .val (.int p2), .val (.int p3), .val (.int p4), .val (.int p5), .val (.int p6), .val (.ref o1), .val (.int kd), .unset, .unset] [(.ref o1)])
        refine Go.step (fun t_ k_ => XS.iload X6.here hx rfl (hb hby at_59) rfl k_) ?_
        show Go _ _ _ _ _ _ _ T6 (mkF m 61 #[.val (.int p1), .val (.int p2), .val (.int p3), .val (.int p4), .val (.int p5), .val (.int p6), .val (.ref o1), .val (.int kd), .unset, .unset] [(.int p5), (.ref o1)])
        obtain ⟨cq15, kq15, qa15, qb15, qc15⟩ := isOf hZ rfl f6_2
        obtain ⟨_, _, ⟨T15, L15, k15, n15⟩, -, X15, ⟨Lc15, hQ15, l15, y15, z15⟩, st15⟩ := X6.virtualBack hx (y := (⟨"com/example/portunus/portunus/Supports", "isWorthCollecting", "(I)Z"⟩ : MethodName)) (z := (⟨"com/example/portunus/portunus/Supports", "isWorthCollecting", "(I)Z"⟩ : MethodName)) hown (mvT hZ (hw _ (List.mem_of_getElem? (i := 38) rfl))) (mvT hZ (hw _ (List.mem_of_getElem? (i := 39) rfl))) (notFace_of_selects (args := #[]) (mvT hZ (hw _ (List.mem_of_getElem? (i := 41) rfl)))) (mvT hZ (hw _ (List.mem_of_getElem? (i := 41) rfl))) (mvT hZ (hw _ (List.mem_of_getElem? (i := 40) rfl))) (by decide) (backOf (W := 0) (rmW l Z a0 hw [] o1 p5 (Int32.ofNat nn6) T6.heap n0 Zs6 f6_4 (own_small (by omega))) hZ (hw _ (List.mem_of_getElem? (i := 42) rfl)) (hw _ (List.mem_of_getElem? (i := 2) rfl)) (by decide) (by decide)) qa15 qc15 (g := (mkF m 61 #[.val (.int p1), .val (.int p2), .val (.int p3), .val (.int p4), .val (.int p5), .val (.int p6), .val (.ref o1), .val (.int kd), .unset, .unset] [(.int p5), (.ref o1)])) rfl (by rw [hml]; rfl) (Steps.refl _) (argsL := [(.int p5)]) (rest := []) (lenOf pd_11 rfl) rfl (by show 2 * 0 + _ ≤ _; exact Nat.le_of_eq rfl) (hb hby at_61) (fun _ _ => ⟨rfl, rfl, (by decide : 0 + 1 + 13 + 1 + 1 + 0 ≤ _), (by decide : 0 + 15 + 18435 + 4 + 4 + 0 ≤ _)⟩)
        dsimp only [Pt.U, Pt.locs, Pt.cells, Pt.slots] at X15 l15 y15 z15 st15 hQ15
        subst l15 y15 z15
        obtain ⟨rfl, N15q, e15⟩ := hQ15
        have N15 := Fr.app N6 N15q
        refine Go.step (fun t_ k_ => st15.trans k_) ?_
        show Go _ _ _ _ _ _ _ T15 (mkF m 64 #[.val (.int p1), .val (.int p2), .val (.int p3), .val (.int p4), .val (.int p5), .val (.int p6), .val (.ref o1), .val (.int kd), .unset, .unset] [(.int (0 : Int32))])
        refine Go.step (fun t_ k_ => XS.istore X15.here hx rfl (hb hby at_64) rfl (l' := #[.val (.int p1), .val (.int p2), .val (.int p3), .val (.int p4), .val (.int p5), .val (.int p6), .val (.ref o1), .val (.int kd), .val (.int (0 : Int32)), .unset]) rfl k_) ?_
        show Go _ _ _ _ _ _ _ T15 (mkF m 66 #[.val (.int p1), .val (.int p2), .val (.int p3), .val (.int p4), .val (.int p5), .val (.int p6), .val (.ref o1), .val (.int kd), .val (.int (0 : Int32)), .unset] [])
        refine Go.step (fun t_ k_ => XS.aload X15.here hx rfl (hb hby at_66) rfl rfl k_) ?_
        show Go _ _ _ _ _ _ _ T15 (mkF m 68 #[.val (.int p1), .val (.int p2), .val (.int p3), .val (.int p4), .val (.int p5), .val (.int p6), .val (.ref o1), .val (.int kd), .val (.int (0 : Int32)), .unset] [(.ref o1)])
        refine Go.step (fun t_ k_ => XS.iload X15.here hx rfl (hb hby at_68) rfl k_) ?_
        show Go _ _ _ _ _ _ _ T15 (mkF m 70 #[.val (.int p1), .val (.int p2), .val (.int p3), .val (.int p4), .val (.int p5), .val (.int p6), .val (.ref o1), .val (.int kd), .val (.int (0 : Int32)), .unset] [(.int p6), (.ref o1)])
        obtain ⟨cq16, kq16, qa16, qb16, qc16⟩ := isOf hZ (e15) f6_2
        obtain ⟨_, _, ⟨T16, L16, k16, n16⟩, -, X16, ⟨Lc16, hQ16, l16, y16, z16⟩, st16⟩ := X15.virtualBack hx (y := (⟨"com/example/portunus/portunus/Supports", "isWorthCollecting", "(I)Z"⟩ : MethodName)) (z := (⟨"com/example/portunus/portunus/Supports", "isWorthCollecting", "(I)Z"⟩ : MethodName)) hown (mvT hZ (hw _ (List.mem_of_getElem? (i := 38) rfl))) (mvT hZ (hw _ (List.mem_of_getElem? (i := 39) rfl))) (notFace_of_selects (args := #[]) (mvT hZ (hw _ (List.mem_of_getElem? (i := 41) rfl)))) (mvT hZ (hw _ (List.mem_of_getElem? (i := 41) rfl))) (mvT hZ (hw _ (List.mem_of_getElem? (i := 40) rfl))) (by decide) (backOf (W := 0) (rmW l Z a0 hw [] o1 p6 (Int32.ofNat nn6) T6.heap n0 Zs6 f6_4 (own_small (by omega))) hZ (hw _ (List.mem_of_getElem? (i := 42) rfl)) (hw _ (List.mem_of_getElem? (i := 2) rfl)) (by decide) (by decide)) qa16 qc16 (g := (mkF m 70 #[.val (.int p1), .val (.int p2), .val (.int p3), .val (.int p4), .val (.int p5), .val (.int p6), .val (.ref o1), .val (.int kd), .val (.int (0 : Int32)), .unset] [(.int p6), (.ref o1)])) rfl (by rw [hml]; rfl) (Steps.refl _) (argsL := [(.int p6)]) (rest := []) (lenOf pd_11 rfl) rfl (by show 2 * 0 + _ ≤ _; exact Nat.le_of_eq rfl) (hb hby at_70) (fun _ _ => ⟨rfl, (e15), (by decide : 0 + 1 + 13 + 1 + 1 + 0 + 0 ≤ _), (by decide : 0 + 15 + 18435 + 4 + 4 + 0 + 0 ≤ _)⟩)
        dsimp only [Pt.U, Pt.locs, Pt.cells, Pt.slots] at X16 l16 y16 z16 st16 hQ16
        subst l16 y16 z16
        obtain ⟨rfl, N16q, e16⟩ := hQ16
        have N16 := Fr.app N15 N16q
        refine Go.step (fun t_ k_ => st16.trans k_) ?_
        show Go _ _ _ _ _ _ _ T16 (mkF m 73 #[.val (.int p1), .val (.int p2), .val (.int p3), .val (.int p4), .val (.int p5), .val (.int p6), .val (.ref o1), .val (.int kd), .val (.int (0 : Int32)), .unset] [(.int (0 : Int32))])
        refine Go.step (fun t_ k_ => XS.istore X16.here hx rfl (hb hby at_73) rfl (l' := #[.val (.int p1), .val (.int p2), .val (.int p3), .val (.int p4), .val (.int p5), .val (.int p6), .val (.ref o1), .val (.int kd), .val (.int (0 : Int32)), .val (.int (0 : Int32))]) rfl k_) ?_
        show Go _ _ _ _ _ _ _ T16 (mkF m 75 #[.val (.int p1), .val (.int p2), .val (.int p3), .val (.int p4), .val (.int p5), .val (.int p6), .val (.ref o1), .val (.int kd), .val (.int (0 : Int32)), .val (.int (0 : Int32))] [])
        refine Go.step (fun t_ k_ => XS.iload X16.here hx rfl (hb hby at_75) rfl k_) ?_
        show Go _ _ _ _ _ _ _ T16 (mkF m 77 #[.val (.int p1), .val (.int p2), .val (.int p3), .val (.int p4), .val (.int p5), .val (.int p6), .val (.ref o1), .val (.int kd), .val (.int (0 : Int32)), .val (.int (0 : Int32))] [(.int (0 : Int32))])
        have hb77_17 : (0 : Int32) = (0 : Int32) := by decide
        refine Go.step (fun t_ k_ => XS.ifNo X16.here hx rfl (hb hby at_77) rfl (XT.i0_ne_f hb77_17) k_) ?_
        show Go _ _ _ _ _ _ _ T16 (mkF m 80 #[.val (.int p1), .val (.int p2), .val (.int p3), .val (.int p4), .val (.int p5), .val (.int p6), .val (.ref o1), .val (.int kd), .val (.int (0 : Int32)), .val (.int (0 : Int32))] [])
        refine Go.step (fun t_ k_ => XS.iload X16.here hx rfl (hb hby at_80) rfl k_) ?_
        show Go _ _ _ _ _ _ _ T16 (mkF m 82 #[.val (.int p1), .val (.int p2), .val (.int p3), .val (.int p4), .val (.int p5), .val (.int p6), .val (.ref o1), .val (.int kd), .val (.int (0 : Int32)), .val (.int (0 : Int32))] [(.int (0 : Int32))])
        have hb82_18 : (0 : Int32) = (0 : Int32) := by decide
        refine Go.step (fun t_ k_ => XS.ifNo X16.here hx rfl (hb hby at_82) rfl (XT.i0_ne_f hb82_18) k_) ?_
        show Go _ _ _ _ _ _ _ T16 (mkF m 85 #[.val (.int p1), .val (.int p2), .val (.int p3), .val (.int p4), .val (.int p5), .val (.int p6), .val (.ref o1), .val (.int kd), .val (.int (0 : Int32)), .val (.int (0 : Int32))] [])
        refine Go.step (fun t_ k_ => XS.aload X16.here hx rfl (hb hby at_85) rfl rfl k_) ?_
        show Go _ _ _ _ _ _ _ T16 (mkF m 87 #[.val (.int p1), .val (.int p2), .val (.int p3), .val (.int p4), .val (.int p5), .val (.int p6), .val (.ref o1), .val (.int kd), .val (.int (0 : Int32)), .val (.int (0 : Int32))] [(.ref o1)])
        obtain ⟨cq19, kq19, qa19, qb19, qc19⟩ := isOf hZ (e16) f6_2
        obtain ⟨_, _, ⟨T19, L19, k19, n19⟩, -, X19, ⟨Lc19, hQ19, l19, y19, z19⟩, st19⟩ := X16.virtualBack hx (y := (⟨"com/example/portunus/portunus/Supports", "size", "()I"⟩ : MethodName)) (z := (⟨"com/example/portunus/portunus/Supports", "size", "()I"⟩ : MethodName)) hown (mvT hZ (hw _ (List.mem_of_getElem? (i := 46) rfl))) (mvT hZ (hw _ (List.mem_of_getElem? (i := 47) rfl))) (notFace_of_selects (args := #[]) (mvT hZ (hw _ (List.mem_of_getElem? (i := 49) rfl)))) (mvT hZ (hw _ (List.mem_of_getElem? (i := 49) rfl))) (mvT hZ (hw _ (List.mem_of_getElem? (i := 48) rfl))) (by decide) (backOf (W := 0) (rmZ l Z a0 hw [] o1 (Int32.ofNat nn6) T6.heap n0 Zs6 f6_4) hZ (hw _ (List.mem_of_getElem? (i := 50) rfl)) (hw _ (List.mem_of_getElem? (i := 2) rfl)) (by decide) (by decide)) qa19 qc19 (g := (mkF m 87 #[.val (.int p1), .val (.int p2), .val (.int p3), .val (.int p4), .val (.int p5), .val (.int p6), .val (.ref o1), .val (.int kd), .val (.int (0 : Int32)), .val (.int (0 : Int32))] [(.ref o1)])) rfl (by rw [hml]; rfl) (Steps.refl _) (argsL := []) (rest := []) (lenOf pd_1 rfl) rfl (by show 2 * 0 + _ ≤ _; exact Nat.le_of_eq rfl) (hb hby at_87) (fun _ _ => ⟨rfl, (e16), (by decide : 0 + 1 + 13 + 1 + 1 + 0 + 0 + 0 ≤ _), (by decide : 0 + 15 + 18435 + 4 + 4 + 0 + 0 + 0 ≤ _)⟩)
        dsimp only [Pt.U, Pt.locs, Pt.cells, Pt.slots] at X19 l19 y19 z19 st19 hQ19
        subst l19 y19 z19
        obtain ⟨rfl, N19q, e19⟩ := hQ19
        have N19 := Fr.app N16 N19q
        refine Go.step (fun t_ k_ => st19.trans k_) ?_
        show Go _ _ _ _ _ _ _ T19 (mkF m 90 #[.val (.int p1), .val (.int p2), .val (.int p3), .val (.int p4), .val (.int p5), .val (.int p6), .val (.ref o1), .val (.int kd), .val (.int (0 : Int32)), .val (.int (0 : Int32))] [(.int (Int32.ofNat nn6))])
        refine Go.step (fun t_ k_ => XS.iconst X19.here hx rfl (hb hby at_90) k_) ?_
        show Go _ _ _ _ _ _ _ T19 (mkF m 91 #[.val (.int p1), .val (.int p2), .val (.int p3), .val (.int p4), .val (.int p5), .val (.int p6), .val (.ref o1), .val (.int kd), .val (.int (0 : Int32)), .val (.int (0 : Int32))] [(.int (3 : Int32)), (.int (Int32.ofNat nn6))])
        have hb91_20 : ¬ ((3 : Int32) < (Int32.ofNat nn6)) := by exact own_le3 (by omega)
        refine Go.step (fun t_ k_ => XS.icmpNo X19.here hx rfl (hb hby at_91) rfl (XT.ii_gt_f hb91_20) k_) ?_
        show Go _ _ _ _ _ _ _ T19 (mkF m 94 #[.val (.int p1), .val (.int p2), .val (.int p3), .val (.int p4), .val (.int p5), .val (.int p6), .val (.ref o1), .val (.int kd), .val (.int (0 : Int32)), .val (.int (0 : Int32))] [])
        refine Go.step (fun t_ k_ => XS.iconst X19.here hx rfl (hb hby at_94) k_) ?_
        show Go _ _ _ _ _ _ _ T19 (mkF m 95 #[.val (.int p1), .val (.int p2), .val (.int p3), .val (.int p4), .val (.int p5), .val (.int p6), .val (.ref o1), .val (.int kd), .val (.int (0 : Int32)), .val (.int (0 : Int32))] [(.int (1 : Int32))])
        refine Go.step (fun t_ k_ => XS.goto X19.here hx rfl (pc0 := 95) (pc' := 99) rfl (hb hby at_95) (by decide) (by decide) k_) ?_
        show Go _ _ _ _ _ _ _ T19 (mkF m 99 #[.val (.int p1), .val (.int p2), .val (.int p3), .val (.int p4), .val (.int p5), .val (.int p6), .val (.ref o1), .val (.int kd), .val (.int (0 : Int32)), .val (.int (0 : Int32))] [(.int (1 : Int32))])
        refine Go.ret X19 hx hlk hret rfl (Or.inl ⟨rfl, Or.inr (Or.inl rfl), _, rfl⟩) (hb hby at_99) ?_ (by decide) (by decide)
        show Q0 Z _ _ _ _ _ _ _ _ _ _ _ T19.heap _
        exact ⟨rfl, N19⟩
    · refine Go.step (fun t_ k_ => XS.icmpYes X4.here hx rfl (pc0 := 30) (pc' := 41) rfl (hb hby at_30) rfl (XT.ii_le_t hb30_5) (by decide) (by decide) k_) ?_
      show Go _ _ _ _ _ _ _ T4 (mkF m 41 #[.val (.int p1), .val (.int p2), .val (.int p3), .val (.int p4), .val (.int p5), .val (.int p6), .val (.ref o1), .val (.int kd), .unset, .unset] [])
      refine Go.step (fun t_ k_ => XS.iload X4.here hx rfl (hb hby at_41) rfl k_) ?_
      show Go _ _ _ _ _ _ _ T4 (mkF m 43 #[.val (.int p1), .val (.int p2), .val (.int p3), .val (.int p4), .val (.int p5), .val (.int p6), .val (.ref o1), .val (.int kd), .unset, .unset] [(.int kd)])
      refine Go.step (fun t_ k_ => XS.iconst X4.here hx rfl (hb hby at_43) k_) ?_
      show Go _ _ _ _ _ _ _ T4 (mkF m 44 #[.val (.int p1), .val (.int p2), .val (.int p3), .val (.int p4), .val (.int p5), .val (.int p6), .val (.ref o1), .val (.int kd), .unset, .unset] [(.int (2 : Int32)), (.int kd)])
      by_cases hb44_21 : (2 : Int32) < kd
      · refine Go.step (fun t_ k_ => XS.icmpNo X4.here hx rfl (hb hby at_44) rfl (XT.ii_le_f hb44_21) k_) ?_
        show Go _ _ _ _ _ _ _ T4 (mkF m 47 #[.val (.int p1), .val (.int p2), .val (.int p3), .val (.int p4), .val (.int p5), .val (.int p6), .val (.ref o1), .val (.int kd), .unset, .unset] [])
        refine Go.step (fun t_ k_ => XS.aload X4.here hx rfl (hb hby at_47) rfl rfl k_) ?_
        show Go _ _ _ _ _ _ _ T4 (mkF m 49 #[.val (.int p1), .val (.int p2), .val (.int p3), .val (.int p4), .val (.int p5), .val (.int p6), .val (.ref o1), .val (.int kd), .unset, .unset] [(.ref o1)])
        refine Go.step (fun t_ k_ => XS.iloadN X4.here hx rfl (hb hby at_49) rfl k_) ?_
        show Go _ _ _ _ _ _ _ T4 (mkF m 50 #[.val (.int p1), .val (.int p2), .val (.int p3), .val (.int p4), .val (.int p5), .val (.int p6), .val (.ref o1), .val (.int kd), .unset, .unset] [(.int p2), (.ref o1)])
        refine Go.step (fun t_ k_ => XS.iloadN X4.here hx rfl (hb hby at_50) rfl k_) ?_
        show Go _ _ _ _ _ _ _ T4 (mkF m 51 #[.val (.int p1), .val (.int p2), .val (.int p3), .val (.int p4), .val (.int p5), .val (.int p6), .val (.ref o1), .val (.int kd), .unset, .unset] [(.int p4), (.int p2), (.ref o1)])
        refine Go.step (fun t_ k_ => XS.iconst X4.here hx rfl (hb hby at_51) k_) ?_
        show Go _ _ _ _ _ _ _ T4 (mkF m 52 #[.val (.int p1), .val (.int p2), .val (.int p3), .val (.int p4), .val (.int p5), .val (.int p6), .val (.ref o1), .val (.int kd), .unset, .unset] [(.int (1 : Int32)), (.int p4), (.int p2), (.ref o1)])
        refine Go.step (fun t_ k_ => XT.ixor X4.here hx rfl (hb hby at_52) rfl k_) ?_
        show Go _ _ _ _ _ _ _ T4 (mkF m 53 #[.val (.int p1), .val (.int p2), .val (.int p3), .val (.int p4), .val (.int p5), .val (.int p6), .val (.ref o1), .val (.int kd), .unset, .unset] [(.int (p4 ^^^ (1 : Int32))), (.int p2), (.ref o1)])
        obtain ⟨cq22, kq22, qa22, qb22, qc22⟩ := isOf hZ rfl f4_2
        obtain ⟨_, _, ⟨T22, L22, k22, n22⟩, -, X22, ⟨Lc22, hQ22, l22, y22, z22⟩, st22⟩ := X4.virtualBack hx (y := (⟨"com/example/portunus/portunus/Supports", "of", "(II)Lcom/example/portunus/portunus/Support;"⟩ : MethodName)) (z := (⟨"com/example/portunus/portunus/Supports", "of", "(II)Lcom/example/portunus/portunus/Support;"⟩ : MethodName)) hown (mvT hZ (hw _ (List.mem_of_getElem? (i := 51) rfl))) (mvT hZ (hw _ (List.mem_of_getElem? (i := 52) rfl))) (notFace_of_selects (args := #[]) (mvT hZ (hw _ (List.mem_of_getElem? (i := 54) rfl)))) (mvT hZ (hw _ (List.mem_of_getElem? (i := 54) rfl))) (mvT hZ (hw _ (List.mem_of_getElem? (i := 53) rfl))) (by decide) (backOf (W := 0) (rmOf l Z a0 hw [] o1 p2 (p4 ^^^ (1 : Int32)) ns es tn kn nn4 nid4 vs4 T4.heap n0 Zs4 O4 S_NO S_ES E_NO E_ES F_NO F_ES nEN ge_o1 gtn (by omega) hOV f4_2 f4_3 f4_4 f4_5 f4_6 hlv4 hent4 hfew4) hZ (hw _ (List.mem_of_getElem? (i := 55) rfl)) (hw _ (List.mem_of_getElem? (i := 2) rfl)) (by decide) (by decide)) qa22 qc22 (g := (mkF m 53 #[.val (.int p1), .val (.int p2), .val (.int p3), .val (.int p4), .val (.int p5), .val (.int p6), .val (.ref o1), .val (.int kd), .unset, .unset] [(.int (p4 ^^^ (1 : Int32))), (.int p2), (.ref o1)])) rfl (by rw [hml]; rfl) (Steps.refl _) (argsL := [(.int p2), (.int (p4 ^^^ (1 : Int32)))]) (rest := []) (lenOf pd_10 rfl) rfl (by show 2 * 0 + _ ≤ _; exact Nat.le_of_eq rfl) (hb hby at_53) (fun _ _ => ⟨rfl, rfl, (by decide : 0 + 1 + 13 + 1 + 1 ≤ _), (by decide : 0 + 15 + 18435 + 4 + 4 ≤ _)⟩)
        dsimp only [Pt.U, Pt.locs, Pt.cells, Pt.slots] at X22 l22 y22 z22 st22 hQ22
        subst l22 y22 z22
        obtain ⟨nn22, nid22, vs22, rr22, rfl, N22q, Kq22, hle22, Eq22, Fa22, Fb22, Fc22, Aq22, hlv22, hent22, hfew22⟩ := hQ22
        have N22 := Fr.app N4 N22q
        have f22_2 : Exa Z T22.heap o1 "com/example/portunus/portunus/Supports" := Eq22
        have f22_3 : Fld Z T22.heap o1 "com/example/portunus/portunus/Supports" "nodes" "[Lcom/example/portunus/portunus/Support;" (.ref tn) := Fa22
        have f22_4 : Fld Z T22.heap o1 "com/example/portunus/portunus/Supports" "size" "I" (.int (Int32.ofNat nn22)) := Fb22
        have f22_5 : Fld Z T22.heap o1 "com/example/portunus/portunus/Supports" "nextId" "I" (.int nid22) := Fc22
        have f22_6 : Arv Z T22.heap tn kn (.object "com/example/portunus/portunus/Support") (1024 : Int32) vs22 .null := Aq22
        have Zs22 : n0 ≤ T22.heap.size := (Nat.le_trans Zs4 Kq22.1)
        have O22 : Old Z n0 T22.heap := O4.keep Kq22 (allS ge_o1 (allS gtn all0))
        refine Go.step (fun t_ k_ => st22.trans k_) ?_
        show Go _ _ _ _ _ _ _ T22 (mkF m 56 #[.val (.int p1), .val (.int p2), .val (.int p3), .val (.int p4), .val (.int p5), .val (.int p6), .val (.ref o1), .val (.int kd), .unset, .unset] [(.ref rr22)])
        refine Go.step (fun t_ k_ => XT.pop X22.here hx rfl (hb hby at_56) rfl rfl k_) ?_
        show Go _ _ _ _ _ _ _ T22 (mkF m 57 #[.val (.int p1), .val (.int p2), .val (.int p3), .val (.int p4), .val (.int p5), .val (.int p6), .val (.ref o1), .val (.int kd), .unset, .unset] [])
        refine Go.step (fun t_ k_ => XS.aload X22.here hx rfl (hb hby at_57) rfl rfl k_) ?_
        show Go _ _ _ _ _ _ _ T22 (mkF m 59 #[.val (.int p1), .val (.int p2), .val (.int p3), .val (.int p4), .val (.int p5), .val (.int p6), .val (.ref o1), .val (.int kd), .unset, .unset] [(.ref o1)])
        refine Go.step (fun t_ k_ => XS.iload X22.here hx rfl (hb hby at_59) rfl k_) ?_
        show Go _ _ _ _ _ _ _ T22 (mkF m 61 #[.val (.int p1), .val (.int p2), .val (.int p3), .val (.int p4), .val (.int p5), .val (.int p6), .val (.ref o1), .val (.int kd), .unset, .unset] [(.int p5), (.ref o1)])
        obtain ⟨cq23, kq23, qa23, qb23, qc23⟩ := isOf hZ rfl f22_2
        obtain ⟨_, _, ⟨T23, L23, k23, n23⟩, -, X23, ⟨Lc23, hQ23, l23, y23, z23⟩, st23⟩ := X22.virtualBack hx (y := (⟨"com/example/portunus/portunus/Supports", "isWorthCollecting", "(I)Z"⟩ : MethodName)) (z := (⟨"com/example/portunus/portunus/Supports", "isWorthCollecting", "(I)Z"⟩ : MethodName)) hown (mvT hZ (hw _ (List.mem_of_getElem? (i := 38) rfl))) (mvT hZ (hw _ (List.mem_of_getElem? (i := 39) rfl))) (notFace_of_selects (args := #[]) (mvT hZ (hw _ (List.mem_of_getElem? (i := 41) rfl)))) (mvT hZ (hw _ (List.mem_of_getElem? (i := 41) rfl))) (mvT hZ (hw _ (List.mem_of_getElem? (i := 40) rfl))) (by decide) (backOf (W := 0) (rmW l Z a0 hw [] o1 p5 (Int32.ofNat nn22) T22.heap n0 Zs22 f22_4 (own_small (by omega))) hZ (hw _ (List.mem_of_getElem? (i := 42) rfl)) (hw _ (List.mem_of_getElem? (i := 2) rfl)) (by decide) (by decide)) qa23 qc23 (g := (mkF m 61 #[.val (.int p1), .val (.int p2), .val (.int p3), .val (.int p4), .val (.int p5), .val (.int p6), .val (.ref o1), .val (.int kd), .unset, .unset] [(.int p5), (.ref o1)])) rfl (by rw [hml]; rfl) (Steps.refl _) (argsL := [(.int p5)]) (rest := []) (lenOf pd_11 rfl) rfl (by show 2 * 0 + _ ≤ _; exact Nat.le_of_eq rfl) (hb hby at_61) (fun _ _ => ⟨rfl, rfl, (by decide : 0 + 1 + 13 + 1 + 1 + 0 ≤ _), (by decide : 0 + 15 + 18435 + 4 + 4 + 0 ≤ _)⟩)
        dsimp only [Pt.U, Pt.locs, Pt.cells, Pt.slots] at X23 l23 y23 z23 st23 hQ23
        subst l23 y23 z23
        obtain ⟨rfl, N23q, e23⟩ := hQ23
        have N23 := Fr.app N22 N23q
        refine Go.step (fun t_ k_ => st23.trans k_) ?_
        show Go _ _ _ _ _ _ _ T23 (mkF m 64 #[.val (.int p1), .val (.int p2), .val (.int p3), .val (.int p4), .val (.int p5), .val (.int p6), .val (.ref o1), .val (.int kd), .unset, .unset] [(.int (0 : Int32))])
        refine Go.step (fun t_ k_ => XS.istore X23.here hx rfl (hb hby at_64) rfl (l' := #[.val (.int p1), .val (.int p2), .val (.int p3), .val (.int p4), .val (.int p5), .val (.int p6), .val (.ref o1), .val (.int kd), .val (.int (0 : Int32)), .unset]) rfl k_) ?_
        show Go _ _ _ _ _ _ _ T23 (mkF m 66 #[.val (.int p1), .val (.int p2), .val (.int p3), .val (.int p4), .val (.int p5), .val (.int p6), .val (.ref o1), .val (.int kd), .val (.int (0 : Int32)), .unset] [])
        refine Go.step (fun t_ k_ => XS.aload X23.here hx rfl (hb hby at_66) rfl rfl k_) ?_
        show Go _ _ _ _ _ _ _ T23 (mkF m 68 #[.val (.int p1), .val (.int p2), .val (.int p3), .val (.int p4), .val (.int p5), .val (.int p6), .val (.ref o1), .val (.int kd), .val (.int (0 : Int32)), .unset] [(.ref o1)])
        refine Go.step (fun t_ k_ => XS.iload X23.here hx rfl (hb hby at_68) rfl k_) ?_
        show Go _ _ _ _ _ _ _ T23 (mkF m 70 #[.val (.int p1), .val (.int p2), .val (.int p3), .val (.int p4), .val (.int p5), .val (.int p6), .val (.ref o1), .val (.int kd), .val (.int (0 : Int32)), .unset] [(.int p6), (.ref o1)])
        obtain ⟨cq24, kq24, qa24, qb24, qc24⟩ := isOf hZ (e23) f22_2
        obtain ⟨_, _, ⟨T24, L24, k24, n24⟩, -, X24, ⟨Lc24, hQ24, l24, y24, z24⟩, st24⟩ := X23.virtualBack hx (y := (⟨"com/example/portunus/portunus/Supports", "isWorthCollecting", "(I)Z"⟩ : MethodName)) (z := (⟨"com/example/portunus/portunus/Supports", "isWorthCollecting", "(I)Z"⟩ : MethodName)) hown (mvT hZ (hw _ (List.mem_of_getElem? (i := 38) rfl))) (mvT hZ (hw _ (List.mem_of_getElem? (i := 39) rfl))) (notFace_of_selects (args := #[]) (mvT hZ (hw _ (List.mem_of_getElem? (i := 41) rfl)))) (mvT hZ (hw _ (List.mem_of_getElem? (i := 41) rfl))) (mvT hZ (hw _ (List.mem_of_getElem? (i := 40) rfl))) (by decide) (backOf (W := 0) (rmW l Z a0 hw [] o1 p6 (Int32.ofNat nn22) T22.heap n0 Zs22 f22_4 (own_small (by omega))) hZ (hw _ (List.mem_of_getElem? (i := 42) rfl)) (hw _ (List.mem_of_getElem? (i := 2) rfl)) (by decide) (by decide)) qa24 qc24 (g := (mkF m 70 #[.val (.int p1), .val (.int p2), .val (.int p3), .val (.int p4), .val (.int p5), .val (.int p6), .val (.ref o1), .val (.int kd), .val (.int (0 : Int32)), .unset] [(.int p6), (.ref o1)])) rfl (by rw [hml]; rfl) (Steps.refl _) (argsL := [(.int p6)]) (rest := []) (lenOf pd_11 rfl) rfl (by show 2 * 0 + _ ≤ _; exact Nat.le_of_eq rfl) (hb hby at_70) (fun _ _ => ⟨rfl, (e23), (by decide : 0 + 1 + 13 + 1 + 1 + 0 + 0 ≤ _), (by decide : 0 + 15 + 18435 + 4 + 4 + 0 + 0 ≤ _)⟩)
        dsimp only [Pt.U, Pt.locs, Pt.cells, Pt.slots] at X24 l24 y24 z24 st24 hQ24
        subst l24 y24 z24
        obtain ⟨rfl, N24q, e24⟩ := hQ24
        have N24 := Fr.app N23 N24q
        refine Go.step (fun t_ k_ => st24.trans k_) ?_
        show Go _ _ _ _ _ _ _ T24 (mkF m 73 #[.val (.int p1), .val (.int p2), .val (.int p3), .val (.int p4), .val (.int p5), .val (.int p6), .val (.ref o1), .val (.int kd), .val (.int (0 : Int32)), .unset] [(.int (0 : Int32))])
        refine Go.step (fun t_ k_ => XS.istore X24.here hx rfl (hb hby at_73) rfl (l' := #[.val (.int p1), .val (.int p2), .val (.int p3), .val (.int p4), .val (.int p5), .val (.int p6), .val (.ref o1), .val (.int kd), .val (.int (0 : Int32)), .val (.int (0 : Int32))]) rfl k_) ?_
        show Go _ _ _ _ _ _ _ T24 (mkF m 75 #[.val (.int p1), .val (.int p2), .val (.int p3), .val (.int p4), .val (.int p5), .val (.int p6), .val (.ref o1), .val (.int kd), .val (.int (0 : Int32)), .val (.int (0 : Int32))] [])
        refine Go.step (fun t_ k_ => XS.iload X24.here hx rfl (hb hby at_75) rfl k_) ?_
        show Go _ _ _ _ _ _ _ T24 (mkF m 77 #[.val (.int p1), .val (.int p2), .val (.int p3), .val (.int p4), .val (.int p5), .val (.int p6), .val (.ref o1), .val (.int kd), .val (.int (0 : Int32)), .val (.int (0 : Int32))] [(.int (0 : Int32))])
        have hb77_25 : (0 : Int32) = (0 : Int32) := by decide
        refine Go.step (fun t_ k_ => XS.ifNo X24.here hx rfl (hb hby at_77) rfl (XT.i0_ne_f hb77_25) k_) ?_
        show Go _ _ _ _ _ _ _ T24 (mkF m 80 #[.val (.int p1), .val (.int p2), .val (.int p3), .val (.int p4), .val (.int p5), .val (.int p6), .val (.ref o1), .val (.int kd), .val (.int (0 : Int32)), .val (.int (0 : Int32))] [])
        refine Go.step (fun t_ k_ => XS.iload X24.here hx rfl (hb hby at_80) rfl k_) ?_
        show Go _ _ _ _ _ _ _ T24 (mkF m 82 #[.val (.int p1), .val (.int p2), .val (.int p3), .val (.int p4), .val (.int p5), .val (.int p6), .val (.ref o1), .val (.int kd), .val (.int (0 : Int32)), .val (.int (0 : Int32))] [(.int (0 : Int32))])
        have hb82_26 : (0 : Int32) = (0 : Int32) := by decide
        refine Go.step (fun t_ k_ => XS.ifNo X24.here hx rfl (hb hby at_82) rfl (XT.i0_ne_f hb82_26) k_) ?_
        show Go _ _ _ _ _ _ _ T24 (mkF m 85 #[.val (.int p1), .val (.int p2), .val (.int p3), .val (.int p4), .val (.int p5), .val (.int p6), .val (.ref o1), .val (.int kd), .val (.int (0 : Int32)), .val (.int (0 : Int32))] [])
        refine Go.step (fun t_ k_ => XS.aload X24.here hx rfl (hb hby at_85) rfl rfl k_) ?_
        show Go _ _ _ _ _ _ _ T24 (mkF m 87 #[.val (.int p1), .val (.int p2), .val (.int p3), .val (.int p4), .val (.int p5), .val (.int p6), .val (.ref o1), .val (.int kd), .val (.int (0 : Int32)), .val (.int (0 : Int32))] [(.ref o1)])
        obtain ⟨cq27, kq27, qa27, qb27, qc27⟩ := isOf hZ (e24) f22_2
        obtain ⟨_, _, ⟨T27, L27, k27, n27⟩, -, X27, ⟨Lc27, hQ27, l27, y27, z27⟩, st27⟩ := X24.virtualBack hx (y := (⟨"com/example/portunus/portunus/Supports", "size", "()I"⟩ : MethodName)) (z := (⟨"com/example/portunus/portunus/Supports", "size", "()I"⟩ : MethodName)) hown (mvT hZ (hw _ (List.mem_of_getElem? (i := 46) rfl))) (mvT hZ (hw _ (List.mem_of_getElem? (i := 47) rfl))) (notFace_of_selects (args := #[]) (mvT hZ (hw _ (List.mem_of_getElem? (i := 49) rfl)))) (mvT hZ (hw _ (List.mem_of_getElem? (i := 49) rfl))) (mvT hZ (hw _ (List.mem_of_getElem? (i := 48) rfl))) (by decide) (backOf (W := 0) (rmZ l Z a0 hw [] o1 (Int32.ofNat nn22) T22.heap n0 Zs22 f22_4) hZ (hw _ (List.mem_of_getElem? (i := 50) rfl)) (hw _ (List.mem_of_getElem? (i := 2) rfl)) (by decide) (by decide)) qa27 qc27 (g := (mkF m 87 #[.val (.int p1), .val (.int p2), .val (.int p3), .val (.int p4), .val (.int p5), .val (.int p6), .val (.ref o1), .val (.int kd), .val (.int (0 : Int32)), .val (.int (0 : Int32))] [(.ref o1)])) rfl (by rw [hml]; rfl) (Steps.refl _) (argsL := []) (rest := []) (lenOf pd_1 rfl) rfl (by show 2 * 0 + _ ≤ _; exact Nat.le_of_eq rfl) (hb hby at_87) (fun _ _ => ⟨rfl, (e24), (by decide : 0 + 1 + 13 + 1 + 1 + 0 + 0 + 0 ≤ _), (by decide : 0 + 15 + 18435 + 4 + 4 + 0 + 0 + 0 ≤ _)⟩)
        dsimp only [Pt.U, Pt.locs, Pt.cells, Pt.slots] at X27 l27 y27 z27 st27 hQ27
        subst l27 y27 z27
        obtain ⟨rfl, N27q, e27⟩ := hQ27
        have N27 := Fr.app N24 N27q
        refine Go.step (fun t_ k_ => st27.trans k_) ?_
        show Go _ _ _ _ _ _ _ T27 (mkF m 90 #[.val (.int p1), .val (.int p2), .val (.int p3), .val (.int p4), .val (.int p5), .val (.int p6), .val (.ref o1), .val (.int kd), .val (.int (0 : Int32)), .val (.int (0 : Int32))] [(.int (Int32.ofNat nn22))])
        refine Go.step (fun t_ k_ => XS.iconst X27.here hx rfl (hb hby at_90) k_) ?_
        show Go _ _ _ _ _ _ _ T27 (mkF m 91 #[.val (.int p1), .val (.int p2), .val (.int p3), .val (.int p4), .val (.int p5), .val (.int p6), .val (.ref o1), .val (.int kd), .val (.int (0 : Int32)), .val (.int (0 : Int32))] [(.int (3 : Int32)), (.int (Int32.ofNat nn22))])
        have hb91_28 : ¬ ((3 : Int32) < (Int32.ofNat nn22)) := by exact own_le3 (by omega)
        refine Go.step (fun t_ k_ => XS.icmpNo X27.here hx rfl (hb hby at_91) rfl (XT.ii_gt_f hb91_28) k_) ?_
        show Go _ _ _ _ _ _ _ T27 (mkF m 94 #[.val (.int p1), .val (.int p2), .val (.int p3), .val (.int p4), .val (.int p5), .val (.int p6), .val (.ref o1), .val (.int kd), .val (.int (0 : Int32)), .val (.int (0 : Int32))] [])
        refine Go.step (fun t_ k_ => XS.iconst X27.here hx rfl (hb hby at_94) k_) ?_
        show Go _ _ _ _ _ _ _ T27 (mkF m 95 #[.val (.int p1), .val (.int p2), .val (.int p3), .val (.int p4), .val (.int p5), .val (.int p6), .val (.ref o1), .val (.int kd), .val (.int (0 : Int32)), .val (.int (0 : Int32))] [(.int (1 : Int32))])
        refine Go.step (fun t_ k_ => XS.goto X27.here hx rfl (pc0 := 95) (pc' := 99) rfl (hb hby at_95) (by decide) (by decide) k_) ?_
        show Go _ _ _ _ _ _ _ T27 (mkF m 99 #[.val (.int p1), .val (.int p2), .val (.int p3), .val (.int p4), .val (.int p5), .val (.int p6), .val (.ref o1), .val (.int kd), .val (.int (0 : Int32)), .val (.int (0 : Int32))] [(.int (1 : Int32))])
        refine Go.ret X27 hx hlk hret rfl (Or.inl ⟨rfl, Or.inr (Or.inl rfl), _, rfl⟩) (hb hby at_99) ?_ (by decide) (by decide)
        show Q0 Z _ _ _ _ _ _ _ _ _ _ _ T27.heap _
        exact ⟨rfl, N27⟩
      · refine Go.step (fun t_ k_ => XS.icmpYes X4.here hx rfl (pc0 := 44) (pc' := 57) rfl (hb hby at_44) rfl (XT.ii_le_t hb44_21) (by decide) (by decide) k_) ?_
        show Go _ _ _ _ _ _ _ T4 (mkF m 57 #[.val (.int p1), .val (.int p2), .val (.int p3), .val (.int p4), .val (.int p5), .val (.int p6), .val (.ref o1), .val (.int kd), .unset, .unset] [])
        refine Go.step (fun t_ k_ => XS.aload X4.here hx rfl (hb hby at_57) rfl rfl k_) ?_
        show Go _ _ _ _ _ _ _ T4 (mkF m 59 #[.val (.int p1), .val (.int p2), .val (.int p3), .val (.int p4), .val (.int p5), .val (.int p6), .val (.ref o1), .val (.int kd), .unset, .unset] [(.ref o1)])
        refine Go.step (fun t_ k_ => XS.iload X4.here hx rfl (hb hby at_59) rfl k_) ?_
        show Go _ _ _ _ _ _ _ T4 (mkF m 61 #[.val (.int p1), .val (.int p2), .val (.int p3), .val (.int p4), .val (.int p5), .val (.int p6), .val (.ref o1), .val (.int kd), .unset, .unset] [(.int p5), (.ref o1)])
        obtain ⟨cq29, kq29, qa29, qb29, qc29⟩ := isOf hZ rfl f4_2
        obtain ⟨_, _, ⟨T29, L29, k29, n29⟩, -, X29, ⟨Lc29, hQ29, l29, y29, z29⟩, st29⟩ := X4.virtualBack hx (y := (⟨"com/example/portunus/portunus/Supports", "isWorthCollecting", "(I)Z"⟩ : MethodName)) (z := (⟨"com/example/portunus/portunus/Supports", "isWorthCollecting", "(I)Z"⟩ : MethodName)) hown (mvT hZ (hw _ (List.mem_of_getElem? (i := 38) rfl))) (mvT hZ (hw _ (List.mem_of_getElem? (i := 39) rfl))) (notFace_of_selects (args := #[]) (mvT hZ (hw _ (List.mem_of_getElem? (i := 41) rfl)))) (mvT hZ (hw _ (List.mem_of_getElem? (i := 41) rfl))) (mvT hZ (hw _ (List.mem_of_getElem? (i := 40) rfl))) (by decide) (backOf (W := 0) (rmW l Z a0 hw [] o1 p5 (Int32.ofNat nn4) T4.heap n0 Zs4 f4_4 (own_small (by omega))) hZ (hw _ (List.mem_of_getElem? (i := 42) rfl)) (hw _ (List.mem_of_getElem? (i := 2) rfl)) (by decide) (by decide)) qa29 qc29 (g := (mkF m 61 #[.val (.int p1), .val (.int p2), .val (.int p3), .val (.int p4), .val (.int p5), .val (.int p6), .val (.ref o1), .val (.int kd), .unset, .unset] [(.int p5), (.ref o1)])) rfl (by rw [hml]; rfl) (Steps.refl _) (argsL := [(.int p5)]) (rest := []) (lenOf pd_11 rfl) rfl (by show 2 * 0 + _ ≤ _; exact Nat.le_of_eq rfl) (hb hby at_61) (fun _ _ => ⟨rfl, rfl, (by decide : 0 + 1 + 13 + 1 + 0 ≤ _), (by decide : 0 + 15 + 18435 + 4 + 0 ≤ _)⟩)
        dsimp only [Pt.U, Pt.locs, Pt.cells, Pt.slots] at X29 l29 y29 z29 st29 hQ29
        subst l29 y29 z29
        obtain ⟨rfl, N29q, e29⟩ := hQ29
        have N29 := Fr.app N4 N29q
        refine Go.step (fun t_ k_ => st29.trans k_) ?_
        show Go _ _ _ _ _ _ _ T29 (mkF m 64 #[.val (.int p1), .val (.int p2), .val (.int p3), .val (.int p4), .val (.int p5), .val (.int p6), .val (.ref o1), .val (.int kd), .unset, .unset] [(.int (0 : Int32))])
        refine Go.step (fun t_ k_ => XS.istore X29.here hx rfl (hb hby at_64) rfl (l' := #[.val (.int p1), .val (.int p2), .val (.int p3), .val (.int p4), .val (.int p5), .val (.int p6), .val (.ref o1), .val (.int kd), .val (.int (0 : Int32)), .unset]) rfl k_) ?_
        show Go _ _ _ _ _ _ _ T29 (mkF m 66 #[.val (.int p1), .val (.int p2), .val (.int p3), .val (.int p4), .val (.int p5), .val (.int p6), .val (.ref o1), .val (.int kd), .val (.int (0 : Int32)), .unset] [])
        refine Go.step (fun t_ k_ => XS.aload X29.here hx rfl (hb hby at_66) rfl rfl k_) ?_
        show Go _ _ _ _ _ _ _ T29 (mkF m 68 #[.val (.int p1), .val (.int p2), .val (.int p3), .val (.int p4), .val (.int p5), .val (.int p6), .val (.ref o1), .val (.int kd), .val (.int (0 : Int32)), .unset] [(.ref o1)])
        refine Go.step (fun t_ k_ => XS.iload X29.here hx rfl (hb hby at_68) rfl k_) ?_
        show Go _ _ _ _ _ _ _ T29 (mkF m 70 #[.val (.int p1), .val (.int p2), .val (.int p3), .val (.int p4), .val (.int p5), .val (.int p6), .val (.ref o1), .val (.int kd), .val (.int (0 : Int32)), .unset] [(.int p6), (.ref o1)])
        obtain ⟨cq30, kq30, qa30, qb30, qc30⟩ := isOf hZ (e29) f4_2
        obtain ⟨_, _, ⟨T30, L30, k30, n30⟩, -, X30, ⟨Lc30, hQ30, l30, y30, z30⟩, st30⟩ := X29.virtualBack hx (y := (⟨"com/example/portunus/portunus/Supports", "isWorthCollecting", "(I)Z"⟩ : MethodName)) (z := (⟨"com/example/portunus/portunus/Supports", "isWorthCollecting", "(I)Z"⟩ : MethodName)) hown (mvT hZ (hw _ (List.mem_of_getElem? (i := 38) rfl))) (mvT hZ (hw _ (List.mem_of_getElem? (i := 39) rfl))) (notFace_of_selects (args := #[]) (mvT hZ (hw _ (List.mem_of_getElem? (i := 41) rfl)))) (mvT hZ (hw _ (List.mem_of_getElem? (i := 41) rfl))) (mvT hZ (hw _ (List.mem_of_getElem? (i := 40) rfl))) (by decide) (backOf (W := 0) (rmW l Z a0 hw [] o1 p6 (Int32.ofNat nn4) T4.heap n0 Zs4 f4_4 (own_small (by omega))) hZ (hw _ (List.mem_of_getElem? (i := 42) rfl)) (hw _ (List.mem_of_getElem? (i := 2) rfl)) (by decide) (by decide)) qa30 qc30 (g := (mkF m 70 #[.val (.int p1), .val (.int p2), .val (.int p3), .val (.int p4), .val (.int p5), .val (.int p6), .val (.ref o1), .val (.int kd), .val (.int (0 : Int32)), .unset] [(.int p6), (.ref o1)])) rfl (by rw [hml]; rfl) (Steps.refl _) (argsL := [(.int p6)]) (rest := []) (lenOf pd_11 rfl) rfl (by show 2 * 0 + _ ≤ _; exact Nat.le_of_eq rfl) (hb hby at_70) (fun _ _ => ⟨rfl, (e29), (by decide : 0 + 1 + 13 + 1 + 0 + 0 ≤ _), (by decide : 0 + 15 + 18435 + 4 + 0 + 0 ≤ _)⟩)
        dsimp only [Pt.U, Pt.locs, Pt.cells, Pt.slots] at X30 l30 y30 z30 st30 hQ30
        subst l30 y30 z30
        obtain ⟨rfl, N30q, e30⟩ := hQ30
        have N30 := Fr.app N29 N30q
        refine Go.step (fun t_ k_ => st30.trans k_) ?_
        show Go _ _ _ _ _ _ _ T30 (mkF m 73 #[.val (.int p1), .val (.int p2), .val (.int p3), .val (.int p4), .val (.int p5), .val (.int p6), .val (.ref o1), .val (.int kd), .val (.int (0 : Int32)), .unset] [(.int (0 : Int32))])
        refine Go.step (fun t_ k_ => XS.istore X30.here hx rfl (hb hby at_73) rfl (l' := #[.val (.int p1), .val (.int p2), .val (.int p3), .val (.int p4), .val (.int p5), .val (.int p6), .val (.ref o1), .val (.int kd), .val (.int (0 : Int32)), .val (.int (0 : Int32))]) rfl k_) ?_
        show Go _ _ _ _ _ _ _ T30 (mkF m 75 #[.val (.int p1), .val (.int p2), .val (.int p3), .val (.int p4), .val (.int p5), .val (.int p6), .val (.ref o1), .val (.int kd), .val (.int (0 : Int32)), .val (.int (0 : Int32))] [])
        refine Go.step (fun t_ k_ => XS.iload X30.here hx rfl (hb hby at_75) rfl k_) ?_
        show Go _ _ _ _ _ _ _ T30 (mkF m 77 #[.val (.int p1), .val (.int p2), .val (.int p3), .val (.int p4), .val (.int p5), .val (.int p6), .val (.ref o1), .val (.int kd), .val (.int (0 : Int32)), .val (.int (0 : Int32))] [(.int (0 : Int32))])
        have hb77_31 : (0 : Int32) = (0 : Int32) := by decide
        refine Go.step (fun t_ k_ => XS.ifNo X30.here hx rfl (hb hby at_77) rfl (XT.i0_ne_f hb77_31) k_) ?_
        show Go _ _ _ _ _ _ _ T30 (mkF m 80 #[.val (.int p1), .val (.int p2), .val (.int p3), .val (.int p4), .val (.int p5), .val (.int p6), .val (.ref o1), .val (.int kd), .val (.int (0 : Int32)), .val (.int (0 : Int32))] [])
        refine Go.step (fun t_ k_ => XS.iload X30.here hx rfl (hb hby at_80) rfl k_) ?_
        show Go _ _ _ _ _ _ _ T30 (mkF m 82 #[.val (.int p1), .val (.int p2), .val (.int p3), .val (.int p4), .val (.int p5), .val (.int p6), .val (.ref o1), .val (.int kd), .val (.int (0 : Int32)), .val (.int (0 : Int32))] [(.int (0 : Int32))])
        have hb82_32 : (0 : Int32) = (0 : Int32) := by decide
        refine Go.step (fun t_ k_ => XS.ifNo X30.here hx rfl (hb hby at_82) rfl (XT.i0_ne_f hb82_32) k_) ?_
        show Go _ _ _ _ _ _ _ T30 (mkF m 85 #[.val (.int p1), .val (.int p2), .val (.int p3), .val (.int p4), .val (.int p5), .val (.int p6), .val (.ref o1), .val (.int kd), .val (.int (0 : Int32)), .val (.int (0 : Int32))] [])
        refine Go.step (fun t_ k_ => XS.aload X30.here hx rfl (hb hby at_85) rfl rfl k_) ?_
        show Go _ _ _ _ _ _ _ T30 (mkF m 87 #[.val (.int p1), .val (.int p2), .val (.int p3), .val (.int p4), .val (.int p5), .val (.int p6), .val (.ref o1), .val (.int kd), .val (.int (0 : Int32)), .val (.int (0 : Int32))] [(.ref o1)])
        obtain ⟨cq33, kq33, qa33, qb33, qc33⟩ := isOf hZ (e30) f4_2
        obtain ⟨_, _, ⟨T33, L33, k33, n33⟩, -, X33, ⟨Lc33, hQ33, l33, y33, z33⟩, st33⟩ := X30.virtualBack hx (y := (⟨"com/example/portunus/portunus/Supports", "size", "()I"⟩ : MethodName)) (z := (⟨"com/example/portunus/portunus/Supports", "size", "()I"⟩ : MethodName)) hown (mvT hZ (hw _ (List.mem_of_getElem? (i := 46) rfl))) (mvT hZ (hw _ (List.mem_of_getElem? (i := 47) rfl))) (notFace_of_selects (args := #[]) (mvT hZ (hw _ (List.mem_of_getElem? (i := 49) rfl)))) (mvT hZ (hw _ (List.mem_of_getElem? (i := 49) rfl))) (mvT hZ (hw _ (List.mem_of_getElem? (i := 48) rfl))) (by decide) (backOf (W := 0) (rmZ l Z a0 hw [] o1 (Int32.ofNat nn4) T4.heap n0 Zs4 f4_4) hZ (hw _ (List.mem_of_getElem? (i := 50) rfl)) (hw _ (List.mem_of_getElem? (i := 2) rfl)) (by decide) (by decide)) qa33 qc33 (g := (mkF m 87 #[.val (.int p1), .val (.int p2), .val (.int p3), .val (.int p4), .val (.int p5), .val (.int p6), .val (.ref o1), .val (.int kd), .val (.int (0 : Int32)), .val (.int (0 : Int32))] [(.ref o1)])) rfl (by rw [hml]; rfl) (Steps.refl _) (argsL := []) (rest := []) (lenOf pd_1 rfl) rfl (by show 2 * 0 + _ ≤ _; exact Nat.le_of_eq rfl) (hb hby at_87) (fun _ _ => ⟨rfl, (e30), (by decide : 0 + 1 + 13 + 1 + 0 + 0 + 0 ≤ _), (by decide : 0 + 15 + 18435 + 4 + 0 + 0 + 0 ≤ _)⟩)
        dsimp only [Pt.U, Pt.locs, Pt.cells, Pt.slots] at X33 l33 y33 z33 st33 hQ33
        subst l33 y33 z33
        obtain ⟨rfl, N33q, e33⟩ := hQ33
        have N33 := Fr.app N30 N33q
        refine Go.step (fun t_ k_ => st33.trans k_) ?_
        show Go _ _ _ _ _ _ _ T33 (mkF m 90 #[.val (.int p1), .val (.int p2), .val (.int p3), .val (.int p4), .val (.int p5), .val (.int p6), .val (.ref o1), .val (.int kd), .val (.int (0 : Int32)), .val (.int (0 : Int32))] [(.int (Int32.ofNat nn4))])
        refine Go.step (fun t_ k_ => XS.iconst X33.here hx rfl (hb hby at_90) k_) ?_
        show Go _ _ _ _ _ _ _ T33 (mkF m 91 #[.val (.int p1), .val (.int p2), .val (.int p3), .val (.int p4), .val (.int p5), .val (.int p6), .val (.ref o1), .val (.int kd), .val (.int (0 : Int32)), .val (.int (0 : Int32))] [(.int (3 : Int32)), (.int (Int32.ofNat nn4))])
        have hb91_34 : ¬ ((3 : Int32) < (Int32.ofNat nn4)) := by exact own_le3 (by omega)
        refine Go.step (fun t_ k_ => XS.icmpNo X33.here hx rfl (hb hby at_91) rfl (XT.ii_gt_f hb91_34) k_) ?_
        show Go _ _ _ _ _ _ _ T33 (mkF m 94 #[.val (.int p1), .val (.int p2), .val (.int p3), .val (.int p4), .val (.int p5), .val (.int p6), .val (.ref o1), .val (.int kd), .val (.int (0 : Int32)), .val (.int (0 : Int32))] [])
        refine Go.step (fun t_ k_ => XS.iconst X33.here hx rfl (hb hby at_94) k_) ?_
        show Go _ _ _ _ _ _ _ T33 (mkF m 95 #[.val (.int p1), .val (.int p2), .val (.int p3), .val (.int p4), .val (.int p5), .val (.int p6), .val (.ref o1), .val (.int kd), .val (.int (0 : Int32)), .val (.int (0 : Int32))] [(.int (1 : Int32))])
        refine Go.step (fun t_ k_ => XS.goto X33.here hx rfl (pc0 := 95) (pc' := 99) rfl (hb hby at_95) (by decide) (by decide) k_) ?_
        show Go _ _ _ _ _ _ _ T33 (mkF m 99 #[.val (.int p1), .val (.int p2), .val (.int p3), .val (.int p4), .val (.int p5), .val (.int p6), .val (.ref o1), .val (.int kd), .val (.int (0 : Int32)), .val (.int (0 : Int32))] [(.int (1 : Int32))])
        refine Go.ret X33 hx hlk hret rfl (Or.inl ⟨rfl, Or.inr (Or.inl rfl), _, rfl⟩) (hb hby at_99) ?_ (by decide) (by decide)
        show Q0 Z _ _ _ _ _ _ _ _ _ _ _ T33.heap _
        exact ⟨rfl, N33⟩
  · refine Go.step (fun t_ k_ => XS.ifYes X2.here hx rfl (pc0 := 16) (pc' := 27) rfl (hb hby at_16) rfl (XT.i0_le_t hb16_3) (by decide) (by decide) k_) ?_
    show Go _ _ _ _ _ _ _ T2 (mkF m 27 #[.val (.int p1), .val (.int p2), .val (.int p3), .val (.int p4), .val (.int p5), .val (.int p6), .val (.ref o1), .val (.int kd), .unset, .unset] [])
    refine Go.step (fun t_ k_ => XS.iload X2.here hx rfl (hb hby at_27) rfl k_) ?_
    show Go _ _ _ _ _ _ _ T2 (mkF m 29 #[.val (.int p1), .val (.int p2), .val (.int p3), .val (.int p4), .val (.int p5), .val (.int p6), .val (.ref o1), .val (.int kd), .unset, .unset] [(.int kd)])
    refine Go.step (fun t_ k_ => XS.iconst X2.here hx rfl (hb hby at_29) k_) ?_
    show Go _ _ _ _ _ _ _ T2 (mkF m 30 #[.val (.int p1), .val (.int p2), .val (.int p3), .val (.int p4), .val (.int p5), .val (.int p6), .val (.ref o1), .val (.int kd), .unset, .unset] [(.int (1 : Int32)), (.int kd)])
    have hb30_35 : ¬ ((1 : Int32) < kd) := by exact own_tr hb16_3 (by decide)
    refine Go.step (fun t_ k_ => XS.icmpYes X2.here hx rfl (pc0 := 30) (pc' := 41) rfl (hb hby at_30) rfl (XT.ii_le_t hb30_35) (by decide) (by decide) k_) ?_
    show Go _ _ _ _ _ _ _ T2 (mkF m 41 #[.val (.int p1), .val (.int p2), .val (.int p3), .val (.int p4), .val (.int p5), .val (.int p6), .val (.ref o1), .val (.int kd), .unset, .unset] [])
    refine Go.step (fun t_ k_ => XS.iload X2.here hx rfl (hb hby at_41) rfl k_) ?_
    show Go _ _ _ _ _ _ _ T2 (mkF m 43 #[.val (.int p1), .val (.int p2), .val (.int p3), .val (.int p4), .val (.int p5), .val (.int p6), .val (.ref o1), .val (.int kd), .unset, .unset] [(.int kd)])
    refine Go.step (fun t_ k_ => XS.iconst X2.here hx rfl (hb hby at_43) k_) ?_
    show Go _ _ _ _ _ _ _ T2 (mkF m 44 #[.val (.int p1), .val (.int p2), .val (.int p3), .val (.int p4), .val (.int p5), .val (.int p6), .val (.ref o1), .val (.int kd), .unset, .unset] [(.int (2 : Int32)), (.int kd)])
    by_cases hb44_36 : (2 : Int32) < kd
    · refine Go.step (fun t_ k_ => XS.icmpNo X2.here hx rfl (hb hby at_44) rfl (XT.ii_le_f hb44_36) k_) ?_
      show Go _ _ _ _ _ _ _ T2 (mkF m 47 #[.val (.int p1), .val (.int p2), .val (.int p3), .val (.int p4), .val (.int p5), .val (.int p6), .val (.ref o1), .val (.int kd), .unset, .unset] [])
      refine Go.step (fun t_ k_ => XS.aload X2.here hx rfl (hb hby at_47) rfl rfl k_) ?_
      show Go _ _ _ _ _ _ _ T2 (mkF m 49 #[.val (.int p1), .val (.int p2), .val (.int p3), .val (.int p4), .val (.int p5), .val (.int p6), .val (.ref o1), .val (.int kd), .unset, .unset] [(.ref o1)])
      refine Go.step (fun t_ k_ => XS.iloadN X2.here hx rfl (hb hby at_49) rfl k_) ?_
      show Go _ _ _ _ _ _ _ T2 (mkF m 50 #[.val (.int p1), .val (.int p2), .val (.int p3), .val (.int p4), .val (.int p5), .val (.int p6), .val (.ref o1), .val (.int kd), .unset, .unset] [(.int p2), (.ref o1)])
      refine Go.step (fun t_ k_ => XS.iloadN X2.here hx rfl (hb hby at_50) rfl k_) ?_
      show Go _ _ _ _ _ _ _ T2 (mkF m 51 #[.val (.int p1), .val (.int p2), .val (.int p3), .val (.int p4), .val (.int p5), .val (.int p6), .val (.ref o1), .val (.int kd), .unset, .unset] [(.int p4), (.int p2), (.ref o1)])
      refine Go.step (fun t_ k_ => XS.iconst X2.here hx rfl (hb hby at_51) k_) ?_
      show Go _ _ _ _ _ _ _ T2 (mkF m 52 #[.val (.int p1), .val (.int p2), .val (.int p3), .val (.int p4), .val (.int p5), .val (.int p6), .val (.ref o1), .val (.int kd), .unset, .unset] [(.int (1 : Int32)), (.int p4), (.int p2), (.ref o1)])
      refine Go.step (fun t_ k_ => XT.ixor X2.here hx rfl (hb hby at_52) rfl k_) ?_
      show Go _ _ _ _ _ _ _ T2 (mkF m 53 #[.val (.int p1), .val (.int p2), .val (.int p3), .val (.int p4), .val (.int p5), .val (.int p6), .val (.ref o1), .val (.int kd), .unset, .unset] [(.int (p4 ^^^ (1 : Int32))), (.int p2), (.ref o1)])
      obtain ⟨cq37, kq37, qa37, qb37, qc37⟩ := isOf hZ rfl f2_2
      obtain ⟨_, _, ⟨T37, L37, k37, n37⟩, -, X37, ⟨Lc37, hQ37, l37, y37, z37⟩, st37⟩ := X2.virtualBack hx (y := (⟨"com/example/portunus/portunus/Supports", "of", "(II)Lcom/example/portunus/portunus/Support;"⟩ : MethodName)) (z := (⟨"com/example/portunus/portunus/Supports", "of", "(II)Lcom/example/portunus/portunus/Support;"⟩ : MethodName)) hown (mvT hZ (hw _ (List.mem_of_getElem? (i := 51) rfl))) (mvT hZ (hw _ (List.mem_of_getElem? (i := 52) rfl))) (notFace_of_selects (args := #[]) (mvT hZ (hw _ (List.mem_of_getElem? (i := 54) rfl)))) (mvT hZ (hw _ (List.mem_of_getElem? (i := 54) rfl))) (mvT hZ (hw _ (List.mem_of_getElem? (i := 53) rfl))) (by decide) (backOf (W := 0) (rmOf l Z a0 hw [] o1 p2 (p4 ^^^ (1 : Int32)) ns es tn kn 0 (2 : Int32) (List.replicate 1024 .null) T2.heap n0 Zs2 O2 S_NO S_ES E_NO E_ES F_NO F_ES nEN ge_o1 gtn (by omega) hOV f2_2 f2_5 pS2 f2_4 pA2 (List.length_replicate) own_ent0 own_few0) hZ (hw _ (List.mem_of_getElem? (i := 55) rfl)) (hw _ (List.mem_of_getElem? (i := 2) rfl)) (by decide) (by decide)) qa37 qc37 (g := (mkF m 53 #[.val (.int p1), .val (.int p2), .val (.int p3), .val (.int p4), .val (.int p5), .val (.int p6), .val (.ref o1), .val (.int kd), .unset, .unset] [(.int (p4 ^^^ (1 : Int32))), (.int p2), (.ref o1)])) rfl (by rw [hml]; rfl) (Steps.refl _) (argsL := [(.int p2), (.int (p4 ^^^ (1 : Int32)))]) (rest := []) (lenOf pd_10 rfl) rfl (by show 2 * 0 + _ ≤ _; exact Nat.le_of_eq rfl) (hb hby at_53) (fun _ _ => ⟨rfl, rfl, (by decide : 0 + 1 + 13 + 1 ≤ _), (by decide : 0 + 15 + 18435 + 4 ≤ _)⟩)
      dsimp only [Pt.U, Pt.locs, Pt.cells, Pt.slots] at X37 l37 y37 z37 st37 hQ37
      subst l37 y37 z37
      obtain ⟨nn37, nid37, vs37, rr37, rfl, N37q, Kq37, hle37, Eq37, Fa37, Fb37, Fc37, Aq37, hlv37, hent37, hfew37⟩ := hQ37
      have N37 := Fr.app N2 N37q
      have f37_2 : Exa Z T37.heap o1 "com/example/portunus/portunus/Supports" := Eq37
      have f37_3 : Fld Z T37.heap o1 "com/example/portunus/portunus/Supports" "nodes" "[Lcom/example/portunus/portunus/Support;" (.ref tn) := Fa37
      have f37_4 : Fld Z T37.heap o1 "com/example/portunus/portunus/Supports" "size" "I" (.int (Int32.ofNat nn37)) := Fb37
      have f37_5 : Fld Z T37.heap o1 "com/example/portunus/portunus/Supports" "nextId" "I" (.int nid37) := Fc37
      have f37_6 : Arv Z T37.heap tn kn (.object "com/example/portunus/portunus/Support") (1024 : Int32) vs37 .null := Aq37
      have Zs37 : n0 ≤ T37.heap.size := (Nat.le_trans Zs2 Kq37.1)
      have O37 : Old Z n0 T37.heap := O2.keep Kq37 (allS ge_o1 (allS gtn all0))
      refine Go.step (fun t_ k_ => st37.trans k_) ?_
      show Go _ _ _ _ _ _ _ T37 (mkF m 56 #[.val (.int p1), .val (.int p2), .val (.int p3), .val (.int p4), .val (.int p5), .val (.int p6), .val (.ref o1), .val (.int kd), .unset, .unset] [(.ref rr37)])
      refine Go.step (fun t_ k_ => XT.pop X37.here hx rfl (hb hby at_56) rfl rfl k_) ?_
      show Go _ _ _ _ _ _ _ T37 (mkF m 57 #[.val (.int p1), .val (.int p2), .val (.int p3), .val (.int p4), .val (.int p5), .val (.int p6), .val (.ref o1), .val (.int kd), .unset, .unset] [])
      refine Go.step (fun t_ k_ => XS.aload X37.here hx rfl (hb hby at_57) rfl rfl k_) ?_
      show Go _ _ _ _ _ _ _ T37 (mkF m 59 #[.val (.int p1), .val (.int p2), .val (.int p3), .val (.int p4), .val (.int p5), .val (.int p6), .val (.ref o1), .val (.int kd), .unset, .unset] [(.ref o1)])
      refine Go.step (fun t_ k_ => XS.iload X37.here hx rfl (hb hby at_59) rfl k_) ?_
      show Go _ _ _ _ _ _ _ T37 (mkF m 61 #[.val (.int p1), .val (.int p2), .val (.int p3), .val (.int p4), .val (.int p5), .val (.int p6), .val (.ref o1), .val (.int kd), .unset, .unset] [(.int p5), (.ref o1)])
      obtain ⟨cq38, kq38, qa38, qb38, qc38⟩ := isOf hZ rfl f37_2
      obtain ⟨_, _, ⟨T38, L38, k38, n38⟩, -, X38, ⟨Lc38, hQ38, l38, y38, z38⟩, st38⟩ := X37.virtualBack hx (y := (⟨"com/example/portunus/portunus/Supports", "isWorthCollecting", "(I)Z"⟩ : MethodName)) (z := (⟨"com/example/portunus/portunus/Supports", "isWorthCollecting", "(I)Z"⟩ : MethodName)) hown (mvT hZ (hw _ (List.mem_of_getElem? (i := 38) rfl))) (mvT hZ (hw _ (List.mem_of_getElem? (i := 39) rfl))) (notFace_of_selects (args := #[]) (mvT hZ (hw _ (List.mem_of_getElem? (i := 41) rfl)))) (mvT hZ (hw _ (List.mem_of_getElem? (i := 41) rfl))) (mvT hZ (hw _ (List.mem_of_getElem? (i := 40) rfl))) (by decide) (backOf (W := 0) (rmW l Z a0 hw [] o1 p5 (Int32.ofNat nn37) T37.heap n0 Zs37 f37_4 (own_small (by omega))) hZ (hw _ (List.mem_of_getElem? (i := 42) rfl)) (hw _ (List.mem_of_getElem? (i := 2) rfl)) (by decide) (by decide)) qa38 qc38 (g := (mkF m 61 #[.val (.int p1), .val (.int p2), .val (.int p3), .val (.int p4), .val (.int p5), .val (.int p6), .val (.ref o1), .val (.int kd), .unset, .unset] [(.int p5), (.ref o1)])) rfl (by rw [hml]; rfl) (Steps.refl _) (argsL := [(.int p5)]) (rest := []) (lenOf pd_11 rfl) rfl (by show 2 * 0 + _ ≤ _; exact Nat.le_of_eq rfl) (hb hby at_61) (fun _ _ => ⟨rfl, rfl, (by decide : 0 + 1 + 13 + 1 + 0 ≤ _), (by decide : 0 + 15 + 18435 + 4 + 0 ≤ _)⟩)
      dsimp only [Pt.U, Pt.locs, Pt.cells, Pt.slots] at X38 l38 y38 z38 st38 hQ38
      subst l38 y38 z38
      obtain ⟨rfl, N38q, e38⟩ := hQ38
      have N38 := Fr.app N37 N38q
      refine Go.step (fun t_ k_ => st38.trans k_) ?_
      show Go _ _ _ _ _ _ _ T38 (mkF m 64 #[.val (.int p1), .val (.int p2), .val (.int p3), .val (.int p4), .val (.int p5), .val (.int p6), .val (.ref o1), .val (.int kd), .unset, .unset] [(.int (0 : Int32))])
      refine Go.step (fun t_ k_ => XS.istore X38.here hx rfl (hb hby at_64) rfl (l' := #[.val (.int p1), .val (.int p2), .val (.int p3), .val (.int p4), .val (.int p5), .val (.int p6), .val (.ref o1), .val (.int kd), .val (.int (0 : Int32)), .unset]) rfl k_) ?_
      show Go _ _ _ _ _ _ _ T38 (mkF m 66 #[.val (.int p1), .val (.int p2), .val (.int p3), .val (.int p4), .val (.int p5), .val (.int p6), .val (.ref o1), .val (.int kd), .val (.int (0 : Int32)), .unset] [])
      refine Go.step (fun t_ k_ => XS.aload X38.here hx rfl (hb hby at_66) rfl rfl k_) ?_
      show Go _ _ _ _ _ _ _ T38 (mkF m 68 #[.val (.int p1), .val (.int p2), .val (.int p3), .val (.int p4), .val (.int p5), .val (.int p6), .val (.ref o1), .val (.int kd), .val (.int (0 : Int32)), .unset] [(.ref o1)])
      refine Go.step (fun t_ k_ => XS.iload X38.here hx rfl (hb hby at_68) rfl k_) ?_
      show Go _ _ _ _ _ _ _ T38 (mkF m 70 #[.val (.int p1), .val (.int p2), .val (.int p3), .val (.int p4), .val (.int p5), .val (.int p6), .val (.ref o1), .val (.int kd), .val (.int (0 : Int32)), .unset] [(.int p6), (.ref o1)])
      obtain ⟨cq39, kq39, qa39, qb39, qc39⟩ := isOf hZ (e38) f37_2
      obtain ⟨_, _, ⟨T39, L39, k39, n39⟩, -, X39, ⟨Lc39, hQ39, l39, y39, z39⟩, st39⟩ := X38.virtualBack hx (y := (⟨"com/example/portunus/portunus/Supports", "isWorthCollecting", "(I)Z"⟩ : MethodName)) (z := (⟨"com/example/portunus/portunus/Supports", "isWorthCollecting", "(I)Z"⟩ : MethodName)) hown (mvT hZ (hw _ (List.mem_of_getElem? (i := 38) rfl))) (mvT hZ (hw _ (List.mem_of_getElem? (i := 39) rfl))) (notFace_of_selects (args := #[]) (mvT hZ (hw _ (List.mem_of_getElem? (i := 41) rfl)))) (mvT hZ (hw _ (List.mem_of_getElem? (i := 41) rfl))) (mvT hZ (hw _ (List.mem_of_getElem? (i := 40) rfl))) (by decide) (backOf (W := 0) (rmW l Z a0 hw [] o1 p6 (Int32.ofNat nn37) T37.heap n0 Zs37 f37_4 (own_small (by omega))) hZ (hw _ (List.mem_of_getElem? (i := 42) rfl)) (hw _ (List.mem_of_getElem? (i := 2) rfl)) (by decide) (by decide)) qa39 qc39 (g := (mkF m 70 #[.val (.int p1), .val (.int p2), .val (.int p3), .val (.int p4), .val (.int p5), .val (.int p6), .val (.ref o1), .val (.int kd), .val (.int (0 : Int32)), .unset] [(.int p6), (.ref o1)])) rfl (by rw [hml]; rfl) (Steps.refl _) (argsL := [(.int p6)]) (rest := []) (lenOf pd_11 rfl) rfl (by show 2 * 0 + _ ≤ _; exact Nat.le_of_eq rfl) (hb hby at_70) (fun _ _ => ⟨rfl, (e38), (by decide : 0 + 1 + 13 + 1 + 0 + 0 ≤ _), (by decide : 0 + 15 + 18435 + 4 + 0 + 0 ≤ _)⟩)
      dsimp only [Pt.U, Pt.locs, Pt.cells, Pt.slots] at X39 l39 y39 z39 st39 hQ39
      subst l39 y39 z39
      obtain ⟨rfl, N39q, e39⟩ := hQ39
      have N39 := Fr.app N38 N39q
      refine Go.step (fun t_ k_ => st39.trans k_) ?_
      show Go _ _ _ _ _ _ _ T39 (mkF m 73 #[.val (.int p1), .val (.int p2), .val (.int p3), .val (.int p4), .val (.int p5), .val (.int p6), .val (.ref o1), .val (.int kd), .val (.int (0 : Int32)), .unset] [(.int (0 : Int32))])
      refine Go.step (fun t_ k_ => XS.istore X39.here hx rfl (hb hby at_73) rfl (l' := #[.val (.int p1), .val (.int p2), .val (.int p3), .val (.int p4), .val (.int p5), .val (.int p6), .val (.ref o1), .val (.int kd), .val (.int (0 : Int32)), .val (.int (0 : Int32))]) rfl k_) ?_
      show Go _ _ _ _ _ _ _ T39 (mkF m 75 #[.val (.int p1), .val (.int p2), .val (.int p3), .val (.int p4), .val (.int p5), .val (.int p6), .val (.ref o1), .val (.int kd), .val (.int (0 : Int32)), .val (.int (0 : Int32))] [])
      refine Go.step (fun t_ k_ => XS.iload X39.here hx rfl (hb hby at_75) rfl k_) ?_
      show Go _ _ _ _ _ _ _ T39 (mkF m 77 #[.val (.int p1), .val (.int p2), .val (.int p3), .val (.int p4), .val (.int p5), .val (.int p6), .val (.ref o1), .val (.int kd), .val (.int (0 : Int32)), .val (.int (0 : Int32))] [(.int (0 : Int32))])
      have hb77_40 : (0 : Int32) = (0 : Int32) := by decide
      refine Go.step (fun t_ k_ => XS.ifNo X39.here hx rfl (hb hby at_77) rfl (XT.i0_ne_f hb77_40) k_) ?_
      show Go _ _ _ _ _ _ _ T39 (mkF m 80 #[.val (.int p1), .val (.int p2), .val (.int p3), .val (.int p4), .val (.int p5), .val (.int p6), .val (.ref o1), .val (.int kd), .val (.int (0 : Int32)), .val (.int (0 : Int32))] [])
      refine Go.step (fun t_ k_ => XS.iload X39.here hx rfl (hb hby at_80) rfl k_) ?_
      show Go _ _ _ _ _ _ _ T39 (mkF m 82 #[.val (.int p1), .val (.int p2), .val (.int p3), .val (.int p4), .val (.int p5), .val (.int p6), .val (.ref o1), .val (.int kd), .val (.int (0 : Int32)), .val (.int (0 : Int32))] [(.int (0 : Int32))])
      have hb82_41 : (0 : Int32) = (0 : Int32) := by decide
      refine Go.step (fun t_ k_ => XS.ifNo X39.here hx rfl (hb hby at_82) rfl (XT.i0_ne_f hb82_41) k_) ?_
      show Go _ _ _ _ _ _ _ T39 (mkF m 85 #[.val (.int p1), .val (.int p2), .val (.int p3), .val (.int p4), .val (.int p5), .val (.int p6), .val (.ref o1), .val (.int kd), .val (.int (0 : Int32)), .val (.int (0 : Int32))] [])
      refine Go.step (fun t_ k_ => XS.aload X39.here hx rfl (hb hby at_85) rfl rfl k_) ?_
      show Go _ _ _ _ _ _ _ T39 (mkF m 87 #[.val (.int p1), .val (.int p2), .val (.int p3), .val (.int p4), .val (.int p5), .val (.int p6), .val (.ref o1), .val (.int kd), .val (.int (0 : Int32)), .val (.int (0 : Int32))] [(.ref o1)])
      obtain ⟨cq42, kq42, qa42, qb42, qc42⟩ := isOf hZ (e39) f37_2
      obtain ⟨_, _, ⟨T42, L42, k42, n42⟩, -, X42, ⟨Lc42, hQ42, l42, y42, z42⟩, st42⟩ := X39.virtualBack hx (y := (⟨"com/example/portunus/portunus/Supports", "size", "()I"⟩ : MethodName)) (z := (⟨"com/example/portunus/portunus/Supports", "size", "()I"⟩ : MethodName)) hown (mvT hZ (hw _ (List.mem_of_getElem? (i := 46) rfl))) (mvT hZ (hw _ (List.mem_of_getElem? (i := 47) rfl))) (notFace_of_selects (args := #[]) (mvT hZ (hw _ (List.mem_of_getElem? (i := 49) rfl)))) (mvT hZ (hw _ (List.mem_of_getElem? (i := 49) rfl))) (mvT hZ (hw _ (List.mem_of_getElem? (i := 48) rfl))) (by decide) (backOf (W := 0) (rmZ l Z a0 hw [] o1 (Int32.ofNat nn37) T37.heap n0 Zs37 f37_4) hZ (hw _ (List.mem_of_getElem? (i := 50) rfl)) (hw _ (List.mem_of_getElem? (i := 2) rfl)) (by decide) (by decide)) qa42 qc42 (g := (mkF m 87 #[.val (.int p1), .val (.int p2), .val (.int p3), .val (.int p4), .val (.int p5), .val (.int p6), .val (.ref o1), .val (.int kd), .val (.int (0 : Int32)), .val (.int (0 : Int32))] [(.ref o1)])) rfl (by rw [hml]; rfl) (Steps.refl _) (argsL := []) (rest := []) (lenOf pd_1 rfl) rfl (by show 2 * 0 + _ ≤ _; exact Nat.le_of_eq rfl) (hb hby at_87) (fun _ _ => ⟨rfl, (e39), (by decide : 0 + 1 + 13 + 1 + 0 + 0 + 0 ≤ _), (by decide : 0 + 15 + 18435 + 4 + 0 + 0 + 0 ≤ _)⟩)
      dsimp only [Pt.U, Pt.locs, Pt.cells, Pt.slots] at X42 l42 y42 z42 st42 hQ42
      subst l42 y42 z42
      obtain ⟨rfl, N42q, e42⟩ := hQ42
      have N42 := Fr.app N39 N42q
      refine Go.step (fun t_ k_ => st42.trans k_) ?_
      show Go _ _ _ _ _ _ _ T42 (mkF m 90 #[.val (.int p1), .val (.int p2), .val (.int p3), .val (.int p4), .val (.int p5), .val (.int p6), .val (.ref o1), .val (.int kd), .val (.int (0 : Int32)), .val (.int (0 : Int32))] [(.int (Int32.ofNat nn37))])
      refine Go.step (fun t_ k_ => XS.iconst X42.here hx rfl (hb hby at_90) k_) ?_
      show Go _ _ _ _ _ _ _ T42 (mkF m 91 #[.val (.int p1), .val (.int p2), .val (.int p3), .val (.int p4), .val (.int p5), .val (.int p6), .val (.ref o1), .val (.int kd), .val (.int (0 : Int32)), .val (.int (0 : Int32))] [(.int (3 : Int32)), (.int (Int32.ofNat nn37))])
      have hb91_43 : ¬ ((3 : Int32) < (Int32.ofNat nn37)) := by exact own_le3 (by omega)
      refine Go.step (fun t_ k_ => XS.icmpNo X42.here hx rfl (hb hby at_91) rfl (XT.ii_gt_f hb91_43) k_) ?_
      show Go _ _ _ _ _ _ _ T42 (mkF m 94 #[.val (.int p1), .val (.int p2), .val (.int p3), .val (.int p4), .val (.int p5), .val (.int p6), .val (.ref o1), .val (.int kd), .val (.int (0 : Int32)), .val (.int (0 : Int32))] [])
      refine Go.step (fun t_ k_ => XS.iconst X42.here hx rfl (hb hby at_94) k_) ?_
      show Go _ _ _ _ _ _ _ T42 (mkF m 95 #[.val (.int p1), .val (.int p2), .val (.int p3), .val (.int p4), .val (.int p5), .val (.int p6), .val (.ref o1), .val (.int kd), .val (.int (0 : Int32)), .val (.int (0 : Int32))] [(.int (1 : Int32))])
      refine Go.step (fun t_ k_ => XS.goto X42.here hx rfl (pc0 := 95) (pc' := 99) rfl (hb hby at_95) (by decide) (by decide) k_) ?_
      show Go _ _ _ _ _ _ _ T42 (mkF m 99 #[.val (.int p1), .val (.int p2), .val (.int p3), .val (.int p4), .val (.int p5), .val (.int p6), .val (.ref o1), .val (.int kd), .val (.int (0 : Int32)), .val (.int (0 : Int32))] [(.int (1 : Int32))])
      refine Go.ret X42 hx hlk hret rfl (Or.inl ⟨rfl, Or.inr (Or.inl rfl), _, rfl⟩) (hb hby at_99) ?_ (by decide) (by decide)
      show Q0 Z _ _ _ _ _ _ _ _ _ _ _ T42.heap _
      exact ⟨rfl, N42⟩
    · refine Go.step (fun t_ k_ => XS.icmpYes X2.here hx rfl (pc0 := 44) (pc' := 57) rfl (hb hby at_44) rfl (XT.ii_le_t hb44_36) (by decide) (by decide) k_) ?_
      show Go _ _ _ _ _ _ _ T2 (mkF m 57 #[.val (.int p1), .val (.int p2), .val (.int p3), .val (.int p4), .val (.int p5), .val (.int p6), .val (.ref o1), .val (.int kd), .unset, .unset] [])
      refine Go.step (fun t_ k_ => XS.aload X2.here hx rfl (hb hby at_57) rfl rfl k_) ?_
      show Go _ _ _ _ _ _ _ T2 (mkF m 59 #[.val (.int p1), .val (.int p2), .val (.int p3), .val (.int p4), .val (.int p5), .val (.int p6), .val (.ref o1), .val (.int kd), .unset, .unset] [(.ref o1)])
      refine Go.step (fun t_ k_ => XS.iload X2.here hx rfl (hb hby at_59) rfl k_) ?_
      show Go _ _ _ _ _ _ _ T2 (mkF m 61 #[.val (.int p1), .val (.int p2), .val (.int p3), .val (.int p4), .val (.int p5), .val (.int p6), .val (.ref o1), .val (.int kd), .unset, .unset] [(.int p5), (.ref o1)])
      obtain ⟨cq44, kq44, qa44, qb44, qc44⟩ := isOf hZ rfl f2_2
      obtain ⟨_, _, ⟨T44, L44, k44, n44⟩, -, X44, ⟨Lc44, hQ44, l44, y44, z44⟩, st44⟩ := X2.virtualBack hx (y := (⟨"com/example/portunus/portunus/Supports", "isWorthCollecting", "(I)Z"⟩ : MethodName)) (z := (⟨"com/example/portunus/portunus/Supports", "isWorthCollecting", "(I)Z"⟩ : MethodName)) hown (mvT hZ (hw _ (List.mem_of_getElem? (i := 38) rfl))) (mvT hZ (hw _ (List.mem_of_getElem? (i := 39) rfl))) (notFace_of_selects (args := #[]) (mvT hZ (hw _ (List.mem_of_getElem? (i := 41) rfl)))) (mvT hZ (hw _ (List.mem_of_getElem? (i := 41) rfl))) (mvT hZ (hw _ (List.mem_of_getElem? (i := 40) rfl))) (by decide) (backOf (W := 0) (rmW l Z a0 hw [] o1 p5 (Int32.ofNat 0) T2.heap n0 Zs2 pS2 (own_small (by omega))) hZ (hw _ (List.mem_of_getElem? (i := 42) rfl)) (hw _ (List.mem_of_getElem? (i := 2) rfl)) (by decide) (by decide)) qa44 qc44 (g := (mkF m 61 #[.val (.int p1), .val (.int p2), .val (.int p3), .val (.int p4), .val (.int p5), .val (.int p6), .val (.ref o1), .val (.int kd), .unset, .unset] [(.int p5), (.ref o1)])) rfl (by rw [hml]; rfl) (Steps.refl _) (argsL := [(.int p5)]) (rest := []) (lenOf pd_11 rfl) rfl (by show 2 * 0 + _ ≤ _; exact Nat.le_of_eq rfl) (hb hby at_61) (fun _ _ => ⟨rfl, rfl, (by decide : 0 + 1 + 13 + 0 ≤ _), (by decide : 0 + 15 + 18435 + 0 ≤ _)⟩)
      dsimp only [Pt.U, Pt.locs, Pt.cells, Pt.slots] at X44 l44 y44 z44 st44 hQ44
      subst l44 y44 z44
      obtain ⟨rfl, N44q, e44⟩ := hQ44
      have N44 := Fr.app N2 N44q
      refine Go.step (fun t_ k_ => st44.trans k_) ?_
      show Go _ _ _ _ _ _ _ T44 (mkF m 64 #[.val (.int p1), .val (.int p2), .val (.int p3), .val (.int p4), .val (.int p5), .val (.int p6), .val (.ref o1), .val (.int kd), .unset, .unset] [(.int (0 : Int32))])
      refine Go.step (fun t_ k_ => XS.istore X44.here hx rfl (hb hby at_64) rfl (l' := #[.val (.int p1), .val (.int p2), .val (.int p3), .val (.int p4), .val (.int p5), .val (.int p6), .val (.ref o1), .val (.int kd), .val (.int (0 : Int32)), .unset]) rfl k_) ?_
      show Go _ _ _ _ _ _ _ T44 (mkF m 66 #[.val (.int p1), .val (.int p2), .val (.int p3), .val (.int p4), .val (.int p5), .val (.int p6), .val (.ref o1), .val (.int kd), .val (.int (0 : Int32)), .unset] [])
      refine Go.step (fun t_ k_ => XS.aload X44.here hx rfl (hb hby at_66) rfl rfl k_) ?_
      show Go _ _ _ _ _ _ _ T44 (mkF m 68 #[.val (.int p1), .val (.int p2), .val (.int p3), .val (.int p4), .val (.int p5), .val (.int p6), .val (.ref o1), .val (.int kd), .val (.int (0 : Int32)), .unset] [(.ref o1)])
      refine Go.step (fun t_ k_ => XS.iload X44.here hx rfl (hb hby at_68) rfl k_) ?_
      show Go _ _ _ _ _ _ _ T44 (mkF m 70 #[.val (.int p1), .val (.int p2), .val (.int p3), .val (.int p4), .val (.int p5), .val (.int p6), .val (.ref o1), .val (.int kd), .val (.int (0 : Int32)), .unset] [(.int p6), (.ref o1)])
      obtain ⟨cq45, kq45, qa45, qb45, qc45⟩ := isOf hZ (e44) f2_2
      obtain ⟨_, _, ⟨T45, L45, k45, n45⟩, -, X45, ⟨Lc45, hQ45, l45, y45, z45⟩, st45⟩ := X44.virtualBack hx (y := (⟨"com/example/portunus/portunus/Supports", "isWorthCollecting", "(I)Z"⟩ : MethodName)) (z := (⟨"com/example/portunus/portunus/Supports", "isWorthCollecting", "(I)Z"⟩ : MethodName)) hown (mvT hZ (hw _ (List.mem_of_getElem? (i := 38) rfl))) (mvT hZ (hw _ (List.mem_of_getElem? (i := 39) rfl))) (notFace_of_selects (args := #[]) (mvT hZ (hw _ (List.mem_of_getElem? (i := 41) rfl)))) (mvT hZ (hw _ (List.mem_of_getElem? (i := 41) rfl))) (mvT hZ (hw _ (List.mem_of_getElem? (i := 40) rfl))) (by decide) (backOf (W := 0) (rmW l Z a0 hw [] o1 p6 (Int32.ofNat 0) T2.heap n0 Zs2 pS2 (own_small (by omega))) hZ (hw _ (List.mem_of_getElem? (i := 42) rfl)) (hw _ (List.mem_of_getElem? (i := 2) rfl)) (by decide) (by decide)) qa45 qc45 (g := (mkF m 70 #[.val (.int p1), .val (.int p2), .val (.int p3), .val (.int p4), .val (.int p5), .val (.int p6), .val (.ref o1), .val (.int kd), .val (.int (0 : Int32)), .unset] [(.int p6), (.ref o1)])) rfl (by rw [hml]; rfl) (Steps.refl _) (argsL := [(.int p6)]) (rest := []) (lenOf pd_11 rfl) rfl (by show 2 * 0 + _ ≤ _; exact Nat.le_of_eq rfl) (hb hby at_70) (fun _ _ => ⟨rfl, (e44), (by decide : 0 + 1 + 13 + 0 + 0 ≤ _), (by decide : 0 + 15 + 18435 + 0 + 0 ≤ _)⟩)
      dsimp only [Pt.U, Pt.locs, Pt.cells, Pt.slots] at X45 l45 y45 z45 st45 hQ45
      subst l45 y45 z45
      obtain ⟨rfl, N45q, e45⟩ := hQ45
      have N45 := Fr.app N44 N45q
      refine Go.step (fun t_ k_ => st45.trans k_) ?_
      show Go _ _ _ _ _ _ _ T45 (mkF m 73 #[.val (.int p1), .val (.int p2), .val (.int p3), .val (.int p4), .val (.int p5), .val (.int p6), .val (.ref o1), .val (.int kd), .val (.int (0 : Int32)), .unset] [(.int (0 : Int32))])
      refine Go.step (fun t_ k_ => XS.istore X45.here hx rfl (hb hby at_73) rfl (l' := #[.val (.int p1), .val (.int p2), .val (.int p3), .val (.int p4), .val (.int p5), .val (.int p6), .val (.ref o1), .val (.int kd), .val (.int (0 : Int32)), .val (.int (0 : Int32))]) rfl k_) ?_
      show Go _ _ _ _ _ _ _ T45 (mkF m 75 #[.val (.int p1), .val (.int p2), .val (.int p3), .val (.int p4), .val (.int p5), .val (.int p6), .val (.ref o1), .val (.int kd), .val (.int (0 : Int32)), .val (.int (0 : Int32))] [])
      refine Go.step (fun t_ k_ => XS.iload X45.here hx rfl (hb hby at_75) rfl k_) ?_
      show Go _ _ _ _ _ _ _ T45 (mkF m 77 #[.val (.int p1), .val (.int p2), .val (.int p3), .val (.int p4), .val (.int p5), .val (.int p6), .val (.ref o1), .val (.int kd), .val (.int (0 : Int32)), .val (.int (0 : Int32))] [(.int (0 : Int32))])
      have hb77_46 : (0 : Int32) = (0 : Int32) := by decide
      refine Go.step (fun t_ k_ => XS.ifNo X45.here hx rfl (hb hby at_77) rfl (XT.i0_ne_f hb77_46) k_) ?_
      show Go _ _ _ _ _ _ _ T45 (mkF m 80 #[.val (.int p1), .val (.int p2), .val (.int p3), .val (.int p4), .val (.int p5), .val (.int p6), .val (.ref o1), .val (.int kd), .val (.int (0 : Int32)), .val (.int (0 : Int32))] [])
      refine Go.step (fun t_ k_ => XS.iload X45.here hx rfl (hb hby at_80) rfl k_) ?_
      show Go _ _ _ _ _ _ _ T45 (mkF m 82 #[.val (.int p1), .val (.int p2), .val (.int p3), .val (.int p4), .val (.int p5), .val (.int p6), .val (.ref o1), .val (.int kd), .val (.int (0 : Int32)), .val (.int (0 : Int32))] [(.int (0 : Int32))])
      have hb82_47 : (0 : Int32) = (0 : Int32) := by decide
      refine Go.step (fun t_ k_ => XS.ifNo X45.here hx rfl (hb hby at_82) rfl (XT.i0_ne_f hb82_47) k_) ?_
      show Go _ _ _ _ _ _ _ T45 (mkF m 85 #[.val (.int p1), .val (.int p2), .val (.int p3), .val (.int p4), .val (.int p5), .val (.int p6), .val (.ref o1), .val (.int kd), .val (.int (0 : Int32)), .val (.int (0 : Int32))] [])
      refine Go.step (fun t_ k_ => XS.aload X45.here hx rfl (hb hby at_85) rfl rfl k_) ?_
      show Go _ _ _ _ _ _ _ T45 (mkF m 87 #[.val (.int p1), .val (.int p2), .val (.int p3), .val (.int p4), .val (.int p5), .val (.int p6), .val (.ref o1), .val (.int kd), .val (.int (0 : Int32)), .val (.int (0 : Int32))] [(.ref o1)])
      obtain ⟨cq48, kq48, qa48, qb48, qc48⟩ := isOf hZ (e45) f2_2
      obtain ⟨_, _, ⟨T48, L48, k48, n48⟩, -, X48, ⟨Lc48, hQ48, l48, y48, z48⟩, st48⟩ := X45.virtualBack hx (y := (⟨"com/example/portunus/portunus/Supports", "size", "()I"⟩ : MethodName)) (z := (⟨"com/example/portunus/portunus/Supports", "size", "()I"⟩ : MethodName)) hown (mvT hZ (hw _ (List.mem_of_getElem? (i := 46) rfl))) (mvT hZ (hw _ (List.mem_of_getElem? (i := 47) rfl))) (notFace_of_selects (args := #[]) (mvT hZ (hw _ (List.mem_of_getElem? (i := 49) rfl)))) (mvT hZ (hw _ (List.mem_of_getElem? (i := 49) rfl))) (mvT hZ (hw _ (List.mem_of_getElem? (i := 48) rfl))) (by decide) (backOf (W := 0) (rmZ l Z a0 hw [] o1 (Int32.ofNat 0) T2.heap n0 Zs2 pS2) hZ (hw _ (List.mem_of_getElem? (i := 50) rfl)) (hw _ (List.mem_of_getElem? (i := 2) rfl)) (by decide) (by decide)) qa48 qc48 (g := (mkF m 87 #[.val (.int p1), .val (.int p2), .val (.int p3), .val (.int p4), .val (.int p5), .val (.int p6), .val (.ref o1), .val (.int kd), .val (.int (0 : Int32)), .val (.int (0 : Int32))] [(.ref o1)])) rfl (by rw [hml]; rfl) (Steps.refl _) (argsL := []) (rest := []) (lenOf pd_1 rfl) rfl (by show 2 * 0 + _ ≤ _; exact Nat.le_of_eq rfl) (hb hby at_87) (fun _ _ => ⟨rfl, (e45), (by decide : 0 + 1 + 13 + 0 + 0 + 0 ≤ _), (by decide : 0 + 15 + 18435 + 0 + 0 + 0 ≤ _)⟩)
      dsimp only [Pt.U, Pt.locs, Pt.cells, Pt.slots] at X48 l48 y48 z48 st48 hQ48
      subst l48 y48 z48
      obtain ⟨rfl, N48q, e48⟩ := hQ48
      have N48 := Fr.app N45 N48q
      refine Go.step (fun t_ k_ => st48.trans k_) ?_
      show Go _ _ _ _ _ _ _ T48 (mkF m 90 #[.val (.int p1), .val (.int p2), .val (.int p3), .val (.int p4), .val (.int p5), .val (.int p6), .val (.ref o1), .val (.int kd), .val (.int (0 : Int32)), .val (.int (0 : Int32))] [(.int (Int32.ofNat 0))])
      refine Go.step (fun t_ k_ => XS.iconst X48.here hx rfl (hb hby at_90) k_) ?_
      show Go _ _ _ _ _ _ _ T48 (mkF m 91 #[.val (.int p1), .val (.int p2), .val (.int p3), .val (.int p4), .val (.int p5), .val (.int p6), .val (.ref o1), .val (.int kd), .val (.int (0 : Int32)), .val (.int (0 : Int32))] [(.int (3 : Int32)), (.int (Int32.ofNat 0))])
      have hb91_49 : ¬ ((3 : Int32) < (Int32.ofNat 0)) := by exact own_le3 (by omega)
      refine Go.step (fun t_ k_ => XS.icmpNo X48.here hx rfl (hb hby at_91) rfl (XT.ii_gt_f hb91_49) k_) ?_
      show Go _ _ _ _ _ _ _ T48 (mkF m 94 #[.val (.int p1), .val (.int p2), .val (.int p3), .val (.int p4), .val (.int p5), .val (.int p6), .val (.ref o1), .val (.int kd), .val (.int (0 : Int32)), .val (.int (0 : Int32))] [])
      refine Go.step (fun t_ k_ => XS.iconst X48.here hx rfl (hb hby at_94) k_) ?_
      show Go _ _ _ _ _ _ _ T48 (mkF m 95 #[.val (.int p1), .val (.int p2), .val (.int p3), .val (.int p4), .val (.int p5), .val (.int p6), .val (.ref o1), .val (.int kd), .val (.int (0 : Int32)), .val (.int (0 : Int32))] [(.int (1 : Int32))])
      refine Go.step (fun t_ k_ => XS.goto X48.here hx rfl (pc0 := 95) (pc' := 99) rfl (hb hby at_95) (by decide) (by decide) k_) ?_
      show Go _ _ _ _ _ _ _ T48 (mkF m 99 #[.val (.int p1), .val (.int p2), .val (.int p3), .val (.int p4), .val (.int p5), .val (.int p6), .val (.ref o1), .val (.int kd), .val (.int (0 : Int32)), .val (.int (0 : Int32))] [(.int (1 : Int32))])
      refine Go.ret X48 hx hlk hret rfl (Or.inl ⟨rfl, Or.inr (Or.inl rfl), _, rfl⟩) (hb hby at_99) ?_ (by decide) (by decide)
      show Q0 Z _ _ _ _ _ _ _ _ _ _ _ T48.heap _
      exact ⟨rfl, N48⟩
theorem own_eqint {args : Array Value} {first s : State} {o : Option Outcome} {idx : List Nat} {t : Term} {k : Int32} (h : (Jvm.Cond.eq t (.int k)).value args first o s idx = some true) : t.eval args first o idx s = some (.int k) := by
  simp only [Cond.value, Term.eval] at h
  cases ht : t.eval args first o idx s with
  | none => simp [ht] at h
  | some x => cases x <;> simp [ht] at h ⊢; exact h
theorem own_neq {args : Array Value} {s : State} {t u : Term} {a b : Addr} (h : (Cond.not (Cond.eq t u)).value args s none s [] = some true) (h1 : t.eval args s none [] s = some (.ref a)) (h2 : u.eval args s none [] s = some (.ref b)) : a ≠ b := fun q => by
  subst q
  simp [Cond.value, h1, h2] at h
set_option maxRecDepth 65536 in
set_option maxHeartbeats 40000000 in
theorem comes_1 {Post : Tables → Env → Array Value → State → Outcome → State → Prop} (hpost : ∀ tb e args s v u, (limb_1_1.after args s (.returned v) u = true ∧ limb_1_2.after args s (.returned v) u = true ∧ True) → FrameEnd s (.returned v) u (Jvm.fieldLocs frame_1_writes args s ++ Jvm.arrayLocs frame_1_arrays args s ++ Jvm.staticLocs frame_1_statics s) 48 36992 → Post tb e args s (.returned v) u) :
    ArmFor flags0 classFile x code maxLocals ret World_1 tables_1 room_1 Calls_1 rest_1 Pre_1 Post := by
  intro l hfl _ _ p e ha hc hk s m args below hf hA hF happ hP
  obtain ⟨hcalls, hrest, hpre⟩ := hP
  obtain ⟨-, -, -, hnamed, -, -, -, hat⟩ := (Spec.applies_iff hf).mp happ
  obtain ⟨hg, hn⟩ := and_e (Cond.before_iff.mp (show (Jvm.Cond.and given_1 narrow_1).before args s = true from hpre))
  obtain ⟨gc, gA0⟩ := and_e hg
  obtain ⟨gi0, gA1⟩ := and_e gA0
  obtain ⟨gi1, gA2⟩ := and_e gA1
  obtain ⟨gi2, gA3⟩ := and_e gA2
  obtain ⟨gi3, gA4⟩ := and_e gA3
  obtain ⟨gi4, gA5⟩ := and_e gA4
  obtain ⟨w0, w1, w2, w3, w4, w5, rfl⟩ : ∃ w0 w1 w2 w3 w4 w5 : Value, args = #[w0, w1, w2, w3, w4, w5] := by
    have hs : args.size = 6 := by simpa [Cond.value, given_1] using gc
    obtain ⟨L⟩ := args
    match L, hs with
    | [w0, w1, w2, w3, w4, w5], _ => exact ⟨w0, w1, w2, w3, w4, w5, rfl⟩
  have hw := fun d (hd : d ∈ tables_1) => atoms_spec (ws := Jvm.Cond.code x code maxLocals ret :: tables_1) hat d (List.mem_cons_of_mem _ hd)
  have hfit : Fit s := fun {y c} hc i hi => by
    obtain ⟨ha, rfl⟩ := Array.getElem?_eq_some_iff.mp hc
    have q := List.all_eq_true.mp ((Array.all_eq_true_iff_forall_mem.mp hF) _ (Array.getElem_mem ha)) i (List.mem_range.mpr hi)
    simpa [Array.getElem?_eq_getElem hi] using q
  obtain ⟨i0, ei0⟩ := is_v gi0
  obtain rfl : w0 = (.int i0) := Option.some.inj ei0
  obtain ⟨i1, ei1⟩ := is_v gi1
  obtain rfl : w1 = (.int i1) := Option.some.inj ei1
  obtain ⟨i2, ei2⟩ := is_v gi2
  obtain rfl : w2 = (.int i2) := Option.some.inj ei2
  obtain ⟨i3, ei3⟩ := is_v gi3
  obtain rfl : w3 = (.int i3) := Option.some.inj ei3
  obtain ⟨i4, ei4⟩ := is_v gi4
  obtain rfl : w4 = (.int i4) := Option.some.inj ei4
  obtain ⟨i5, ei5⟩ := is_v gA5
  obtain rfl : w5 = (.int i5) := Option.some.inj ei5
  obtain ⟨nn0, nA0⟩ := and_e hn
  obtain ⟨nn1, nA1⟩ := and_e nA0
  obtain ⟨nn2, nA2⟩ := and_e nA1
  obtain ⟨nn3, nA3⟩ := and_e nA2
  have nn4 := nA3
  obtain ⟨ns, ew_NO⟩ := exa_v nn0
  have S_NO : Sta s s.heap "com/example/portunus/portunus/Support" "NO_SET" "Lcom/example/portunus/portunus/Support;" (.ref ns) := Sta.start ew_NO (Or.inr ⟨(hw _ (List.mem_of_getElem? (i := 57) rfl)), (hw _ (List.mem_of_getElem? (i := 58) rfl))⟩)
  have E_NO := Exa.start ew_NO nn0
  obtain ⟨es, ew_ES⟩ := exa_v nn1
  have S_ES : Sta s s.heap "com/example/portunus/portunus/Support" "EMPTY_SET" "Lcom/example/portunus/portunus/Support;" (.ref es) := Sta.start ew_ES (Or.inr ⟨(hw _ (List.mem_of_getElem? (i := 57) rfl)), (hw _ (List.mem_of_getElem? (i := 60) rfl))⟩)
  have E_ES := Exa.start ew_ES nn1
  have nEN : es ≠ ns := own_neq nn2 ew_ES ew_NO
  have F_NO := Fld.start ((fld_at ew_NO).symm.trans (own_eqint nn3))
  have F_ES := Fld.start ((fld_at ew_ES).symm.trans (own_eqint nn4))
  obtain ⟨n, o, h1, h2, h3, _, L, rfl, ⟨rfl, N⟩, hq⟩ := rm0 l s _ hw tables_1 i0 i1 i2 i3 i4 i5 ns es s.heap s.heap.size (Nat.le_refl _) (Old.start s) S_NO S_ES E_NO E_ES F_NO F_ES nEN p e ha hc hk s m _ below hf ((Spec.applies_iff_loose hf).mp happ).1 ⟨rfl, State.Warmed39.refl s, rfl⟩ trivial
  refine ⟨n, _, h1, h2, h3, hpost _ _ _ _ _ _ ⟨Cond.after_iff.mpr rfl, Cond.after_iff.mpr (eq_i res_at (Term.int_eval (1)) rfl), trivial⟩ ⟨hq.1, hq.2.1, (hq.2.2.sift fun y hy => Or.inr (N y hy)).mono (by decide) (by decide)⟩⟩
theorem main_1_1 : Claimed_1_1 := comes_1 fun _ _ _ _ _ _ h hF => ⟨h.1, hF⟩
theorem main_1_2 : Claimed_1_2 := comes_1 fun _ _ _ _ _ _ h hF => ⟨h.2.1, hF⟩
end Jvm.Pilot.@@N@@
namespace Jvm.Pilot.@@N@@
open Jvm Jvm.ClassFile Sem Op Lib Jvm.Free Jvm.Stand Jvm.Pilot.@@N@@.Jvm.D
/-! MADE BY PROGRAM (witnessworld.py) out of the Statement's table words and the real class files: 19 classes; the members and pool entries that the words name. The judged class is class 1, her method 1. -/
namespace start1
open Jvm.ClassFile
def u (s : String) : CpInfo := .utf8 (stringToUtf16 s)
/-- a pool by its gaps: so many unusable entries, then the entry; so many at the end -/
def gap : Nat → List CpInfo → List CpInfo
  | 0, r => r
  | n + 1, r => .unusable :: gap n r
def poolList (es : List (Nat × CpInfo)) (last : Nat) : List CpInfo := es.foldr (fun e r => gap e.1 (e.2 :: r)) (gap last [])
def pool (es : List (Nat × CpInfo)) (last : Nat) : Array CpInfo := ⟨poolList es last⟩
def fileOf (pool : Array CpInfo) (this : Nat) (attrs : Array Attribute := #[]) (ms : Array MethodInfo := #[]) (fl : Nat := 33) (sup : Nat := 0) (ifs : Array Nat := #[]) (fds : Array FieldInfo := #[]) : ClassFile where
  minorVersion := 0
  majorVersion := 65
  constantPool := pool
  accessFlags := fl
  thisClass := this
  superClass := sup
  interfaces := ifs
  fields := fds
  methods := ms
  attributes := attrs
def plain (name : String) (sup : Option ClassId) : Class where
  name := name
  kind := .ordinary
  loader := none
  accessFlags := 33
  super := sup
  interfaces := #[]
  cf := none
  fields := #[]
  methods := #[]
  instanceTypes := #[]
  staticTypes := #[]
  resolved := #[]
  callSites := []
  init := .initialized
  statics := none
  mirror := none

def pool0 : Array CpInfo := pool [(5, u "<init>"), (0, u "()V"), (1, .class_ 10), (1, u "java/lang/Object")] 113

def k0c0 : Code := { maxStack := 0, maxLocals := 1, code := object_method_1_code, exceptionTable := #[], attributes := #[] }
def k0m0 : Method := { name := "<init>", desc := "()V", sig := { parameters := [], returnType := none }, accessFlags := 1, code := some k0c0 }
/-- java/lang/Object -/
def k0 : Class := { plain "java/lang/Object" none with
  accessFlags := 33
  interfaces := #[]
  cf := some (fileOf pool0 8 #[] #[{ accessFlags := 1, nameIndex := 5, descriptorIndex := 6, attributes := #[] }] 33 0 #[] #[])
  fields := #[]
  methods := #[k0m0]
  instanceTypes := #[]
  staticTypes := #[]
  resolved := Array.replicate 124 none
  statics := none }

def pool1 : Array CpInfo := pool [(2, .class_ 4), (0, .nameAndType 5 6), (0, u "java/lang/Object"), (0, u "<init>"), (0, u "()V"), (0, .class_ 8), (0, u "com/example/portunus/portunus/Supports"), (0, .methodref 7 3), (0, .methodref 7 11), (0, .nameAndType 12 13), (0, u "of"), (0, u "(II)Lcom/example/portunus/portunus/Support;"), (0, .methodref 7 15), (0, .nameAndType 16 17), (0, u "isWorthCollecting"), (0, u "(I)Z"), (0, .methodref 7 19), (0, .nameAndType 20 21), (0, u "size"), (0, u "()I"), (0, .class_ 23), (0, u "com/example/portunus/portunus/SupportsIsWorthCollectingPinLaw"), (2, u "law"), (0, u "(IIIIII)Z")] 3

def k1m0 : Method := { name := "<init>", desc := "()V", sig := { parameters := [], returnType := none }, accessFlags := 2, code := none }
def k1c1 : Code := { maxStack := 4, maxLocals := 10, code := code, exceptionTable := #[], attributes := #[] }
def k1m1 : Method := { name := "law", desc := "(IIIIII)Z", sig := { parameters := [.int, .int, .int, .int, .int, .int], returnType := some .boolean }, accessFlags := 9, code := some k1c1 }
/-- com/example/portunus/portunus/SupportsIsWorthCollectingPinLaw -/
def k1 : Class := { plain "com/example/portunus/portunus/SupportsIsWorthCollectingPinLaw" (some 0) with
  accessFlags := 49
  interfaces := #[]
  cf := some (fileOf pool1 22 #[] #[{ accessFlags := 2, nameIndex := 5, descriptorIndex := 6, attributes := #[] }, { accessFlags := 9, nameIndex := 26, descriptorIndex := 27, attributes := #[] }] 49 2 #[] #[])
  fields := #[]
  methods := #[k1m0, k1m1]
  instanceTypes := #[]
  staticTypes := #[]
  resolved := Array.replicate 31 none
  statics := none }

def pool2 : Array CpInfo := pool [(1, .methodref 2 3), (0, .class_ 4), (0, .nameAndType 5 6), (0, u "java/lang/Object"), (0, u "<init>"), (0, u "()V"), (0, .class_ 8), (0, u "com/example/portunus/portunus/Supports"), (0, .class_ 10), (0, u "com/example/portunus/portunus/Support"), (0, .fieldref 7 12), (0, .nameAndType 13 14), (0, u "nodes"), (0, u "[Lcom/example/portunus/portunus/Support;"), (0, .fieldref 7 16), (0, .nameAndType 17 18), (0, u "nextId"), (0, u "I"), (0, .class_ 14), (0, .fieldref 7 21), (0, .nameAndType 22 23), (0, u "caches"), (0, u "[[Lcom/example/portunus/portunus/Support;"), (0, .fieldref 7 25), (0, .nameAndType 26 27), (0, u "operations"), (0, u "[I"), (0, .fieldref 7 29), (0, .nameAndType 30 14), (0, u "lefts"), (0, .fieldref 7 32), (0, .nameAndType 33 14), (0, u "rights"), (0, .fieldref 7 35), (0, .nameAndType 36 27), (0, u "stages"), (0, .fieldref 7 38), (0, .nameAndType 39 40), (0, u "tops"), (0, u "[J"), (0, .fieldref 7 42), (0, .nameAndType 43 14), (0, u "firsts"), (0, .fieldref 7 45), (0, .nameAndType 46 14), (0, u "seconds"), (0, .fieldref 7 48), (0, .nameAndType 49 40), (0, u "merged"), (0, .fieldref 9 51), (0, .nameAndType 52 53), (0, u "NO_SET"), (0, u "Lcom/example/portunus/portunus/Support;"), (0, .fieldref 9 55), (0, .nameAndType 56 53), (0, u "EMPTY_SET"), (0, .methodref 7 58), (0, .nameAndType 59 60), (0, u "node"), (0, u "(JLcom/example/portunus/portunus/Support;Lcom/example/portunus/portunus/Support;)Lcom/example/portunus/portunus/Support;"), (8, .methodref 9 70), (0, .nameAndType 71 72), (0, u "order"), (0, u "()J"), (6, .methodref 9 80), (0, .nameAndType 81 82), (0, u "with"), (0, u "()Lcom/example/portunus/portunus/Support;"), (4, .methodref 9 88), (0, .nameAndType 89 82), (0, u "without"), (0, .fieldref 7 91), (0, .nameAndType 92 18), (0, u "size"), (0, .integer 65536), (0, .fieldref 7 95), (0, .nameAndType 96 18), (0, u "inUse"), (34, u "depth"), (5, u "returned"), (0, .methodref 9 139), (0, .nameAndType 140 141), (0, u "id"), (0, u "()I"), (41, .methodref 184 185), (0, .class_ 186), (0, .nameAndType 187 188), (0, u "com/example/portunus/portunus/Hashes"), (0, u "mix"), (0, u "(I)I"), (0, .methodref 7 190), (0, .nameAndType 191 192), (0, u "hash"), (0, u "(JLcom/example/portunus/portunus/Support;Lcom/example/portunus/portunus/Support;)I"), (0, .methodref 9 194), (0, .nameAndType 5 195), (0, u "(JLcom/example/portunus/portunus/Support;Lcom/example/portunus/portunus/Support;I)V"), (13, .methodref 210 211), (0, .class_ 212), (0, .nameAndType 213 214), (0, u "java/lang/Long"), (0, u "hashCode"), (0, u "(J)I"), (12, u "JOIN"), (2, u "MEET"), (1, u "WITHOUT_SUPERSETS"), (1, u "FIRST_CAPACITY"), (1, u "LARGEST_CACHE"), (0, u "FEWEST_COLLECTED"), (2, u "of"), (0, u "(II)Lcom/example/portunus/portunus/Support;"), (6, u "isWorthCollecting"), (0, u "(I)Z")] 29

def k2c0 : Code := { maxStack := 5, maxLocals := 1, code := prog_15_method_1_code, exceptionTable := #[], attributes := #[] }
def k2m0 : Method := { name := "<init>", desc := "()V", sig := { parameters := [], returnType := none }, accessFlags := 0, code := some k2c0 }
def k2c1 : Code := { maxStack := 5, maxLocals := 3, code := prog_15_method_2_code, exceptionTable := #[], attributes := #[] }
def k2m1 : Method := { name := "of", desc := "(II)Lcom/example/portunus/portunus/Support;", sig := { parameters := [.int, .int], returnType := some (.object "com/example/portunus/portunus/Support") }, accessFlags := 0, code := some k2c1 }
def k2c2 : Code := { maxStack := 1, maxLocals := 1, code := prog_15_method_7_code, exceptionTable := #[], attributes := #[] }
def k2m2 : Method := { name := "size", desc := "()I", sig := { parameters := [], returnType := some .int }, accessFlags := 0, code := some k2c2 }
def k2c3 : Code := { maxStack := 4, maxLocals := 2, code := prog_15_method_8_code, exceptionTable := #[], attributes := #[] }
def k2m3 : Method := { name := "isWorthCollecting", desc := "(I)Z", sig := { parameters := [.int], returnType := some .boolean }, accessFlags := 0, code := some k2c3 }
def k2c4 : Code := { maxStack := 10, maxLocals := 8, code := prog_15_method_23_code, exceptionTable := #[], attributes := #[] }
def k2m4 : Method := { name := "node", desc := "(JLcom/example/portunus/portunus/Support;Lcom/example/portunus/portunus/Support;)Lcom/example/portunus/portunus/Support;", sig := { parameters := [.long, (.object "com/example/portunus/portunus/Support"), (.object "com/example/portunus/portunus/Support")], returnType := some (.object "com/example/portunus/portunus/Support") }, accessFlags := 2, code := some k2c4 }
def k2c5 : Code := { maxStack := 2, maxLocals := 4, code := prog_15_method_27_code, exceptionTable := #[], attributes := #[] }
def k2m5 : Method := { name := "hash", desc := "(JLcom/example/portunus/portunus/Support;Lcom/example/portunus/portunus/Support;)I", sig := { parameters := [.long, (.object "com/example/portunus/portunus/Support"), (.object "com/example/portunus/portunus/Support")], returnType := some .int }, accessFlags := 10, code := some k2c5 }
/-- com/example/portunus/portunus/Supports -/
def k2 : Class := { plain "com/example/portunus/portunus/Supports" (some 0) with
  accessFlags := 32
  interfaces := #[]
  cf := some (fileOf pool2 7 #[] #[{ accessFlags := 0, nameIndex := 5, descriptorIndex := 6, attributes := #[] }, { accessFlags := 0, nameIndex := 240, descriptorIndex := 241, attributes := #[] }, { accessFlags := 0, nameIndex := 92, descriptorIndex := 141, attributes := #[] }, { accessFlags := 0, nameIndex := 248, descriptorIndex := 249, attributes := #[] }, { accessFlags := 2, nameIndex := 59, descriptorIndex := 60, attributes := #[] }, { accessFlags := 10, nameIndex := 191, descriptorIndex := 192, attributes := #[] }] 32 2 #[] #[{ accessFlags := 26, nameIndex := 227, descriptorIndex := 18, attributes := #[] }, { accessFlags := 26, nameIndex := 230, descriptorIndex := 18, attributes := #[] }, { accessFlags := 26, nameIndex := 232, descriptorIndex := 18, attributes := #[] }, { accessFlags := 26, nameIndex := 234, descriptorIndex := 18, attributes := #[] }, { accessFlags := 26, nameIndex := 236, descriptorIndex := 18, attributes := #[] }, { accessFlags := 26, nameIndex := 237, descriptorIndex := 18, attributes := #[] }, { accessFlags := 2, nameIndex := 13, descriptorIndex := 14, attributes := #[] }, { accessFlags := 2, nameIndex := 92, descriptorIndex := 18, attributes := #[] }, { accessFlags := 2, nameIndex := 17, descriptorIndex := 18, attributes := #[] }, { accessFlags := 2, nameIndex := 96, descriptorIndex := 18, attributes := #[] }, { accessFlags := 2, nameIndex := 22, descriptorIndex := 23, attributes := #[] }, { accessFlags := 2, nameIndex := 131, descriptorIndex := 18, attributes := #[] }, { accessFlags := 2, nameIndex := 26, descriptorIndex := 27, attributes := #[] }, { accessFlags := 2, nameIndex := 30, descriptorIndex := 14, attributes := #[] }, { accessFlags := 2, nameIndex := 33, descriptorIndex := 14, attributes := #[] }, { accessFlags := 2, nameIndex := 36, descriptorIndex := 27, attributes := #[] }, { accessFlags := 2, nameIndex := 39, descriptorIndex := 40, attributes := #[] }, { accessFlags := 2, nameIndex := 43, descriptorIndex := 14, attributes := #[] }, { accessFlags := 2, nameIndex := 46, descriptorIndex := 14, attributes := #[] }, { accessFlags := 2, nameIndex := 137, descriptorIndex := 53, attributes := #[] }, { accessFlags := 2, nameIndex := 49, descriptorIndex := 40, attributes := #[] }])
  fields := #[{ name := "JOIN", type := .int, accessFlags := 26, slot := 0, constantValue := 0 }, { name := "MEET", type := .int, accessFlags := 26, slot := 1, constantValue := 0 }, { name := "WITHOUT_SUPERSETS", type := .int, accessFlags := 26, slot := 2, constantValue := 0 }, { name := "FIRST_CAPACITY", type := .int, accessFlags := 26, slot := 3, constantValue := 0 }, { name := "LARGEST_CACHE", type := .int, accessFlags := 26, slot := 4, constantValue := 0 }, { name := "FEWEST_COLLECTED", type := .int, accessFlags := 26, slot := 5, constantValue := 0 }, { name := "nodes", type := (.array (.object "com/example/portunus/portunus/Support")), accessFlags := 2, slot := 0, constantValue := 0 }, { name := "size", type := .int, accessFlags := 2, slot := 1, constantValue := 0 }, { name := "nextId", type := .int, accessFlags := 2, slot := 2, constantValue := 0 }, { name := "inUse", type := .int, accessFlags := 2, slot := 3, constantValue := 0 }, { name := "caches", type := (.array (.array (.object "com/example/portunus/portunus/Support"))), accessFlags := 2, slot := 4, constantValue := 0 }, { name := "depth", type := .int, accessFlags := 2, slot := 5, constantValue := 0 }, { name := "operations", type := (.array .int), accessFlags := 2, slot := 6, constantValue := 0 }, { name := "lefts", type := (.array (.object "com/example/portunus/portunus/Support")), accessFlags := 2, slot := 7, constantValue := 0 }, { name := "rights", type := (.array (.object "com/example/portunus/portunus/Support")), accessFlags := 2, slot := 8, constantValue := 0 }, { name := "stages", type := (.array .int), accessFlags := 2, slot := 9, constantValue := 0 }, { name := "tops", type := (.array .long), accessFlags := 2, slot := 10, constantValue := 0 }, { name := "firsts", type := (.array (.object "com/example/portunus/portunus/Support")), accessFlags := 2, slot := 11, constantValue := 0 }, { name := "seconds", type := (.array (.object "com/example/portunus/portunus/Support")), accessFlags := 2, slot := 12, constantValue := 0 }, { name := "returned", type := (.object "com/example/portunus/portunus/Support"), accessFlags := 2, slot := 13, constantValue := 0 }, { name := "merged", type := (.array .long), accessFlags := 2, slot := 14, constantValue := 0 }]
  methods := #[k2m0, k2m1, k2m2, k2m3, k2m4, k2m5]
  instanceTypes := #[(.array (.object "com/example/portunus/portunus/Support")), .int, .int, .int, (.array (.array (.object "com/example/portunus/portunus/Support"))), .int, (.array .int), (.array (.object "com/example/portunus/portunus/Support")), (.array (.object "com/example/portunus/portunus/Support")), (.array .int), (.array .long), (.array (.object "com/example/portunus/portunus/Support")), (.array (.object "com/example/portunus/portunus/Support")), (.object "com/example/portunus/portunus/Support"), (.array .long)]
  staticTypes := #[.int, .int, .int, .int, .int, .int]
  resolved := Array.replicate 279 none
  statics := none }

def pool3 : Array CpInfo := pool [(1, .methodref 2 3), (0, .class_ 4), (0, .nameAndType 5 6), (0, u "java/lang/Object"), (0, u "<init>"), (0, u "()V"), (2, .fieldref 10 11), (0, .class_ 12), (0, .nameAndType 13 14), (0, u "com/example/portunus/portunus/Support"), (0, u "order"), (0, u "J"), (0, .fieldref 10 16), (0, .nameAndType 17 18), (0, u "without"), (0, u "Lcom/example/portunus/portunus/Support;"), (0, .fieldref 10 20), (0, .nameAndType 21 18), (0, u "with"), (2, .integer 2147483648), (0, .fieldref 10 26), (0, .nameAndType 27 28), (0, u "idAndOneSet"), (0, u "I"), (0, .fieldref 10 30), (0, .nameAndType 31 18), (0, u "NO_SET"), (0, .methodref 10 33), (0, .nameAndType 34 35), (0, u "isOneSet"), (0, u "()Z"), (0, .integer 2147483647), (2, u "id"), (0, u "()I"), (5, u "EMPTY_SET"), (3, u "(JLcom/example/portunus/portunus/Support;Lcom/example/portunus/portunus/Support;I)V"), (1, u "()J"), (0, u "()Lcom/example/portunus/portunus/Support;")] 5

def k3c0 : Code := { maxStack := 3, maxLocals := 6, code := prog_14_method_2_code, exceptionTable := #[], attributes := #[] }
def k3m0 : Method := { name := "<init>", desc := "(JLcom/example/portunus/portunus/Support;Lcom/example/portunus/portunus/Support;I)V", sig := { parameters := [.long, (.object "com/example/portunus/portunus/Support"), (.object "com/example/portunus/portunus/Support"), .int], returnType := none }, accessFlags := 0, code := some k3c0 }
def k3c1 : Code := { maxStack := 2, maxLocals := 1, code := prog_14_method_4_code, exceptionTable := #[], attributes := #[] }
def k3m1 : Method := { name := "order", desc := "()J", sig := { parameters := [], returnType := some .long }, accessFlags := 0, code := some k3c1 }
def k3c2 : Code := { maxStack := 1, maxLocals := 1, code := prog_14_method_5_code, exceptionTable := #[], attributes := #[] }
def k3m2 : Method := { name := "without", desc := "()Lcom/example/portunus/portunus/Support;", sig := { parameters := [], returnType := some (.object "com/example/portunus/portunus/Support") }, accessFlags := 0, code := some k3c2 }
def k3c3 : Code := { maxStack := 1, maxLocals := 1, code := prog_14_method_6_code, exceptionTable := #[], attributes := #[] }
def k3m3 : Method := { name := "with", desc := "()Lcom/example/portunus/portunus/Support;", sig := { parameters := [], returnType := some (.object "com/example/portunus/portunus/Support") }, accessFlags := 0, code := some k3c3 }
def k3c4 : Code := { maxStack := 2, maxLocals := 1, code := prog_14_method_7_code, exceptionTable := #[], attributes := #[] }
def k3m4 : Method := { name := "id", desc := "()I", sig := { parameters := [], returnType := some .int }, accessFlags := 0, code := some k3c4 }
def k3c5 : Code := { maxStack := 1, maxLocals := 1, code := prog_14_method_8_code, exceptionTable := #[], attributes := #[] }
def k3m5 : Method := { name := "isOneSet", desc := "()Z", sig := { parameters := [], returnType := some .boolean }, accessFlags := 0, code := some k3c5 }
/-- com/example/portunus/portunus/Support -/
def k3 : Class := { plain "com/example/portunus/portunus/Support" (some 0) with
  accessFlags := 32
  interfaces := #[]
  cf := some (fileOf pool3 10 #[] #[{ accessFlags := 0, nameIndex := 5, descriptorIndex := 50, attributes := #[] }, { accessFlags := 0, nameIndex := 13, descriptorIndex := 52, attributes := #[] }, { accessFlags := 0, nameIndex := 17, descriptorIndex := 53, attributes := #[] }, { accessFlags := 0, nameIndex := 21, descriptorIndex := 53, attributes := #[] }, { accessFlags := 0, nameIndex := 39, descriptorIndex := 40, attributes := #[] }, { accessFlags := 0, nameIndex := 34, descriptorIndex := 35, attributes := #[] }] 32 2 #[] #[{ accessFlags := 24, nameIndex := 31, descriptorIndex := 18, attributes := #[] }, { accessFlags := 24, nameIndex := 46, descriptorIndex := 18, attributes := #[] }, { accessFlags := 18, nameIndex := 13, descriptorIndex := 14, attributes := #[] }, { accessFlags := 18, nameIndex := 17, descriptorIndex := 18, attributes := #[] }, { accessFlags := 18, nameIndex := 21, descriptorIndex := 18, attributes := #[] }, { accessFlags := 18, nameIndex := 27, descriptorIndex := 28, attributes := #[] }])
  fields := #[{ name := "NO_SET", type := (.object "com/example/portunus/portunus/Support"), accessFlags := 24, slot := 0, constantValue := 0 }, { name := "EMPTY_SET", type := (.object "com/example/portunus/portunus/Support"), accessFlags := 24, slot := 1, constantValue := 0 }, { name := "order", type := .long, accessFlags := 18, slot := 0, constantValue := 0 }, { name := "without", type := (.object "com/example/portunus/portunus/Support"), accessFlags := 18, slot := 1, constantValue := 0 }, { name := "with", type := (.object "com/example/portunus/portunus/Support"), accessFlags := 18, slot := 2, constantValue := 0 }, { name := "idAndOneSet", type := .int, accessFlags := 18, slot := 3, constantValue := 0 }]
  methods := #[k3m0, k3m1, k3m2, k3m3, k3m4, k3m5]
  instanceTypes := #[.long, (.object "com/example/portunus/portunus/Support"), (.object "com/example/portunus/portunus/Support"), .int]
  staticTypes := #[(.object "com/example/portunus/portunus/Support"), (.object "com/example/portunus/portunus/Support")]
  resolved := Array.replicate 59 none
  statics := some 0 }

def pool4 : Array CpInfo := pool [(1, .class_ 2), (0, u "java/io/Serializable"), (0, .class_ 4), (0, u "java/lang/Object")] 2

/-- java/io/Serializable -/
def k4 : Class := { plain "java/io/Serializable" (some 0) with
  accessFlags := 1537
  interfaces := #[]
  cf := some (fileOf pool4 1 #[] #[] 1537 3 #[] #[])
  fields := #[]
  methods := #[]
  instanceTypes := #[]
  staticTypes := #[]
  resolved := Array.replicate 7 none
  statics := none }

def pool5 : Array CpInfo := pool [(2, .class_ 4), (1, u "java/lang/Object"), (0, u "<init>"), (0, u "()V"), (1, .class_ 10), (1, u "java/lang/Number"), (2, .class_ 14), (0, u "java/io/Serializable"), (0, u "serialVersionUID"), (0, u "J")] 20

def k5m0 : Method := { name := "<init>", desc := "()V", sig := { parameters := [], returnType := none }, accessFlags := 1, code := none }
/-- java/lang/Number -/
def k5 : Class := { plain "java/lang/Number" (some 0) with
  accessFlags := 1057
  interfaces := #[4]
  cf := some (fileOf pool5 8 #[] #[{ accessFlags := 1, nameIndex := 5, descriptorIndex := 6, attributes := #[] }] 1057 2 #[13] #[{ accessFlags := 26, nameIndex := 15, descriptorIndex := 16, attributes := #[] }])
  fields := #[{ name := "serialVersionUID", type := .long, accessFlags := 26, slot := 0, constantValue := 0 }]
  methods := #[k5m0]
  instanceTypes := #[]
  staticTypes := #[.long]
  resolved := Array.replicate 37 none
  statics := none }

def pool6 : Array CpInfo := pool [(1, .class_ 2), (0, u "java/lang/Comparable"), (0, .class_ 4), (0, u "java/lang/Object")] 7

/-- java/lang/Comparable -/
def k6 : Class := { plain "java/lang/Comparable" (some 0) with
  accessFlags := 1537
  interfaces := #[]
  cf := some (fileOf pool6 1 #[] #[] 1537 3 #[] #[])
  fields := #[]
  methods := #[]
  instanceTypes := #[]
  staticTypes := #[]
  resolved := Array.replicate 12 none
  statics := none }

def pool7 : Array CpInfo := pool [(1, .class_ 2), (0, u "java/lang/constant/Constable"), (0, .class_ 4), (0, u "java/lang/Object")] 6

/-- java/lang/constant/Constable -/
def k7 : Class := { plain "java/lang/constant/Constable" (some 0) with
  accessFlags := 1537
  interfaces := #[]
  cf := some (fileOf pool7 1 #[] #[] 1537 3 #[] #[])
  fields := #[]
  methods := #[]
  instanceTypes := #[]
  staticTypes := #[]
  resolved := Array.replicate 11 none
  statics := none }

def pool8 : Array CpInfo := pool [(1, .class_ 2), (0, u "java/lang/constant/ConstantDesc"), (0, .class_ 4), (0, u "java/lang/Object")] 32

/-- java/lang/constant/ConstantDesc -/
def k8 : Class := { plain "java/lang/constant/ConstantDesc" (some 0) with
  accessFlags := 1537
  interfaces := #[]
  cf := some (fileOf pool8 1 #[] #[] 1537 3 #[] #[])
  fields := #[]
  methods := #[]
  instanceTypes := #[]
  staticTypes := #[]
  resolved := Array.replicate 37 none
  statics := none }

def pool9 : Array CpInfo := pool [(1, .class_ 2), (0, u "java/lang/Long"), (98, u "(J)I"), (133, .class_ 237), (1, u "java/lang/Long$LongCache"), (33, .class_ 272), (0, u "java/lang/Number"), (2, u "value"), (0, u "J"), (2, u "hashCode"), (81, u "TYPE"), (0, u "Ljava/lang/Class;"), (0, .class_ 364), (0, u "java/lang/Comparable"), (0, .class_ 366), (0, u "java/lang/constant/Constable"), (0, .class_ 368), (0, u "java/lang/constant/ConstantDesc"), (0, u "MIN_VALUE"), (1, u "MAX_VALUE"), (4, u "SIZE"), (0, u "I"), (1, u "BYTES"), (1, u "serialVersionUID")] 142

def k9c0 : Code := { maxStack := 5, maxLocals := 2, code := jdk_35_method_36_code, exceptionTable := #[], attributes := #[] }
def k9m0 : Method := { name := "hashCode", desc := "(J)I", sig := { parameters := [.long], returnType := some .int }, accessFlags := 9, code := some k9c0 }
/-- java/lang/Long -/
def k9 : Class := { plain "java/lang/Long" (some 5) with
  accessFlags := 49
  interfaces := #[6, 7, 8]
  cf := some (fileOf pool9 1 #[.nestMembers #[235]] #[{ accessFlags := 9, nameIndex := 279, descriptorIndex := 101, attributes := #[] }] 49 271 #[363, 365, 367] #[{ accessFlags := 25, nameIndex := 369, descriptorIndex := 276, attributes := #[] }, { accessFlags := 25, nameIndex := 371, descriptorIndex := 276, attributes := #[] }, { accessFlags := 25, nameIndex := 361, descriptorIndex := 362, attributes := #[] }, { accessFlags := 18, nameIndex := 275, descriptorIndex := 276, attributes := #[] }, { accessFlags := 25, nameIndex := 376, descriptorIndex := 377, attributes := #[] }, { accessFlags := 25, nameIndex := 379, descriptorIndex := 377, attributes := #[] }, { accessFlags := 26, nameIndex := 381, descriptorIndex := 276, attributes := #[] }])
  fields := #[{ name := "MIN_VALUE", type := .long, accessFlags := 25, slot := 0, constantValue := 0 }, { name := "MAX_VALUE", type := .long, accessFlags := 25, slot := 1, constantValue := 0 }, { name := "TYPE", type := (.object "java/lang/Class"), accessFlags := 25, slot := 2, constantValue := 0 }, { name := "value", type := .long, accessFlags := 18, slot := 0, constantValue := 0 }, { name := "SIZE", type := .int, accessFlags := 25, slot := 3, constantValue := 0 }, { name := "BYTES", type := .int, accessFlags := 25, slot := 4, constantValue := 0 }, { name := "serialVersionUID", type := .long, accessFlags := 26, slot := 5, constantValue := 0 }]
  methods := #[k9m0]
  instanceTypes := #[.long]
  staticTypes := #[.long, .long, (.object "java/lang/Class"), .int, .int, .long]
  resolved := Array.replicate 524 none
  statics := none }

def pool10 : Array CpInfo := pool [(2, .class_ 4), (1, u "java/lang/Object"), (0, u "<init>"), (0, u "()V"), (0, .integer 2654435769), (0, .class_ 9), (0, u "com/example/portunus/portunus/Hashes"), (2, u "mix"), (0, u "(I)I")] 2

def k10m0 : Method := { name := "<init>", desc := "()V", sig := { parameters := [], returnType := none }, accessFlags := 2, code := none }
def k10c1 : Code := { maxStack := 3, maxLocals := 2, code := prog_9_method_2_code, exceptionTable := #[], attributes := #[] }
def k10m1 : Method := { name := "mix", desc := "(I)I", sig := { parameters := [.int], returnType := some .int }, accessFlags := 8, code := some k10c1 }
/-- com/example/portunus/portunus/Hashes -/
def k10 : Class := { plain "com/example/portunus/portunus/Hashes" (some 0) with
  accessFlags := 32
  interfaces := #[]
  cf := some (fileOf pool10 8 #[] #[{ accessFlags := 2, nameIndex := 5, descriptorIndex := 6, attributes := #[] }, { accessFlags := 8, nameIndex := 12, descriptorIndex := 13, attributes := #[] }] 32 2 #[] #[])
  fields := #[]
  methods := #[k10m0, k10m1]
  instanceTypes := #[]
  staticTypes := #[]
  resolved := Array.replicate 16 none
  statics := none }

def pool11 : Array CpInfo := pool [(1, u "java/lang/Cloneable"), (0, .class_ 1), (0, u "java/lang/Object"), (0, .class_ 3)] 3

/-- java/lang/Cloneable -/
def k11 : Class := { plain "java/lang/Cloneable" (some 0) with
  accessFlags := 1537
  interfaces := #[]
  cf := some (fileOf pool11 2 #[] #[] 1537 4 #[] #[])
  fields := #[]
  methods := #[]
  instanceTypes := #[]
  staticTypes := #[]
  resolved := Array.replicate 8 none
  statics := none }

/-- the primitive byte -/
def k12 : Class := { plain "byte" none with kind := .primitive 'B', accessFlags := 0x411 }
/-- [B -/
def k13 : Class := { plain "[B" (some 0) with kind := .array 12 .byte, interfaces := #[11, 4], accessFlags := 1041 }

/-- the primitive int -/
def k14 : Class := { plain "int" none with kind := .primitive 'I', accessFlags := 0x411 }
/-- [I -/
def k15 : Class := { plain "[I" (some 0) with kind := .array 14 .int, interfaces := #[11, 4], accessFlags := 1041 }

/-- the primitive long -/
def k16 : Class := { plain "long" none with kind := .primitive 'J', accessFlags := 0x411 }
/-- [J -/
def k17 : Class := { plain "[J" (some 0) with kind := .array 16 .long, interfaces := #[11, 4], accessFlags := 1041 }

/-- [Lcom/example/portunus/portunus/Support; -/
def k18 : Class := { plain "[Lcom/example/portunus/portunus/Support;" (some 0) with kind := .array 3 (.object "com/example/portunus/portunus/Support"), interfaces := #[11, 4], accessFlags := 1041 }
def k19 : Class := { plain "[[Lcom/example/portunus/portunus/Support;" (some 0) with kind := .array 18 (.array (.object "com/example/portunus/portunus/Support")), interfaces := #[11, 4], accessFlags := 1041 }

def heap : Heap := #[{ cls := 3, slots := #[.ref 1, .ref 2], vm := .statics 3 },
  { cls := 3, slots := #[.long (-1), .null, .null, .int 0], vm := .none },
  { cls := 3, slots := #[.long (-1), .null, .null, .int (-2147483647)], vm := .none }]
def classes : Array Class := #[k0, k1, k2, k3, k4, k5, k6, k7, k8, k9, k10, k11, k12, k13, k14, k15, k16, k17, k18, k19]
def interned : List (Array UInt16 × Addr) := []
def slotsUsed : Nat := 10
def theMethod : MethodId := ⟨1, 1⟩
def args0 : Array Value := #[.int 3, .int 5, .int 6, .int 1, .int 0, .int 0]
def aboutOver (below : List Frame) : State where
  vm := { classes := classes, interned := interned.toArray }
  heap := heap
  slotsUsed := slotsUsed
  threads := #[{ frames := .invoking theMethod args0 :: below }]
def below0 : List Frame := [.native { method := ⟨0, 0⟩, args := #[] }]
def about1 : State := aboutOver below0
def p0 : Program := .bare "" "" ""
def e0 : Env := launch0.env 0 0 0
theorem w_frames : about1.frames = Frame.invoking theMethod args0 :: below0 := rfl
set_option maxRecDepth 65536 in
theorem w_args : argsFit about1.vm theMethod args0 = true := by decide +kernel
set_option maxRecDepth 65536 in
theorem w_heap : heapFits about1 = true := by decide +kernel
set_option maxRecDepth 65536 in
theorem w_runnable : about1.curStatus? = some .runnable := by decide +kernel
set_option maxRecDepth 65536 in
theorem w_alone : about1.alone = true := by decide +kernel
set_option maxRecDepth 65536 in
theorem w_named : about1.methodNamed? x = some theMethod := by decide +kernel
set_option maxRecDepth 65536 in
theorem w_hears : about1.hears theMethod below0 = true := by decide +kernel
set_option maxRecDepth 65536 in
theorem w_ripe : about1.ripe theMethod args0 below0 = true := by decide +kernel
theorem w_running : about1.status = .running := rfl
set_option maxRecDepth 65536 in
theorem w_room : about1.hasRoom e0.platform room_1 = true :=
  launch0.hasRoom_least _ room_1 (by decide +kernel) (by decide +kernel) (by decide +kernel) (by decide +kernel) (by decide +kernel) (by decide +kernel)
theorem allAtoms_all (ts : List Jvm.Cond) (a : Array Jvm.Value) (st : Jvm.State) : (allAtoms ts).before a st = ts.all (fun c => c.before a st) := by
  induction ts with
  | nil => rfl
  | cons c t ih =>
    show (Jvm.Cond.and c (allAtoms t)).before a st = _
    rw [Jvm.Cond.before_and, ih, List.all_cons]
def words1 : List Jvm.Cond := Jvm.Cond.code x code maxLocals ret :: tables_1
/-- a 'code' word, met by the world's own term for the bytes: nothing is compared byte by byte -/
theorem code_word {y : MethodName} {bytes : ByteArray} {mx : Nat} {rt : Option FieldType} {a : Array Value} {s : State} {m : MethodId} {meth : Method} {c : Code} (h1 : s.methodNamed? y = some m) (h2 : s.vm.method? m = some meth) (h3 : meth.code = some c) (h4 : c.code = bytes)
    (h5 : (c.maxLocals == mx && c.exceptionTable.isEmpty && decide (c.maxStack ≤ mostOperands) && decide (meth.sig.returnType = rt) && !meth.locks && decide (parseMethodDescriptor y.desc = some meth.sig)) = true) : (Jvm.Cond.code y bytes mx rt).before a s = true := by
  simp only [Bool.and_eq_true, beq_iff_eq, Bool.not_eq_true', decide_eq_true_eq] at h5
  obtain ⟨⟨⟨⟨⟨g1, g2⟩, g3⟩, g4⟩, g5⟩, g6⟩ := h5
  simp [Cond.before, Cond.holds, Cond.value, h1, h2, h3, h4, g1, g2, g3, g4, g5, g6]
def isCode : Jvm.Cond → Bool
  | .code _ _ _ _ => true
  | _ => false
theorem all_split {L : List Jvm.Cond} {P : Jvm.Cond → Bool} (h1 : L.all (fun c => isCode c || P c) = true) (h2 : ∀ c ∈ L.filter isCode, P c = true) : L.all P = true := by
  refine List.all_eq_true.mpr fun c hc => ?_
  have h := List.all_eq_true.mp h1 c hc
  rcases Bool.eq_false_or_eq_true (isCode c) with hi | hi
  · exact h2 c (List.mem_filter.mpr ⟨hc, hi⟩)
  · simpa [hi] using h
set_option maxRecDepth 65536 in
theorem w_c0 : (Jvm.Cond.code x code maxLocals ret).before args0 about1 = true := code_word (m := ⟨1, 1⟩) (meth := k1m1) (c := k1c1) (by decide +kernel) rfl rfl rfl (by decide +kernel)
set_option maxRecDepth 65536 in
theorem w_c1 : (Jvm.Cond.code ({ cls := "com/example/portunus/portunus/Supports", name := "<init>", desc := "()V" } : Jvm.MethodName) prog_15_method_1_code (1 : Nat) (Option.none : Option Jvm.ClassFile.FieldType)).before args0 about1 = true := code_word (m := ⟨2, 0⟩) (meth := k2m0) (c := k2c0) (by decide +kernel) rfl rfl rfl (by decide +kernel)
set_option maxRecDepth 65536 in
theorem w_c2 : (Jvm.Cond.code ({ cls := "java/lang/Object", name := "<init>", desc := "()V" } : Jvm.MethodName) object_method_1_code (1 : Nat) (Option.none : Option Jvm.ClassFile.FieldType)).before args0 about1 = true := code_word (m := ⟨0, 0⟩) (meth := k0m0) (c := k0c0) (by decide +kernel) rfl rfl rfl (by decide +kernel)
set_option maxRecDepth 65536 in
theorem w_c3 : (Jvm.Cond.code ({ cls := "com/example/portunus/portunus/Supports", name := "isWorthCollecting", desc := "(I)Z" } : Jvm.MethodName) prog_15_method_8_code (2 : Nat) (Option.some Jvm.ClassFile.FieldType.boolean)).before args0 about1 = true := code_word (m := ⟨2, 3⟩) (meth := k2m3) (c := k2c3) (by decide +kernel) rfl rfl rfl (by decide +kernel)
set_option maxRecDepth 65536 in
theorem w_c4 : (Jvm.Cond.code ({ cls := "com/example/portunus/portunus/Supports", name := "size", desc := "()I" } : Jvm.MethodName) prog_15_method_7_code (1 : Nat) (Option.some Jvm.ClassFile.FieldType.int)).before args0 about1 = true := code_word (m := ⟨2, 2⟩) (meth := k2m2) (c := k2c2) (by decide +kernel) rfl rfl rfl (by decide +kernel)
set_option maxRecDepth 65536 in
theorem w_c5 : (Jvm.Cond.code ({ cls := "com/example/portunus/portunus/Supports", name := "of", desc := "(II)Lcom/example/portunus/portunus/Support;" } : Jvm.MethodName) prog_15_method_2_code (3 : Nat) (Option.some (Jvm.ClassFile.FieldType.object "com/example/portunus/portunus/Support"))).before args0 about1 = true := code_word (m := ⟨2, 1⟩) (meth := k2m1) (c := k2c1) (by decide +kernel) rfl rfl rfl (by decide +kernel)
set_option maxRecDepth 65536 in
theorem w_c6 : (Jvm.Cond.code ({ cls := "com/example/portunus/portunus/Supports", name := "node", desc := "(JLcom/example/portunus/portunus/Support;Lcom/example/portunus/portunus/Support;)Lcom/example/portunus/portunus/Support;" } : Jvm.MethodName) prog_15_method_23_code (8 : Nat) (Option.some (Jvm.ClassFile.FieldType.object "com/example/portunus/portunus/Support"))).before args0 about1 = true := code_word (m := ⟨2, 4⟩) (meth := k2m4) (c := k2c4) (by decide +kernel) rfl rfl rfl (by decide +kernel)
set_option maxRecDepth 65536 in
theorem w_c7 : (Jvm.Cond.code ({ cls := "com/example/portunus/portunus/Supports", name := "hash", desc := "(JLcom/example/portunus/portunus/Support;Lcom/example/portunus/portunus/Support;)I" } : Jvm.MethodName) prog_15_method_27_code (4 : Nat) (Option.some Jvm.ClassFile.FieldType.int)).before args0 about1 = true := code_word (m := ⟨2, 5⟩) (meth := k2m5) (c := k2c5) (by decide +kernel) rfl rfl rfl (by decide +kernel)
set_option maxRecDepth 65536 in
theorem w_c8 : (Jvm.Cond.code ({ cls := "java/lang/Long", name := "hashCode", desc := "(J)I" } : Jvm.MethodName) jdk_35_method_36_code (2 : Nat) (Option.some Jvm.ClassFile.FieldType.int)).before args0 about1 = true := code_word (m := ⟨9, 0⟩) (meth := k9m0) (c := k9c0) (by decide +kernel) rfl rfl rfl (by decide +kernel)
set_option maxRecDepth 65536 in
theorem w_c9 : (Jvm.Cond.code ({ cls := "com/example/portunus/portunus/Support", name := "id", desc := "()I" } : Jvm.MethodName) prog_14_method_7_code (1 : Nat) (Option.some Jvm.ClassFile.FieldType.int)).before args0 about1 = true := code_word (m := ⟨3, 4⟩) (meth := k3m4) (c := k3c4) (by decide +kernel) rfl rfl rfl (by decide +kernel)
set_option maxRecDepth 65536 in
theorem w_c10 : (Jvm.Cond.code ({ cls := "com/example/portunus/portunus/Hashes", name := "mix", desc := "(I)I" } : Jvm.MethodName) prog_9_method_2_code (2 : Nat) (Option.some Jvm.ClassFile.FieldType.int)).before args0 about1 = true := code_word (m := ⟨10, 1⟩) (meth := k10m1) (c := k10c1) (by decide +kernel) rfl rfl rfl (by decide +kernel)
set_option maxRecDepth 65536 in
theorem w_c11 : (Jvm.Cond.code ({ cls := "com/example/portunus/portunus/Support", name := "<init>", desc := "(JLcom/example/portunus/portunus/Support;Lcom/example/portunus/portunus/Support;I)V" } : Jvm.MethodName) prog_14_method_2_code (6 : Nat) (Option.none : Option Jvm.ClassFile.FieldType)).before args0 about1 = true := code_word (m := ⟨3, 0⟩) (meth := k3m0) (c := k3c0) (by decide +kernel) rfl rfl rfl (by decide +kernel)
set_option maxRecDepth 65536 in
theorem w_c12 : (Jvm.Cond.code ({ cls := "com/example/portunus/portunus/Support", name := "isOneSet", desc := "()Z" } : Jvm.MethodName) prog_14_method_8_code (1 : Nat) (Option.some Jvm.ClassFile.FieldType.boolean)).before args0 about1 = true := code_word (m := ⟨3, 5⟩) (meth := k3m5) (c := k3c5) (by decide +kernel) rfl rfl rfl (by decide +kernel)
set_option maxRecDepth 65536 in
theorem w_c13 : (Jvm.Cond.code ({ cls := "com/example/portunus/portunus/Support", name := "order", desc := "()J" } : Jvm.MethodName) prog_14_method_4_code (1 : Nat) (Option.some Jvm.ClassFile.FieldType.long)).before args0 about1 = true := code_word (m := ⟨3, 1⟩) (meth := k3m1) (c := k3c1) (by decide +kernel) rfl rfl rfl (by decide +kernel)
set_option maxRecDepth 65536 in
theorem w_c14 : (Jvm.Cond.code ({ cls := "com/example/portunus/portunus/Support", name := "without", desc := "()Lcom/example/portunus/portunus/Support;" } : Jvm.MethodName) prog_14_method_5_code (1 : Nat) (Option.some (Jvm.ClassFile.FieldType.object "com/example/portunus/portunus/Support"))).before args0 about1 = true := code_word (m := ⟨3, 2⟩) (meth := k3m2) (c := k3c2) (by decide +kernel) rfl rfl rfl (by decide +kernel)
set_option maxRecDepth 65536 in
theorem w_c15 : (Jvm.Cond.code ({ cls := "com/example/portunus/portunus/Support", name := "with", desc := "()Lcom/example/portunus/portunus/Support;" } : Jvm.MethodName) prog_14_method_6_code (1 : Nat) (Option.some (Jvm.ClassFile.FieldType.object "com/example/portunus/portunus/Support"))).before args0 about1 = true := code_word (m := ⟨3, 3⟩) (meth := k3m3) (c := k3c3) (by decide +kernel) rfl rfl rfl (by decide +kernel)
def codes1 : List Jvm.Cond := [Jvm.Cond.code x code maxLocals ret, Jvm.Cond.code ({ cls := "com/example/portunus/portunus/Supports", name := "<init>", desc := "()V" } : Jvm.MethodName) prog_15_method_1_code (1 : Nat) (Option.none : Option Jvm.ClassFile.FieldType), Jvm.Cond.code ({ cls := "java/lang/Object", name := "<init>", desc := "()V" } : Jvm.MethodName) object_method_1_code (1 : Nat) (Option.none : Option Jvm.ClassFile.FieldType), Jvm.Cond.code ({ cls := "com/example/portunus/portunus/Supports", name := "isWorthCollecting", desc := "(I)Z" } : Jvm.MethodName) prog_15_method_8_code (2 : Nat) (Option.some Jvm.ClassFile.FieldType.boolean), Jvm.Cond.code ({ cls := "com/example/portunus/portunus/Supports", name := "size", desc := "()I" } : Jvm.MethodName) prog_15_method_7_code (1 : Nat) (Option.some Jvm.ClassFile.FieldType.int), Jvm.Cond.code ({ cls := "com/example/portunus/portunus/Supports", name := "of", desc := "(II)Lcom/example/portunus/portunus/Support;" } : Jvm.MethodName) prog_15_method_2_code (3 : Nat) (Option.some (Jvm.ClassFile.FieldType.object "com/example/portunus/portunus/Support")), Jvm.Cond.code ({ cls := "com/example/portunus/portunus/Supports", name := "node", desc := "(JLcom/example/portunus/portunus/Support;Lcom/example/portunus/portunus/Support;)Lcom/example/portunus/portunus/Support;" } : Jvm.MethodName) prog_15_method_23_code (8 : Nat) (Option.some (Jvm.ClassFile.FieldType.object "com/example/portunus/portunus/Support")), Jvm.Cond.code ({ cls := "com/example/portunus/portunus/Supports", name := "hash", desc := "(JLcom/example/portunus/portunus/Support;Lcom/example/portunus/portunus/Support;)I" } : Jvm.MethodName) prog_15_method_27_code (4 : Nat) (Option.some Jvm.ClassFile.FieldType.int), Jvm.Cond.code ({ cls := "java/lang/Long", name := "hashCode", desc := "(J)I" } : Jvm.MethodName) jdk_35_method_36_code (2 : Nat) (Option.some Jvm.ClassFile.FieldType.int), Jvm.Cond.code ({ cls := "com/example/portunus/portunus/Support", name := "id", desc := "()I" } : Jvm.MethodName) prog_14_method_7_code (1 : Nat) (Option.some Jvm.ClassFile.FieldType.int), Jvm.Cond.code ({ cls := "com/example/portunus/portunus/Hashes", name := "mix", desc := "(I)I" } : Jvm.MethodName) prog_9_method_2_code (2 : Nat) (Option.some Jvm.ClassFile.FieldType.int), Jvm.Cond.code ({ cls := "com/example/portunus/portunus/Support", name := "<init>", desc := "(JLcom/example/portunus/portunus/Support;Lcom/example/portunus/portunus/Support;I)V" } : Jvm.MethodName) prog_14_method_2_code (6 : Nat) (Option.none : Option Jvm.ClassFile.FieldType), Jvm.Cond.code ({ cls := "com/example/portunus/portunus/Support", name := "isOneSet", desc := "()Z" } : Jvm.MethodName) prog_14_method_8_code (1 : Nat) (Option.some Jvm.ClassFile.FieldType.boolean), Jvm.Cond.code ({ cls := "com/example/portunus/portunus/Support", name := "order", desc := "()J" } : Jvm.MethodName) prog_14_method_4_code (1 : Nat) (Option.some Jvm.ClassFile.FieldType.long), Jvm.Cond.code ({ cls := "com/example/portunus/portunus/Support", name := "without", desc := "()Lcom/example/portunus/portunus/Support;" } : Jvm.MethodName) prog_14_method_5_code (1 : Nat) (Option.some (Jvm.ClassFile.FieldType.object "com/example/portunus/portunus/Support")), Jvm.Cond.code ({ cls := "com/example/portunus/portunus/Support", name := "with", desc := "()Lcom/example/portunus/portunus/Support;" } : Jvm.MethodName) prog_14_method_6_code (1 : Nat) (Option.some (Jvm.ClassFile.FieldType.object "com/example/portunus/portunus/Support"))]
set_option maxRecDepth 65536 in
theorem codes_eq : words1.filter isCode = codes1 := rfl
theorem w_codes : ∀ c ∈ words1.filter isCode, c.before args0 about1 = true := by
  rw [codes_eq]
  intro c hc
  simp only [codes1, List.mem_cons, List.not_mem_nil, or_false] at hc
  rcases hc with rfl | rfl | rfl | rfl | rfl | rfl | rfl | rfl | rfl | rfl | rfl | rfl | rfl | rfl | rfl | rfl
  · exact w_c0
  · exact w_c1
  · exact w_c2
  · exact w_c3
  · exact w_c4
  · exact w_c5
  · exact w_c6
  · exact w_c7
  · exact w_c8
  · exact w_c9
  · exact w_c10
  · exact w_c11
  · exact w_c12
  · exact w_c13
  · exact w_c14
  · exact w_c15
set_option maxRecDepth 65536 in
theorem w_t1 : (words1.take 24).all (fun c => isCode c || c.before args0 about1) = true := by decide +kernel
set_option maxRecDepth 65536 in
theorem w_t2 : ((words1.drop 24).take 24).all (fun c => isCode c || c.before args0 about1) = true := by decide +kernel
set_option maxRecDepth 65536 in
theorem w_t3 : (((words1.drop 24).drop 24).take 24).all (fun c => isCode c || c.before args0 about1) = true := by decide +kernel
set_option maxRecDepth 65536 in
theorem w_t4 : ((((words1.drop 24).drop 24).drop 24).take 24).all (fun c => isCode c || c.before args0 about1) = true := by decide +kernel
set_option maxRecDepth 65536 in
theorem w_t5 : (((((words1.drop 24).drop 24).drop 24).drop 24).take 24).all (fun c => isCode c || c.before args0 about1) = true := by decide +kernel
set_option maxRecDepth 65536 in
theorem w_t6 : (((((words1.drop 24).drop 24).drop 24).drop 24).drop 24).all (fun c => isCode c || c.before args0 about1) = true := by decide +kernel
theorem w_tables : (allAtoms (Jvm.Cond.code x code maxLocals ret :: tables_1)).before args0 about1 = true := by
  rw [allAtoms_all]
  show words1.all (fun c => c.before args0 about1) = true
  refine all_split ?_ w_codes
  rw [← List.take_append_drop 24 words1, List.all_append, w_t1, ← List.take_append_drop 24 (words1.drop 24), List.all_append, w_t2, ← List.take_append_drop 24 ((words1.drop 24).drop 24), List.all_append, w_t3, ← List.take_append_drop 24 (((words1.drop 24).drop 24).drop 24), List.all_append, w_t4, ← List.take_append_drop 24 ((((words1.drop 24).drop 24).drop 24).drop 24), List.all_append, w_t5, w_t6]
  rfl
set_option maxRecDepth 65536 in
theorem w_case : (Jvm.Cond.and given_1 narrow_1).before args0 about1 = true := by decide +kernel
theorem w_applies : (headSpec (Jvm.Cond.code x code maxLocals ret :: tables_1) room_1).applies x e0.platform about1 = true :=
  (Spec.applies_iff w_frames).mpr ⟨w_running, w_runnable, w_alone, w_named, w_hears, w_ripe, w_room, w_tables⟩
theorem atStart : AtStart classFile x code maxLocals ret World_1 tables_1 room_1 Calls_1 rest_1 Pre_1 launch0 p0 e0 about1 theMethod args0 below0 :=
  ⟨lists_1, trivial, launch0.admits_env _ _ _, launch0.least_env, fairChoices_fair.cas, fairChoices_fair.clock, w_frames, w_args, w_heap, w_applies, trivial, trivial, w_case⟩
end start1
theorem witness_1 : WitnessClaimed_1 := ⟨start1.p0, start1.e0, start1.about1, start1.theMethod, start1.args0, start1.below0, start1.atStart⟩
end Jvm.Pilot.@@N@@
