import JvmDerived
import JvmDerived.Pilot.@@N@@Statement
import JvmDerived.Pilot.@@N@@Code
set_option linter.unusedVariables false
set_option linter.unusedSimpArgs false
/- laws to paste: Road.backV, Road.lenW, Road.chN, Road.eqW, Road.codOf (cut by pick.py; bodies as the Statement names them) -/
namespace Jvm.Pilot.@@N@@
namespace StrChars
open Jvm Sem ClassFile Op Lib Jvm.Stand Jvm.Free.XT Jvm.Free.ALB Jvm.Free.JM Jvm.Free
open Jvm.Lib.Cold (StaticIs)
/-- a char array whose places are chars -/
def Ch (a : Addr) (A : Cell) (U : State) : Prop := Arr .char a A U ∧ Typed .char A
theorem Ch.mv {a : Addr} {A : Cell} {U U' : State} (h : Ch a A U) (hal : U.vm.Alike U'.vm) (hh : U'.heap = U.heap) : Ch a A U' := ⟨h.1.mv hal hh, h.2⟩
theorem Ch.keep {a : Addr} {A : Cell} {U U' : State} (h : Ch a A U) (hal : U.vm.Alike U'.vm) (hk : U'.heap[a]? = some A) : Ch a A U' := ⟨h.1.keep hal hk, h.2⟩
/-- what place i of a char[]'s cell holds -/
def cv (A : Cell) (i : Nat) : Int32 := match A.slots[i]? with | some (.int x) => x | _ => 0
theorem Ch.get {a : Addr} {A : Cell} {U : State} (h : Ch a A U) {i : Nat} (hi : i < A.slots.size) : A.slots[i]? = some (.int (cv A i)) := by
  have e := Array.getElem?_eq_getElem hi
  have f := h.2 i _ e
  unfold cv; rw [e]
  generalize A.slots[i] = v at f
  cases v <;> simp [fits] at f ⊢
/-- the byte that i2b leaves of a char -/
def lo8 (x : Int32) : Int32 := x.toInt8.toInt32
theorem fits_lo8 (y : Int32) : fits .byte (.int (lo8 y)) = true := by
  have h1 := y.toInt8.le_toInt
  have h2 := y.toInt8.toInt_lt
  simp only [lo8, fits, Bool.and_eq_true, decide_eq_true_eq, Int32.le_iff_toInt_le, Int8.toInt_toInt32, show (-128 : Int32).toInt = -128 from by decide, show (127 : Int32).toInt = 127 from by decide]
  omega
/-- A' is A but that each place j of lo .. hi - 1 holds f j -/
def Laid (A A' : Cell) (lo hi : Nat) (f : Nat → Value) : Prop := A'.cls = A.cls ∧ A'.vm = A.vm ∧ A'.slots.size = A.slots.size ∧ ∀ i, A'.slots[i]? = if lo ≤ i ∧ i < hi then some (f i) else A.slots[i]?
theorem Laid.zero (A : Cell) (lo : Nat) (f : Nat → Value) : Laid A A lo (lo + 0) f := ⟨rfl, rfl, rfl, fun i => by rw [if_neg (by omega)]⟩
theorem Laid.step {A Ak : Cell} {lo k : Nat} {f : Nat → Value} {v : Value} (h : Laid A Ak lo k f) (hlo : lo ≤ k) (hk : k < Ak.slots.size) (hv : v = f k) : Laid A (Ak.setSlot k v) lo (k + 1) f := by
  refine ⟨h.1, h.2.1, by simpa [Cell.setSlot] using h.2.2.1, fun i => ?_⟩
  by_cases e : k = i
  · subst e; rw [Cell.slots_setSlot_self v hk, if_pos (by omega), hv]
  · rw [Cell.slots_setSlot_ne v e, h.2.2.2 i]
    by_cases q : lo ≤ i ∧ i < k
    · rw [if_pos q, if_pos (by omega)]
    · rw [if_neg q, if_neg (by omega)]
def U16 : String := "java/lang/StringUTF16"
namespace Cmp5
def yN : MethodName := ⟨"java/lang/StringUTF16", "compress", "([CI[BII)I"⟩
abbrev yB : ByteArray := jdk_52_method_21_code
theorem d0 : decode yB 0 = .ok (.iconst 0, 1) := by decide +kernel
theorem d1 : decode yB 1 = .ok (.istore 5, 2) := by decide +kernel
theorem d3 : decode yB 3 = .ok (.iload 5, 2) := by decide +kernel
theorem d5 : decode yB 5 = .ok (.iload 4, 2) := by decide +kernel
theorem d7 : decode yB 7 = .ok (.if_icmp (.ge) 37, 3) := by decide +kernel
theorem d10 : decode yB 10 = .ok (.aload_n 0, 1) := by decide +kernel
theorem d11 : decode yB 11 = .ok (.iload_n 1, 1) := by decide +kernel
theorem d12 : decode yB 12 = .ok (.caload, 1) := by decide +kernel
theorem d13 : decode yB 13 = .ok (.istore 6, 2) := by decide +kernel
theorem d15 : decode yB 15 = .ok (.iload 6, 2) := by decide +kernel
theorem d17 : decode yB 17 = .ok (.sipush 255, 3) := by decide +kernel
theorem d20 : decode yB 20 = .ok (.if_icmp (.le) 6, 3) := by decide +kernel
theorem d26 : decode yB 26 = .ok (.aload_n 2, 1) := by decide +kernel
theorem d27 : decode yB 27 = .ok (.iload_n 3, 1) := by decide +kernel
theorem d28 : decode yB 28 = .ok (.iload 6, 2) := by decide +kernel
theorem d30 : decode yB 30 = .ok (.i2b, 1) := by decide +kernel
theorem d31 : decode yB 31 = .ok (.bastore, 1) := by decide +kernel
theorem d32 : decode yB 32 = .ok (.iinc 1 1, 3) := by decide +kernel
theorem d35 : decode yB 35 = .ok (.iinc 3 1, 3) := by decide +kernel
theorem d38 : decode yB 38 = .ok (.iinc 5 1, 3) := by decide +kernel
theorem d41 : decode yB 41 = .ok (.goto (-38), 3) := by decide +kernel
theorem d44 : decode yB 44 = .ok (.iload 4, 2) := by decide +kernel
theorem d46 : decode yB 46 = .ok (.ireturn, 1) := by decide +kernel
def site : List Cond := []
def tab : Cond := tabOf yN yB 7 (some .int) site
def P (b : Addr) (A : Cell) (d : Addr) (B : Cell) (o q len : Nat) (args : Array Value) (s : State) : Prop := args = #[.ref b, .int (Int32.ofNat o), .ref d, .int (Int32.ofNat q), .int (Int32.ofNat len)] ∧ Ch b A s ∧ Arr .byte d B s ∧ b ≠ d ∧ o + len ≤ A.slots.size ∧ q + len ≤ B.slots.size ∧ ∀ i, i < len → ¬ 255 < cv A (o + i)
def E (b : Addr) (A : Cell) (d : Addr) (B : Cell) (o q len : Nat) (r : Option Value) (s u : State) : Prop := r = some (.int (Int32.ofNat len)) ∧ ∃ B', Put d B' s u ∧ Laid B B' q (q + len) (fun j => Value.int (lo8 (cv A (o + (j - q)))))
/-- no char of the range above 255: len; the places written hold each char's low byte -/
theorem law (l : Launch) (b : Addr) (A : Cell) (d : Addr) (B : Cell) (o q len : Nat) : Law l yN 5 5 0 0 yB 7 (some .int) site (P b A d B o q len) (E b A d B o q len) (copyLocs d q len) 0 0 := by
  refine Law.of_walk (plainFor_of_name (by decide +kernel)) (by decide +kernel) (by decide +kernel) (by decide) (fun _ _ h => by rw [h.1]; rfl) (fun _ U U' hal hh h => ⟨h.1, h.2.1.mv hal hh, h.2.2.1.mv hal hh, h.2.2.2⟩) (fun r U U' V V' h1 hal h2 h => ⟨h.1, h.2.elim fun B' q => ⟨B', q.1.mv h1 h2, q.2⟩⟩) ?_
  intro p e s m args below meth c s₁ X0 hexec hbytes hml hret hlk hnm hown hh0 W hP
  obtain ⟨rfl, hA, hB, hne, l1, l2, hp⟩ := hP
  have c1 : Steps p.tables e below (s₁.setTop (entryFrame m #[.ref b, .int (Int32.ofNat o), .ref d, .int (Int32.ofNat q), .int (Int32.ofNat len)] 7)) (s₁.setTop (mkF m 0 #[.val (.ref b), .val (.int (Int32.ofNat o)), .val (.ref d), .val (.int (Int32.ofNat q)), .val (.int (Int32.ofNat len)), .unset, .unset] [])) := entry rfl
  have hA0 := hA.1.mv X0.warmed.alike hh0
  have hB0 := hB.mv X0.warmed.alike hh0
  have a31 := hA.1.2.2.2
  have c2 : Steps p.tables e below (s₁.setTop (entryFrame m #[.ref b, .int (Int32.ofNat o), .ref d, .int (Int32.ofNat q), .int (Int32.ofNat len)] 7)) (s₁.setTop (mkF m 3 #[.val (.ref b), .val (.int (Int32.ofNat o)), .val (.ref d), .val (.int (Int32.ofNat q)), .val (.int (Int32.ofNat len)), .val (.int 0), .unset] [])) := c1.trans (by
    refine iconstV X0.here hexec rfl 0 (hb hbytes d0) (by decide) ?_
    refine XS.istore X0.here hexec rfl (hb hbytes d1) rfl rfl ?_
    exact Steps.refl _)
  have loop : ∀ (r i : Nat), i + r = len → ∀ (z : Slot), (z = .unset ∨ ∃ w, z = .val w ∧ w.category = 1) → ∀ (Tl : State) (Bk : Cell), Stand p l e { frames := 0, locals := 0, cells := 0, slots := 0 } s m #[.ref b, .int (Int32.ofNat o), .ref d, .int (Int32.ofNat q), .int (Int32.ofNat len)] below meth c Tl ([] ++ copyLocs d q i) 0 0 → Put d Bk s₁ Tl → Laid B Bk q (q + i) (fun j => Value.int (lo8 (cv A (o + (j - q))))) →
      Steps p.tables e below (s₁.setTop (entryFrame m #[.ref b, .int (Int32.ofNat o), .ref d, .int (Int32.ofNat q), .int (Int32.ofNat len)] 7)) (Tl.setTop (mkF m 3 #[.val (.ref b), .val (.int (Int32.ofNat (o + i))), .val (.ref d), .val (.int (Int32.ofNat (q + i))), .val (.int (Int32.ofNat len)), .val (.int (Int32.ofNat i)), z] [])) → ∃ (T' : State) (B' : Cell) (z' : Slot), Stand p l e { frames := 0, locals := 0, cells := 0, slots := 0 } s m #[.ref b, .int (Int32.ofNat o), .ref d, .int (Int32.ofNat q), .int (Int32.ofNat len)] below meth c T' ([] ++ copyLocs d q len) 0 0 ∧ Put d B' s₁ T' ∧ Laid B B' q (q + len) (fun j => Value.int (lo8 (cv A (o + (j - q))))) ∧
      Steps p.tables e below (s₁.setTop (entryFrame m #[.ref b, .int (Int32.ofNat o), .ref d, .int (Int32.ofNat q), .int (Int32.ofNat len)] 7)) (T'.setTop (mkF m 3 #[.val (.ref b), .val (.int (Int32.ofNat (o + len))), .val (.ref d), .val (.int (Int32.ofNat (q + len))), .val (.int (Int32.ofNat len)), .val (.int (Int32.ofNat len)), z'] [])) := by
    intro r
    induction r with
    | zero =>
      intro i hi z hz Tl Bk Xl pl fl cl
      have hil : i = len := by omega
      rw [hil] at Xl fl cl
      exact ⟨Tl, Bk, z, Xl, pl, fl, cl⟩
    | succ r ih =>
      intro i hi z hz Tl Bk Xl pl fl cl
      have all := X0.warmed.alike.symm.trans Xl.warmed.alike
      have hAl := hA0.keep all (pl.other hne hA0.1)
      have hBk := hB0.like all pl.1 fl.1 fl.2.1 fl.2.2.1
      have hlt : q + i < Bk.slots.size := by rw [fl.2.2.1]; omega
      have c3 : Steps p.tables e below (s₁.setTop (entryFrame m #[.ref b, .int (Int32.ofNat o), .ref d, .int (Int32.ofNat q), .int (Int32.ofNat len)] 7)) (Tl.setTop (mkF m 12 #[.val (.ref b), .val (.int (Int32.ofNat (o + i))), .val (.ref d), .val (.int (Int32.ofNat (q + i))), .val (.int (Int32.ofNat len)), .val (.int (Int32.ofNat i)), z] [.int (Int32.ofNat (o + i)), .ref b])) := cl.trans (by
        refine XS.iload Xl.here hexec rfl (hb hbytes d3) rfl ?_
        refine XS.iload Xl.here hexec rfl (hb hbytes d5) rfl ?_
        refine XS.icmpNo Xl.here hexec rfl (hb hbytes d7) rfl (ii_ge_f (lt32 (by omega) (by omega))) ?_
        refine XS.aloadN Xl.here hexec rfl (hb hbytes d10) rfl rfl ?_
        refine XS.iloadN Xl.here hexec rfl (hb hbytes d11) rfl ?_
        exact Steps.refl _)
      have c4 : Steps p.tables e below (s₁.setTop (entryFrame m #[.ref b, .int (Int32.ofNat o), .ref d, .int (Int32.ofNat q), .int (Int32.ofNat len)] 7)) (Tl.setTop (mkF m 13 #[.val (.ref b), .val (.int (Int32.ofNat (o + i))), .val (.ref d), .val (.int (Int32.ofNat (q + i))), .val (.int (Int32.ofNat len)), .val (.int (Int32.ofNat i)), z] [.int (cv A (o + i))])) := c3.trans (by
        refine Xl.aget hexec hAl rfl (hA.get (i := o + i) (by omega)) rfl rfl (hb hbytes d12) ?_
        exact Steps.refl _)
      have c5 : Steps p.tables e below (s₁.setTop (entryFrame m #[.ref b, .int (Int32.ofNat o), .ref d, .int (Int32.ofNat q), .int (Int32.ofNat len)] 7)) (Tl.setTop (mkF m 15 #[.val (.ref b), .val (.int (Int32.ofNat (o + i))), .val (.ref d), .val (.int (Int32.ofNat (q + i))), .val (.int (Int32.ofNat len)), .val (.int (Int32.ofNat i)), .val (.int (cv A (o + i)))] [])) := c4.trans (by
        refine XS.istoreS Xl.here hexec rfl (hb hbytes d13) rfl rfl hz ?_
        exact Steps.refl _)
      have c6 : Steps p.tables e below (s₁.setTop (entryFrame m #[.ref b, .int (Int32.ofNat o), .ref d, .int (Int32.ofNat q), .int (Int32.ofNat len)] 7)) (Tl.setTop (mkF m 31 #[.val (.ref b), .val (.int (Int32.ofNat (o + i))), .val (.ref d), .val (.int (Int32.ofNat (q + i))), .val (.int (Int32.ofNat len)), .val (.int (Int32.ofNat i)), .val (.int (cv A (o + i)))] [.int (lo8 (cv A (o + i))), .int (Int32.ofNat (q + i)), .ref d])) := c5.trans (by
        refine XS.iload Xl.here hexec rfl (hb hbytes d15) rfl ?_
        refine sipushV Xl.here hexec rfl 255 (hb hbytes d17) (by decide) ?_
        refine XS.icmpYes Xl.here hexec rfl (pc0 := 20) rfl (hb hbytes d20) rfl (ii_le_t (hp i (by omega))) (by decide) rfl ?_
        refine XS.aloadN Xl.here hexec rfl (hb hbytes d26) rfl rfl ?_
        refine XS.iloadN Xl.here hexec rfl (hb hbytes d27) rfl ?_
        refine XS.iload Xl.here hexec rfl (hb hbytes d28) rfl ?_
        refine i2b Xl.here hexec rfl (hb hbytes d30) rfl ?_
        exact Steps.refl _)
      obtain ⟨T7, X7, p7, st7⟩ := Xl.aput hexec hBk rfl hlt rfl (fits_lo8 (cv A (o + i))) (g := (mkF m 31 #[.val (.ref b), .val (.int (Int32.ofNat (o + i))), .val (.ref d), .val (.int (Int32.ofNat (q + i))), .val (.int (Int32.ofNat len)), .val (.int (Int32.ofNat i)), .val (.int (cv A (o + i)))] [.int (lo8 (cv A (o + i))), .int (Int32.ofNat (q + i)), .ref d])) rfl (rest := []) rfl (hb hbytes d31)
      have c8 : Steps p.tables e below (s₁.setTop (entryFrame m #[.ref b, .int (Int32.ofNat o), .ref d, .int (Int32.ofNat q), .int (Int32.ofNat len)] 7)) (T7.setTop (mkF m 32 #[.val (.ref b), .val (.int (Int32.ofNat (o + i))), .val (.ref d), .val (.int (Int32.ofNat (q + i))), .val (.int (Int32.ofNat len)), .val (.int (Int32.ofNat i)), .val (.int (cv A (o + i)))] [])) := c6.trans (st7 _ (Steps.refl _))
      have c9 : Steps p.tables e below (s₁.setTop (entryFrame m #[.ref b, .int (Int32.ofNat o), .ref d, .int (Int32.ofNat q), .int (Int32.ofNat len)] 7)) (T7.setTop (mkF m 3 #[.val (.ref b), .val (.int (Int32.ofNat (o + i) + 1)), .val (.ref d), .val (.int (Int32.ofNat (q + i) + 1)), .val (.int (Int32.ofNat len)), .val (.int (Int32.ofNat i + 1)), .val (.int (cv A (o + i)))] [])) := c8.trans (by
        refine iincV X7.here hexec rfl 1 (hb hbytes d32) (by decide) rfl rfl ?_
        refine iincV X7.here hexec rfl 1 (hb hbytes d35) (by decide) rfl rfl ?_
        refine iincV X7.here hexec rfl 1 (hb hbytes d38) (by decide) rfl rfl ?_
        refine XS.goto X7.here hexec rfl (pc0 := 41) rfl (hb hbytes d41) (by decide) rfl ?_
        exact Steps.refl _)
      have c10 : Steps p.tables e below (s₁.setTop (entryFrame m #[.ref b, .int (Int32.ofNat o), .ref d, .int (Int32.ofNat q), .int (Int32.ofNat len)] 7)) (T7.setTop (mkF m 3 #[.val (.ref b), .val (.int (Int32.ofNat (o + (i + 1)))), .val (.ref d), .val (.int (Int32.ofNat (q + (i + 1)))), .val (.int (Int32.ofNat len)), .val (.int (Int32.ofNat (i + 1))), .val (.int (cv A (o + i)))] [])) := by
        have := c9
        rw [succ32, succ32, succ32] at this
        exact this
      exact ih (i + 1) (by omega) _ (Or.inr ⟨_, rfl, rfl⟩) T7 _ (by rw [copyLocs_step, ← List.append_assoc]; exact X7) (pl.trans p7) (fl.step (by omega) hlt (by simp)) c10
  obtain ⟨T9, B9, z9, X9, p9, f9, g9⟩ := loop len 0 (by omega) .unset (Or.inl rfl) s₁ B (by simpa [copyLocs] using X0) ⟨hB0.1, fun _ _ => rfl, rfl⟩ (Laid.zero _ _ _) c2
  have c11 : Steps p.tables e below (s₁.setTop (entryFrame m #[.ref b, .int (Int32.ofNat o), .ref d, .int (Int32.ofNat q), .int (Int32.ofNat len)] 7)) (T9.setTop (mkF m 46 #[.val (.ref b), .val (.int (Int32.ofNat (o + len))), .val (.ref d), .val (.int (Int32.ofNat (q + len))), .val (.int (Int32.ofNat len)), .val (.int (Int32.ofNat len)), z9] [.int (Int32.ofNat len)])) := g9.trans (by
    refine XS.iload X9.here hexec rfl (hb hbytes d3) rfl ?_
    refine XS.iload X9.here hexec rfl (hb hbytes d5) rfl ?_
    refine XS.icmpYes X9.here hexec rfl (pc0 := 7) rfl (hb hbytes d7) rfl (ii_ge_t (nlt32 (by omega) (Nat.le_refl _))) (by decide) rfl ?_
    refine XS.iload X9.here hexec rfl (hb hbytes d44) rfl ?_
    exact Steps.refl _)
  exact ⟨T9, some (.int (Int32.ofNat len)), _, _, _, X9, by simp, rfl, rfl, (fun h => by cases h), ⟨rfl, B9, p9.from hh0, f9⟩, fun fs hl => c11.trans (X9.ireturnOut hexec hret rfl (Or.inl rfl) (hb hbytes d46) hl)⟩
end Cmp5
namespace Cmp3
def yN : MethodName := ⟨"java/lang/StringUTF16", "compress", "([CII)[B"⟩
abbrev yB : ByteArray := jdk_52_method_16_code
theorem d0 : decode yB 0 = .ok (.iload_n 2, 1) := by decide +kernel
theorem d1 : decode yB 1 = .ok (.newarray .byte, 2) := by decide +kernel
theorem d3 : decode yB 3 = .ok (.astore_n 3, 1) := by decide +kernel
theorem d4 : decode yB 4 = .ok (.aload_n 0, 1) := by decide +kernel
theorem d5 : decode yB 5 = .ok (.iload_n 1, 1) := by decide +kernel
theorem d6 : decode yB 6 = .ok (.aload_n 3, 1) := by decide +kernel
theorem d7 : decode yB 7 = .ok (.iconst 0, 1) := by decide +kernel
theorem d8 : decode yB 8 = .ok (.iload_n 2, 1) := by decide +kernel
theorem d9 : decode yB 9 = .ok (.invokestatic 115, 3) := by decide +kernel
theorem d12 : decode yB 12 = .ok (.istore 4, 2) := by decide +kernel
theorem d14 : decode yB 14 = .ok (.iload 4, 2) := by decide +kernel
theorem d16 : decode yB 16 = .ok (.iload_n 2, 1) := by decide +kernel
theorem d17 : decode yB 17 = .ok (.if_icmp (.eq) 40, 3) := by decide +kernel
theorem d57 : decode yB 57 = .ok (.aload_n 3, 1) := by decide +kernel
theorem d58 : decode yB 58 = .ok (.areturn, 1) := by decide +kernel
def site : List Cond := [.arrayClass .byte, Cmp5.tab] ++ staticW U16 115 Cmp5.yN
def tab : Cond := tabOf yN yB 6 (some (.array .byte)) site
def P (b : Addr) (A : Cell) (o len : Nat) (args : Array Value) (s : State) : Prop := args = #[.ref b, .int (Int32.ofNat o), .int (Int32.ofNat len)] ∧ Ch b A s ∧ o + len ≤ A.slots.size ∧ len ≤ 536870912 ∧ ∀ i, i < len → ¬ 255 < cv A (o + i)
def E (b : Addr) (A : Cell) (o len : Nat) (r : Option Value) (s u : State) : Prop := NewArr .byte "[B" len (fun j => .int (lo8 (cv A (o + j)))) r s u ∧ u.heap.size = s.heap.size + 1
/-- no char of the range above 255: a new byte[] of their low bytes -/
theorem law (l : Launch) (b : Addr) (A : Cell) (o len : Nat) : Law l yN 3 3 1 18 yB 6 (some (.array .byte)) site (P b A o len) (E b A o len) [] 1 len := by
  refine Law.of_walk (plainFor_of_name (by decide +kernel)) (by decide +kernel) (by decide +kernel) (by decide) (fun _ _ h => by rw [h.1]; rfl) (fun _ U U' hal hh h => ⟨h.1, h.2.1.mv hal hh, h.2.2⟩) (fun r U U' V V' h1 hal h2 h => ⟨NewArr.mv r U U' V V' h1 hal h2 h.1, by rw [h1, h2]; exact h.2⟩) ?_
  intro p e s m args below meth c s₁ X0 hexec hbytes hml hret hlk hnm hown hh0 W hP
  obtain ⟨rfl, hA, l1, l2, hp⟩ := hP
  have a31 := hA.1.2.2.2
  have c1 : Steps p.tables e below (s₁.setTop (entryFrame m #[.ref b, .int (Int32.ofNat o), .int (Int32.ofNat len)] 6)) (s₁.setTop (mkF m 0 #[.val (.ref b), .val (.int (Int32.ofNat o)), .val (.int (Int32.ofNat len)), .unset, .unset, .unset] [])) := entry rfl
  have c2 : Steps p.tables e below (s₁.setTop (entryFrame m #[.ref b, .int (Int32.ofNat o), .int (Int32.ofNat len)] 6)) (s₁.setTop (mkF m 1 #[.val (.ref b), .val (.int (Int32.ofNat o)), .val (.int (Int32.ofNat len)), .unset, .unset, .unset] [.int (Int32.ofNat len)])) := c1.trans (by
    refine XS.iloadN X0.here hexec rfl (hb hbytes d0) rfl ?_
    exact Steps.refl _)
  obtain ⟨T3, B3, X3, ba3, bs3, bv3, bh3, bf3, st3⟩ := X0.anew hexec (atype := .byte) (wk W (.arrayClass .byte)) rfl (by show len * 1 ≤ _; omega) (by omega) (g := (mkF m 1 #[.val (.ref b), .val (.int (Int32.ofNat o)), .val (.int (Int32.ofNat len)), .unset, .unset, .unset] [.int (Int32.ofNat len)])) rfl (hb hbytes d1) (rest := []) rfl (Nat.le_refl _) (by show 0 + len ≤ len; omega)
  rw [hh0] at ba3 st3
  have kp3 : XT.Kept s T3 := (XT.Kept.of_eq hh0).push bh3
  have hA3 := hA.keep X3.warmed.alike (kp3 _ _ hA.1.1)
  have hne : b ≠ s.heap.size := hA.1.ne
  have c4 : Steps p.tables e below (s₁.setTop (entryFrame m #[.ref b, .int (Int32.ofNat o), .int (Int32.ofNat len)] 6)) (T3.setTop (mkF m 3 #[.val (.ref b), .val (.int (Int32.ofNat o)), .val (.int (Int32.ofNat len)), .unset, .unset, .unset] [.ref s.heap.size])) := c2.trans (st3 _ (Steps.refl _))
  have c5 : Steps p.tables e below (s₁.setTop (entryFrame m #[.ref b, .int (Int32.ofNat o), .int (Int32.ofNat len)] 6)) (T3.setTop (mkF m 9 #[.val (.ref b), .val (.int (Int32.ofNat o)), .val (.int (Int32.ofNat len)), .val (.ref s.heap.size), .unset, .unset] [.int (Int32.ofNat len), .int 0, .ref s.heap.size, .int (Int32.ofNat o), .ref b])) := c4.trans (by
    refine XS.astoreN X3.here hexec rfl (hb hbytes d3) rfl rfl rfl ?_
    refine XS.aloadN X3.here hexec rfl (hb hbytes d4) rfl rfl ?_
    refine XS.iloadN X3.here hexec rfl (hb hbytes d5) rfl ?_
    refine XS.aloadN X3.here hexec rfl (hb hbytes d6) rfl rfl ?_
    refine iconstV X3.here hexec rfl 0 (hb hbytes d7) (by decide) ?_
    refine XS.iloadN X3.here hexec rfl (hb hbytes d8) rfl ?_
    exact Steps.refl _)
  obtain ⟨v6, T6, X6, E6, g6⟩ := X3.callS hexec (Cmp5.law l b A s.heap.size B3 o 0 len) hown (wks W (staticW U16 115 Cmp5.yN)) (wk W Cmp5.tab) (W := 0) (Nat.le_of_ble_eq_true rfl) (Nat.le_of_ble_eq_true rfl) (Nat.le_refl _) (by show 0 + len + 0 ≤ len; omega) (g := (mkF m 9 #[.val (.ref b), .val (.int (Int32.ofNat o)), .val (.int (Int32.ofNat len)), .val (.ref s.heap.size), .unset, .unset] [.int (Int32.ofNat len), .int (Int32.ofNat 0), .ref s.heap.size, .int (Int32.ofNat o), .ref b])) rfl (by rw [hml]; rfl) c5 (argsL := [.ref b, .int (Int32.ofNat o), .ref s.heap.size, .int (Int32.ofNat 0), .int (Int32.ofNat len)]) (rest := []) rfl rfl (by show 2 * 0 + 0 ≤ _; decide) (hb hbytes d9) (⟨rfl, hA3, ba3, hne, l1, by rw [bs3]; simp, hp⟩)
  obtain ⟨rfl, B6, p6, f6⟩ := E6
  have c7 : Steps p.tables e below (s₁.setTop (entryFrame m #[.ref b, .int (Int32.ofNat o), .int (Int32.ofNat len)] 6)) (T6.setTop (mkF m 12 #[.val (.ref b), .val (.int (Int32.ofNat o)), .val (.int (Int32.ofNat len)), .val (.ref s.heap.size), .unset, .unset] [.int (Int32.ofNat len)])) := g6
  have c8 : Steps p.tables e below (s₁.setTop (entryFrame m #[.ref b, .int (Int32.ofNat o), .int (Int32.ofNat len)] 6)) (T6.setTop (mkF m 58 #[.val (.ref b), .val (.int (Int32.ofNat o)), .val (.int (Int32.ofNat len)), .val (.ref s.heap.size), .val (.int (Int32.ofNat len)), .unset] [.ref s.heap.size])) := c7.trans (by
    refine XS.istore X6.here hexec rfl (hb hbytes d12) rfl rfl ?_
    refine XS.iload X6.here hexec rfl (hb hbytes d14) rfl ?_
    refine XS.iloadN X6.here hexec rfl (hb hbytes d16) rfl ?_
    refine XS.icmpYes X6.here hexec rfl (pc0 := 17) rfl (hb hbytes d17) rfl (ii_eq_t rfl) (by decide) rfl ?_
    refine XS.aloadN X6.here hexec rfl (hb hbytes d57) rfl rfl ?_
    exact Steps.refl _)
  have X8 := X6.wide (L' := []) (cells' := 1) (slots' := len) (fun x hx hlt => by
    simp only [List.nil_append, copyLocs, List.mem_map, List.mem_range] at hx
    obtain ⟨i, -, rfl⟩ := hx
    exact absurd hlt (Nat.lt_irrefl _)) (Nat.le_refl _) (by omega)
  exact ⟨T6, some (.ref s.heap.size), _, _, _, X8, rfl, rfl, rfl, (fun h => by cases h), ⟨⟨rfl, B6, ba3.like (X3.warmed.alike.symm.trans X6.warmed.alike) p6.1 f6.1 f6.2.1 f6.2.2.1, f6.2.1.trans bv3, by rw [X6.warmed.alike.findClass, f6.1]; exact bf3, by rw [f6.2.2.1, bs3]; simp, fun j hj => by rw [f6.2.2.2 j, if_pos (by omega)]; rfl, kp3.put p6 (Nat.le_refl _)⟩, by rw [p6.2.2, bh3, hh0]; simp⟩, fun fs hl => c8.trans (X8.areturnOut hexec rfl hret rfl (hb hbytes d58) hl)⟩
end Cmp3
namespace CodL
def yN : MethodName := ⟨"java/lang/StringUTF16", "coderFromArrayLen", "([BI)B"⟩
abbrev yB : ByteArray := jdk_52_method_15_code
theorem d0 : decode yB 0 = .ok (.iload_n 1, 1) := by decide +kernel
theorem d1 : decode yB 1 = .ok (.aload_n 0, 1) := by decide +kernel
theorem d2 : decode yB 2 = .ok (.arraylength, 1) := by decide +kernel
theorem d3 : decode yB 3 = .ok (.isub, 1) := by decide +kernel
theorem d4 : decode yB 4 = .ok (.bipush 31, 2) := by decide +kernel
theorem d6 : decode yB 6 = .ok (.iushr, 1) := by decide +kernel
theorem d7 : decode yB 7 = .ok (.i2b, 1) := by decide +kernel
theorem d8 : decode yB 8 = .ok (.ireturn, 1) := by decide +kernel
def site : List Cond := []
def tab : Cond := tabOf yN yB 2 (some .byte) site
def P (d : Addr) (B : Cell) (args : Array Value) (s : State) : Prop := args = #[.ref d, .int (Int32.ofNat B.slots.size)] ∧ Arr .byte d B s
def E (r : Option Value) (s u : State) : Prop := XT.PureE (some (.int 0)) r s u
/-- an array as long as the number of chars: LATIN1 -/
theorem law (l : Launch) (d : Addr) (B : Cell) : Law l yN 2 2 0 0 yB 2 (some .byte) site (P d B) E [] 0 0 := by
  refine Law.of_walk (plainFor_of_name (by decide +kernel)) (by decide +kernel) (by decide +kernel) (by decide) (fun _ _ h => by rw [h.1]; rfl) (fun _ U U' hal hh h => ⟨h.1, h.2.mv hal hh⟩) (fun r U U' V V' h1 hal h2 h => XT.PureE.mv r U U' V V' h1 hal h2 h) ?_
  intro p e s m args below meth c s₁ X0 hexec hbytes hml hret hlk hnm hown hh0 W hP
  obtain ⟨rfl, hB⟩ := hP
  have hB0 := hB.mv X0.warmed.alike hh0
  have c1 : Steps p.tables e below (s₁.setTop (entryFrame m #[.ref d, .int (Int32.ofNat B.slots.size)] 2)) (s₁.setTop (mkF m 0 #[.val (.ref d), .val (.int (Int32.ofNat B.slots.size))] [])) := entry rfl
  have c2 : Steps p.tables e below (s₁.setTop (entryFrame m #[.ref d, .int (Int32.ofNat B.slots.size)] 2)) (s₁.setTop (mkF m 2 #[.val (.ref d), .val (.int (Int32.ofNat B.slots.size))] [.ref d, .int (Int32.ofNat B.slots.size)])) := c1.trans (by
    refine XS.iloadN X0.here hexec rfl (hb hbytes d0) rfl ?_
    refine XS.aloadN X0.here hexec rfl (hb hbytes d1) rfl rfl ?_
    exact Steps.refl _)
  have c3 : Steps p.tables e below (s₁.setTop (entryFrame m #[.ref d, .int (Int32.ofNat B.slots.size)] 2)) (s₁.setTop (mkF m 8 #[.val (.ref d), .val (.int (Int32.ofNat B.slots.size))] [.int (lo8 (ushr (Int32.ofNat B.slots.size - Int32.ofNat B.slots.size) 31))])) := c2.trans (by
    refine X0.alen hexec hB0 rfl rfl (hb hbytes d2) ?_
    refine XS.isub X0.here hexec rfl (hb hbytes d3) rfl ?_
    refine bipushV X0.here hexec rfl 31 (hb hbytes d4) (by decide) ?_
    refine iushr X0.here hexec rfl (hb hbytes d6) rfl ?_
    refine i2b X0.here hexec rfl (hb hbytes d7) rfl ?_
    exact Steps.refl _)
  have e0 : lo8 (ushr (Int32.ofNat B.slots.size - Int32.ofNat B.slots.size) 31) = 0 := by rw [Int32.sub_self]; decide
  rw [e0] at c3
  exact ⟨s₁, some (.int 0), _, _, _, X0, rfl, rfl, rfl, (fun h => by cases h), ⟨rfl, hh0⟩, fun fs hl => c3.trans (X0.ireturnOut hexec hret rfl (Or.inr (Or.inr (Or.inl rfl))) (hb hbytes d8) hl)⟩
end CodL
/-- the String at a is Latin-1 over a new byte[] (the heap's one new cell): the low bytes of the len chars of A from o on; every cell but a is kept -/
def Got (a : Addr) (D : Cell) (fV fC : Field) (A : Cell) (o len : Nat) (r : Option Value) (s u : State) : Prop := r = none ∧ ∃ D' V : Cell, Blank "java/lang/String" a D' u ∧ Same D D' [fV.slot, fC.slot] ∧ D'.slots[fV.slot]? = some (.ref s.heap.size) ∧ D'.slots[fC.slot]? = some (.int 0) ∧ Arr .byte s.heap.size V u ∧ V.vm = .none ∧ u.vm.findClass "[B" = some V.cls ∧ V.slots.size = len ∧ (∀ j, j < len → V.slots[j]? = some (.int (lo8 (cv A (o + j))))) ∧ (∀ (y : Addr) (c : Cell), y ≠ a → s.heap[y]? = some c → u.heap[y]? = some c) ∧ u.heap.size = s.heap.size + 1
theorem Got.mv {a : Addr} {D A : Cell} {fV fC : Field} {o len : Nat} : ∀ r (U U' V V' : State), U'.heap = U.heap → V.vm.Alike V'.vm → V'.heap = V.heap → Got a D fV fC A o len r U V → Got a D fV fC A o len r U' V' :=
  fun r U U' V V' h1 hal h2 ⟨e0, D', X, a1, a2, a3, a4, a5, a6, a7, a8, a9, a10, a11⟩ => ⟨e0, D', X, a1.mv hal h2, a2, by rw [h1]; exact a3, a4, by rw [h1]; exact a5.mv hal h2, a6, by rw [hal.findClass]; exact a7, a8, a9, by rw [h1, h2]; exact a10, by rw [h1, h2]; exact a11⟩
namespace New4
def yN : MethodName := ⟨"java/lang/String", "<init>", "([CIILjava/lang/Void;)V"⟩
abbrev yB : ByteArray := jdk_42_method_149_code
theorem d0 : decode yB 0 = .ok (.aload_n 0, 1) := by decide +kernel
theorem d1 : decode yB 1 = .ok (.invokespecial 1, 3) := by decide +kernel
theorem d4 : decode yB 4 = .ok (.iload_n 3, 1) := by decide +kernel
theorem d5 : decode yB 5 = .ok (.ifCond (.ne) 22, 3) := by decide +kernel
theorem d27 : decode yB 27 = .ok (.getstatic 38, 3) := by decide +kernel
theorem d30 : decode yB 30 = .ok (.ifCond (.eq) 28, 3) := by decide +kernel
theorem d33 : decode yB 33 = .ok (.aload_n 1, 1) := by decide +kernel
theorem d34 : decode yB 34 = .ok (.iload_n 2, 1) := by decide +kernel
theorem d35 : decode yB 35 = .ok (.iload_n 3, 1) := by decide +kernel
theorem d36 : decode yB 36 = .ok (.invokestatic 177, 3) := by decide +kernel
theorem d39 : decode yB 39 = .ok (.astore 5, 2) := by decide +kernel
theorem d41 : decode yB 41 = .ok (.aload_n 0, 1) := by decide +kernel
theorem d42 : decode yB 42 = .ok (.aload 5, 2) := by decide +kernel
theorem d44 : decode yB 44 = .ok (.iload_n 3, 1) := by decide +kernel
theorem d45 : decode yB 45 = .ok (.invokestatic 47, 3) := by decide +kernel
theorem d48 : decode yB 48 = .ok (.putfield 15, 3) := by decide +kernel
theorem d51 : decode yB 51 = .ok (.aload_n 0, 1) := by decide +kernel
theorem d52 : decode yB 52 = .ok (.aload 5, 2) := by decide +kernel
theorem d54 : decode yB 54 = .ok (.putfield 9, 3) := by decide +kernel
theorem d57 : decode yB 57 = .ok (.return_, 1) := by decide +kernel
def site : List Cond := [.fieldLink "java/lang/String" 38 "java/lang/String" "COMPACT_STRINGS" "Z", Cmp3.tab, CodL.tab, .laysFinal "java/lang/String" "java/lang/String" "value" "[B", .fieldLink "java/lang/String" 9 "java/lang/String" "value" "[B", .laysFinal "java/lang/String" "java/lang/String" "coder" "B", .fieldLink "java/lang/String" 15 "java/lang/String" "coder" "B"] ++ objW "java/lang/String" 1 ++ staticW "java/lang/String" 177 Cmp3.yN ++ staticW "java/lang/String" 47 CodL.yN
def tab : Cond := tabOf yN yB 6 none site
def P (a : Addr) (D : Cell) (fV fC : Field) (b : Addr) (A : Cell) (z : Int32) (o len : Nat) (args : Array Value) (s : State) : Prop := args = #[.ref a, .ref b, .int (Int32.ofNat o), .int (Int32.ofNat len), .null] ∧ Blank "java/lang/String" a D s ∧ Found "java/lang/String" "value" "[B" fV s ∧ Found "java/lang/String" "coder" "B" fC s ∧ Ch b A s ∧ StaticIs s "java/lang/String" "COMPACT_STRINGS" "Z" (.int z) ∧ ¬ z = 0 ∧ 0 < len ∧ o + len ≤ A.slots.size ∧ len ≤ 536870912 ∧ ∀ i, i < len → ¬ 255 < cv A (o + i)
def E (a : Addr) (D : Cell) (fV fC : Field) (A : Cell) (o len : Nat) (r : Option Value) (s u : State) : Prop := Got a D fV fC A o len r s u
/-- len > 0, no char of the range above 255: a Latin-1 String of their low bytes -/
theorem law (l : Launch) (a : Addr) (D : Cell) (fV fC : Field) (b : Addr) (A : Cell) (z : Int32) (o len : Nat) : Law l yN 5 4 2 35 yB 6 none site (P a D fV fC b A z o len) (E a D fV fC A o len) [⟨a, fC.slot⟩, ⟨a, fV.slot⟩] 1 len := by
  refine Law.of_walk (plainFor_of_name (by decide +kernel)) (by decide +kernel) (by decide +kernel) (by decide) (fun _ _ h => by rw [h.1]; rfl) (fun _ U U' hal hh h => ⟨h.1, h.2.1.mv hal hh, h.2.2.1.al hal, h.2.2.2.1.al hal, h.2.2.2.2.1.mv hal hh, h.2.2.2.2.2.1.there hal hh, h.2.2.2.2.2.2⟩) (fun r U U' V V' h1 hal h2 h => Got.mv r U U' V V' h1 hal h2 h) ?_
  intro p e s m args below meth c s₁ X0 hexec hbytes hml hret hlk hnm hown hh0 W hP
  obtain ⟨rfl, hB, f1, f2, hA, s1, hz, l0, l1, l2, hp⟩ := hP
  have a31 := hA.1.2.2.2
  have c1 : Steps p.tables e below (s₁.setTop (entryFrame m #[.ref a, .ref b, .int (Int32.ofNat o), .int (Int32.ofNat len), .null] 6)) (s₁.setTop (mkF m 0 #[.val (.ref a), .val (.ref b), .val (.int (Int32.ofNat o)), .val (.int (Int32.ofNat len)), .val .null, .unset] [])) := entry rfl
  have c2 : Steps p.tables e below (s₁.setTop (entryFrame m #[.ref a, .ref b, .int (Int32.ofNat o), .int (Int32.ofNat len), .null] 6)) (s₁.setTop (mkF m 1 #[.val (.ref a), .val (.ref b), .val (.int (Int32.ofNat o)), .val (.int (Int32.ofNat len)), .val .null, .unset] [.ref a])) := c1.trans (by
    refine XS.aloadN X0.here hexec rfl (hb hbytes d0) rfl rfl ?_
    exact Steps.refl _)
  obtain ⟨T3, X3, q3, st3⟩ := X0.oinit hexec hown (wks W (objW "java/lang/String" 1)) (g := (mkF m 1 #[.val (.ref a), .val (.ref b), .val (.int (Int32.ofNat o)), .val (.int (Int32.ofNat len)), .val .null, .unset] [.ref a])) rfl (by rw [hml]; rfl) (rest := []) rfl (hb hbytes d1) (W := 0) (by show 2 * 0 + 0 ≤ _; decide) (Nat.le_of_ble_eq_true rfl) (Nat.le_of_ble_eq_true rfl)
  have hh3 := q3.trans hh0
  have c4 : Steps p.tables e below (s₁.setTop (entryFrame m #[.ref a, .ref b, .int (Int32.ofNat o), .int (Int32.ofNat len), .null] 6)) (T3.setTop (mkF m 27 #[.val (.ref a), .val (.ref b), .val (.int (Int32.ofNat o)), .val (.int (Int32.ofNat len)), .val .null, .unset] [])) := (c2.trans (st3 _ (Steps.refl _))).trans (by
    refine XS.iloadN X3.here hexec rfl (hb hbytes d4) rfl ?_
    refine XS.ifYes X3.here hexec rfl (pc0 := 5) rfl (hb hbytes d5) rfl (i0_ne_t (nz32 (by omega) l0)) (by decide) rfl ?_
    exact Steps.refl _)
  obtain ⟨T5, X5, q5, st5⟩ := X3.sget hexec hown (wk W (.fieldLink "java/lang/String" 38 "java/lang/String" "COMPACT_STRINGS" "Z")) s1 (fun _ _ h => by rw [hh3]; exact h) (g := (mkF m 27 #[.val (.ref a), .val (.ref b), .val (.int (Int32.ofNat o)), .val (.int (Int32.ofNat len)), .val .null, .unset] [])) rfl (hb hbytes d27)
  have hh5 := q5.trans hh3
  have c6 : Steps p.tables e below (s₁.setTop (entryFrame m #[.ref a, .ref b, .int (Int32.ofNat o), .int (Int32.ofNat len), .null] 6)) (T5.setTop (mkF m 30 #[.val (.ref a), .val (.ref b), .val (.int (Int32.ofNat o)), .val (.int (Int32.ofNat len)), .val .null, .unset] [.int z])) := c4.trans (st5 _ (Steps.refl _))
  have c7 : Steps p.tables e below (s₁.setTop (entryFrame m #[.ref a, .ref b, .int (Int32.ofNat o), .int (Int32.ofNat len), .null] 6)) (T5.setTop (mkF m 36 #[.val (.ref a), .val (.ref b), .val (.int (Int32.ofNat o)), .val (.int (Int32.ofNat len)), .val .null, .unset] [.int (Int32.ofNat len), .int (Int32.ofNat o), .ref b])) := c6.trans (by
    refine XS.ifNo X5.here hexec rfl (hb hbytes d30) rfl (i0_eq_f hz) ?_
    refine XS.aloadN X5.here hexec rfl (hb hbytes d33) rfl rfl ?_
    refine XS.iloadN X5.here hexec rfl (hb hbytes d34) rfl ?_
    refine XS.iloadN X5.here hexec rfl (hb hbytes d35) rfl ?_
    exact Steps.refl _)
  obtain ⟨v8, T8, X8, E8, g8⟩ := X5.callS hexec (Cmp3.law l b A o len) hown (wks W (staticW "java/lang/String" 177 Cmp3.yN)) (wk W Cmp3.tab) (W := 0) (Nat.le_of_ble_eq_true rfl) (Nat.le_of_ble_eq_true rfl) (Nat.le_refl _) (by show 0 + len ≤ len; omega) (g := (mkF m 36 #[.val (.ref a), .val (.ref b), .val (.int (Int32.ofNat o)), .val (.int (Int32.ofNat len)), .val .null, .unset] [.int (Int32.ofNat len), .int (Int32.ofNat o), .ref b])) rfl (by rw [hml]; rfl) c7 (argsL := [.ref b, .int (Int32.ofNat o), .int (Int32.ofNat len)]) (rest := []) rfl rfl (by show 2 * 0 + 0 ≤ _; decide) (hb hbytes d36) (⟨rfl, hA.mv X5.warmed.alike hh5, l1, l2, hp⟩)
  obtain ⟨e8, z8⟩ := E8
  obtain ⟨rfl, N, n1, n2, n3, n4, n5, n6⟩ := NewArr.mv _ T5 s _ _ hh5.symm (Vm.Alike.refl _) rfl e8
  rw [hh5] at z8
  have hB1 := hB.keep X8.warmed.alike (n6 _ _ hB.1)
  have hne : s.heap.size ≠ a := (Nat.ne_of_lt (Array.getElem?_eq_some_iff.mp hB.1).1).symm
  have c9 : Steps p.tables e below (s₁.setTop (entryFrame m #[.ref a, .ref b, .int (Int32.ofNat o), .int (Int32.ofNat len), .null] 6)) (T8.setTop (mkF m 39 #[.val (.ref a), .val (.ref b), .val (.int (Int32.ofNat o)), .val (.int (Int32.ofNat len)), .val .null, .unset] [.ref s.heap.size])) := g8
  have c10 : Steps p.tables e below (s₁.setTop (entryFrame m #[.ref a, .ref b, .int (Int32.ofNat o), .int (Int32.ofNat len), .null] 6)) (T8.setTop (mkF m 45 #[.val (.ref a), .val (.ref b), .val (.int (Int32.ofNat o)), .val (.int (Int32.ofNat len)), .val .null, .val (.ref s.heap.size)] [.int (Int32.ofNat N.slots.size), .ref s.heap.size, .ref a])) := by
    have hc : Steps p.tables e below (s₁.setTop (entryFrame m #[.ref a, .ref b, .int (Int32.ofNat o), .int (Int32.ofNat len), .null] 6)) (T8.setTop (mkF m 45 #[.val (.ref a), .val (.ref b), .val (.int (Int32.ofNat o)), .val (.int (Int32.ofNat len)), .val .null, .val (.ref s.heap.size)] [.int (Int32.ofNat len), .ref s.heap.size, .ref a])) := c9.trans (by
      refine XS.astore X8.here hexec rfl (hb hbytes d39) rfl rfl rfl ?_
      refine XS.aloadN X8.here hexec rfl (hb hbytes d41) rfl rfl ?_
      refine XS.aload X8.here hexec rfl (hb hbytes d42) rfl rfl ?_
      refine XS.iloadN X8.here hexec rfl (hb hbytes d44) rfl ?_
      exact Steps.refl _)
    rw [n4]; exact hc
  obtain ⟨v11, T11, X11, E11, g11⟩ := X8.callS hexec (CodL.law l s.heap.size N) hown (wks W (staticW "java/lang/String" 47 CodL.yN)) (wk W CodL.tab) (W := 1) (Nat.le_of_ble_eq_true rfl) (Nat.le_of_ble_eq_true rfl) (Nat.le_refl _) (by show 0 + len + 0 ≤ len; omega) (g := (mkF m 45 #[.val (.ref a), .val (.ref b), .val (.int (Int32.ofNat o)), .val (.int (Int32.ofNat len)), .val .null, .val (.ref s.heap.size)] [.int (Int32.ofNat N.slots.size), .ref s.heap.size, .ref a])) rfl (by rw [hml]; rfl) c10 (argsL := [.ref s.heap.size, .int (Int32.ofNat N.slots.size)]) (rest := [.ref a]) rfl rfl (by show 2 * 0 + (1 + 0) ≤ _; decide) (hb hbytes d45) (⟨rfl, n1⟩)
  obtain ⟨rfl, q11⟩ := E11
  have hB11 := hB1.mv (X8.warmed.alike.symm.trans X11.warmed.alike) q11
  have c12 : Steps p.tables e below (s₁.setTop (entryFrame m #[.ref a, .ref b, .int (Int32.ofNat o), .int (Int32.ofNat len), .null] 6)) (T11.setTop (mkF m 48 #[.val (.ref a), .val (.ref b), .val (.int (Int32.ofNat o)), .val (.int (Int32.ofNat len)), .val .null, .val (.ref s.heap.size)] [.int 0, .ref a])) := g11
  obtain ⟨T13, X13, p13, bl13, sl13, st13⟩ := X11.finit hexec hown (wk W (.fieldLink "java/lang/String" 15 "java/lang/String" "coder" "B")) (Or.inr ⟨_, (wk W (.laysFinal "java/lang/String" "java/lang/String" "coder" "B"))⟩) (Or.inl ⟨rfl, hnm⟩) f2 (Or.inl rfl) hB11 (t := .byte) (by decide +kernel) rfl (g := (mkF m 48 #[.val (.ref a), .val (.ref b), .val (.int (Int32.ofNat o)), .val (.int (Int32.ofNat len)), .val .null, .val (.ref s.heap.size)] [.int 0, .ref a])) rfl (rest := []) rfl (hb hbytes d48)
  have c14 : Steps p.tables e below (s₁.setTop (entryFrame m #[.ref a, .ref b, .int (Int32.ofNat o), .int (Int32.ofNat len), .null] 6)) (T13.setTop (mkF m 54 #[.val (.ref a), .val (.ref b), .val (.int (Int32.ofNat o)), .val (.int (Int32.ofNat len)), .val .null, .val (.ref s.heap.size)] [.ref s.heap.size, .ref a])) := (c12.trans (st13 _ (Steps.refl _))).trans (by
    refine XS.aloadN X13.here hexec rfl (hb hbytes d51) rfl rfl ?_
    refine XS.aload X13.here hexec rfl (hb hbytes d52) rfl rfl ?_
    exact Steps.refl _)
  obtain ⟨T15, X15, p15, bl15, sl15, st15⟩ := X13.finit hexec hown (wk W (.fieldLink "java/lang/String" 9 "java/lang/String" "value" "[B")) (Or.inr ⟨_, (wk W (.laysFinal "java/lang/String" "java/lang/String" "value" "[B"))⟩) (Or.inl ⟨rfl, hnm⟩) f1 (Or.inl rfl) bl13 (t := (.array .byte)) (by decide +kernel) rfl (g := (mkF m 54 #[.val (.ref a), .val (.ref b), .val (.int (Int32.ofNat o)), .val (.int (Int32.ofNat len)), .val .null, .val (.ref s.heap.size)] [.ref s.heap.size, .ref a])) rfl (rest := []) rfl (hb hbytes d54)
  have c16 : Steps p.tables e below (s₁.setTop (entryFrame m #[.ref a, .ref b, .int (Int32.ofNat o), .int (Int32.ofNat len), .null] 6)) (T15.setTop (mkF m 57 #[.val (.ref a), .val (.ref b), .val (.int (Int32.ofNat o)), .val (.int (Int32.ofNat len)), .val .null, .val (.ref s.heap.size)] [])) := c14.trans (st15 _ (Steps.refl _))
  have ap := apart (Or.inr ⟨_, (wk W (.laysFinal "java/lang/String" "java/lang/String" "value" "[B"))⟩) (Or.inr ⟨_, (wk W (.laysFinal "java/lang/String" "java/lang/String" "coder" "B"))⟩) f1 f2 (t₁ := .array .byte) (t₂ := .byte) (by decide +kernel) (by decide +kernel) (by decide)
  have al := X8.warmed.alike.symm.trans X15.warmed.alike
  have n7 : T11.heap[s.heap.size]? = some N := by rw [q11]; exact n1.1
  exact ⟨T15, none, _, _, _, X15, by simp, rfl, by omega, (fun _ => rfl), ⟨rfl, _, N, bl15, ((Same.refl D _).set _ (by simp)).set _ (by simp), sl15, (Cell.slots_setSlot_ne _ ap).trans sl13, n1.keep al (p15.other hne (p13.other hne n7)), n2, by rw [al.findClass]; exact n3, n4, n5, fun y c h1 h2 => p15.other h1 (p13.other h1 (by rw [q11]; exact n6 y c h2)), by rw [p15.2.2, p13.2.2, q11]; exact z8⟩, fun fs hl => c16.trans (X15.returnOut hexec hret (hb hbytes d57) hl)⟩
end New4
namespace New1
def yN : MethodName := ⟨"java/lang/String", "<init>", "([C)V"⟩
abbrev yB : ByteArray := jdk_42_method_3_code
theorem d0 : decode yB 0 = .ok (.aload_n 0, 1) := by decide +kernel
theorem d1 : decode yB 1 = .ok (.aload_n 1, 1) := by decide +kernel
theorem d2 : decode yB 2 = .ok (.iconst 0, 1) := by decide +kernel
theorem d3 : decode yB 3 = .ok (.aload_n 1, 1) := by decide +kernel
theorem d4 : decode yB 4 = .ok (.arraylength, 1) := by decide +kernel
theorem d5 : decode yB 5 = .ok (.aconst_null, 1) := by decide +kernel
theorem d6 : decode yB 6 = .ok (.invokespecial 27, 3) := by decide +kernel
theorem d9 : decode yB 9 = .ok (.return_, 1) := by decide +kernel
def site : List Cond := [New4.tab] ++ initW "java/lang/String" 27 New4.yN
def tab : Cond := tabOf yN yB 2 none site
def P (a : Addr) (D : Cell) (fV fC : Field) (b : Addr) (A : Cell) (z : Int32) (args : Array Value) (s : State) : Prop := args = #[.ref a, .ref b] ∧ Blank "java/lang/String" a D s ∧ Found "java/lang/String" "value" "[B" fV s ∧ Found "java/lang/String" "coder" "B" fC s ∧ Ch b A s ∧ StaticIs s "java/lang/String" "COMPACT_STRINGS" "Z" (.int z) ∧ ¬ z = 0 ∧ 0 < A.slots.size ∧ A.slots.size ≤ 536870912 ∧ ∀ i, i < A.slots.size → ¬ 255 < cv A i
def E (a : Addr) (D : Cell) (fV fC : Field) (A : Cell) (r : Option Value) (s u : State) : Prop := Got a D fV fC A 0 A.slots.size r s u
/-- new String(chars), not empty, no char above 255: a Latin-1 String of their low bytes -/
theorem law (l : Launch) (a : Addr) (D : Cell) (fV fC : Field) (b : Addr) (A : Cell) (z : Int32) : Law l yN 2 1 3 52 yB 2 none site (P a D fV fC b A z) (E a D fV fC A) [⟨a, fC.slot⟩, ⟨a, fV.slot⟩] 1 A.slots.size := by
  refine Law.of_walk (plainFor_of_name (by decide +kernel)) (by decide +kernel) (by decide +kernel) (by decide) (fun _ _ h => by rw [h.1]; rfl) (fun _ U U' hal hh h => ⟨h.1, h.2.1.mv hal hh, h.2.2.1.al hal, h.2.2.2.1.al hal, h.2.2.2.2.1.mv hal hh, h.2.2.2.2.2.1.there hal hh, h.2.2.2.2.2.2⟩) (fun r U U' V V' h1 hal h2 h => Got.mv r U U' V V' h1 hal h2 h) ?_
  intro p e s m args below meth c s₁ X0 hexec hbytes hml hret hlk hnm hown hh0 W hP
  obtain ⟨rfl, hB, f1, f2, hA, s1, hz, l0, l2, hp⟩ := hP
  have c1 : Steps p.tables e below (s₁.setTop (entryFrame m #[.ref a, .ref b] 2)) (s₁.setTop (mkF m 0 #[.val (.ref a), .val (.ref b)] [])) := entry rfl
  have c2 : Steps p.tables e below (s₁.setTop (entryFrame m #[.ref a, .ref b] 2)) (s₁.setTop (mkF m 6 #[.val (.ref a), .val (.ref b)] [.null, .int (Int32.ofNat A.slots.size), .int 0, .ref b, .ref a])) := c1.trans (by
    refine XS.aloadN X0.here hexec rfl (hb hbytes d0) rfl rfl ?_
    refine XS.aloadN X0.here hexec rfl (hb hbytes d1) rfl rfl ?_
    refine iconstV X0.here hexec rfl 0 (hb hbytes d2) (by decide) ?_
    refine XS.aloadN X0.here hexec rfl (hb hbytes d3) rfl rfl ?_
    refine X0.alen hexec (hA.1.mv X0.warmed.alike hh0) rfl rfl (hb hbytes d4) ?_
    refine XS.aconstNull X0.here hexec rfl (hb hbytes d5) ?_
    exact Steps.refl _)
  obtain ⟨v3, T3, X3, E3, g3⟩ := X0.callN hexec (New4.law l a D fV fC b A z 0 A.slots.size) rfl hown (wks W (initW "java/lang/String" 27 New4.yN)) (W New4.tab (by simp only [site, List.mem_cons, List.mem_append, true_or, or_true])) (W := 0) (Nat.le_of_ble_eq_true rfl) (Nat.le_of_ble_eq_true rfl) (Nat.le_refl _) (by show 0 + A.slots.size ≤ A.slots.size; omega) (g := (mkF m 6 #[.val (.ref a), .val (.ref b)] [.null, .int (Int32.ofNat A.slots.size), .int (Int32.ofNat 0), .ref b, .ref a])) rfl (by rw [hml]; rfl) c2 (argsL := [.ref b, .int (Int32.ofNat 0), .int (Int32.ofNat A.slots.size), .null]) (rest := []) rfl rfl (by show 2 * 0 + 0 ≤ _; decide) (hb hbytes d6) (⟨rfl, hB.mv X0.warmed.alike hh0, f1.al X0.warmed.alike, f2.al X0.warmed.alike, hA.mv X0.warmed.alike hh0, s1.there X0.warmed.alike hh0, hz, l0, by omega, l2, fun i hi => by rw [Nat.zero_add]; exact hp i hi⟩)
  have e0 := Got.mv _ s₁ s _ _ hh0.symm (Vm.Alike.refl _) rfl E3
  obtain rfl := e0.1
  have c4 : Steps p.tables e below (s₁.setTop (entryFrame m #[.ref a, .ref b] 2)) (T3.setTop (mkF m 9 #[.val (.ref a), .val (.ref b)] [])) := g3
  exact ⟨T3, none, _, _, _, X3, by simp, rfl, by omega, (fun _ => rfl), e0, fun fs hl => c4.trans (X3.returnOut hexec hret (hb hbytes d9) hl)⟩
theorem pays {l : Launch} {R : Room} {p : Program} {e : Env} {below : List Frame} {s : State} {sargs : Array Value} {len W : Nat} (a : Addr) (D : Cell) (fV fC : Field) (b : Addr) (A : Cell) (z : Int32) (htab : tab.before sargs s = true) (hfr : 4 ≤ R.frames) (hlo : W + 65 ≤ R.locals) :
    Back l R p e below s sargs yN len W (fun A₁ a₁ => A₁.cells + 1 ≤ R.cells ∧ A₁.slots + A.slots.size ≤ R.slots ∧ P a D fV fC b A z a₁ A₁.U) (fun A₁ _ v₁ B₁ => E a D fV fC A v₁ A₁.U B₁.U ∧ B₁.locs = A₁.locs ++ [⟨a, fC.slot⟩, ⟨a, fV.slot⟩] ∧ B₁.cells = A₁.cells + 1 ∧ B₁.slots = A₁.slots + A.slots.size) :=
  (law l a D fV fC b A z).pays htab hfr (by omega)
end New1
/-- the byte, read back as charAt reads it, is the char -/
theorem lo8_mask {x : Int32} (h0 : ¬ x < 0) (h1 : ¬ 255 < x) : lo8 x &&& 255 = x := by
  have t : ∀ k : Fin 256, lo8 (Int32.ofNat k.val) &&& 255 = Int32.ofNat k.val := by decide +kernel
  rw [Int32.lt_iff_toInt_lt] at h0 h1
  have e0 : (0 : Int32).toInt = 0 := rfl
  have e1 : (255 : Int32).toInt = 255 := rfl
  obtain ⟨k, hk⟩ : ∃ k : Nat, x.toInt = k := ⟨x.toInt.toNat, by omega⟩
  have hx : x = Int32.ofNat k := Int32.toInt_inj.mp (by rw [hk, Int32.toInt_ofNat_small (by omega)])
  rw [hx]
  exact t ⟨k, by omega⟩
end StrChars
namespace StrChars.Road
open Jvm Sem ClassFile Op Lib Jvm.Stand Jvm.Free Jvm.Free.XT
open Jvm.Lib.Cold (StaticIs)
abbrev ST : String := "java/lang/String"
/-- every table word that New1's law asks, flat -/
abbrev words : List Jvm.Cond := [.code New1.yN New1.yB 2 none, .initialized ST, .methodLink ST 27 New4.yN, .instanceMethod New4.yN,
  .code New4.yN New4.yB 6 none, .fieldLink ST 38 ST "COMPACT_STRINGS" "Z", .laysFinal ST ST "value" "[B", .fieldLink ST 9 ST "value" "[B", .laysFinal ST ST "coder" "B", .fieldLink ST 15 ST "coder" "B",
  .methodLink ST 1 Lib.objectInit, .instanceMethod Lib.objectInit, .code Lib.objectInit ⟨#[0xb1]⟩ 1 none, .methodLink ST 177 Cmp3.yN, .static Cmp3.yN, .methodLink ST 47 CodL.yN, .static CodL.yN,
  .code Cmp3.yN Cmp3.yB 6 (some (.array .byte)), .initialized U16, .arrayClass .byte, .methodLink U16 115 Cmp5.yN, .static Cmp5.yN, .code Cmp5.yN Cmp5.yB 7 (some .int), .code CodL.yN CodL.yB 2 (some .byte)]
theorem tab_of {a : Array Value} {s : State} (h : ∀ w ∈ words, w.before a s = true) : New1.tab.before a s = true := by
  have h5 : Cmp5.tab.before a s = true := unparts (wk h (.code Cmp5.yN Cmp5.yB 7 (some .int))) (wks h (.initialized Cmp5.yN.cls :: Cmp5.site))
  have hc : CodL.tab.before a s = true := unparts (wk h (.code CodL.yN CodL.yB 2 (some .byte))) (wks h (.initialized CodL.yN.cls :: CodL.site))
  have q5 : ∀ w ∈ Cmp5.tab :: words, w.before a s = true := fun w hw => (List.mem_cons.mp hw).elim (fun e => e ▸ h5) (h w)
  have h3 : Cmp3.tab.before a s = true := unparts (wk q5 (.code Cmp3.yN Cmp3.yB 6 (some (.array .byte)))) (wks q5 (.initialized Cmp3.yN.cls :: Cmp3.site))
  have q3 : ∀ w ∈ Cmp3.tab :: CodL.tab :: words, w.before a s = true := fun w hw => (List.mem_cons.mp hw).elim (fun e => e ▸ h3) fun hw => (List.mem_cons.mp hw).elim (fun e => e ▸ hc) (h w)
  have h4 : New4.tab.before a s = true := unparts (wk q3 (.code New4.yN New4.yB 6 none)) (wks q3 (.initialized New4.yN.cls :: New4.site))
  have q4 : ∀ w ∈ New4.tab :: words, w.before a s = true := fun w hw => (List.mem_cons.mp hw).elim (fun e => e ▸ h4) (h w)
  exact unparts (wk q4 (.code New1.yN New1.yB 2 none)) (wks q4 (.initialized New1.yN.cls :: New1.site))
/-- the words ride from the start Z to the walk's own state -/
theorem moved {Z s : State} {a0 args : Array Value} (hZ : Z.Warmed39 s.vm) (hw : ∀ d ∈ words, d.before a0 Z = true) : ∀ d ∈ words, d.before args s = true := fun d hd => by
  have q := hw d hd
  have t : ∀ d ∈ words, d = .arrayClass .byte ∨ (d.onTables && d.keepsFace) = true := by decide +kernel
  rcases t d hd with rfl | t
  · exact RoadKit.mvA hZ q
  · exact RoadKit.mv hZ q t
/-- WHAT COMES BACK, over the tables of the start Z: h the heap at the call, h' behind it -/
def Q (Z : State) (x : Addr) (A : Cell) (h : Heap) (v : Option Value) (h' : Heap) (L : List Loc) : Prop := v = none ∧ (∀ y ∈ L, y.base = x) ∧ RoadKit.Keep h h' [x] ∧ h'.size = h.size + 1 ∧ RoadKit.Exa Z h' x ST ∧ RoadKit.Fld Z h' x ST "value" "[B" (.ref h.size) ∧ RoadKit.Fld Z h' x ST "coder" "B" (.int 0) ∧
  (∃ V : Cell, RoadKit.Arr Z h' h.size V .byte ∧ V.vm = .none ∧ Z.vm.findClass "[B" = some V.cls ∧ V.slots.size = A.slots.size ∧ ∀ j, j < A.slots.size → V.slots[j]? = some (.int (lo8 (cv A j)))) ∧
  ∀ (O n d : String) (w : Value), RoadKit.Fld Z h x O n d w → RoadKit.slotOf Z O n d ≠ RoadKit.slotOf Z ST "value" "[B" → RoadKit.slotOf Z O n d ≠ RoadKit.slotOf Z ST "coder" "B" → RoadKit.Fld Z h' x O n d w
/-- **new String(chars) AT A CALL, IN THE ROAD'S FORM**: for specialBack behind newO: x the fresh String, b the char[] with the cell A -/
theorem back {p : Program} {l : Launch} {e : Env} {R : Room} {s : State} {args : Array Value} {below : List Frame} {len W : Nat} {Z : State} {a0 : Array Value} {h : Heap} (hZ : Z.Warmed39 s.vm) (hw : ∀ d ∈ words, d.before a0 Z = true) {kI : Nat} (wi : (Jvm.Cond.instantiable ST kI).before a0 Z = true)
    {x b : Addr} {A : Cell} {z : Int32} {v0 c0 : Value} (E : RoadKit.Exa Z h x ST) (V : RoadKit.Fld Z h x ST "value" "[B" v0) (C : RoadKit.Fld Z h x ST "coder" "B" c0) (K : RoadKit.Arr Z h b A .char) (hty : Typed .char A) (S : RoadKit.Sta Z h ST "COMPACT_STRINGS" "Z" (.int z)) (hz : ¬ z = 0)
    (l0 : 0 < A.slots.size) (l2 : A.slots.size ≤ 536870912) (hp : ∀ i, i < A.slots.size → ¬ 255 < cv A i) (hfr : 4 ≤ R.frames) (hlo : W + 65 ≤ R.locals) :
    Back l R p e below s args New1.yN len W (fun P a => a = #[.ref x, .ref b] ∧ P.U.heap = h ∧ P.cells + 1 ≤ R.cells ∧ P.slots + A.slots.size ≤ R.slots)
      (fun P _ v B => ∃ L, Q Z x A h v B.U.heap L ∧ B.locs = P.locs ++ L ∧ B.cells = P.cells + 1 ∧ B.slots = P.slots + A.slots.size) := by
  intro m meth c P g ig mk a X hg hsize hdg hW hn hp'
  obtain ⟨rfl, rfl, r1, r2⟩ := hp'
  have al : Z.vm.Alike P.U.vm := hZ.alike.trans X.warmed.alike
  obtain ⟨D, cfV, kV, iV, fV, hD, gV, stV, knV, obV, asV, slV⟩ := id V
  obtain ⟨D', cfC, kC, iC, fC, hD', gC, stC, -, -, asC, slC⟩ := id C
  cases hD.symm.trans hD'
  obtain ⟨D2, kD, e1, e2, e3, e4, e5⟩ := id E
  cases hD.symm.trans e1
  obtain ⟨c2, k2, i1, i2, i3, -⟩ := Cond.instantiable_spec wi
  cases e2.symm.trans i1
  cases e3.symm.trans i2
  obtain ⟨kU, u1, u2⟩ := al.2.2 _ _ e3
  have hB : Blank ST x D P.U := ⟨hD, ⟨knV, fun q hq => by rw [hq] at obV; cases obV⟩, by rw [al.findClass]; exact e2, kU, u1, by rw [u2]; exact i3, by rw [u2]; exact e5 i3⟩
  have F1 : Found ST "value" "[B" fV P.U := ⟨SBG.found_only al ⟨cfV, kV, iV, gV⟩, stV⟩
  have F2 : Found ST "coder" "B" fC P.U := ⟨SBG.found_only al ⟨cfC, kC, iC, gC⟩, stC⟩
  have hA : Ch b A P.U := ⟨⟨K.1, State.isArrayOf_alike al K.2.1, K.2.2, by omega⟩, hty⟩
  have hS : StaticIs P.U ST "COMPACT_STRINGS" "Z" (.int z) := by
    obtain ⟨cfS, iS, kS, fS, st, cS, t1, t2, t3, t4, t5, t6, t7⟩ := S
    exact StaticIs.there (s := { Z with heap := P.U.heap }) ⟨cfS, iS, kS, fS, st, cS, t1, t2, t3, t4, t5, (fun q => by rw [q] at t6; cases t6), t7⟩ al rfl
  obtain ⟨v, B, X', ⟨⟨hv, E', V', q1, q2, q3, q4, q5, q6, q7, q8, q9, q10, q11⟩, hl, hc, hs⟩, st⟩ := New1.pays x D fV fC b A z (tab_of (moved hZ hw)) hfr hlo m meth c P g ig mk _ X hg hsize hdg hW hn ⟨r1, r2, rfl, hB, F1, F2, hA, hS, hz, l0, l2, hp⟩
  have al' : Z.vm.Alike B.U.vm := hZ.alike.trans X'.warmed.alike
  have hsz : E'.slots.size = D.slots.size := by
    obtain ⟨-, -, -, kB, w1, w2, w3⟩ := q1
    obtain ⟨kB', y1, y2⟩ := al'.2.2 _ _ e3
    rw [q2.2.1] at w1
    cases w1.symm.trans y1
    rw [w3, e5 i3, y2]
  refine ⟨v, B, X', ⟨_, ⟨hv, ?_, ⟨by omega, fun y cy hy hn' => q10 y cy (by simpa using hn') hy, fun y cy hy => ?_⟩, q11, ⟨E', _, q1.1, by rw [q2.2.1]; exact e2, by rw [q2.2.1]; exact e3, by rw [q2.1]; exact obV, fun _ => by rw [hsz]; exact e5 i3⟩,
    ⟨E', cfV, kV, iV, fV, q1.1, gV, stV, by rw [q2.1]; exact knV, by rw [q2.1]; exact obV, by rw [q2.2.1]; exact asV, q3⟩, ⟨E', cfC, kC, iC, fC, q1.1, gC, stC, by rw [q2.1]; exact knV, by rw [q2.1]; exact obV, by rw [q2.2.1]; exact asC, q4⟩,
    ⟨V', ⟨q5.1, State.isArrayOf_alike al'.symm q5.2.1, q5.2.2.1⟩, q6, by rw [← al'.findClass]; exact q7, q8, fun j hj => by have := q9 j hj; rwa [Nat.zero_add] at this⟩, fun O n d w F n1 n2 => ?_⟩, hl, hc, hs⟩, st⟩
  · intro y hy
    simp only [List.mem_cons, List.not_mem_nil, or_false] at hy
    rcases hy with rfl | rfl <;> rfl
  · by_cases q : y = x
    · subst q
      cases hD.symm.trans hy
      exact ⟨E', q1.1, q2.2.1, q2.1, hsz⟩
    · exact ⟨cy, q10 y cy q hy, rfl, rfl, rfl⟩
  · obtain ⟨D3, cf, k, i, f, g1, g2, g3, g4, g5, g6, g7⟩ := F
    cases hD.symm.trans g1
    simp only [RoadKit.slotOf, g2, gV, gC, Option.map_some, Option.getD_some] at n1 n2
    exact ⟨E', cf, k, i, f, q1.1, g2, g3, by rw [q2.1]; exact g4, by rw [q2.1]; exact g5, by rw [q2.2.1]; exact g6, by rw [q2.2.2 f.slot (by simp [n1, n2])]; exact g7⟩
end StrChars.Road
namespace StrChars.Road
open Jvm Sem ClassFile Op Lib Jvm.Stand Jvm.Free Jvm.Free.XT
/-- WHAT COMES BACK, the byte[] as a list of values -/
def QA (Z : State) (x : Addr) (zn : Int32) (cs : List Int32) (h : Heap) (v : Option Value) (h' : Heap) (L : List Loc) : Prop := v = none ∧ (∀ y ∈ L, y.base = x) ∧ RoadKit.Keep h h' [x] ∧ h'.size = h.size + 1 ∧ RoadKit.Exa Z h' x ST ∧ RoadKit.Fld Z h' x ST "value" "[B" (.ref h.size) ∧ RoadKit.Fld Z h' x ST "coder" "B" (.int 0) ∧
  (∃ kb, Z.vm.findClass "[B" = some kb ∧ RoadKit.Arv Z h' h.size kb .byte zn (cs.map fun c => .int (lo8 c)) (.int 0)) ∧
  ∀ (O n d : String) (w : Value), RoadKit.Fld Z h x O n d w → RoadKit.slotOf Z O n d ≠ RoadKit.slotOf Z ST "value" "[B" → RoadKit.slotOf Z O n d ≠ RoadKit.slotOf Z ST "coder" "B" → RoadKit.Fld Z h' x O n d w
/-- **new String(chars) AT A CALL, THE ARRAYS AS LISTS**: the char[] at b holds cs, not empty, no char above 255 -/
theorem backArv {p : Program} {l : Launch} {e : Env} {R : Room} {s : State} {args : Array Value} {below : List Frame} {len W : Nat} {Z : State} {a0 : Array Value} {h : Heap} (hZ : Z.Warmed39 s.vm) (hw : ∀ d ∈ words, d.before a0 Z = true) {kI : Nat} (wi : (Jvm.Cond.instantiable ST kI).before a0 Z = true)
    {x b : Addr} {k : ClassId} {zn z : Int32} {cs : List Int32} {dv v0 c0 : Value} (E : RoadKit.Exa Z h x ST) (V : RoadKit.Fld Z h x ST "value" "[B" v0) (C : RoadKit.Fld Z h x ST "coder" "B" c0) (K : RoadKit.Arv Z h b k .char zn (cs.map Value.int) dv) (S : RoadKit.Sta Z h ST "COMPACT_STRINGS" "Z" (.int z)) (hz : ¬ z = 0)
    (hlen : zn.toNatClampNeg = cs.length) (h0 : 0 < cs.length) (hbig : cs.length ≤ 536870912) (hall : ∀ c ∈ cs, ¬ 255 < c) (hfr : 4 ≤ R.frames) (hlo : W + 65 ≤ R.locals) :
    Back l R p e below s args New1.yN len W (fun P a => a = #[.ref x, .ref b] ∧ P.U.heap = h ∧ P.cells + 1 ≤ R.cells ∧ P.slots + cs.length ≤ R.slots)
      (fun P _ v B => ∃ L, QA Z x zn cs h v B.U.heap L ∧ B.locs = P.locs ++ L ∧ B.cells = P.cells + 1 ∧ B.slots = P.slots + cs.length) := by
  obtain ⟨A, K1, K2, K3, K4, K5, K6⟩ := K
  have e : A.slots.size = cs.length := K3.trans hlen
  have hat : ∀ (i : Nat) (hi : i < cs.length), A.slots[i]? = some (.int cs[i]) := fun i hi => by rw [K5 i (by omega)]; simp [List.getD_eq_getElem?_getD, hi]
  have hcv : ∀ (i : Nat) (hi : i < cs.length), cv A i = cs[i] := fun i hi => by unfold cv; rw [hat i hi]
  have hty : Typed .char A := fun i v hv => by
    have hi : i < A.slots.size := (Array.getElem?_eq_some_iff.mp hv).1
    have q := K5 i hi
    rw [hv] at q
    rw [Option.some.inj q]
    exact K6 i hi
  refine Back.mono (back hZ hw wi E V C K1 hty S hz (by omega) (by omega) (fun i hi => by rw [hcv i (by omega)]; exact hall _ (List.getElem_mem _)) hfr hlo) (fun P a hp => ⟨hp.1, hp.2.1, hp.2.2.1, by rw [e]; exact hp.2.2.2⟩) (fun P a v B hp hq => ?_)
  obtain ⟨L, ⟨q1, q2, q3, q4, q5, q6, q7, ⟨V', v1, v2, v3, v4, v5⟩, q9⟩, hl, hc, hs⟩ := hq
  refine ⟨L, ⟨q1, q2, q3, q4, q5, q6, q7, ⟨V'.cls, v3, V', v1, rfl, by rw [v4, e, hlen], K4, fun i hi => ?_, fun i hi => ?_⟩, q9⟩, hl, hc, by rw [hs, e]⟩
  · have hi' : i < cs.length := by omega
    rw [v5 i (by omega), hcv i hi']; simp [List.getD_eq_getElem?_getD, hi']
  · have hi' : i < cs.length := by omega
    simp only [List.getD_eq_getElem?_getD, List.getElem?_map, List.getElem?_eq_getElem hi', Option.map_some, Option.getD_some]
    exact fits_lo8 _
end StrChars.Road
namespace StrChars.Road
open Jvm Sem ClassFile Op Lib Jvm.Stand Jvm.Free Jvm.Free.XT
/-- WHAT COMES BACK, in the writer's own shape -/
def QV (Z : State) (x : Addr) (N : Int32) (bs : List Int32) (h : Heap) (n0 : Nat) (v : Option Value) (h' : Heap) (L : List Loc) : Prop := v = none ∧ RoadKit.Fr n0 L ∧ RoadKit.Keep h h' [x] ∧ RoadKit.Exa Z h' x ST ∧ RoadKit.Fld Z h' x ST "coder" "B" (.int 0) ∧
  ∃ (t : Addr) (kb : ClassId), n0 ≤ t ∧ h.size ≤ t ∧ ¬ t = x ∧ RoadKit.Fld Z h' x ST "value" "[B" (.ref t) ∧ RoadKit.Arv Z h' t kb .byte N (bs.map Value.int) (.int 0)
/-- **new String(chars) AT A CALL, FOR THE WRITER**: a char[] of n known ints, each 0 to 255 -/
theorem backV {p : Program} {l : Launch} {e : Env} {R : Room} {s : State} {args : Array Value} {below : List Frame} {len W : Nat} {Z : State} {a0 : Array Value} {h : Heap} (hZ : Z.Warmed39 s.vm) (hw : ∀ d ∈ words, d.before a0 Z = true) {kI : Nat} (wi : (Jvm.Cond.instantiable ST kI).before a0 Z = true)
    {x b : Addr} {kC : ClassId} {cs bs : List Int32} {d v0 c0 : Value} {z N : Int32} {n n0 : Nat} (hx0 : n0 ≤ x) (hh0 : n0 ≤ h.size) (E : RoadKit.Exa Z h x ST) (V : RoadKit.Fld Z h x ST "value" "[B" v0) (C : RoadKit.Fld Z h x ST "coder" "B" c0) (K : RoadKit.Arv Z h b kC .char N (cs.map Value.int) d) (S : RoadKit.Sta Z h ST "COMPACT_STRINGS" "Z" (.int z)) (hz : ¬ z = 0)
    (hn : cs.length = n) (hN : N = Int32.ofNat n) (l0 : 0 < n) (l2 : n ≤ 4000) (hp : ∀ c ∈ cs, ¬ c < 0 ∧ ¬ (255 : Int32) < c) (hb : bs = cs.map (fun c => c.toInt8.toInt32)) (hfr : 4 ≤ R.frames) (hlo : W + 65 ≤ R.locals) :
    Back l R p e below s args (⟨"java/lang/String", "<init>", "([C)V"⟩ : MethodName) len W (fun P a => a = #[.ref x, .ref b] ∧ P.U.heap = h ∧ P.cells + 1 ≤ R.cells ∧ P.slots + n ≤ R.slots)
      (fun P _ v B => ∃ L, QV Z x N bs h n0 v B.U.heap L ∧ B.locs = P.locs ++ L ∧ B.cells = P.cells + 1 ∧ B.slots = P.slots + n) := by
  subst hn hN hb
  refine Back.mono (backArv hZ hw wi E V C K S hz (n32 (by omega)) l0 (by omega) (fun c hc => (hp c hc).2) hfr hlo) (fun P a hp => hp) (fun P a v B hp hq => ?_)
  obtain ⟨L, ⟨q1, q2, q3, q4, q5, q6, q7, ⟨kb, v1, v2⟩, q9⟩, hl, hc, hs⟩ := hq
  exact ⟨L, ⟨q1, fun y hy => by rw [q2 y hy]; exact hx0, q3, q5, q7, h.size, kb, hh0, Nat.le_refl _, Nat.ne_of_gt E.lt, q6, by rw [List.map_map]; exact v2⟩, hl, hc, hs⟩
end StrChars.Road
namespace StrChars
open Jvm Sem ClassFile Op Lib Jvm.Stand Jvm.Free.XT Jvm.Free.ALB Jvm.Free.JM Jvm.Free
open Jvm.Lib.Cold (StaticIs)
def hi8 (x : Int32) : Int32 := lo8 (x >>> ((8 : Int32) &&& 31))
/-- what StringUTF16.getChar makes of two bytes -/
def pairCh (u v : Int32) : Int32 := (((u &&& 255) <<< ((0 : Int32) &&& 31)) ||| ((v &&& 255) <<< ((8 : Int32) &&& 31))).toUInt32.toUInt16.toUInt32.toInt32
theorem shr0 (c : Int32) : c >>> ((0 : Int32) &&& 31) = c := by
  have e : ((0 : Int32) &&& 31) = 0 := by decide
  rw [e]
  apply Int32.toBitVec_inj.mp
  rw [Int32.toBitVec_shiftRight]
  have e1 : ((0 : Int32).toBitVec.smod 32) = 0#32 := by decide
  rw [e1, BitVec.sshiftRight_eq']
  exact BitVec.sshiftRight_zero
theorem lo8_and (x : Int32) : (lo8 x &&& 255).toBitVec.toNat = x.toBitVec.toNat % 256 := by
  have h : (lo8 x).toBitVec = (x.toBitVec.signExtend 8).signExtend 32 := by rw [lo8, Int8.toBitVec_toInt32, Int32.toBitVec_toInt8]
  rw [Int32.toBitVec_and, BitVec.toNat_and, h]
  have e : ((x.toBitVec.signExtend 8).signExtend 32).toNat % 256 = x.toBitVec.toNat % 256 := by
    rw [BitVec.toNat_signExtend]
    have hlt := x.toBitVec.isLt
    simp only [BitVec.toNat_setWidth, BitVec.toNat_signExtend]
    split <;> split <;> omega
  rw [← e]
  exact Nat.and_two_pow_sub_one_eq_mod _ 8
theorem pair_says {c : Int32} (h0 : ¬ c < 0) (h1 : ¬ 65535 < c) : pairCh (lo8 c) (hi8 c) = c := by
  rw [Int32.lt_iff_toInt_lt] at h0 h1
  have e0 : (0 : Int32).toInt = 0 := rfl
  have e1 : (65535 : Int32).toInt = 65535 := rfl
  have hc : c.toInt = c.toBitVec.toNat := by
    have := c.toBitVec.isLt
    have e : c.toInt = c.toBitVec.toInt := rfl
    rw [e] at h0 h1
    rw [e]
    rw [BitVec.toInt_eq_toNat_cond] at h0 h1 ⊢
    split at h0 <;> split <;> omega
  have hn : c.toBitVec.toNat < 65536 := by omega
  have a1 := lo8_and c
  have a2 : (hi8 c &&& 255).toBitVec.toNat = c.toBitVec.toNat / 256 := by
    rw [hi8, lo8_and]
    have e : ((8 : Int32) &&& 31) = 8 := by decide
    rw [e, Int32.toBitVec_shiftRight]
    have e2 : ((8 : Int32).toBitVec.smod 32) = 8#32 := by decide
    rw [e2, BitVec.sshiftRight_eq', BitVec.toNat_sshiftRight_of_msb_false (by rw [BitVec.msb_eq_false_iff_two_mul_lt]; omega)]
    show c.toBitVec.toNat >>> 8 % 256 = _
    rw [Nat.shiftRight_eq_div_pow]
    omega
  unfold pairCh
  apply Int32.toBitVec_inj.mp
  apply BitVec.eq_of_toNat_eq
  have f0 : ((0 : Int32) &&& 31) = 0 := by decide
  have f8 : ((8 : Int32) &&& 31) = 8 := by decide
  rw [f0, f8]
  have g : (((lo8 c &&& 255) <<< (0 : Int32)) ||| ((hi8 c &&& 255) <<< (8 : Int32))).toBitVec.toNat = c.toBitVec.toNat := by
    rw [Int32.toBitVec_or, Int32.toBitVec_shiftLeft, Int32.toBitVec_shiftLeft]
    have s0 : ((0 : Int32).toBitVec.smod 32) = 0#32 := by decide
    have s8 : ((8 : Int32).toBitVec.smod 32) = 8#32 := by decide
    rw [s0, s8, BitVec.toNat_or]
    simp only [BitVec.shiftLeft_eq', BitVec.toNat_shiftLeft, a1, a2]
    show (c.toBitVec.toNat % 256) <<< 0 % 2 ^ 32 ||| (c.toBitVec.toNat / 256) <<< 8 % 2 ^ 32 = _
    rw [Nat.shiftLeft_zero, Nat.mod_eq_of_lt (show c.toBitVec.toNat % 256 < 2 ^ 32 by omega), Nat.mod_eq_of_lt (show (c.toBitVec.toNat / 256) <<< 8 < 2 ^ 32 by rw [Nat.shiftLeft_eq]; omega), Nat.or_comm, ← Nat.shiftLeft_add_eq_or_of_lt (by omega), Nat.shiftLeft_eq]
    omega
  show BitVec.toNat (((((lo8 c &&& 255) <<< (0 : Int32)) ||| ((hi8 c &&& 255) <<< (8 : Int32))).toBitVec.setWidth 16).setWidth 32) = _
  rw [BitVec.toNat_setWidth, BitVec.toNat_setWidth, g]
  omega
end StrChars
namespace StrChars
open Jvm Sem ClassFile Op Lib Jvm.Stand Jvm.Free.XT Jvm.Free.ALB Jvm.Free.JM Jvm.Free
open Jvm.Lib.Cold (StaticIs)
theorem shr1 {n : Nat} (h : 2 * n < 2 ^ 31) : Int32.ofNat (2 * n) >>> ((1 : Int32) &&& 31) = Int32.ofNat n := by
  have e : ((1 : Int32) &&& 31) = 1 := by decide
  rw [e]
  apply Int32.toBitVec_inj.mp
  rw [Int32.toBitVec_shiftRight]
  have e1 : ((1 : Int32).toBitVec.smod 32) = 1#32 := by decide
  have hm : (BitVec.ofNat 32 (2 * n)).toNat = 2 * n := by rw [BitVec.toNat_ofNat, Nat.mod_eq_of_lt (by omega)]
  rw [e1, BitVec.sshiftRight_eq']
  apply BitVec.eq_of_toNat_eq
  show ((BitVec.ofNat 32 (2 * n)).sshiftRight 1).toNat = (BitVec.ofNat 32 n).toNat
  rw [BitVec.toNat_sshiftRight_of_msb_false (by rw [BitVec.msb_eq_false_iff_two_mul_lt, hm]; omega), hm, BitVec.toNat_ofNat, Nat.shiftRight_eq_div_pow]
  omega
/-- charAt's cast of a byte read back -/
def chr8 (u : Int32) : Int32 := (u &&& 255).toUInt32.toUInt16.toUInt32.toInt32
theorem chr8_lo8 {c : Int32} (h0 : ¬ c < 0) (h1 : ¬ 255 < c) : chr8 (lo8 c) = c := by
  have t : ∀ k : Fin 256, (Int32.ofNat k.val).toUInt32.toUInt16.toUInt32.toInt32 = Int32.ofNat k.val := by decide +kernel
  unfold chr8
  rw [lo8_mask h0 h1]
  rw [Int32.lt_iff_toInt_lt] at h0 h1
  have e0 : (0 : Int32).toInt = 0 := rfl
  have e1 : (255 : Int32).toInt = 255 := rfl
  obtain ⟨k, hk⟩ : ∃ k : Nat, c.toInt = k := ⟨c.toInt.toNat, by omega⟩
  have hx : c = Int32.ofNat k := Int32.toInt_inj.mp (by rw [hk, Int32.toInt_ofNat_small (by omega)])
  rw [hx]
  exact t ⟨k, by omega⟩
theorem narrow_ch {c : Int32} (h0 : ¬ c < 0) (h1 : ¬ 65535 < c) : narrow .char (.int c) = .int c := by
  have q : narrow .char (.int (pairCh (lo8 c) (hi8 c))) = .int (pairCh (lo8 c) (hi8 c)) := narrow_c _
  rwa [pair_says h0 h1] at q
/-- the array's cell V codes the n chars f 0 .. f (n - 1) by the coder cd, as the JDK does: coder 1 just where some char is above 255 -/
def Cod (cd : Int32) (n : Nat) (f : Nat → Int32) (V : Cell) : Prop := (cd = 0 ∧ V.slots.size = n ∧ ∀ j, j < n → V.slots[j]? = some (.int (lo8 (f j))) ∧ ¬ 255 < f j) ∨ (cd = 1 ∧ V.slots.size = 2 * n ∧ (∀ j, j < n → V.slots[2 * j]? = some (.int (lo8 (f j))) ∧ V.slots[2 * j + 1]? = some (.int (hi8 (f j)))) ∧ ∃ j, j < n ∧ 255 < f j)
theorem Cod.cd {cd : Int32} {n : Nat} {f : Nat → Int32} {V : Cell} (h : Cod cd n f V) : cd = 0 ∨ cd = 1 := h.imp (fun q => q.1) fun q => q.1
theorem Cod.len {cd : Int32} {n : Nat} {f : Nat → Int32} {V : Cell} (h : Cod cd n f V) (hs : V.slots.size < 2 ^ 31) : Int32.ofNat V.slots.size >>> (cd &&& 31) = Int32.ofNat n := by
  rcases h with ⟨rfl, h, -⟩ | ⟨rfl, h, -⟩
  · rw [shr0, h]
  · rw [h, shr1 (by omega)]
/-- **x is a String of the n chars f 0 .. f (n - 1)**, Latin-1 or UTF-16; its array at t has the cell V -/
def Txt (x t : Addr) (V : Cell) (cd : Int32) (n : Nat) (f : Nat → Int32) (U : State) : Prop := Exact "java/lang/String" x U ∧ Has x "java/lang/String" "value" "[B" (.ref t) U ∧ Has x "java/lang/String" "coder" "B" (.int cd) U ∧ XT.Arr .byte t V U ∧ Cod cd n f V ∧ ∀ j, j < n → ¬ f j < 0 ∧ ¬ 65535 < f j
theorem Txt.mv {x t : Addr} {V : Cell} {cd : Int32} {n : Nat} {f : Nat → Int32} {U U' : State} (h : Txt x t V cd n f U) (hal : U.vm.Alike U'.vm) (hh : U'.heap = U.heap) : Txt x t V cd n f U' := ⟨h.1.mv hal hh, h.2.1.mv hal hh, h.2.2.1.mv hal hh, h.2.2.2.1.mv hal hh, h.2.2.2.2⟩
namespace Cdr
def yN : MethodName := ⟨"java/lang/String", "coder", "()B"⟩
abbrev yB : ByteArray := jdk_42_method_152_code
theorem d0 : decode yB 0 = .ok (.getstatic 38, 3) := by decide +kernel
theorem d3 : decode yB 3 = .ok (.ifCond (.eq) 10, 3) := by decide +kernel
theorem d6 : decode yB 6 = .ok (.aload_n 0, 1) := by decide +kernel
theorem d7 : decode yB 7 = .ok (.getfield 15, 3) := by decide +kernel
theorem d10 : decode yB 10 = .ok (.goto 4, 3) := by decide +kernel
theorem d14 : decode yB 14 = .ok (.ireturn, 1) := by decide +kernel
def site : List Cond := [.fieldLink "java/lang/String" 38 "java/lang/String" "COMPACT_STRINGS" "Z", .fieldLink "java/lang/String" 15 "java/lang/String" "coder" "B"]
def tab : Cond := tabOf yN yB 1 (some .byte) site
def P (x : Addr) (cd z : Int32) (args : Array Value) (s : State) : Prop := args = #[.ref x] ∧ Has x "java/lang/String" "coder" "B" (.int cd) s ∧ (cd = 0 ∨ cd = 1) ∧ StaticIs s "java/lang/String" "COMPACT_STRINGS" "Z" (.int z) ∧ ¬ z = 0
def E (cd : Int32) (r : Option Value) (s u : State) : Prop := XT.PureE (some (.int cd)) r s u
theorem law (l : Launch) (x : Addr) (cd z : Int32) : Law l yN 1 0 0 0 yB 1 (some .byte) site (P x cd z) (E cd) [] 0 0 := by
  refine Law.of_walk (plainFor_of_name (by decide +kernel)) (by decide +kernel) (by decide +kernel) (by decide) (fun _ _ h => by rw [h.1]; rfl) (fun _ U U' hal hh h => ⟨h.1, h.2.1.mv hal hh, h.2.2.1, h.2.2.2.1.there hal hh, h.2.2.2.2⟩) (fun r U U' V V' h1 hal h2 h => XT.PureE.mv r U U' V V' h1 hal h2 h) ?_
  intro p e s m args below meth c s₁ X0 hexec hbytes hml hret hlk hnm hown hh0 W hP
  obtain ⟨rfl, hx, hc, s1, hz⟩ := hP
  have c1 : Steps p.tables e below (s₁.setTop (entryFrame m #[.ref x] 1)) (s₁.setTop (mkF m 0 #[.val (.ref x)] [])) := entry rfl
  obtain ⟨T2, X2, q2, st2⟩ := X0.sget hexec hown (wk W (.fieldLink "java/lang/String" 38 "java/lang/String" "COMPACT_STRINGS" "Z")) s1 (fun _ _ h => by rw [hh0]; exact h) (g := (mkF m 0 #[.val (.ref x)] [])) rfl (hb hbytes d0)
  have hh2 := q2.trans hh0
  have c3 : Steps p.tables e below (s₁.setTop (entryFrame m #[.ref x] 1)) (T2.setTop (mkF m 7 #[.val (.ref x)] [.ref x])) := (c1.trans (st2 _ (Steps.refl _))).trans (by
    refine XS.ifNo X2.here hexec rfl (hb hbytes d3) rfl (i0_eq_f hz) ?_
    refine XS.aloadN X2.here hexec rfl (hb hbytes d6) rfl rfl ?_
    exact Steps.refl _)
  obtain ⟨T4, X4, q4, st4⟩ := X2.hget hexec hown (wk W (.fieldLink "java/lang/String" 15 "java/lang/String" "coder" "B")) (hx.mv X2.warmed.alike hh2) (g := (mkF m 7 #[.val (.ref x)] [.ref x])) rfl (rest := []) rfl (hb hbytes d7)
  have c5 : Steps p.tables e below (s₁.setTop (entryFrame m #[.ref x] 1)) (T4.setTop (mkF m 14 #[.val (.ref x)] [.int cd])) := (c3.trans (st4 _ (Steps.refl _))).trans (by
    refine XS.goto X4.here hexec rfl (pc0 := 10) rfl (hb hbytes d10) (by decide) rfl ?_
    exact Steps.refl _)
  exact ⟨T4, some (.int cd), _, _, _, X4, rfl, rfl, rfl, (fun h => by cases h), ⟨rfl, q4.trans hh2⟩, fun fs hl => c5.trans (X4.ireturnOut hexec hret (by rcases hc with rfl | rfl <;> rfl) (Or.inr (Or.inr (Or.inl rfl))) (hb hbytes d14) hl)⟩
end Cdr
namespace Len
def yN : MethodName := ⟨"java/lang/String", "length", "()I"⟩
abbrev yB : ByteArray := jdk_42_method_54_code
theorem d0 : decode yB 0 = .ok (.aload_n 0, 1) := by decide +kernel
theorem d1 : decode yB 1 = .ok (.getfield 9, 3) := by decide +kernel
theorem d4 : decode yB 4 = .ok (.arraylength, 1) := by decide +kernel
theorem d5 : decode yB 5 = .ok (.aload_n 0, 1) := by decide +kernel
theorem d6 : decode yB 6 = .ok (.invokevirtual 335, 3) := by decide +kernel
theorem d9 : decode yB 9 = .ok (.ishr, 1) := by decide +kernel
theorem d10 : decode yB 10 = .ok (.ireturn, 1) := by decide +kernel
def site : List Cond := [.fieldLink "java/lang/String" 9 "java/lang/String" "value" "[B", Cdr.tab] ++ virtW "java/lang/String" 335 "java/lang/String" Cdr.yN Cdr.yN
def tab : Cond := tabOf yN yB 1 (some .int) site
def P (x t : Addr) (V : Cell) (cd : Int32) (n : Nat) (f : Nat → Int32) (z : Int32) (args : Array Value) (s : State) : Prop := args = #[.ref x] ∧ Txt x t V cd n f s ∧ StaticIs s "java/lang/String" "COMPACT_STRINGS" "Z" (.int z) ∧ ¬ z = 0
def E (n : Nat) (r : Option Value) (s u : State) : Prop := XT.PureE (some (.int (Int32.ofNat n))) r s u
/-- length() of a String of n chars, in either coding -/
theorem law (l : Launch) (x t : Addr) (V : Cell) (cd : Int32) (n : Nat) (f : Nat → Int32) (z : Int32) : Law l yN 1 0 1 13 yB 1 (some .int) site (P x t V cd n f z) (E n) [] 0 0 := by
  refine Law.of_walk (plainFor_of_name (by decide +kernel)) (by decide +kernel) (by decide +kernel) (by decide) (fun _ _ h => by rw [h.1]; rfl) (fun _ U U' hal hh h => ⟨h.1, h.2.1.mv hal hh, h.2.2.1.there hal hh, h.2.2.2⟩) (fun r U U' V V' h1 hal h2 h => XT.PureE.mv r U U' V V' h1 hal h2 h) ?_
  intro p e s m args below meth c s₁ X0 hexec hbytes hml hret hlk hnm hown hh0 W hP
  obtain ⟨rfl, hx, s1, hz⟩ := hP
  have v31 := hx.2.2.2.1.2.2.2
  have c1 : Steps p.tables e below (s₁.setTop (entryFrame m #[.ref x] 1)) (s₁.setTop (mkF m 1 #[.val (.ref x)] [.ref x])) := Steps.trans (entry rfl) (by
    show Steps p.tables e below (s₁.setTop (mkF m 0 #[.val (.ref x)] [])) _
    refine XS.aloadN X0.here hexec rfl (hb hbytes d0) rfl rfl ?_
    exact Steps.refl _)
  obtain ⟨T2, X2, q2, st2⟩ := X0.hget hexec hown (wk W (.fieldLink "java/lang/String" 9 "java/lang/String" "value" "[B")) (hx.mv X0.warmed.alike hh0).2.1 (g := (mkF m 1 #[.val (.ref x)] [.ref x])) rfl (rest := []) rfl (hb hbytes d1)
  have hh2 := q2.trans hh0
  have hx2 := hx.mv X2.warmed.alike hh2
  have c3 : Steps p.tables e below (s₁.setTop (entryFrame m #[.ref x] 1)) (T2.setTop (mkF m 6 #[.val (.ref x)] [.ref x, .int (Int32.ofNat V.slots.size)])) := (c1.trans (st2 _ (Steps.refl _))).trans (by
    refine X2.alen hexec hx2.2.2.2.1 rfl rfl (hb hbytes d4) ?_
    refine XS.aloadN X2.here hexec rfl (hb hbytes d5) rfl rfl ?_
    exact Steps.refl _)
  obtain ⟨v4, T4, X4, E4, g4⟩ := X2.callV hexec (Cdr.law l x cd z) hown (wks W (virtW "java/lang/String" 335 "java/lang/String" Cdr.yN Cdr.yN)) rfl (by decide) (wk W Cdr.tab) (W := 1) (Nat.le_of_ble_eq_true rfl) (Nat.le_of_ble_eq_true rfl) (Nat.le_refl _) (Nat.le_refl _) (hx2.1.fc X2.warmed.alike) hx2.1.is (g := (mkF m 6 #[.val (.ref x)] [.ref x, .int (Int32.ofNat V.slots.size)])) rfl (by rw [hml]; rfl) c3 (argsL := []) (rest := [.int (Int32.ofNat V.slots.size)]) rfl rfl (by show 2 * 0 + (1 + 0) ≤ _; decide) (hb hbytes d6) (⟨rfl, hx2.2.2.1, hx.2.2.2.2.1.cd, s1.there X2.warmed.alike hh2, hz⟩)
  obtain ⟨rfl, q4⟩ := E4
  have c5 : Steps p.tables e below (s₁.setTop (entryFrame m #[.ref x] 1)) (T4.setTop (mkF m 10 #[.val (.ref x)] [.int (Int32.ofNat V.slots.size >>> (cd &&& 31))])) := Steps.trans g4 (by
    refine ishr X4.here hexec rfl (hb hbytes d9) rfl ?_
    exact Steps.refl _)
  rw [hx.2.2.2.2.1.len v31] at c5
  exact ⟨T4, some (.int (Int32.ofNat n)), _, _, _, X4, rfl, rfl, rfl, (fun h => by cases h), ⟨rfl, q4.trans hh2⟩, fun fs hl => c5.trans (X4.ireturnOut hexec hret rfl (Or.inl rfl) (hb hbytes d10) hl)⟩
theorem pays {l : Launch} {R : Room} {p : Program} {e : Env} {below : List Frame} {s : State} {sargs : Array Value} {len W : Nat} (x t : Addr) (V : Cell) (cd : Int32) (n : Nat) (f : Nat → Int32) (z : Int32) (htab : tab.before sargs s = true) (hfr : 2 ≤ R.frames) (hlo : W + 25 ≤ R.locals) :
    Back l R p e below s sargs yN len W (fun A₁ a₁ => A₁.cells + 0 ≤ R.cells ∧ A₁.slots + 0 ≤ R.slots ∧ P x t V cd n f z a₁ A₁.U) (fun A₁ _ v₁ B₁ => E n v₁ A₁.U B₁.U ∧ B₁.locs = A₁.locs ++ [] ∧ B₁.cells = A₁.cells + 0 ∧ B₁.slots = A₁.slots + 0) :=
  (law l x t V cd n f z).pays htab hfr (by omega)
end Len
namespace IsL
def yN : MethodName := ⟨"java/lang/String", "isLatin1", "()Z"⟩
abbrev yB : ByteArray := jdk_42_method_154_code
theorem d0 : decode yB 0 = .ok (.getstatic 38, 3) := by decide +kernel
theorem d3 : decode yB 3 = .ok (.ifCond (.eq) 14, 3) := by decide +kernel
theorem d6 : decode yB 6 = .ok (.aload_n 0, 1) := by decide +kernel
theorem d7 : decode yB 7 = .ok (.getfield 15, 3) := by decide +kernel
theorem d10 : decode yB 10 = .ok (.ifCond (.ne) 7, 3) := by decide +kernel
theorem d13 : decode yB 13 = .ok (.iconst 1, 1) := by decide +kernel
theorem d14 : decode yB 14 = .ok (.goto 4, 3) := by decide +kernel
theorem d17 : decode yB 17 = .ok (.iconst 0, 1) := by decide +kernel
theorem d18 : decode yB 18 = .ok (.ireturn, 1) := by decide +kernel
def site : List Cond := [.fieldLink "java/lang/String" 38 "java/lang/String" "COMPACT_STRINGS" "Z", .fieldLink "java/lang/String" 15 "java/lang/String" "coder" "B"]
def tab : Cond := tabOf yN yB 1 (some .boolean) site
def P (x : Addr) (cd z : Int32) (args : Array Value) (s : State) : Prop := args = #[.ref x] ∧ Has x "java/lang/String" "coder" "B" (.int cd) s ∧ (cd = 0 ∨ cd = 1) ∧ StaticIs s "java/lang/String" "COMPACT_STRINGS" "Z" (.int z) ∧ ¬ z = 0
def E (cd : Int32) (r : Option Value) (s u : State) : Prop := XT.PureE (some (.int (1 - cd))) r s u
theorem law (l : Launch) (x : Addr) (cd z : Int32) : Law l yN 1 0 0 0 yB 1 (some .boolean) site (P x cd z) (E cd) [] 0 0 := by
  refine Law.of_walk (plainFor_of_name (by decide +kernel)) (by decide +kernel) (by decide +kernel) (by decide) (fun _ _ h => by rw [h.1]; rfl) (fun _ U U' hal hh h => ⟨h.1, h.2.1.mv hal hh, h.2.2.1, h.2.2.2.1.there hal hh, h.2.2.2.2⟩) (fun r U U' V V' h1 hal h2 h => XT.PureE.mv r U U' V V' h1 hal h2 h) ?_
  intro p e s m args below meth c s₁ X0 hexec hbytes hml hret hlk hnm hown hh0 W hP
  obtain ⟨rfl, hx, hc, s1, hz⟩ := hP
  have c1 : Steps p.tables e below (s₁.setTop (entryFrame m #[.ref x] 1)) (s₁.setTop (mkF m 0 #[.val (.ref x)] [])) := entry rfl
  obtain ⟨T2, X2, q2, st2⟩ := X0.sget hexec hown (wk W (.fieldLink "java/lang/String" 38 "java/lang/String" "COMPACT_STRINGS" "Z")) s1 (fun _ _ h => by rw [hh0]; exact h) (g := (mkF m 0 #[.val (.ref x)] [])) rfl (hb hbytes d0)
  have hh2 := q2.trans hh0
  have c3 : Steps p.tables e below (s₁.setTop (entryFrame m #[.ref x] 1)) (T2.setTop (mkF m 7 #[.val (.ref x)] [.ref x])) := (c1.trans (st2 _ (Steps.refl _))).trans (by
    refine XS.ifNo X2.here hexec rfl (hb hbytes d3) rfl (i0_eq_f hz) ?_
    refine XS.aloadN X2.here hexec rfl (hb hbytes d6) rfl rfl ?_
    exact Steps.refl _)
  obtain ⟨T4, X4, q4, st4⟩ := X2.hget hexec hown (wk W (.fieldLink "java/lang/String" 15 "java/lang/String" "coder" "B")) (hx.mv X2.warmed.alike hh2) (g := (mkF m 7 #[.val (.ref x)] [.ref x])) rfl (rest := []) rfl (hb hbytes d7)
  have c5 : Steps p.tables e below (s₁.setTop (entryFrame m #[.ref x] 1)) (T4.setTop (mkF m 10 #[.val (.ref x)] [.int cd])) := c3.trans (st4 _ (Steps.refl _))
  have c6 : Steps p.tables e below (s₁.setTop (entryFrame m #[.ref x] 1)) (T4.setTop (mkF m 18 #[.val (.ref x)] [.int (1 - cd)])) := by
    rcases hc with rfl | rfl
    · exact c5.trans (by
        refine XS.ifNo X4.here hexec rfl (hb hbytes d10) rfl (i0_ne_f rfl) ?_
        refine iconstV X4.here hexec rfl 1 (hb hbytes d13) (by decide) ?_
        refine XS.goto X4.here hexec rfl (pc0 := 14) rfl (hb hbytes d14) (by decide) rfl ?_
        exact Steps.refl _)
    · exact c5.trans (by
        refine XS.ifYes X4.here hexec rfl (pc0 := 10) rfl (hb hbytes d10) rfl (i0_ne_t (by decide)) (by decide) rfl ?_
        refine iconstV X4.here hexec rfl 0 (hb hbytes d17) (by decide) ?_
        exact Steps.refl _)
  exact ⟨T4, some (.int (1 - cd)), _, _, _, X4, rfl, rfl, rfl, (fun h => by cases h), ⟨rfl, q4.trans hh2⟩, fun fs hl => c6.trans (X4.ireturnOut hexec hret (by rcases hc with rfl | rfl <;> rfl) (Or.inr (Or.inl rfl)) (hb hbytes d18) hl)⟩
end IsL
namespace LChA
def yN : MethodName := ⟨"java/lang/StringLatin1", "charAt", "([BI)C"⟩
abbrev yB : ByteArray := jdk_43_method_2_code
theorem d0 : decode yB 0 = .ok (.iload_n 1, 1) := by decide +kernel
theorem d1 : decode yB 1 = .ok (.aload_n 0, 1) := by decide +kernel
theorem d2 : decode yB 2 = .ok (.arraylength, 1) := by decide +kernel
theorem d3 : decode yB 3 = .ok (.invokestatic 9, 3) := by decide +kernel
theorem d6 : decode yB 6 = .ok (.aload_n 0, 1) := by decide +kernel
theorem d7 : decode yB 7 = .ok (.iload_n 1, 1) := by decide +kernel
theorem d8 : decode yB 8 = .ok (.baload, 1) := by decide +kernel
theorem d9 : decode yB 9 = .ok (.sipush 255, 3) := by decide +kernel
theorem d12 : decode yB 12 = .ok (.iand, 1) := by decide +kernel
theorem d13 : decode yB 13 = .ok (.i2c, 1) := by decide +kernel
theorem d14 : decode yB 14 = .ok (.ireturn, 1) := by decide +kernel
def site : List Cond := [JO.Str_checkIndex.tab] ++ staticW "java/lang/StringLatin1" 9 JO.Str_checkIndex.yN
def tab : Cond := tabOf yN yB 2 (some .char) site
def P (t : Addr) (V : Cell) (i : Nat) (u : Int32) (fm : Value) (args : Array Value) (s : State) : Prop := args = #[.ref t, .int (Int32.ofNat i)] ∧ XT.Arr .byte t V s ∧ V.slots[i]? = some (.int u) ∧ (StaticIs s "jdk/internal/util/Preconditions" "SIOOBE_FORMATTER" "Ljava/util/function/BiFunction;" fm ∧ fm.isRef = true)
def E (u : Int32) (r : Option Value) (s w : State) : Prop := XT.PureE (some (.int (chr8 u))) r s w
theorem law (l : Launch) (t : Addr) (V : Cell) (i : Nat) (u : Int32) (fm : Value) : Law l yN 2 2 2 27 yB 2 (some .char) site (P t V i u fm) (E u) [] 0 0 := by
  refine Law.of_walk (plainFor_of_name (by decide +kernel)) (by decide +kernel) (by decide +kernel) (by decide) (fun _ _ h => by rw [h.1]; rfl) (fun _ U U' hal hh h => ⟨h.1, h.2.1.mv hal hh, h.2.2.1, h.2.2.2.1.there hal hh, h.2.2.2.2⟩) (fun r U U' V V' h1 hal h2 h => XT.PureE.mv r U U' V V' h1 hal h2 h) ?_
  intro p e s m args below meth c s₁ X0 hexec hbytes hml hret hlk hnm hown hh0 W hP
  obtain ⟨rfl, hV, hu, s1, rf⟩ := hP
  have v31 := hV.2.2.2
  have hi : i < V.slots.size := (Array.getElem?_eq_some_iff.mp hu).1
  have c1 : Steps p.tables e below (s₁.setTop (entryFrame m #[.ref t, .int (Int32.ofNat i)] 2)) (s₁.setTop (mkF m 0 #[.val (.ref t), .val (.int (Int32.ofNat i))] [])) := entry rfl
  have c2 : Steps p.tables e below (s₁.setTop (entryFrame m #[.ref t, .int (Int32.ofNat i)] 2)) (s₁.setTop (mkF m 3 #[.val (.ref t), .val (.int (Int32.ofNat i))] [.int (Int32.ofNat V.slots.size), .int (Int32.ofNat i)])) := c1.trans (by
    refine XS.iloadN X0.here hexec rfl (hb hbytes d0) rfl ?_
    refine XS.aloadN X0.here hexec rfl (hb hbytes d1) rfl rfl ?_
    refine X0.alen hexec (hV.mv X0.warmed.alike hh0) rfl rfl (hb hbytes d2) ?_
    exact Steps.refl _)
  obtain ⟨v3, T3, X3, E3, g3⟩ := X0.callS hexec (JO.Str_checkIndex.law l (Int32.ofNat i) (Int32.ofNat V.slots.size) fm) hown (wks W (staticW "java/lang/StringLatin1" 9 JO.Str_checkIndex.yN)) (wk W JO.Str_checkIndex.tab) (W := 0) (Nat.le_of_ble_eq_true rfl) (Nat.le_of_ble_eq_true rfl) (Nat.le_refl _) (Nat.le_refl _) (g := (mkF m 3 #[.val (.ref t), .val (.int (Int32.ofNat i))] [.int (Int32.ofNat V.slots.size), .int (Int32.ofNat i)])) rfl (by rw [hml]; rfl) c2 (argsL := [.int (Int32.ofNat i), .int (Int32.ofNat V.slots.size)]) (rest := []) rfl rfl (by show 2 * 0 + 0 ≤ _; decide) (hb hbytes d3) (⟨rfl, rf, s1.there X0.warmed.alike hh0, Int32.ofNat_not_neg (by omega), lt32 v31 hi⟩)
  obtain ⟨rfl, q3⟩ := E3
  have hh3 := q3.trans hh0
  have c4 : Steps p.tables e below (s₁.setTop (entryFrame m #[.ref t, .int (Int32.ofNat i)] 2)) (T3.setTop (mkF m 14 #[.val (.ref t), .val (.int (Int32.ofNat i))] [.int (chr8 u)])) := Steps.trans g3 (by
    refine XS.aloadN X3.here hexec rfl (hb hbytes d6) rfl rfl ?_
    refine XS.iloadN X3.here hexec rfl (hb hbytes d7) rfl ?_
    refine X3.aget hexec (hV.mv X3.warmed.alike hh3) rfl hu rfl rfl (hb hbytes d8) ?_
    refine sipushV X3.here hexec rfl 255 (hb hbytes d9) (by decide) ?_
    refine XS.iand X3.here hexec rfl (hb hbytes d12) rfl ?_
    refine i2c X3.here hexec rfl (hb hbytes d13) rfl ?_
    exact Steps.refl _)
  exact ⟨T3, some (.int (chr8 u)), _, _, _, X3, rfl, rfl, rfl, (fun h => by cases h), ⟨rfl, hh3⟩, fun fs hl => c4.trans (X3.ireturnOut hexec hret (narrow_c _) (Or.inr (Or.inr (Or.inr (Or.inl rfl)))) (hb hbytes d14) hl)⟩
end LChA
end StrChars
namespace StrChars.Road
open Jvm Sem ClassFile Op Lib Jvm.Stand Jvm.Free Jvm.Free.XT
open Jvm.Lib.Cold (StaticIs)
theorem consq {a : Array Value} {s : State} {c : Jvm.Cond} {L : List Jvm.Cond} (h0 : c.before a s = true) (h : ∀ w ∈ L, w.before a s = true) : ∀ w ∈ c :: L, w.before a s = true := fun w hw => (List.mem_cons.mp hw).elim (fun e => e ▸ h0) (h w)
/-- the words of String.length(), either coding -/
abbrev wordsLen : List Jvm.Cond := [.code Len.yN Len.yB 1 (some .int), .initialized ST, .fieldLink ST 9 ST "value" "[B", .fieldLink ST 38 ST "COMPACT_STRINGS" "Z", .fieldLink ST 15 ST "coder" "B", .code Cdr.yN Cdr.yB 1 (some .byte), .methodLink ST 335 Cdr.yN, .declares Cdr.yN, .selects ST Cdr.yN Cdr.yN, .instanceMethod Cdr.yN]
theorem tabLen_of {a : Array Value} {s : State} (h : ∀ w ∈ wordsLen, w.before a s = true) : Len.tab.before a s = true := by
  have hc : Cdr.tab.before a s = true := unparts (wk h (.code Cdr.yN Cdr.yB 1 (some .byte))) (wks h (.initialized Cdr.yN.cls :: Cdr.site))
  have q := consq hc h
  exact unparts (wk q (.code Len.yN Len.yB 1 (some .int))) (wks q (.initialized Len.yN.cls :: Len.site))
theorem movedLen {Z s : State} {a0 args : Array Value} (hZ : Z.Warmed39 s.vm) (hw : ∀ d ∈ wordsLen, d.before a0 Z = true) : ∀ d ∈ wordsLen, d.before args s = true := fun d hd => by
  have q := hw d hd
  have t : ∀ d ∈ wordsLen, d = .arrayClass .byte ∨ (d.onTables && d.keepsFace) = true := by decide +kernel
  rcases t d hd with rfl | t
  · exact RoadKit.mvA hZ q
  · exact RoadKit.mv hZ q t
/-- the bytes of the chars cs, low before high -/
def wideBytes : List Int32 → List Value
  | [] => []
  | c :: cs => .int (lo8 c) :: .int (hi8 c) :: wideBytes cs
theorem wide_lo (d : Value) : ∀ (cs : List Int32) (j : Nat), j < cs.length → (wideBytes cs).getD (2 * j) d = .int (lo8 (cs.getD j 0))
  | [], j, h => absurd h (Nat.not_lt_zero j)
  | c :: cs, 0, _ => rfl
  | c :: cs, j + 1, h => by
    have q := wide_lo d cs j (by simpa using h)
    rw [show 2 * (j + 1) = 2 * j + 1 + 1 from by omega]
    simpa [wideBytes] using q
theorem wide_hi (d : Value) : ∀ (cs : List Int32) (j : Nat), j < cs.length → (wideBytes cs).getD (2 * j + 1) d = .int (hi8 (cs.getD j 0))
  | [], j, h => absurd h (Nat.not_lt_zero j)
  | c :: cs, 0, _ => rfl
  | c :: cs, j + 1, h => by
    have q := wide_hi d cs j (by simpa using h)
    rw [show 2 * (j + 1) + 1 = 2 * j + 1 + 1 + 1 from by omega]
    simpa [wideBytes] using q
theorem low_at (d : Value) (cs : List Int32) (j : Nat) (h : j < cs.length) : (cs.map fun c => Value.int (lo8 c)).getD j d = .int (lo8 (cs.getD j 0)) := by
  simp [List.getD_eq_getElem?_getD, h]
/-- an array of N2 bytes vs codes the chars cs by the coder cd -/
def CodA (cs : List Int32) (cd N2 : Int32) (vs : List Value) : Prop := (cd = 0 ∧ N2 = Int32.ofNat cs.length ∧ vs = (cs.map fun c => Value.int (lo8 c)) ∧ ∀ c ∈ cs, ¬ 255 < c) ∨ (cd = 1 ∧ N2 = Int32.ofNat (2 * cs.length) ∧ vs = wideBytes cs ∧ ∃ c ∈ cs, 255 < c)
theorem CodA.cod {cs : List Int32} {cd N2 : Int32} {vs : List Value} {V : Cell} (h : CodA cs cd N2 vs) (hn : 2 * cs.length < 2 ^ 31) (hs : V.slots.size = N2.toNatClampNeg) (hv : RoadKit.Has V vs (.int 0)) : Cod cd cs.length (fun j => cs.getD j 0) V := by
  rcases h with ⟨rfl, rfl, rfl, h⟩ | ⟨rfl, rfl, rfl, c, hc, hw⟩
  · rw [n32 (by omega)] at hs
    exact Or.inl ⟨rfl, hs, fun j hj => ⟨by rw [hv j (by omega), low_at _ _ _ hj], by
      have e : cs.getD j 0 = cs[j] := by simp [List.getD_eq_getElem?_getD, hj]
      show ¬ 255 < cs.getD j 0
      rw [e]; exact h _ (List.getElem_mem _)⟩⟩
  · rw [n32 (by omega)] at hs
    obtain ⟨j, hj, rfl⟩ := List.getElem_of_mem hc
    exact Or.inr ⟨rfl, hs, fun j hj => ⟨by rw [hv _ (by omega), wide_lo _ _ _ hj], by rw [hv _ (by omega), wide_hi _ _ _ hj]⟩, j, hj, by
      have e : cs.getD j 0 = cs[j] := by simp [List.getD_eq_getElem?_getD, hj]
      show 255 < cs.getD j 0
      rw [e]; exact hw⟩
/-- an object of exactly java/lang/String, its two fields found: as the laws ask it -/
theorem strObj {Z U : State} {a0 : Array Value} {kI : Nat} (wi : (Jvm.Cond.instantiable ST kI).before a0 Z = true) (al : Z.vm.Alike U.vm) {x : Addr} {v0 c0 : Value} (E : RoadKit.Exa Z U.heap x ST) (V : RoadKit.Fld Z U.heap x ST "value" "[B" v0) (C : RoadKit.Fld Z U.heap x ST "coder" "B" c0) :
    ∃ (D : Cell) (fV fC : Field), Blank ST x D U ∧ Found ST "value" "[B" fV U ∧ Found ST "coder" "B" fC U ∧ D.slots[fV.slot]? = some v0 ∧ D.slots[fC.slot]? = some c0 ∧ RoadKit.slotOf Z ST "value" "[B" = fV.slot ∧ RoadKit.slotOf Z ST "coder" "B" = fC.slot := by
  obtain ⟨D, cfV, kV, iV, fV, hD, gV, stV, knV, obV, asV, slV⟩ := V
  obtain ⟨D', cfC, kC, iC, fC, hD', gC, stC, -, -, asC, slC⟩ := C
  cases hD.symm.trans hD'
  obtain ⟨D2, kD, e1, e2, e3, e4, e5⟩ := E
  cases hD.symm.trans e1
  obtain ⟨c2, k2, i1, i2, i3, -⟩ := Cond.instantiable_spec wi
  cases e2.symm.trans i1
  cases e3.symm.trans i2
  obtain ⟨kU, u1, u2⟩ := al.2.2 _ _ e3
  exact ⟨D, fV, fC, ⟨hD, ⟨knV, fun q hq => by rw [hq] at obV; cases obV⟩, by rw [al.findClass]; exact e2, kU, u1, by rw [u2]; exact i3, by rw [u2]; exact e5 i3⟩, ⟨SBG.found_only al ⟨cfV, kV, iV, gV⟩, stV⟩, ⟨SBG.found_only al ⟨cfC, kC, iC, gC⟩, stC⟩, slV, slC, by simp [RoadKit.slotOf, gV], by simp [RoadKit.slotOf, gC]⟩
theorem sta_is {Z U : State} (al : Z.vm.Alike U.vm) {C n d : String} {v : Value} (S : RoadKit.Sta Z U.heap C n d v) : StaticIs U C n d v := by
  obtain ⟨cfS, iS, kS, fS, st, cS, t1, t2, t3, t4, t5, t6, t7⟩ := S
  exact StaticIs.there (s := { Z with heap := U.heap }) ⟨cfS, iS, kS, fS, st, cS, t1, t2, t3, t4, t5, (fun q => by rw [q] at t6; cases t6), t7⟩ al rfl
/-- **length() OF SUCH A STRING** -/
theorem lenW {p : Program} {l : Launch} {e : Env} {R : Room} {s : State} {args : Array Value} {below : List Frame} {len W : Nat} {Z : State} {a0 : Array Value} {h : Heap} (hZ : Z.Warmed39 s.vm) (hw : ∀ d ∈ wordsLen, d.before a0 Z = true) {kI : Nat} (wi : (Jvm.Cond.instantiable ST kI).before a0 Z = true)
    {x t : Addr} {kb : ClassId} {cs : List Int32} {cd N2 z : Int32} {vs : List Value} (E : RoadKit.Exa Z h x ST) (V : RoadKit.Fld Z h x ST "value" "[B" (.ref t)) (C : RoadKit.Fld Z h x ST "coder" "B" (.int cd)) (K : RoadKit.Arv Z h t kb .byte N2 vs (.int 0)) (hc : CodA cs cd N2 vs) (hb : ∀ c ∈ cs, ¬ c < 0 ∧ ¬ (65535 : Int32) < c)
    (S : RoadKit.Sta Z h ST "COMPACT_STRINGS" "Z" (.int z)) (hz : ¬ z = 0) (l2 : cs.length ≤ 4000) (hfr : 2 ≤ R.frames) (hlo : W + 25 ≤ R.locals) :
    Back l R p e below s args (⟨"java/lang/String", "length", "()I"⟩ : MethodName) len W (fun P a => a = #[.ref x] ∧ P.U.heap = h ∧ P.cells + 0 ≤ R.cells ∧ P.slots + 0 ≤ R.slots)
      (fun P _ v B => ∃ L, (v = some (.int (Int32.ofNat cs.length)) ∧ L = [] ∧ B.U.heap = h) ∧ B.locs = P.locs ++ L ∧ B.cells = P.cells + 0 ∧ B.slots = P.slots + 0) := by
  obtain ⟨A, K1, K2, K3, K4, K5, K6⟩ := K
  have hcod := hc.cod (by omega) K3 K5
  intro m meth c P g ig mk a X hg hsize hdg hW hn hp'
  obtain ⟨rfl, rfl, r1, r2⟩ := hp'
  have al : Z.vm.Alike P.U.vm := hZ.alike.trans X.warmed.alike
  obtain ⟨D, fV, fC, hB, F1, F2, g1, g2, -, -⟩ := strObj wi al E V C
  have hx : Txt x t A cd cs.length (fun j => cs.getD j 0) P.U := ⟨⟨_, hB.2.2.1, D, hB.1, rfl, by cases q : D.vm <;> first | rfl | exact absurd q (hB.2.1.2 _)⟩, Has.of hB F1 g1, Has.of hB F2 g2, ⟨K1.1, State.isArrayOf_alike al K1.2.1, K1.2.2, by rcases hcod with ⟨-, q, -⟩ | ⟨-, q, -⟩ <;> omega⟩, hcod, fun j hj => by
    have e : cs.getD j 0 = cs[j] := by simp [List.getD_eq_getElem?_getD, hj]
    show ¬ cs.getD j 0 < 0 ∧ ¬ 65535 < cs.getD j 0
    rw [e]; exact hb _ (List.getElem_mem _)⟩
  obtain ⟨v, B, X', ⟨⟨hv, hh⟩, hl, hk, hs⟩, st⟩ := Len.pays x t A cd cs.length (fun j => cs.getD j 0) z (tabLen_of (movedLen hZ hw)) hfr hlo m meth c P g ig mk _ X hg hsize hdg hW hn ⟨r1, r2, rfl, hx, sta_is al S, hz⟩
  exact ⟨v, B, X', ⟨[], ⟨hv, rfl, hh⟩, hl, hk, hs⟩, st⟩
end StrChars.Road
namespace StrChars
open Jvm Sem ClassFile Op Lib Jvm.Stand Jvm.Free.XT Jvm.Free.ALB Jvm.Free.JM Jvm.Free
open Jvm.Lib.Cold (StaticIs)
/-- what place i of a byte[]'s cell holds -/
def yv (A : Cell) (i : Nat) : Int32 := match A.slots[i]? with | some (.int x) => x | _ => 0
theorem yv_get {a : Addr} {A : Cell} {U : State} (h : XT.Arr .byte a A U) (ht : Typed .byte A) {i : Nat} (hi : i < A.slots.size) : A.slots[i]? = some (.int (yv A i)) := by
  have e := Array.getElem?_eq_getElem hi
  have f := ht i _ e
  unfold yv; rw [e]
  generalize A.slots[i] = v at f
  cases v <;> simp [fits] at f ⊢
/-- the two arrays are equal, place for place -/
def EqC (A B : Cell) : Prop := A.slots.size = B.slots.size ∧ ∀ i, i < A.slots.size → yv A i = yv B i
/-- a boolean that says whether p -/
def Says01 (q : Prop) (r : Option Value) (s u : State) : Prop := ∃ v : Int32, r = some (.int v) ∧ u.heap = s.heap ∧ ((v = 1 ∧ q) ∨ (v = 0 ∧ ¬ q))
theorem Says01.mv {q : Prop} : ∀ r (U U' V V' : State), U'.heap = U.heap → V.vm.Alike V'.vm → V'.heap = V.heap → Says01 q r U V → Says01 q r U' V' :=
  fun r U U' V V' h1 _ h2 ⟨v, a, b, c⟩ => ⟨v, a, by rw [h1, h2]; exact b, c⟩
namespace LEq
def yN : MethodName := ⟨"java/lang/StringLatin1", "equals", "([B[B)Z"⟩
abbrev yB : ByteArray := jdk_43_method_13_code
theorem d0 : decode yB 0 = .ok (.aload_n 0, 1) := by decide +kernel
theorem d1 : decode yB 1 = .ok (.arraylength, 1) := by decide +kernel
theorem d2 : decode yB 2 = .ok (.aload_n 1, 1) := by decide +kernel
theorem d3 : decode yB 3 = .ok (.arraylength, 1) := by decide +kernel
theorem d4 : decode yB 4 = .ok (.if_icmp (.ne) 30, 3) := by decide +kernel
theorem d7 : decode yB 7 = .ok (.iconst 0, 1) := by decide +kernel
theorem d8 : decode yB 8 = .ok (.istore_n 2, 1) := by decide +kernel
theorem d9 : decode yB 9 = .ok (.iload_n 2, 1) := by decide +kernel
theorem d10 : decode yB 10 = .ok (.aload_n 0, 1) := by decide +kernel
theorem d11 : decode yB 11 = .ok (.arraylength, 1) := by decide +kernel
theorem d12 : decode yB 12 = .ok (.if_icmp (.ge) 20, 3) := by decide +kernel
theorem d15 : decode yB 15 = .ok (.aload_n 0, 1) := by decide +kernel
theorem d16 : decode yB 16 = .ok (.iload_n 2, 1) := by decide +kernel
theorem d17 : decode yB 17 = .ok (.baload, 1) := by decide +kernel
theorem d18 : decode yB 18 = .ok (.aload_n 1, 1) := by decide +kernel
theorem d19 : decode yB 19 = .ok (.iload_n 2, 1) := by decide +kernel
theorem d20 : decode yB 20 = .ok (.baload, 1) := by decide +kernel
theorem d21 : decode yB 21 = .ok (.if_icmp (.eq) 5, 3) := by decide +kernel
theorem d24 : decode yB 24 = .ok (.iconst 0, 1) := by decide +kernel
theorem d25 : decode yB 25 = .ok (.ireturn, 1) := by decide +kernel
theorem d26 : decode yB 26 = .ok (.iinc 2 1, 3) := by decide +kernel
theorem d29 : decode yB 29 = .ok (.goto (-20), 3) := by decide +kernel
theorem d32 : decode yB 32 = .ok (.iconst 1, 1) := by decide +kernel
theorem d33 : decode yB 33 = .ok (.ireturn, 1) := by decide +kernel
theorem d34 : decode yB 34 = .ok (.iconst 0, 1) := by decide +kernel
theorem d35 : decode yB 35 = .ok (.ireturn, 1) := by decide +kernel
def site : List Cond := []
def tab : Cond := tabOf yN yB 3 (some .boolean) site
def P (a : Addr) (A : Cell) (b : Addr) (B : Cell) (args : Array Value) (s : State) : Prop := args = #[.ref a, .ref b] ∧ XT.Arr .byte a A s ∧ Typed .byte A ∧ XT.Arr .byte b B s ∧ Typed .byte B
/-- whether two byte[] are equal, place for place -/
theorem law (l : Launch) (a : Addr) (A : Cell) (b : Addr) (B : Cell) : Law l yN 2 2 0 0 yB 3 (some .boolean) site (P a A b B) (Says01 (EqC A B)) [] 0 0 := by
  refine Law.of_walk (plainFor_of_name (by decide +kernel)) (by decide +kernel) (by decide +kernel) (by decide) (fun _ _ h => by rw [h.1]; rfl) (fun _ U U' hal hh h => ⟨h.1, h.2.1.mv hal hh, h.2.2.1, h.2.2.2.1.mv hal hh, h.2.2.2.2⟩) (fun r U U' V V' h1 hal h2 h => Says01.mv r U U' V V' h1 hal h2 h) ?_
  intro p e s m args below meth c s₁ X0 hexec hbytes hml hret hlk hnm hown hh0 W hP
  obtain ⟨rfl, hA, tA, hB, tB⟩ := hP
  have a31 := hA.2.2.2
  have b31 := hB.2.2.2
  have hA0 := hA.mv X0.warmed.alike hh0
  have hB0 := hB.mv X0.warmed.alike hh0
  have c1 : Steps p.tables e below (s₁.setTop (entryFrame m #[.ref a, .ref b] 3)) (s₁.setTop (mkF m 0 #[.val (.ref a), .val (.ref b), .unset] [])) := entry rfl
  have c2 : Steps p.tables e below (s₁.setTop (entryFrame m #[.ref a, .ref b] 3)) (s₁.setTop (mkF m 4 #[.val (.ref a), .val (.ref b), .unset] [.int (Int32.ofNat B.slots.size), .int (Int32.ofNat A.slots.size)])) := c1.trans (by
    refine XS.aloadN X0.here hexec rfl (hb hbytes d0) rfl rfl ?_
    refine X0.alen hexec hA0 rfl rfl (hb hbytes d1) ?_
    refine XS.aloadN X0.here hexec rfl (hb hbytes d2) rfl rfl ?_
    refine X0.alen hexec hB0 rfl rfl (hb hbytes d3) ?_
    exact Steps.refl _)
  by_cases hs : A.slots.size = B.slots.size
  · have c3 : Steps p.tables e below (s₁.setTop (entryFrame m #[.ref a, .ref b] 3)) (s₁.setTop (mkF m 9 #[.val (.ref a), .val (.ref b), .val (.int 0)] [])) := c2.trans (by
      refine XS.icmpNo X0.here hexec rfl (hb hbytes d4) rfl (ii_ne_f (by rw [hs])) ?_
      refine iconstV X0.here hexec rfl 0 (hb hbytes d7) (by decide) ?_
      refine XS.istoreN X0.here hexec rfl (hb hbytes d8) rfl rfl ?_
      exact Steps.refl _)
    have loop : ∀ (r i : Nat), i + r = A.slots.size → (∀ j, j < i → yv A j = yv B j) → Steps p.tables e below (s₁.setTop (entryFrame m #[.ref a, .ref b] 3)) (s₁.setTop (mkF m 9 #[.val (.ref a), .val (.ref b), .val (.int (Int32.ofNat i))] [])) → ∃ (pc : Nat) (Ls : Array Slot) (v : Int32), (pc = 25 ∨ pc = 33) ∧ ((v = 1 ∧ EqC A B) ∨ (v = 0 ∧ ¬ EqC A B)) ∧ Steps p.tables e below (s₁.setTop (entryFrame m #[.ref a, .ref b] 3)) (s₁.setTop (mkF m pc Ls [.int v])) := by
      intro r
      induction r with
      | zero =>
        intro i hi he cl
        exact ⟨33, _, 1, Or.inr rfl, Or.inl ⟨rfl, hs, fun j hj => he j (by omega)⟩, cl.trans (by
          refine XS.iloadN X0.here hexec rfl (hb hbytes d9) rfl ?_
          refine XS.aloadN X0.here hexec rfl (hb hbytes d10) rfl rfl ?_
          refine X0.alen hexec hA0 rfl rfl (hb hbytes d11) ?_
          refine XS.icmpYes X0.here hexec rfl (pc0 := 12) rfl (hb hbytes d12) rfl (ii_ge_t (nlt32 (by omega) (by omega))) (by decide) rfl ?_
          refine iconstV X0.here hexec rfl 1 (hb hbytes d32) (by decide) ?_
          exact Steps.refl _)⟩
      | succ r ih =>
        intro i hi he cl
        have c4 : Steps p.tables e below (s₁.setTop (entryFrame m #[.ref a, .ref b] 3)) (s₁.setTop (mkF m 21 #[.val (.ref a), .val (.ref b), .val (.int (Int32.ofNat i))] [.int (yv B i), .int (yv A i)])) := cl.trans (by
          refine XS.iloadN X0.here hexec rfl (hb hbytes d9) rfl ?_
          refine XS.aloadN X0.here hexec rfl (hb hbytes d10) rfl rfl ?_
          refine X0.alen hexec hA0 rfl rfl (hb hbytes d11) ?_
          refine XS.icmpNo X0.here hexec rfl (hb hbytes d12) rfl (ii_ge_f (lt32 (by omega) (by omega))) ?_
          refine XS.aloadN X0.here hexec rfl (hb hbytes d15) rfl rfl ?_
          refine XS.iloadN X0.here hexec rfl (hb hbytes d16) rfl ?_
          refine X0.aget hexec hA0 rfl (yv_get hA tA (i := i) (by omega)) rfl rfl (hb hbytes d17) ?_
          refine XS.aloadN X0.here hexec rfl (hb hbytes d18) rfl rfl ?_
          refine XS.iloadN X0.here hexec rfl (hb hbytes d19) rfl ?_
          refine X0.aget hexec hB0 rfl (yv_get hB tB (i := i) (by omega)) rfl rfl (hb hbytes d20) ?_
          exact Steps.refl _)
        by_cases hv : yv A i = yv B i
        · have c5 : Steps p.tables e below (s₁.setTop (entryFrame m #[.ref a, .ref b] 3)) (s₁.setTop (mkF m 9 #[.val (.ref a), .val (.ref b), .val (.int (Int32.ofNat i + 1))] [])) := c4.trans (by
            refine XS.icmpYes X0.here hexec rfl (pc0 := 21) rfl (hb hbytes d21) rfl (ii_eq_t hv) (by decide) rfl ?_
            refine iincV X0.here hexec rfl 1 (hb hbytes d26) (by decide) rfl rfl ?_
            refine XS.goto X0.here hexec rfl (pc0 := 29) rfl (hb hbytes d29) (by decide) rfl ?_
            exact Steps.refl _)
          rw [succ32] at c5
          exact ih (i + 1) (by omega) (fun j hj => by
            by_cases e : j = i
            · rw [e]; exact hv
            · exact he j (by omega)) c5
        · exact ⟨25, _, 0, Or.inl rfl, Or.inr ⟨rfl, fun q => hv (q.2 i (by omega))⟩, c4.trans (by
            refine XS.icmpNo X0.here hexec rfl (hb hbytes d21) rfl (ii_eq_f hv) ?_
            refine iconstV X0.here hexec rfl 0 (hb hbytes d24) (by decide) ?_
            exact Steps.refl _)⟩
    obtain ⟨pc, Ls, v, hpc, hv, cz⟩ := loop A.slots.size 0 (by omega) (fun j hj => absurd hj (Nat.not_lt_zero j)) c3
    have nv : narrow .boolean (.int v) = .int v := by rcases hv with ⟨rfl, -⟩ | ⟨rfl, -⟩ <;> rfl
    rcases hpc with rfl | rfl
    · exact ⟨s₁, some (.int v), _, _, _, X0, rfl, rfl, rfl, (fun h => by cases h), ⟨v, rfl, hh0, hv⟩, fun fs hl => cz.trans (X0.ireturnOut hexec hret nv (Or.inr (Or.inl rfl)) (hb hbytes d25) hl)⟩
    · exact ⟨s₁, some (.int v), _, _, _, X0, rfl, rfl, rfl, (fun h => by cases h), ⟨v, rfl, hh0, hv⟩, fun fs hl => cz.trans (X0.ireturnOut hexec hret nv (Or.inr (Or.inl rfl)) (hb hbytes d33) hl)⟩
  · have c3 : Steps p.tables e below (s₁.setTop (entryFrame m #[.ref a, .ref b] 3)) (s₁.setTop (mkF m 35 #[.val (.ref a), .val (.ref b), .unset] [.int 0])) := c2.trans (by
      refine XS.icmpYes X0.here hexec rfl (pc0 := 4) rfl (hb hbytes d4) rfl (ii_ne_t (ne32 a31 b31 hs)) (by decide) rfl ?_
      refine iconstV X0.here hexec rfl 0 (hb hbytes d34) (by decide) ?_
      exact Steps.refl _)
    exact ⟨s₁, some (.int 0), _, _, _, X0, rfl, rfl, rfl, (fun h => by cases h), ⟨0, rfl, hh0, Or.inr ⟨rfl, fun q => hs q.1⟩⟩, fun fs hl => c3.trans (X0.ireturnOut hexec hret rfl (Or.inr (Or.inl rfl)) (hb hbytes d35) hl)⟩
end LEq
theorem Cod.ty {cd : Int32} {n : Nat} {f : Nat → Int32} {V : Cell} (h : Cod cd n f V) : Typed .byte V := fun i v hv => by
  have hi : i < V.slots.size := (Array.getElem?_eq_some_iff.mp hv).1
  rcases h with ⟨-, k1, k2⟩ | ⟨-, k1, k2, -⟩
  · rw [(k2 i (by omega)).1] at hv; cases hv; exact fits_lo8 _
  · rcases Nat.mod_two_eq_zero_or_one i with e | e
    · obtain ⟨j, rfl⟩ : ∃ j, i = 2 * j := ⟨i / 2, by omega⟩
      rw [(k2 j (by omega)).1] at hv; cases hv; exact fits_lo8 _
    · obtain ⟨j, rfl⟩ : ∃ j, i = 2 * j + 1 := ⟨i / 2, by omega⟩
      rw [(k2 j (by omega)).2] at hv; cases hv; exact fits_lo8 _
/-- the same text -/
def SameT (n : Nat) (f : Nat → Int32) (k : Nat) (g : Nat → Int32) : Prop := n = k ∧ ∀ j, j < n → f j = g j
theorem lo8_inj {x y : Int32} (h0 : ¬ x < 0) (h1 : ¬ 255 < x) (k0 : ¬ y < 0) (k1 : ¬ 255 < y) (h : lo8 x = lo8 y) : x = y := by
  rw [← lo8_mask h0 h1, ← lo8_mask k0 k1, h]
/-- arrays coded by one coder are equal just where the texts are -/
theorem Cod.eqv {cd : Int32} {n k : Nat} {f g : Nat → Int32} {V V' : Cell} (h : Cod cd n f V) (h' : Cod cd k g V') (hf : ∀ j, j < n → ¬ f j < 0 ∧ ¬ 65535 < f j) (hg : ∀ j, j < k → ¬ g j < 0 ∧ ¬ 65535 < g j) : EqC V V' ↔ SameT n f k g := by
  have yvv : ∀ {W : Cell} {i : Nat} {x : Int32}, W.slots[i]? = some (.int x) → yv W i = x := fun q => by unfold yv; rw [q]
  rcases h with ⟨rfl, k1, k2⟩ | ⟨rfl, k1, k2, -⟩
  · rcases h' with ⟨-, m1, m2⟩ | ⟨e, -⟩
    · constructor
      · rintro ⟨e1, e2⟩
        refine ⟨by omega, fun j hj => ?_⟩
        have q := e2 j (by omega)
        rw [yvv (k2 j hj).1, yvv (m2 j (by omega)).1] at q
        exact lo8_inj (hf j hj).1 (k2 j hj).2 (hg j (by omega)).1 (m2 j (by omega)).2 q
      · rintro ⟨rfl, e2⟩
        refine ⟨by omega, fun j hj => ?_⟩
        rw [yvv (k2 j (by omega)).1, yvv (m2 j (by omega)).1, e2 j (by omega)]
    · exact absurd e (by decide)
  · rcases h' with ⟨e, -⟩ | ⟨-, m1, m2, -⟩
    · exact absurd e (by decide)
    · constructor
      · rintro ⟨e1, e2⟩
        refine ⟨by omega, fun j hj => ?_⟩
        have q1 := e2 (2 * j) (by omega)
        have q2 := e2 (2 * j + 1) (by omega)
        rw [yvv (k2 j hj).1, yvv (m2 j (by omega)).1] at q1
        rw [yvv (k2 j hj).2, yvv (m2 j (by omega)).2] at q2
        rw [← pair_says (hf j hj).1 (hf j hj).2, ← pair_says (hg j (by omega)).1 (hg j (by omega)).2, q1, q2]
      · rintro ⟨rfl, e2⟩
        refine ⟨by omega, fun i hi => ?_⟩
        rcases Nat.mod_two_eq_zero_or_one i with e | e
        · obtain ⟨j, rfl⟩ : ∃ j, i = 2 * j := ⟨i / 2, by omega⟩
          rw [yvv (k2 j (by omega)).1, yvv (m2 j (by omega)).1, e2 j (by omega)]
        · obtain ⟨j, rfl⟩ : ∃ j, i = 2 * j + 1 := ⟨i / 2, by omega⟩
          rw [yvv (k2 j (by omega)).2, yvv (m2 j (by omega)).2, e2 j (by omega)]
/-- two codings differ: so do the texts -/
theorem Cod.dif {cd cd' : Int32} {n k : Nat} {f g : Nat → Int32} {V V' : Cell} (h : Cod cd n f V) (h' : Cod cd' k g V') (hne : ¬ cd = cd') : ¬ SameT n f k g := by
  rintro ⟨rfl, e⟩
  rcases h with ⟨rfl, -, k2⟩ | ⟨rfl, -, -, j, hj, hw⟩
  · rcases h' with ⟨rfl, -⟩ | ⟨-, -, -, j, hj, hw⟩
    · exact hne rfl
    · exact (k2 j hj).2 (by rw [e j hj]; exact hw)
  · rcases h' with ⟨-, -, m2⟩ | ⟨rfl, -⟩
    · exact (m2 j hj).2 (by rw [← e j hj]; exact hw)
    · exact hne rfl
/-- an object of exactly C is an instance of C -/
theorem cinst {p : Program} {l : Launch} {e : Env} {R : Room} {s : State} {m : MethodId} {args : Array Value} {below : List Frame} {meth : Method} {c : Code} {T : State} {locs : List Loc} {cells slots : Nat} (X : Stand p l e R s m args below meth c T locs cells slots) (hexec : p.tables.exec = Jvm.exec) {own C : String} {index : Nat} (hown : s.vm.findClass own = some m.cls) (hlink : (Cond.classLink own index C).before args s = true) {a : Addr} (hE : Exact C a T)
    {g : JFrame} (hg : g.method = m) {rest : List Value} (hstack : g.stack = .ref a :: rest) (hdg : decode c.code g.pc = .ok (.instanceof index, 3)) :
    ∃ T', Stand p l e R s m args below meth c T' locs cells slots ∧ T'.heap = T.heap ∧ ∀ target, Steps p.tables e below (T'.setTop { g with pc := g.pc + 3, stack := .int 1 :: rest }) target → Steps p.tables e below (T.setTop g) target := by
  obtain ⟨cB, h1, D, h2, h3, h4⟩ := hE
  have h1' : s.vm.findClass C = some cB := by rw [← X.warmed.alike.findClass]; exact h1
  obtain ⟨vm', X', st⟩ := X.instanceofYes hexec hown hlink h2 h4 h1' (by rw [h3]; exact Jvm.Free.SB.assignable_self _ _) hg hstack hdg
  exact ⟨_, X', rfl, st⟩
theorem cself {p : Program} {l : Launch} {e : Env} {R : Room} {s : State} {m : MethodId} {args : Array Value} {below : List Frame} {meth : Method} {c : Code} {T : State} {locs : List Loc} {cells slots : Nat} (X : Stand p l e R s m args below meth c T locs cells slots) (hexec : p.tables.exec = Jvm.exec) {own C : String} {index : Nat} (hown : s.vm.findClass own = some m.cls) (hlink : (Cond.classLink own index C).before args s = true) {a : Addr} (hE : Exact C a T)
    {g : JFrame} (hg : g.method = m) {rest : List Value} (hstack : g.stack = .ref a :: rest) (hdg : decode c.code g.pc = .ok (.checkcast index, 3)) :
    ∃ T', Stand p l e R s m args below meth c T' locs cells slots ∧ T'.heap = T.heap ∧ ∀ target, Steps p.tables e below (T'.setTop { g with pc := g.pc + 3, stack := .ref a :: rest }) target → Steps p.tables e below (T.setTop g) target := by
  obtain ⟨cB, h1, D, h2, h3, h4⟩ := hE
  have h1' : s.vm.findClass C = some cB := by rw [← X.warmed.alike.findClass]; exact h1
  obtain ⟨vm', X', st⟩ := X.checkcastYes hexec hown hlink h2 h4 h1' (by rw [h3]; exact Jvm.Free.SB.assignable_self _ _) hg hstack hdg
  exact ⟨_, X', rfl, fun t h => st t (by rw [← hstack] at h; exact h)⟩
namespace SEq
def yN : MethodName := ⟨"java/lang/String", "equals", "(Ljava/lang/Object;)Z"⟩
abbrev yB : ByteArray := jdk_42_method_66_code
theorem d0 : decode yB 0 = .ok (.aload_n 0, 1) := by decide +kernel
theorem d1 : decode yB 1 = .ok (.aload_n 1, 1) := by decide +kernel
theorem d2 : decode yB 2 = .ok (.if_acmp (.ne) 5, 3) := by decide +kernel
theorem d5 : decode yB 5 = .ok (.iconst 1, 1) := by decide +kernel
theorem d6 : decode yB 6 = .ok (.ireturn, 1) := by decide +kernel
theorem d7 : decode yB 7 = .ok (.aload_n 1, 1) := by decide +kernel
theorem d8 : decode yB 8 = .ok (.instanceof 10, 3) := by decide +kernel
theorem d11 : decode yB 11 = .ok (.ifCond (.eq) 43, 3) := by decide +kernel
theorem d14 : decode yB 14 = .ok (.aload_n 1, 1) := by decide +kernel
theorem d15 : decode yB 15 = .ok (.checkcast 10, 3) := by decide +kernel
theorem d18 : decode yB 18 = .ok (.astore_n 2, 1) := by decide +kernel
theorem d19 : decode yB 19 = .ok (.getstatic 38, 3) := by decide +kernel
theorem d22 : decode yB 22 = .ok (.ifCond (.eq) 14, 3) := by decide +kernel
theorem d25 : decode yB 25 = .ok (.aload_n 0, 1) := by decide +kernel
theorem d26 : decode yB 26 = .ok (.getfield 15, 3) := by decide +kernel
theorem d29 : decode yB 29 = .ok (.aload_n 2, 1) := by decide +kernel
theorem d30 : decode yB 30 = .ok (.getfield 15, 3) := by decide +kernel
theorem d33 : decode yB 33 = .ok (.if_icmp (.ne) 21, 3) := by decide +kernel
theorem d36 : decode yB 36 = .ok (.aload_n 0, 1) := by decide +kernel
theorem d37 : decode yB 37 = .ok (.getfield 9, 3) := by decide +kernel
theorem d40 : decode yB 40 = .ok (.aload_n 2, 1) := by decide +kernel
theorem d41 : decode yB 41 = .ok (.getfield 9, 3) := by decide +kernel
theorem d44 : decode yB 44 = .ok (.invokestatic 541, 3) := by decide +kernel
theorem d47 : decode yB 47 = .ok (.ifCond (.eq) 7, 3) := by decide +kernel
theorem d50 : decode yB 50 = .ok (.iconst 1, 1) := by decide +kernel
theorem d51 : decode yB 51 = .ok (.goto 4, 3) := by decide +kernel
theorem d54 : decode yB 54 = .ok (.iconst 0, 1) := by decide +kernel
theorem d55 : decode yB 55 = .ok (.ireturn, 1) := by decide +kernel
def site : List Cond := [.classLink "java/lang/String" 10 "java/lang/String", .fieldLink "java/lang/String" 38 "java/lang/String" "COMPACT_STRINGS" "Z", .fieldLink "java/lang/String" 15 "java/lang/String" "coder" "B", .fieldLink "java/lang/String" 9 "java/lang/String" "value" "[B", LEq.tab] ++ staticW "java/lang/String" 541 LEq.yN
def tab : Cond := tabOf yN yB 3 (some .boolean) site
def P (x t : Addr) (V : Cell) (cd : Int32) (n : Nat) (f : Nat → Int32) (y t' : Addr) (V' : Cell) (cd' : Int32) (k : Nat) (g : Nat → Int32) (z : Int32) (args : Array Value) (s : State) : Prop := args = #[.ref x, .ref y] ∧ Txt x t V cd n f s ∧ Txt y t' V' cd' k g s ∧ StaticIs s "java/lang/String" "COMPACT_STRINGS" "Z" (.int z) ∧ ¬ z = 0
/-- equals(Object) of two Strings: whether the texts are the same -/
theorem law (l : Launch) (x t : Addr) (V : Cell) (cd : Int32) (n : Nat) (f : Nat → Int32) (y t' : Addr) (V' : Cell) (cd' : Int32) (k : Nat) (g : Nat → Int32) (z : Int32) : Law l yN 2 1 1 14 yB 3 (some .boolean) site (P x t V cd n f y t' V' cd' k g z) (Says01 (SameT n f k g)) [] 0 0 := by
  refine Law.of_walk (plainFor_of_name (by decide +kernel)) (by decide +kernel) (by decide +kernel) (by decide) (fun _ _ h => by rw [h.1]; rfl) (fun _ U U' hal hh h => ⟨h.1, h.2.1.mv hal hh, h.2.2.1.mv hal hh, h.2.2.2.1.there hal hh, h.2.2.2.2⟩) (fun r U U' V V' h1 hal h2 h => Says01.mv r U U' V V' h1 hal h2 h) ?_
  intro p e s m args below meth c s₁ X0 hexec hbytes hml hret hlk hnm hown hh0 W hP
  obtain ⟨rfl, hx, hy, s1, hz⟩ := hP
  have c1 : Steps p.tables e below (s₁.setTop (entryFrame m #[.ref x, .ref y] 3)) (s₁.setTop (mkF m 2 #[.val (.ref x), .val (.ref y), .unset] [.ref y, .ref x])) := Steps.trans (entry rfl) (by
    show Steps p.tables e below (s₁.setTop (mkF m 0 #[.val (.ref x), .val (.ref y), .unset] [])) _
    refine XS.aloadN X0.here hexec rfl (hb hbytes d0) rfl rfl ?_
    refine XS.aloadN X0.here hexec rfl (hb hbytes d1) rfl rfl ?_
    exact Steps.refl _)
  by_cases hxy : x = y
  · have c2 : Steps p.tables e below (s₁.setTop (entryFrame m #[.ref x, .ref y] 3)) (s₁.setTop (mkF m 6 #[.val (.ref x), .val (.ref y), .unset] [.int 1])) := c1.trans (by
      refine acmpNo X0.here hexec rfl (hb hbytes d2) rfl rfl rfl (by simp [acmp, hxy]) ?_
      refine iconstV X0.here hexec rfl 1 (hb hbytes d5) (by decide) ?_
      exact Steps.refl _)
    subst hxy
    have ec : cd = cd' := by
      obtain ⟨D, fd, a1, a2, a3⟩ := hx.2.2.1
      obtain ⟨D', fd', b1, b2, b3⟩ := hy.2.2.1
      cases a1.symm.trans b1
      obtain ⟨q1, q2, q3, q4⟩ := a2.1
      obtain ⟨r1, r2, r3, r4⟩ := b2.1
      cases q4.symm.trans r4
      cases a3.symm.trans b3; rfl
    have et : t = t' := by
      obtain ⟨D, fd, a1, a2, a3⟩ := hx.2.1
      obtain ⟨D', fd', b1, b2, b3⟩ := hy.2.1
      cases a1.symm.trans b1
      obtain ⟨q1, q2, q3, q4⟩ := a2.1
      obtain ⟨r1, r2, r3, r4⟩ := b2.1
      cases q4.symm.trans r4
      cases a3.symm.trans b3; rfl
    subst ec et
    have ev : V = V' := by cases hx.2.2.2.1.1.symm.trans hy.2.2.2.1.1; rfl
    subst ev
    have hs : SameT n f k g := (Cod.eqv hx.2.2.2.2.1 hy.2.2.2.2.1 hx.2.2.2.2.2 hy.2.2.2.2.2).mp ⟨rfl, fun _ _ => rfl⟩
    exact ⟨s₁, some (.int 1), _, _, _, X0, rfl, rfl, rfl, (fun h => by cases h), ⟨1, rfl, hh0, Or.inl ⟨rfl, hs⟩⟩, fun fs hl => c2.trans (X0.ireturnOut hexec hret rfl (Or.inr (Or.inl rfl)) (hb hbytes d6) hl)⟩
  · have c2 : Steps p.tables e below (s₁.setTop (entryFrame m #[.ref x, .ref y] 3)) (s₁.setTop (mkF m 8 #[.val (.ref x), .val (.ref y), .unset] [.ref y])) := c1.trans (by
      refine acmpYes X0.here hexec rfl (pc0 := 2) rfl (hb hbytes d2) rfl rfl rfl (by simp [acmp, hxy]) (by decide) rfl ?_
      refine XS.aloadN X0.here hexec rfl (hb hbytes d7) rfl rfl ?_
      exact Steps.refl _)
    obtain ⟨T3, X3, q3, st3⟩ := cinst X0 hexec hown (wk W (.classLink "java/lang/String" 10 "java/lang/String")) (hy.mv X0.warmed.alike hh0).1 (g := (mkF m 8 #[.val (.ref x), .val (.ref y), .unset] [.ref y])) rfl (rest := []) rfl (hb hbytes d8)
    have hh3 := q3.trans hh0
    have c4 : Steps p.tables e below (s₁.setTop (entryFrame m #[.ref x, .ref y] 3)) (T3.setTop (mkF m 15 #[.val (.ref x), .val (.ref y), .unset] [.ref y])) := (c2.trans (st3 _ (Steps.refl _))).trans (by
      refine XS.ifNo X3.here hexec rfl (hb hbytes d11) rfl (i0_eq_f (by decide)) ?_
      refine XS.aloadN X3.here hexec rfl (hb hbytes d14) rfl rfl ?_
      exact Steps.refl _)
    obtain ⟨T5, X5, q5, st5⟩ := cself X3 hexec hown (wk W (.classLink "java/lang/String" 10 "java/lang/String")) (hy.mv X3.warmed.alike hh3).1 (g := (mkF m 15 #[.val (.ref x), .val (.ref y), .unset] [.ref y])) rfl (rest := []) rfl (hb hbytes d15)
    have hh5 := q5.trans hh3
    have c6 : Steps p.tables e below (s₁.setTop (entryFrame m #[.ref x, .ref y] 3)) (T5.setTop (mkF m 19 #[.val (.ref x), .val (.ref y), .val (.ref y)] [])) := (c4.trans (st5 _ (Steps.refl _))).trans (by
      refine XS.astoreN X5.here hexec rfl (hb hbytes d18) rfl rfl rfl ?_
      exact Steps.refl _)
    obtain ⟨T7, X7, q7, st7⟩ := X5.sget hexec hown (wk W (.fieldLink "java/lang/String" 38 "java/lang/String" "COMPACT_STRINGS" "Z")) s1 (fun _ _ h => by rw [hh5]; exact h) (g := (mkF m 19 #[.val (.ref x), .val (.ref y), .val (.ref y)] [])) rfl (hb hbytes d19)
    have hh7 := q7.trans hh5
    have c8 : Steps p.tables e below (s₁.setTop (entryFrame m #[.ref x, .ref y] 3)) (T7.setTop (mkF m 26 #[.val (.ref x), .val (.ref y), .val (.ref y)] [.ref x])) := (c6.trans (st7 _ (Steps.refl _))).trans (by
      refine XS.ifNo X7.here hexec rfl (hb hbytes d22) rfl (i0_eq_f hz) ?_
      refine XS.aloadN X7.here hexec rfl (hb hbytes d25) rfl rfl ?_
      exact Steps.refl _)
    obtain ⟨T9, X9, q9, st9⟩ := X7.hget hexec hown (wk W (.fieldLink "java/lang/String" 15 "java/lang/String" "coder" "B")) (hx.mv X7.warmed.alike hh7).2.2.1 (g := (mkF m 26 #[.val (.ref x), .val (.ref y), .val (.ref y)] [.ref x])) rfl (rest := []) rfl (hb hbytes d26)
    have hh9 := q9.trans hh7
    have c10 : Steps p.tables e below (s₁.setTop (entryFrame m #[.ref x, .ref y] 3)) (T9.setTop (mkF m 30 #[.val (.ref x), .val (.ref y), .val (.ref y)] [.ref y, .int cd])) := (c8.trans (st9 _ (Steps.refl _))).trans (by
      refine XS.aloadN X9.here hexec rfl (hb hbytes d29) rfl rfl ?_
      exact Steps.refl _)
    obtain ⟨T11, X11, q11, st11⟩ := X9.hget hexec hown (wk W (.fieldLink "java/lang/String" 15 "java/lang/String" "coder" "B")) (hy.mv X9.warmed.alike hh9).2.2.1 (g := (mkF m 30 #[.val (.ref x), .val (.ref y), .val (.ref y)] [.ref y, .int cd])) rfl (rest := [.int cd]) rfl (hb hbytes d30)
    have hh11 := q11.trans hh9
    have c12 : Steps p.tables e below (s₁.setTop (entryFrame m #[.ref x, .ref y] 3)) (T11.setTop (mkF m 33 #[.val (.ref x), .val (.ref y), .val (.ref y)] [.int cd', .int cd])) := c10.trans (st11 _ (Steps.refl _))
    by_cases hcd : cd = cd'
    · subst hcd
      have c13 : Steps p.tables e below (s₁.setTop (entryFrame m #[.ref x, .ref y] 3)) (T11.setTop (mkF m 37 #[.val (.ref x), .val (.ref y), .val (.ref y)] [.ref x])) := c12.trans (by
        refine XS.icmpNo X11.here hexec rfl (hb hbytes d33) rfl (ii_ne_f rfl) ?_
        refine XS.aloadN X11.here hexec rfl (hb hbytes d36) rfl rfl ?_
        exact Steps.refl _)
      obtain ⟨T14, X14, q14, st14⟩ := X11.hget hexec hown (wk W (.fieldLink "java/lang/String" 9 "java/lang/String" "value" "[B")) (hx.mv X11.warmed.alike hh11).2.1 (g := (mkF m 37 #[.val (.ref x), .val (.ref y), .val (.ref y)] [.ref x])) rfl (rest := []) rfl (hb hbytes d37)
      have hh14 := q14.trans hh11
      have c15 : Steps p.tables e below (s₁.setTop (entryFrame m #[.ref x, .ref y] 3)) (T14.setTop (mkF m 41 #[.val (.ref x), .val (.ref y), .val (.ref y)] [.ref y, .ref t])) := (c13.trans (st14 _ (Steps.refl _))).trans (by
        refine XS.aloadN X14.here hexec rfl (hb hbytes d40) rfl rfl ?_
        exact Steps.refl _)
      obtain ⟨T16, X16, q16, st16⟩ := X14.hget hexec hown (wk W (.fieldLink "java/lang/String" 9 "java/lang/String" "value" "[B")) (hy.mv X14.warmed.alike hh14).2.1 (g := (mkF m 41 #[.val (.ref x), .val (.ref y), .val (.ref y)] [.ref y, .ref t])) rfl (rest := [.ref t]) rfl (hb hbytes d41)
      have hh16 := q16.trans hh14
      have c17 : Steps p.tables e below (s₁.setTop (entryFrame m #[.ref x, .ref y] 3)) (T16.setTop (mkF m 44 #[.val (.ref x), .val (.ref y), .val (.ref y)] [.ref t', .ref t])) := c15.trans (st16 _ (Steps.refl _))
      obtain ⟨v18, T18, X18, E18, g18⟩ := X16.callS hexec (LEq.law l t V t' V') hown (wks W (staticW "java/lang/String" 541 LEq.yN)) (wk W LEq.tab) (W := 0) (Nat.le_of_ble_eq_true rfl) (Nat.le_of_ble_eq_true rfl) (Nat.le_refl _) (Nat.le_refl _) (g := (mkF m 44 #[.val (.ref x), .val (.ref y), .val (.ref y)] [.ref t', .ref t])) rfl (by rw [hml]; rfl) c17 (argsL := [.ref t, .ref t']) (rest := []) rfl rfl (by show 2 * 0 + 0 ≤ _; decide) (hb hbytes d44) (⟨rfl, hx.2.2.2.1.mv X16.warmed.alike hh16, hx.2.2.2.2.1.ty, hy.2.2.2.1.mv X16.warmed.alike hh16, hy.2.2.2.2.1.ty⟩)
      obtain ⟨v, rfl, q18, hv⟩ := E18
      have iff := Cod.eqv hx.2.2.2.2.1 hy.2.2.2.2.1 hx.2.2.2.2.2 hy.2.2.2.2.2
      rcases hv with ⟨rfl, he⟩ | ⟨rfl, he⟩
      · have c19 : Steps p.tables e below (s₁.setTop (entryFrame m #[.ref x, .ref y] 3)) (T18.setTop (mkF m 55 #[.val (.ref x), .val (.ref y), .val (.ref y)] [.int 1])) := Steps.trans g18 (by
          refine XS.ifNo X18.here hexec rfl (hb hbytes d47) rfl (i0_eq_f (by decide)) ?_
          refine iconstV X18.here hexec rfl 1 (hb hbytes d50) (by decide) ?_
          refine XS.goto X18.here hexec rfl (pc0 := 51) rfl (hb hbytes d51) (by decide) rfl ?_
          exact Steps.refl _)
        exact ⟨T18, some (.int 1), _, _, _, X18, rfl, rfl, rfl, (fun h => by cases h), ⟨1, rfl, q18.trans hh16, Or.inl ⟨rfl, iff.mp he⟩⟩, fun fs hl => c19.trans (X18.ireturnOut hexec hret rfl (Or.inr (Or.inl rfl)) (hb hbytes d55) hl)⟩
      · have c19 : Steps p.tables e below (s₁.setTop (entryFrame m #[.ref x, .ref y] 3)) (T18.setTop (mkF m 55 #[.val (.ref x), .val (.ref y), .val (.ref y)] [.int 0])) := Steps.trans g18 (by
          refine XS.ifYes X18.here hexec rfl (pc0 := 47) rfl (hb hbytes d47) rfl (i0_eq_t rfl) (by decide) rfl ?_
          refine iconstV X18.here hexec rfl 0 (hb hbytes d54) (by decide) ?_
          exact Steps.refl _)
        exact ⟨T18, some (.int 0), _, _, _, X18, rfl, rfl, rfl, (fun h => by cases h), ⟨0, rfl, q18.trans hh16, Or.inr ⟨rfl, fun q => he (iff.mpr q)⟩⟩, fun fs hl => c19.trans (X18.ireturnOut hexec hret rfl (Or.inr (Or.inl rfl)) (hb hbytes d55) hl)⟩
    · have c13 : Steps p.tables e below (s₁.setTop (entryFrame m #[.ref x, .ref y] 3)) (T11.setTop (mkF m 55 #[.val (.ref x), .val (.ref y), .val (.ref y)] [.int 0])) := c12.trans (by
        refine XS.icmpYes X11.here hexec rfl (pc0 := 33) rfl (hb hbytes d33) rfl (ii_ne_t hcd) (by decide) rfl ?_
        refine iconstV X11.here hexec rfl 0 (hb hbytes d54) (by decide) ?_
        exact Steps.refl _)
      exact ⟨T11, some (.int 0), _, _, _, X11, rfl, rfl, rfl, (fun h => by cases h), ⟨0, rfl, hh11, Or.inr ⟨rfl, Cod.dif hx.2.2.2.2.1 hy.2.2.2.2.1 hcd⟩⟩, fun fs hl => c13.trans (X11.ireturnOut hexec hret rfl (Or.inr (Or.inl rfl)) (hb hbytes d55) hl)⟩
theorem pays {l : Launch} {R : Room} {p : Program} {e : Env} {below : List Frame} {s : State} {sargs : Array Value} {len W : Nat} (x t : Addr) (V : Cell) (cd : Int32) (n : Nat) (f : Nat → Int32) (y t' : Addr) (V' : Cell) (cd' : Int32) (k : Nat) (g : Nat → Int32) (z : Int32) (htab : tab.before sargs s = true) (hfr : 2 ≤ R.frames) (hlo : W + 28 ≤ R.locals) :
    Back l R p e below s sargs yN len W (fun A₁ a₁ => A₁.cells + 0 ≤ R.cells ∧ A₁.slots + 0 ≤ R.slots ∧ P x t V cd n f y t' V' cd' k g z a₁ A₁.U) (fun A₁ _ v₁ B₁ => Says01 (SameT n f k g) v₁ A₁.U B₁.U ∧ B₁.locs = A₁.locs ++ [] ∧ B₁.cells = A₁.cells + 0 ∧ B₁.slots = A₁.slots + 0) :=
  (law l x t V cd n f y t' V' cd' k g z).pays htab hfr (by omega)
end SEq
end StrChars
namespace StrChars.Road
open Jvm Sem ClassFile Op Lib Jvm.Stand Jvm.Free Jvm.Free.XT
open Jvm.Lib.Cold (StaticIs)
/-- the words of String.equals(Object) -/
abbrev wordsEq : List Jvm.Cond := [.code SEq.yN SEq.yB 3 (some .boolean), .initialized ST, .classLink ST 10 ST, .fieldLink ST 38 ST "COMPACT_STRINGS" "Z", .fieldLink ST 15 ST "coder" "B", .fieldLink ST 9 ST "value" "[B", .methodLink ST 541 LEq.yN, .static LEq.yN, .code LEq.yN LEq.yB 3 (some .boolean), .initialized "java/lang/StringLatin1"]
theorem tabEq_of {a : Array Value} {s : State} (h : ∀ w ∈ wordsEq, w.before a s = true) : SEq.tab.before a s = true := by
  have hl : LEq.tab.before a s = true := unparts (wk h (.code LEq.yN LEq.yB 3 (some .boolean))) (wks h (.initialized LEq.yN.cls :: LEq.site))
  have q := consq hl h
  exact unparts (wk q (.code SEq.yN SEq.yB 3 (some .boolean))) (wks q (.initialized SEq.yN.cls :: SEq.site))
theorem movedEq {Z s : State} {a0 args : Array Value} (hZ : Z.Warmed39 s.vm) (hw : ∀ d ∈ wordsEq, d.before a0 Z = true) : ∀ d ∈ wordsEq, d.before args s = true := fun d hd => by
  have t : ∀ d ∈ wordsEq, (d.onTables && d.keepsFace) = true := by decide +kernel
  exact RoadKit.mv hZ (hw d hd) (t d hd)
/-- the road's facts of a String, as the laws ask it -/
theorem txt_of {Z U : State} {a0 : Array Value} {kI : Nat} (wi : (Jvm.Cond.instantiable ST kI).before a0 Z = true) (al : Z.vm.Alike U.vm) {x t : Addr} {kb : ClassId} {cs : List Int32} {cd N2 : Int32} {vs : List Value} (E : RoadKit.Exa Z U.heap x ST) (V : RoadKit.Fld Z U.heap x ST "value" "[B" (.ref t)) (C : RoadKit.Fld Z U.heap x ST "coder" "B" (.int cd)) (K : RoadKit.Arv Z U.heap t kb .byte N2 vs (.int 0)) (hc : CodA cs cd N2 vs) (hb : ∀ c ∈ cs, ¬ c < 0 ∧ ¬ (65535 : Int32) < c) (l2 : cs.length ≤ 4000) :
    ∃ A, Txt x t A cd cs.length (fun j => cs.getD j 0) U := by
  obtain ⟨A, K1, K2, K3, K4, K5, K6⟩ := K
  have hcod := hc.cod (by omega) K3 K5
  obtain ⟨D, fV, fC, hB, F1, F2, g1, g2, -, -⟩ := strObj wi al E V C
  exact ⟨A, ⟨_, hB.2.2.1, D, hB.1, rfl, by cases q : D.vm <;> first | rfl | exact absurd q (hB.2.1.2 _)⟩, Has.of hB F1 g1, Has.of hB F2 g2, ⟨K1.1, State.isArrayOf_alike al K1.2.1, K1.2.2, by rcases hcod with ⟨-, q, -⟩ | ⟨-, q, -⟩ <;> omega⟩, hcod, fun j hj => by
    have e : cs.getD j 0 = cs[j] := by simp [List.getD_eq_getElem?_getD, hj]
    show ¬ cs.getD j 0 < 0 ∧ ¬ 65535 < cs.getD j 0
    rw [e]; exact hb _ (List.getElem_mem _)⟩
theorem same_list (cs ds : List Int32) : SameT cs.length (fun j => cs.getD j 0) ds.length (fun j => ds.getD j 0) ↔ cs = ds := by
  constructor
  · rintro ⟨e, q⟩
    refine List.ext_getElem e fun j h1 h2 => ?_
    have := q j h1
    simpa [List.getD_eq_getElem?_getD, h1, h2] using this
  · rintro rfl
    exact ⟨rfl, fun _ _ => rfl⟩
/-- **equals(Object) OF TWO SUCH STRINGS**: 1 just where the chars are the same -/
theorem eqW {p : Program} {l : Launch} {e : Env} {R : Room} {s : State} {args : Array Value} {below : List Frame} {len W : Nat} {Z : State} {a0 : Array Value} {h : Heap} (hZ : Z.Warmed39 s.vm) (hw : ∀ d ∈ wordsEq, d.before a0 Z = true) {kI : Nat} (wi : (Jvm.Cond.instantiable ST kI).before a0 Z = true)
    {x t : Addr} {kb : ClassId} {cs : List Int32} {cd N2 : Int32} {vs : List Value} (E : RoadKit.Exa Z h x ST) (V : RoadKit.Fld Z h x ST "value" "[B" (.ref t)) (C : RoadKit.Fld Z h x ST "coder" "B" (.int cd)) (K : RoadKit.Arv Z h t kb .byte N2 vs (.int 0)) (hc : CodA cs cd N2 vs) (hb : ∀ c ∈ cs, ¬ c < 0 ∧ ¬ (65535 : Int32) < c) (l2 : cs.length ≤ 4000)
    {y t' : Addr} {kb' : ClassId} {ds : List Int32} {cd' N2' : Int32} {vs' : List Value} (E' : RoadKit.Exa Z h y ST) (V' : RoadKit.Fld Z h y ST "value" "[B" (.ref t')) (C' : RoadKit.Fld Z h y ST "coder" "B" (.int cd')) (K' : RoadKit.Arv Z h t' kb' .byte N2' vs' (.int 0)) (hc' : CodA ds cd' N2' vs') (hb' : ∀ c ∈ ds, ¬ c < 0 ∧ ¬ (65535 : Int32) < c) (l2' : ds.length ≤ 4000)
    {z : Int32} (S : RoadKit.Sta Z h ST "COMPACT_STRINGS" "Z" (.int z)) (hz : ¬ z = 0) (hfr : 2 ≤ R.frames) (hlo : W + 28 ≤ R.locals) :
    Back l R p e below s args (⟨"java/lang/String", "equals", "(Ljava/lang/Object;)Z"⟩ : MethodName) len W (fun P a => a = #[.ref x, .ref y] ∧ P.U.heap = h ∧ P.cells + 0 ≤ R.cells ∧ P.slots + 0 ≤ R.slots)
      (fun P _ v B => ∃ L, (((v = some (.int 1) ∧ cs = ds) ∨ (v = some (.int 0) ∧ ¬ cs = ds)) ∧ L = [] ∧ B.U.heap = h) ∧ B.locs = P.locs ++ L ∧ B.cells = P.cells + 0 ∧ B.slots = P.slots + 0) := by
  intro m meth c P g ig mk a X hg hsize hdg hW hn hp'
  obtain ⟨rfl, rfl, r1, r2⟩ := hp'
  have al : Z.vm.Alike P.U.vm := hZ.alike.trans X.warmed.alike
  obtain ⟨A, hx⟩ := txt_of wi al E V C K hc hb l2
  obtain ⟨A', hy⟩ := txt_of wi al E' V' C' K' hc' hb' l2'
  obtain ⟨v, B, X', ⟨⟨w, hv, hh, hq⟩, hl, hk, hs⟩, st⟩ := SEq.pays x t A cd cs.length (fun j => cs.getD j 0) y t' A' cd' ds.length (fun j => ds.getD j 0) z (tabEq_of (movedEq hZ hw)) hfr hlo m meth c P g ig mk _ X hg hsize hdg hW hn ⟨r1, r2, rfl, hx, hy, sta_is al S, hz⟩
  refine ⟨v, B, X', ⟨[], ⟨?_, rfl, hh⟩, hl, hk, hs⟩, st⟩
  rcases hq with ⟨rfl, q⟩ | ⟨rfl, q⟩
  · exact Or.inl ⟨hv, (same_list cs ds).mp q⟩
  · exact Or.inr ⟨hv, fun e => q ((same_list cs ds).mpr e)⟩
end StrChars.Road
namespace StrChars
open Jvm Sem ClassFile Op Lib Jvm.Stand Jvm.Free.XT Jvm.Free.ALB Jvm.Free.JM Jvm.Free
open Jvm.Lib.Cold (StaticIs)
namespace ChN
def yN : MethodName := ⟨"java/lang/String", "charAt", "(I)C"⟩
abbrev yB : ByteArray := jdk_42_method_56_code
theorem d0 : decode yB 0 = .ok (.aload_n 0, 1) := by decide +kernel
theorem d1 : decode yB 1 = .ok (.invokevirtual 492, 3) := by decide +kernel
theorem d4 : decode yB 4 = .ok (.ifCond (.eq) 12, 3) := by decide +kernel
theorem d7 : decode yB 7 = .ok (.aload_n 0, 1) := by decide +kernel
theorem d8 : decode yB 8 = .ok (.getfield 9, 3) := by decide +kernel
theorem d11 : decode yB 11 = .ok (.iload_n 1, 1) := by decide +kernel
theorem d12 : decode yB 12 = .ok (.invokestatic 495, 3) := by decide +kernel
theorem d15 : decode yB 15 = .ok (.ireturn, 1) := by decide +kernel
def site : List Cond := [.fieldLink "java/lang/String" 9 "java/lang/String" "value" "[B", IsL.tab, LChA.tab] ++ virtW "java/lang/String" 492 "java/lang/String" IsL.yN IsL.yN ++ staticW "java/lang/String" 495 LChA.yN
def tab : Cond := tabOf yN yB 2 (some .char) site
def P (x t : Addr) (V : Cell) (n : Nat) (f : Nat → Int32) (z : Int32) (fm : Value) (i : Nat) (args : Array Value) (s : State) : Prop := args = #[.ref x, .int (Int32.ofNat i)] ∧ Txt x t V 0 n f s ∧ i < n ∧ StaticIs s "java/lang/String" "COMPACT_STRINGS" "Z" (.int z) ∧ ¬ z = 0 ∧ StaticIs s "jdk/internal/util/Preconditions" "SIOOBE_FORMATTER" "Ljava/util/function/BiFunction;" fm ∧ fm.isRef = true
def E (f : Nat → Int32) (i : Nat) (r : Option Value) (s u : State) : Prop := XT.PureE (some (.int (f i))) r s u
/-- charAt(i) of a Latin-1 String of n chars, i < n: f i -/
theorem law (l : Launch) (x t : Addr) (V : Cell) (n : Nat) (f : Nat → Int32) (z : Int32) (fm : Value) (i : Nat) : Law l yN 2 1 3 40 yB 2 (some .char) site (P x t V n f z fm i) (E f i) [] 0 0 := by
  refine Law.of_walk (plainFor_of_name (by decide +kernel)) (by decide +kernel) (by decide +kernel) (by decide) (fun _ _ h => by rw [h.1]; rfl) (fun _ U U' hal hh h => ⟨h.1, h.2.1.mv hal hh, h.2.2.1, h.2.2.2.1.there hal hh, h.2.2.2.2.1, h.2.2.2.2.2.1.there hal hh, h.2.2.2.2.2.2⟩) (fun r U U' V V' h1 hal h2 h => XT.PureE.mv r U U' V V' h1 hal h2 h) ?_
  intro p e s m args below meth c s₁ X0 hexec hbytes hml hret hlk hnm hown hh0 W hP
  obtain ⟨rfl, hx, hi, s1, hz, s3, rf⟩ := hP
  have v31 := hx.2.2.2.1.2.2.2
  have hr := hx.2.2.2.2.2 i hi
  have hx0 := hx.mv X0.warmed.alike hh0
  have c1 : Steps p.tables e below (s₁.setTop (entryFrame m #[.ref x, .int (Int32.ofNat i)] 2)) (s₁.setTop (mkF m 1 #[.val (.ref x), .val (.int (Int32.ofNat i))] [.ref x])) := Steps.trans (entry rfl) (by
    show Steps p.tables e below (s₁.setTop (mkF m 0 #[.val (.ref x), .val (.int (Int32.ofNat i))] [])) _
    refine XS.aloadN X0.here hexec rfl (hb hbytes d0) rfl rfl ?_
    exact Steps.refl _)
  obtain ⟨v2, T2, X2, E2, g2⟩ := X0.callV hexec (IsL.law l x 0 z) hown (wks W (virtW "java/lang/String" 492 "java/lang/String" IsL.yN IsL.yN)) rfl (by decide) (wk W IsL.tab) (W := 0) (Nat.le_of_ble_eq_true rfl) (Nat.le_of_ble_eq_true rfl) (Nat.le_refl _) (Nat.le_refl _) (hx0.1.fc X0.warmed.alike) hx0.1.is (g := (mkF m 1 #[.val (.ref x), .val (.int (Int32.ofNat i))] [.ref x])) rfl (by rw [hml]; rfl) c1 (argsL := []) (rest := []) rfl rfl (by show 2 * 0 + 0 ≤ _; decide) (hb hbytes d1) (⟨rfl, hx0.2.2.1, hx.2.2.2.2.1.cd, s1.there X0.warmed.alike hh0, hz⟩)
  obtain ⟨rfl, q2⟩ := E2
  have hh2 := q2.trans hh0
  have hx2 := hx.mv X2.warmed.alike hh2
  obtain ⟨-, k1, k2⟩ | ⟨k0, -⟩ := hx.2.2.2.2.1
  · have c3 : Steps p.tables e below (s₁.setTop (entryFrame m #[.ref x, .int (Int32.ofNat i)] 2)) (T2.setTop (mkF m 8 #[.val (.ref x), .val (.int (Int32.ofNat i))] [.ref x])) := Steps.trans g2 (by
      refine XS.ifNo X2.here hexec rfl (hb hbytes d4) rfl (i0_eq_f (by decide)) ?_
      refine XS.aloadN X2.here hexec rfl (hb hbytes d7) rfl rfl ?_
      exact Steps.refl _)
    obtain ⟨T4, X4, q4, st4⟩ := X2.hget hexec hown (wk W (.fieldLink "java/lang/String" 9 "java/lang/String" "value" "[B")) hx2.2.1 (g := (mkF m 8 #[.val (.ref x), .val (.int (Int32.ofNat i))] [.ref x])) rfl (rest := []) rfl (hb hbytes d8)
    have hh4 := q4.trans hh2
    have c5 : Steps p.tables e below (s₁.setTop (entryFrame m #[.ref x, .int (Int32.ofNat i)] 2)) (T4.setTop (mkF m 12 #[.val (.ref x), .val (.int (Int32.ofNat i))] [.int (Int32.ofNat i), .ref t])) := (c3.trans (st4 _ (Steps.refl _))).trans (by
      refine XS.iloadN X4.here hexec rfl (hb hbytes d11) rfl ?_
      exact Steps.refl _)
    obtain ⟨v6, T6, X6, E6, g6⟩ := X4.callS hexec (LChA.law l t V i (lo8 (f i)) fm) hown (wks W (staticW "java/lang/String" 495 LChA.yN)) (wk W LChA.tab) (W := 0) (Nat.le_of_ble_eq_true rfl) (Nat.le_of_ble_eq_true rfl) (Nat.le_refl _) (Nat.le_refl _) (g := (mkF m 12 #[.val (.ref x), .val (.int (Int32.ofNat i))] [.int (Int32.ofNat i), .ref t])) rfl (by rw [hml]; rfl) c5 (argsL := [.ref t, .int (Int32.ofNat i)]) (rest := []) rfl rfl (by show 2 * 0 + 0 ≤ _; decide) (hb hbytes d12) (⟨rfl, hx.2.2.2.1.mv X4.warmed.alike hh4, (k2 i hi).1, s3.there X4.warmed.alike hh4, rf⟩)
    obtain ⟨rfl, q6⟩ := E6
    rw [chr8_lo8 hr.1 (k2 i hi).2] at g6
    exact ⟨T6, some (.int (f i)), _, _, _, X6, rfl, rfl, rfl, (fun h => by cases h), ⟨rfl, q6.trans hh4⟩, fun fs hl => Steps.trans g6 (X6.ireturnOut hexec hret (narrow_ch hr.1 hr.2) (Or.inr (Or.inr (Or.inr (Or.inl rfl)))) (hb hbytes d15) hl)⟩
  · exact absurd k0 (by decide)
theorem pays {l : Launch} {R : Room} {p : Program} {e : Env} {below : List Frame} {s : State} {sargs : Array Value} {len W : Nat} (x t : Addr) (V : Cell) (n : Nat) (f : Nat → Int32) (z : Int32) (fm : Value) (i : Nat) (htab : tab.before sargs s = true) (hfr : 4 ≤ R.frames) (hlo : W + 53 ≤ R.locals) :
    Back l R p e below s sargs yN len W (fun A₁ a₁ => A₁.cells + 0 ≤ R.cells ∧ A₁.slots + 0 ≤ R.slots ∧ P x t V n f z fm i a₁ A₁.U) (fun A₁ _ v₁ B₁ => E f i v₁ A₁.U B₁.U ∧ B₁.locs = A₁.locs ++ [] ∧ B₁.cells = A₁.cells + 0 ∧ B₁.slots = A₁.slots + 0) :=
  (law l x t V n f z fm i).pays htab hfr (by omega)
end ChN
end StrChars
namespace StrChars.Road
open Jvm Sem ClassFile Op Lib Jvm.Stand Jvm.Free Jvm.Free.XT
open Jvm.Lib.Cold (StaticIs)
/-- the words of String.charAt(int), the Latin-1 road alone -/
abbrev wordsChN : List Jvm.Cond := [.code ChN.yN ChN.yB 2 (some .char), .initialized ST, .fieldLink ST 9 ST "value" "[B", .fieldLink ST 38 ST "COMPACT_STRINGS" "Z", .fieldLink ST 15 ST "coder" "B", .code IsL.yN IsL.yB 1 (some .boolean), .methodLink ST 492 IsL.yN, .declares IsL.yN, .selects ST IsL.yN IsL.yN, .instanceMethod IsL.yN,
  .methodLink ST 495 LChA.yN, .static LChA.yN, .code LChA.yN LChA.yB 2 (some .char), .initialized "java/lang/StringLatin1", .methodLink "java/lang/StringLatin1" 9 JO.Str_checkIndex.yN, .static JO.Str_checkIndex.yN, .code JO.Str_checkIndex.yN JO.Str_checkIndex.yB 2 none,
  .fieldLink ST 1053 "jdk/internal/util/Preconditions" "SIOOBE_FORMATTER" "Ljava/util/function/BiFunction;", .methodLink ST 1059 JC.PreCheck.yN, .static JC.PreCheck.yN, .code JC.PreCheck.yN JC.PreCheck.yB 3 (some .int), .initialized "jdk/internal/util/Preconditions"]
theorem tabChN_of {a : Array Value} {s : State} (h : ∀ w ∈ wordsChN, w.before a s = true) : ChN.tab.before a s = true := by
  have hp : JC.PreCheck.tab.before a s = true := unparts (wk h (.code JC.PreCheck.yN JC.PreCheck.yB 3 (some .int))) (wks h (.initialized JC.PreCheck.yN.cls :: JC.PreCheck.site))
  have qk := consq hp h
  have hk : JO.Str_checkIndex.tab.before a s = true := unparts (wk qk (.code JO.Str_checkIndex.yN JO.Str_checkIndex.yB 2 none)) (wks qk (.initialized JO.Str_checkIndex.yN.cls :: JO.Str_checkIndex.site))
  have ql := consq hk h
  have hl : LChA.tab.before a s = true := unparts (wk ql (.code LChA.yN LChA.yB 2 (some .char))) (wks ql (.initialized LChA.yN.cls :: LChA.site))
  have hi : IsL.tab.before a s = true := unparts (wk h (.code IsL.yN IsL.yB 1 (some .boolean))) (wks h (.initialized IsL.yN.cls :: IsL.site))
  have q := consq hi (consq hl h)
  exact unparts (wk q (.code ChN.yN ChN.yB 2 (some .char))) (wks q (.initialized ChN.yN.cls :: ChN.site))
theorem movedChN {Z s : State} {a0 args : Array Value} (hZ : Z.Warmed39 s.vm) (hw : ∀ d ∈ wordsChN, d.before a0 Z = true) : ∀ d ∈ wordsChN, d.before args s = true := fun d hd => by
  have t : ∀ d ∈ wordsChN, (d.onTables && d.keepsFace) = true := by decide +kernel
  exact RoadKit.mv hZ (hw d hd) (t d hd)
/-- **charAt(i) OF A LATIN-1 STRING**, i < n: the char -/
theorem chN {p : Program} {l : Launch} {e : Env} {R : Room} {s : State} {args : Array Value} {below : List Frame} {len W : Nat} {Z : State} {a0 : Array Value} {h : Heap} (hZ : Z.Warmed39 s.vm) (hw : ∀ d ∈ wordsChN, d.before a0 Z = true) {kI : Nat} (wi : (Jvm.Cond.instantiable ST kI).before a0 Z = true)
    {x t : Addr} {kb : ClassId} {cs : List Int32} {N2 z : Int32} {vs : List Value} {fm : Value} {i : Nat} {j : Int32} (E : RoadKit.Exa Z h x ST) (V : RoadKit.Fld Z h x ST "value" "[B" (.ref t)) (C : RoadKit.Fld Z h x ST "coder" "B" (.int 0)) (K : RoadKit.Arv Z h t kb .byte N2 vs (.int 0)) (hc : CodA cs 0 N2 vs) (hb : ∀ c ∈ cs, ¬ c < 0 ∧ ¬ (65535 : Int32) < c)
    (S : RoadKit.Sta Z h ST "COMPACT_STRINGS" "Z" (.int z)) (hz : ¬ z = 0) (F : RoadKit.Sta Z h "jdk/internal/util/Preconditions" "SIOOBE_FORMATTER" "Ljava/util/function/BiFunction;" fm) (rf : fm.isRef = true) (l2 : cs.length ≤ 4000) (hi : i < cs.length) (hj : j = Int32.ofNat i) (hfr : 4 ≤ R.frames) (hlo : W + 53 ≤ R.locals) :
    Back l R p e below s args (⟨"java/lang/String", "charAt", "(I)C"⟩ : MethodName) len W (fun P a => a = #[.ref x, .int j] ∧ P.U.heap = h ∧ P.cells + 0 ≤ R.cells ∧ P.slots + 0 ≤ R.slots)
      (fun P _ v B => ∃ L, (v = some (.int (cs.getD i 0)) ∧ L = [] ∧ B.U.heap = h) ∧ B.locs = P.locs ++ L ∧ B.cells = P.cells + 0 ∧ B.slots = P.slots + 0) := by
  subst hj
  intro m meth c P g ig mk a X hg hsize hdg hW hn hp'
  obtain ⟨rfl, rfl, r1, r2⟩ := hp'
  have al : Z.vm.Alike P.U.vm := hZ.alike.trans X.warmed.alike
  obtain ⟨A, hx⟩ := txt_of wi al E V C K hc hb l2
  obtain ⟨v, B, X', ⟨⟨hv, hh⟩, hl, hk, hs⟩, st⟩ := ChN.pays x t A cs.length (fun j => cs.getD j 0) z fm i (tabChN_of (movedChN hZ hw)) hfr hlo m meth c P g ig mk _ X hg hsize hdg hW hn ⟨r1, r2, rfl, hx, hi, sta_is al S, hz, sta_is al F, rf⟩
  exact ⟨v, B, X', ⟨[], ⟨hv, rfl, hh⟩, hl, hk, hs⟩, st⟩
/-- what backV says of its String, as the contracts of this text ask it: cs's low bytes, coder 0 -/
theorem codOf {cs : List Int32} {n : Nat} (hn : cs.length = n) (hb : ∀ c ∈ cs, ¬ 255 < c) : CodA cs 0 (Int32.ofNat n) ((cs.map lo8).map Value.int) := Or.inl ⟨rfl, by rw [hn], by simp [List.map_map, Function.comp_def], hb⟩
end StrChars.Road
end Jvm.Pilot.@@N@@
namespace Jvm.OwnWp
open Sem ClassFile Op Lib Jvm.Stand Jvm.Free Jvm.LawKit Jvm.RoadKit
section Own
variable {p : Program} {l : Launch} {e : Env} {R : Room} {s : State} {m : MethodId} {args : Array Value} {below : List Frame} {meth : Method} {c : Code} {T T' : State} {locs : List Loc} {cells slots : Nat} {kc ks : Nat} {Q : Option Value → Heap → List Loc → Prop} {g g' : JFrame}
/-- from T with the frame g on top the invocation returns, and Q holds of what it leaves -/
def Go (p : Program) (e : Env) (below : List Frame) (s : State) (kc ks : Nat) (Q : Option Value → Heap → List Loc → Prop) (T : State) (g : JFrame) : Prop :=
  ∃ s₂ o, Steps p.tables e below (T.setTop g) s₂ ∧ s₂.status = .running ∧ Ended s₂ below o ∧ ∃ v L, o = .returned v ∧ Q v s₂.heap L ∧ FrameEnd s o s₂ L kc ks
theorem Go.step (st : ∀ t, Steps p.tables e below (T'.setTop g') t → Steps p.tables e below (T.setTop g) t) (k : Go p e below s kc ks Q T' g') : Go p e below s kc ks Q T g := by
  obtain ⟨s₂, o, h, r⟩ := k
  exact ⟨s₂, o, st _ h, r⟩
theorem Go.cast (q : g = g') (k : Go p e below s kc ks Q T g') : Go p e below s kc ks Q T g := q ▸ k
theorem Go.weak {Q' : Option Value → Heap → List Loc → Prop} (k : Go p e below s kc ks Q' T g) (h : ∀ v hp L, Q' v hp L → Q v hp L) : Go p e below s kc ks Q T g := by
  obtain ⟨s₂, o, a, b, c, v, L, d, q, f⟩ := k
  exact ⟨s₂, o, a, b, c, v, L, d, h _ _ _ q, f⟩
theorem Go.ret (X : Stand p l e R s m args below meth c T locs cells slots) (hx : p.tables.exec = Jvm.exec) (hlk : meth.locks = false) {pc : Nat} {Ls : Array Slot} {w : Value} {t : FieldType} {i : Instr} {rest : List Value} (hret : meth.sig.returnType = some t) (hn : narrow t w = w)
    (hi : (i = .ireturn ∧ (t = .int ∨ t = .boolean ∨ t = .byte ∨ t = .char ∨ t = .short) ∧ ∃ z, w = .int z) ∨ (i = .lreturn ∧ t = .long ∧ ∃ z, w = .long z) ∨ (i = .dreturn ∧ t = .double ∧ ∃ z, w = .double z) ∨ (i = .freturn ∧ t = .float ∧ ∃ z, w = .float z) ∨ (i = .areturn ∧ t.isReference = true ∧ w.isRef = true))
    (hd : decode c.code pc = .ok (i, 1)) (hq : Q (some w) T.heap locs) (hc : cells ≤ kc) (hs : slots ≤ ks) : Go p e below s kc ks Q T (mkF m pc Ls (w :: rest)) := by
  obtain ⟨fs, hr, hrun, hended, hW, hsame⟩ := X.leave (v := some w) (fun h => by rw [hret] at h; cases h) hlk
  exact ⟨_, _, retOut X hx hret hn hi hd hr, hrun, hended, _, _, rfl, hq, ⟨_, rfl⟩, hW, hsame.mono hc hs⟩
theorem Go.retV (X : Stand p l e R s m args below meth c T locs cells slots) (hx : p.tables.exec = Jvm.exec) (hlk : meth.locks = false) {pc : Nat} {Ls : Array Slot} (hret : meth.sig.returnType = none)
    (hd : decode c.code pc = .ok (.return_, 1)) (hq : Q none T.heap locs) (hc : cells ≤ kc) (hs : slots ≤ ks) : Go p e below s kc ks Q T (mkF m pc Ls []) := by
  obtain ⟨fs, hr, hrun, hended, hW, hsame⟩ := X.leave (v := none) (fun _ => rfl) hlk
  exact ⟨_, _, X.returnOut hx hret hd hr, hrun, hended, _, _, rfl, hq, ⟨_, rfl⟩, hW, hsame.mono hc hs⟩
/-- the wide end: a String constant may have been resolved or interned; the booked constants of EL stand -/
def GoH (p : Program) (e : Env) (below : List Frame) (s : State) (kc ks : Nat) (Z : State) (EL : List (String × Nat)) (h0 : Heap) (Q : Option Value → Heap → List Loc → Prop) (T : State) (g : JFrame) : Prop :=
  ∃ s₂ o, Steps p.tables e below (T.setTop g) s₂ ∧ s₂.status = .running ∧ Ended s₂ below o ∧ ∃ v L, o = .returned v ∧ Q v s₂.heap L ∧ CHr Z EL s.vm h0 s₂.vm s₂.heap ∧ ReturnedEndW s o s₂ L kc ks
variable {Z : State} {EL : List (String × Nat)} {h0 : Heap} {a0 : Array Value} {vm0 : Vm} {k0 : Nat}
theorem GoH.step (st : ∀ t, Steps p.tables e below (T'.setTop g') t → Steps p.tables e below (T.setTop g) t) (k : GoH p e below s kc ks Z EL h0 Q T' g') : GoH p e below s kc ks Z EL h0 Q T g := by
  obtain ⟨s₂, o, h, r⟩ := k
  exact ⟨s₂, o, st _ h, r⟩
theorem GoH.cast (q : g = g') (k : GoH p e below s kc ks Z EL h0 Q T g') : GoH p e below s kc ks Z EL h0 Q T g := q ▸ k
theorem retEndW_mono {t : State} {o : Outcome} {L : List Loc} {k n k' n' : Nat} (h : ReturnedEndW s o t L k n) (h1 : k ≤ k') (h2 : n ≤ n') : ReturnedEndW s o t L k' n' := ⟨h.1, h.2.1, h.2.2.1, h.2.2.2.mono h1 h2⟩
theorem GoH.ret (X : Stand p l e R (s.setVm vm0) m args below meth c T locs cells slots) (hx : p.tables.exec = Jvm.exec) (hlk : meth.locks = false) (hS : s.Since vm0 k0) (hk : k0 ≤ T.heap.size) (hZ : Z.Warmed39 vm0) (hEL : EW Z a0 EL) (hC : CHr Z EL s.vm h0 vm0 T.heap)
    {pc : Nat} {Ls : Array Slot} {w : Value} {t : FieldType} {i : Instr} {rest : List Value} (hret : meth.sig.returnType = some t) (hn : narrow t w = w)
    (hi : (i = .ireturn ∧ (t = .int ∨ t = .boolean ∨ t = .byte ∨ t = .char ∨ t = .short) ∧ ∃ z, w = .int z) ∨ (i = .lreturn ∧ t = .long ∧ ∃ z, w = .long z) ∨ (i = .dreturn ∧ t = .double ∧ ∃ z, w = .double z) ∨ (i = .freturn ∧ t = .float ∧ ∃ z, w = .float z) ∨ (i = .areturn ∧ t.isReference = true ∧ w.isRef = true))
    (hd : decode c.code pc = .ok (i, 1)) (hq : Q (some w) T.heap locs) (hc : cells ≤ kc) (hs : slots ≤ ks) : GoH p e below s kc ks Z EL h0 Q T (mkF m pc Ls (w :: rest)) := by
  have hC' : CHr Z EL s.vm h0 T.vm T.heap := hC.trans (CHv.at X hZ hEL hC.1)
  obtain ⟨fs, hr, hrun, hended, hW⟩ := X.leaveW hS hk (v := some w) (fun h => by rw [hret] at h; cases h) hlk
  exact ⟨_, _, retOut X hx hret hn hi hd hr, hrun, hended, _, _, rfl, hq, hC', retEndW_mono hW hc hs⟩
theorem GoH.retV (X : Stand p l e R (s.setVm vm0) m args below meth c T locs cells slots) (hx : p.tables.exec = Jvm.exec) (hlk : meth.locks = false) (hS : s.Since vm0 k0) (hk : k0 ≤ T.heap.size) (hZ : Z.Warmed39 vm0) (hEL : EW Z a0 EL) (hC : CHr Z EL s.vm h0 vm0 T.heap)
    {pc : Nat} {Ls : Array Slot} (hret : meth.sig.returnType = none) (hd : decode c.code pc = .ok (.return_, 1)) (hq : Q none T.heap locs) (hc : cells ≤ kc) (hs : slots ≤ ks) : GoH p e below s kc ks Z EL h0 Q T (mkF m pc Ls []) := by
  have hC' : CHr Z EL s.vm h0 T.vm T.heap := hC.trans (CHv.at X hZ hEL hC.1)
  obtain ⟨fs, hr, hrun, hended, hW⟩ := X.leaveW hS hk (v := none) (fun _ => rfl) hlk
  exact ⟨_, _, X.returnOut hx hret hd hr, hrun, hended, _, _, rfl, hq, hC', retEndW_mono hW hc hs⟩
theorem nEW : EW Z a0 [] := EW.nil
theorem nCH : CHv Z [] vm0 h0 := fun p hp => nomatch hp
theorem own_ne_arv {Z : State} {h : Heap} {a b : Addr} {C : String} {a0 : Array Value} {k : Nat} {kk : ClassId} {ty : FieldType} {z : Int32} {vs : List Value} {d : Value} (E : Exa Z h a C) (wi : (Cond.instantiable C k).before a0 Z = true) (V : Arv Z h b kk ty z vs d) : a ≠ b := by
  obtain ⟨c, A, -⟩ := V
  exact ne_arr E wi A
theorem nar01 {x : Int32} (h : x = 0 ∨ x = 1) : narrow .boolean (.int x) = .int x := by rcases h with rfl | rfl <;> rfl
end Own
end Jvm.OwnWp
namespace Jvm.Pilot.@@N@@
open Jvm Jvm.ClassFile Sem Op Lib Jvm.Free Jvm.Stand Jvm.LawKit Jvm.RoadKit Jvm.OwnWp Bundle Jvm.Pilot.@@N@@.Jvm.D
theorem own_c255 (x : Int32) : (¬ ((x &&& (255 : Int32)).toUInt32.toUInt16.toUInt32.toInt32) < 0 ∧ ¬ (255 : Int32) < ((x &&& (255 : Int32)).toUInt32.toUInt16.toUInt32.toInt32)) ∧ nar .char ((x &&& (255 : Int32)).toUInt32.toUInt16.toUInt32.toInt32) = ((x &&& (255 : Int32)).toUInt32.toUInt16.toUInt32.toInt32) := by
  have t : ∀ k : Fin 256, (¬ ((Int32.ofNat k.val).toUInt32.toUInt16.toUInt32.toInt32) < 0 ∧ ¬ (255 : Int32) < ((Int32.ofNat k.val).toUInt32.toUInt16.toUInt32.toInt32)) ∧ nar .char ((Int32.ofNat k.val).toUInt32.toUInt16.toUInt32.toInt32) = ((Int32.ofNat k.val).toUInt32.toUInt16.toUInt32.toInt32) := by decide +kernel
  have h : (x &&& 255).toBitVec.toNat < 256 := by
    simp only [Int32.toBitVec_and, BitVec.toNat_and]
    exact Nat.lt_succ_of_le Nat.and_le_right
  have e : (x &&& 255) = Int32.ofNat (x &&& 255).toBitVec.toNat := by
    apply Int32.toBitVec_inj.mp
    show _ = BitVec.ofNat 32 _
    rw [BitVec.ofNat_toNat]; simp
  rw [e]
  exact t ⟨_, h⟩
theorem own_up (cs : List Int32) (h : ∀ c ∈ cs, ¬ c < 0 ∧ ¬ (255 : Int32) < c) : ∀ c ∈ cs, ¬ c < 0 ∧ ¬ (65535 : Int32) < c := fun c hc => ⟨(h c hc).1, fun q => (h c hc).2 (by rw [Int32.lt_iff_toInt_lt] at q ⊢; have e1 : (65535 : Int32).toInt = 65535 := rfl; have e2 : (255 : Int32).toInt = 255 := rfl; omega)⟩
theorem own_SA {Z : State} {a0 : Array Value} (hw : ∀ d ∈ tables_1, d.before a0 Z = true) : ∀ d ∈ Bundle.stringAtoms, d.before a0 Z = true := fun d hd => hw d ((by decide +kernel : ∀ d ∈ Bundle.stringAtoms, d ∈ tables_1) d hd)
abbrev own_EL : List (String × Nat) := [("java/lang/String", 7)]
theorem own_EW {Z : State} {a0 : Array Value} (hw : ∀ d ∈ tables_1, d.before a0 Z = true) : EW Z a0 own_EL := (EW.cons (hw _ (List.mem_of_getElem? (i := 18) rfl)) (by decide) EW.nil)
theorem own_words {Z : State} {a0 : Array Value} (hw : ∀ d ∈ tables_1, d.before a0 Z = true) : ∀ d ∈ StrChars.Road.words, d.before a0 Z = true := fun d hd => hw d ((by decide +kernel : ∀ d ∈ StrChars.Road.words, d ∈ tables_1) d hd)
theorem own_wordsLen {Z : State} {a0 : Array Value} (hw : ∀ d ∈ tables_1, d.before a0 Z = true) : ∀ d ∈ StrChars.Road.wordsLen, d.before a0 Z = true := fun d hd => hw d ((by decide +kernel : ∀ d ∈ StrChars.Road.wordsLen, d ∈ tables_1) d hd)
theorem own_wordsChN {Z : State} {a0 : Array Value} (hw : ∀ d ∈ tables_1, d.before a0 Z = true) : ∀ d ∈ StrChars.Road.wordsChN, d.before a0 Z = true := fun d hd => hw d ((by decide +kernel : ∀ d ∈ StrChars.Road.wordsChN, d ∈ tables_1) d hd)
theorem own_wordsEq {Z : State} {a0 : Array Value} (hw : ∀ d ∈ tables_1, d.before a0 Z = true) : ∀ d ∈ StrChars.Road.wordsEq, d.before a0 Z = true := fun d hd => hw d ((by decide +kernel : ∀ d ∈ StrChars.Road.wordsEq, d ∈ tables_1) d hd)
def own_same (cs ds : List Int32) : Int32 := if cs = ds then 1 else 0
theorem own_same_of {cs ds : List Int32} {v : Option Value} (h : (v = some (.int 1) ∧ cs = ds) ∨ (v = some (.int 0) ∧ ¬ cs = ds)) : v = some (.int (own_same cs ds)) := by
  rcases h with ⟨q, r⟩ | ⟨q, r⟩ <;> rw [q] <;> simp [own_same, r]
theorem own_same_comm (cs ds : List Int32) : own_same cs ds = own_same ds cs := by
  unfold own_same
  by_cases h : cs = ds
  · simp [h]
  · simp [h, Ne.symm h]
theorem own_same01 (cs ds : List Int32) : own_same cs ds = 0 ∨ own_same cs ds = 1 := by
  unfold own_same
  split
  · exact Or.inr rfl
  · exact Or.inl rfl
def own_ch (x : Int32) : Int32 := (x &&& (255 : Int32)).toUInt32.toUInt16.toUInt32.toInt32
def own_draw (l x : Int32) : List Int32 :=
  if (l &&& (3 : Int32)) = (0 : Int32) then [] else if (l &&& (3 : Int32)) = (1 : Int32) then [own_ch x] else if (l &&& (3 : Int32)) = (2 : Int32) then [own_ch x, own_ch (XT.ushr x (8 : Int32))] else [own_ch x, own_ch (XT.ushr x (8 : Int32)), own_ch (XT.ushr x (16 : Int32))]
theorem own_draw_ok (l x : Int32) : ∀ c ∈ own_draw l x, ¬ c < 0 ∧ ¬ (255 : Int32) < c := by
  have k : ∀ z, ¬ own_ch z < 0 ∧ ¬ (255 : Int32) < own_ch z := fun z => (own_c255 z).1
  intro c hc
  unfold own_draw at hc
  split at hc
  · exact nomatch hc
  · split at hc
    · simp only [List.mem_cons, List.not_mem_nil, or_false] at hc; rw [hc]; exact k _
    · split at hc
      · simp only [List.mem_cons, List.not_mem_nil, or_false] at hc; rcases hc with rfl | rfl <;> exact k _
      · simp only [List.mem_cons, List.not_mem_nil, or_false] at hc; rcases hc with rfl | rfl | rfl <;> exact k _
theorem own_draw_le (l x : Int32) : (own_draw l x).length ≤ 3 := by
  unfold own_draw
  split
  · exact Nat.zero_le _
  · split
    · exact (by decide : 1 ≤ 3)
    · split
      · exact (by decide : 2 ≤ 3)
      · exact Nat.le_refl 3
theorem own_le4 {cs : List Int32} (h : cs.length ≤ 3) : cs.length ≤ 4000 := Nat.le_trans h (by decide)
theorem own_ofNat {n : Nat} (h : n ≤ 3) : (Int32.ofNat n).toInt = n := Int32.toInt_ofNat_small (by omega)
theorem own_lt {i n : Nat} (hi : i ≤ 3) (h : n ≤ 3) : Int32.ofNat i < Int32.ofNat n ↔ i < n := by
  rw [Int32.lt_iff_toInt_lt, own_ofNat hi, own_ofNat h]; omega
theorem own_eqn {m n : Nat} (hm : m ≤ 3) (h : n ≤ 3) (e : Int32.ofNat m = Int32.ofNat n) : m = n := by
  have := congrArg Int32.toInt e
  rw [own_ofNat hm, own_ofNat h] at this; omega
theorem own_eq3 {cs ds : List Int32} (l1 : cs.length ≤ 3) (l2 : ds.length ≤ 3) (hl : Int32.ofNat cs.length = Int32.ofNat ds.length) (h0 : 0 < cs.length → cs.getD 0 0 = ds.getD 0 0) (h1 : 1 < cs.length → cs.getD 1 0 = ds.getD 1 0) (h2 : 2 < cs.length → cs.getD 2 0 = ds.getD 2 0) : cs = ds := by
  have e := own_eqn l1 l2 hl
  apply List.ext_getElem e
  intro i hi hj
  have k : cs.getD i 0 = ds.getD i 0 := by
    rcases (by omega : i = 0 ∨ i = 1 ∨ i = 2) with rfl | rfl | rfl
    · exact h0 hi
    · exact h1 hi
    · exact h2 hi
  simpa [List.getD_eq_getElem?_getD, hi, hj] using k
theorem own_noSE {Z : State} {a0 : Array Value} {K : String} {n : Nat} (w1 : (Jvm.Cond.superclass "java/lang/String" "java/lang/Object").before a0 Z = true) (w2 : (Jvm.Cond.noSuperclass "java/lang/Object").before a0 Z = true) (w3 : (Jvm.Cond.instantiable K n).before a0 Z = true) (h1 : "java/lang/String" ≠ K) (h2 : "java/lang/Object" ≠ K) :
    ∃ c t, Z.vm.findClass "java/lang/String" = some c ∧ Z.vm.findClass K = some t ∧ Z.vm.assignable c t = false := by
  obtain ⟨t, kt, t1, t2, t3, t4, -⟩ := Cond.instantiable_spec w3
  obtain ⟨c, hc⟩ := found_sup w1
  obtain ⟨p, k, kp, p1, p2, p3, p4, p5, p6, p7⟩ := Cond.superclass_spec hc w1
  obtain ⟨q, kq, q1, q2, q3, -, -⟩ := Cond.noSuperclass_spec w2
  cases p1.symm.trans q1
  cases p3.symm.trans q2
  have n1 := ids_ne hc t1 h1
  have n2 := ids_ne q1 t1 h2
  have hi : kt.isInterface = false := by
    cases hz : kt.isInterface with
    | false => rfl
    | true => rw [hz] at t4; simp at t4
  have sub : ∀ fuel, Z.vm.isSubclassAux fuel c t = false := fun fuel => by
    cases fuel with
    | zero => rfl
    | succ f =>
      cases f with
      | zero => simp [Vm.isSubclassAux, n1, p2, p4]
      | succ g => simp [Vm.isSubclassAux, n1, p2, p4, n2, q2, q3]
  refine ⟨c, t, hc, t1, ?_⟩
  show Z.vm.assignableAux (255 + 1) c t = false
  simp [Vm.assignableAux, n1, p2, t2, p5, t3, hi, Vm.isSubclass, sub]
theorem own_safe_null {Z : State} {EL : List (String × Nat)} {vm : Vm} {h : Heap} {x : Addr} (hal : Z.vm.Alike vm) (E : Exa Z h x "java/lang/String") (F : Fld Z h x "java/lang/String" "value" "[B" .null) : Safe Z EL vm h x := fun B => by
  obtain ⟨cell, k, e1, e2, e3, -, -⟩ := E
  have nm : ∀ {n : String} {c : ClassId}, vm.findClass n = some c → c = cell.cls → n = "java/lang/String" := fun {n c} f e => by
    subst e
    rw [hal.findClass] at f
    obtain ⟨k1, q1, q2⟩ := Vm.findClass_spec f
    obtain ⟨k2, q3, q4⟩ := Vm.findClass_spec e2
    cases q1.symm.trans q3
    exact q2.symm.trans q4
  obtain ⟨p, -, u, a, -, q, -, G, rfl | rfl⟩ := B
  · obtain ⟨cf, cc, kk, i, f, f1, f2, f3, f4, f5, f6, f7⟩ := F
    cases (show h[q.sa]? = some q.sC from G.ha).symm.trans f1
    obtain ⟨cS, ⟨⟨-, -, -, ⟨c1, k1, i1, g1, -⟩, -, -, -, v1, -⟩, -⟩, -⟩ := G
    obtain ⟨k3, e3', -⟩ := State.fieldFound?_setVm (s := Z) (vm' := vm) hal f2
    have e4 : (Wst Z vm h).fieldFound? "java/lang/String" "value" "[B" = some (cc, k3, i, f) := e3'
    have q1 := g1.symm.trans e4
    cases q1
    rw [f7] at v1
    cases v1
  · cases (show h[q.sd]? = some q.SA from G.hd).symm.trans e1
    obtain ⟨cS, -, -, f, -⟩ := G
    exact absurd (nm f rfl) (by decide)
theorem pn_0 : plainName "java/lang/String" = true := by first | (simp [plainName, overriddenIn]; done) | decide +kernel
theorem ef_rmSI (m : MethodId) (a1 : Addr) (a2 : Addr) : entryFrame m #[(.ref a1), (.ref a2), (.int (0 : Int32)), (.int (0 : Int32)), .null] 6 = mkF m 0 #[.val (.ref a1), .val (.ref a2), .val (.int (0 : Int32)), .val (.int (0 : Int32)), .val .null, .unset] [] := by first | (simp [entryFrame, mkF, argsToLocals, Value.category]; done) | rfl
def QSI (Z : State) (a1 : Addr) (a2 : Addr) (h0 : Heap) (n0 : Nat) (v : Option Value) (h : Heap) (L : List Loc) : Prop := v = none ∧ Fr n0 L ∧ Keep h0 h [a1] ∧ Exa Z h a1 "java/lang/String" ∧ Fld Z h a1 "java/lang/String" "coder" "B" (.int (0 : Int32)) ∧ ∃ (t : Addr) (kb : ClassId), a1 ≠ t ∧ Fld Z h a1 "java/lang/String" "value" "[B" (.ref t) ∧ Arv Z h t kb .byte (0 : Int32) [] (.int (0 : Int32))
theorem d3_0 : decode jdk_42_method_149_code 0 = .ok (.aload_n 0, 1) := by decide +kernel
theorem d3_1 : decode jdk_42_method_149_code 1 = .ok (.invokespecial 1, 3) := by decide +kernel
theorem d3_4 : decode jdk_42_method_149_code 4 = .ok (.iload_n 3, 1) := by decide +kernel
theorem d3_5 : decode jdk_42_method_149_code 5 = .ok (.ifCond .ne 22, 3) := by decide +kernel
theorem d3_8 : decode jdk_42_method_149_code 8 = .ok (.aload_n 0, 1) := by decide +kernel
theorem d3_9 : decode jdk_42_method_149_code 9 = .ok (.ldc 7, 2) := by decide +kernel
theorem d3_11 : decode jdk_42_method_149_code 11 = .ok (.getfield 9, 3) := by decide +kernel
theorem d3_14 : decode jdk_42_method_149_code 14 = .ok (.putfield 9, 3) := by decide +kernel
theorem d3_17 : decode jdk_42_method_149_code 17 = .ok (.aload_n 0, 1) := by decide +kernel
theorem d3_18 : decode jdk_42_method_149_code 18 = .ok (.ldc 7, 2) := by decide +kernel
theorem d3_20 : decode jdk_42_method_149_code 20 = .ok (.getfield 15, 3) := by decide +kernel
theorem d3_23 : decode jdk_42_method_149_code 23 = .ok (.putfield 15, 3) := by decide +kernel
theorem d3_26 : decode jdk_42_method_149_code 26 = .ok (.return_, 1) := by decide +kernel
set_option maxRecDepth 65536 in
set_option maxHeartbeats 40000000 in
theorem rmSI (l : Launch) (Z : State) (a0 : Array Value) (hw : ∀ d ∈ tables_1, d.before a0 Z = true) (ws : List Jvm.Cond) (a1 : Addr) (a2 : Addr) (h0 : Heap) (n0 : Nat) (Z0 : n0 ≤ h0.size) (g1 : n0 ≤ a1) (PE1 : Exa Z h0 a1 "java/lang/String") (PF1 : Fld Z h0 a1 "java/lang/String" "value" "[B" .null) (PF2 : Fld Z h0 a1 "java/lang/String" "coder" "B" (.int (0 : Int32))) :
    MetFree l (⟨"java/lang/String", "<init>", "([CIILjava/lang/Void;)V"⟩ : MethodName) (head1 (Jvm.Cond.code (⟨"java/lang/String", "<init>", "([CIILjava/lang/Void;)V"⟩ : MethodName) jdk_42_method_149_code 6 none :: ws) ({ frames := 1, cells := 4, slots := 8, locals := 12 } : Room)) (fun a U => a = #[(.ref a1), (.ref a2), (.int (0 : Int32)), (.int (0 : Int32)), .null] ∧ Z.Warmed39 U.vm ∧ U.heap = h0 ∧ CHv Z own_EL U.vm h0) (fun _ _ _ _ _ => True) (fun _ U o U' => ∃ v L, o = .returned v ∧ QSI Z a1 a2  h0 n0 v U'.heap L ∧ CHr Z own_EL U.vm U.heap U'.vm U'.heap ∧ ReturnedEndW U o U' L ({ frames := 1, cells := 4, slots := 8, locals := 12 } : Room).cells ({ frames := 1, cells := 4, slots := 8, locals := 12 } : Room).slots) := by
  refine MetFree.of_bodySF (plainFor_of_name pn_0) hisR ?_
  intro p e s m args below meth c s₁ Bd hml0 hP hK
  obtain ⟨rfl, hZ0, hh, hCH⟩ := hP
  have hx := Bd.exec
  have hby := Bd.bytes
  have hlk := BodyLoose.notSynchronized Bd
  have hml : c.maxLocals = 6 := hml0
  have hret := Bd.returns
  have hown0 : (s.setVm s.vm).vm.findClass "java/lang/String" = some m.cls := findClass_of_methodNamed Bd.named
  have hnm := (name_of_methodNamed Bd.named Bd.method).1
  have X0 : Stand p l e ({ frames := 1, cells := 4, slots := 8, locals := 12 } : Room) (s.setVm s.vm) m #[(.ref a1), (.ref a2), (.int (0 : Int32)), (.int (0 : Int32)), .null] below meth c s₁ [] 0 0 := Stand.of_body Bd
  have hZ0 : Z.Warmed39 (s.setVm s.vm).vm := hZ0
  have hEL : EW Z a0 own_EL := own_EW hw
  have hS0 : s.Since s.vm h0.size := (State.WarmedH.refl s).since _
  have hk0 : h0.size ≤ h0.size := Nat.le_refl _
  have C0 : CHr Z own_EL s.vm h0 s.vm h0 := CHr.refl hCH
  have e0 : s₁.heap = h0 := by rw [← hh, Bd.state]; rfl
  have N0 := Fr.nil n0
  show GoH p e below s ({ frames := 1, cells := 4, slots := 8, locals := 12 } : Room).cells ({ frames := 1, cells := 4, slots := 8, locals := 12 } : Room).slots Z own_EL s.heap (QSI Z a1 a2  h0 n0) s₁ (entryFrame m #[(.ref a1), (.ref a2), (.int (0 : Int32)), (.int (0 : Int32)), .null] 6)
  rw [hh]
  refine GoH.cast (ef_rmSI m a1 a2) ?_
  have sf0_a1 : Safe Z own_EL s.vm h0 a1 := own_safe_null hZ0.alike PE1 PF1
  have K0 : Keep h0 h0 [a1] := Keep.refl _ _
  show GoH _ _ _ _ _ _ _ _ _ _ s₁ (mkF m 0 #[.val (.ref a1), .val (.ref a2), .val (.int (0 : Int32)), .val (.int (0 : Int32)), .val .null, .unset] [])
  refine GoH.step (fun t_ k_ => XS.aloadN X0.here hx rfl (hb hby d3_0) rfl rfl k_) ?_
  show GoH _ _ _ _ _ _ _ _ _ _ s₁ (mkF m 1 #[.val (.ref a1), .val (.ref a2), .val (.int (0 : Int32)), .val (.int (0 : Int32)), .val .null, .unset] [(.ref a1)])
  obtain ⟨T1, X1, e1, st1⟩ := initO X0 hx hZ0 hown0 (hw _ (List.mem_of_getElem? (i := 15) rfl)) (hw _ (List.mem_of_getElem? (i := 16) rfl)) (hw _ (List.mem_of_getElem? (i := 17) rfl)) e0 (g := (mkF m 1 #[.val (.ref a1), .val (.ref a2), .val (.int (0 : Int32)), .val (.int (0 : Int32)), .val .null, .unset] [(.ref a1)])) rfl (by rw [hml]; rfl) rfl (hb hby d3_1) (by decide) (W := 0) (by show 2 * 0 + _ ≤ _; exact Nat.le_of_eq rfl) (by decide)
  refine GoH.step st1 ?_
  show GoH _ _ _ _ _ _ _ _ _ _ T1 (mkF m 4 #[.val (.ref a1), .val (.ref a2), .val (.int (0 : Int32)), .val (.int (0 : Int32)), .val .null, .unset] [])
  refine GoH.step (fun t_ k_ => XS.iloadN X1.here hx rfl (hb hby d3_4) rfl k_) ?_
  show GoH _ _ _ _ _ _ _ _ _ _ T1 (mkF m 5 #[.val (.ref a1), .val (.ref a2), .val (.int (0 : Int32)), .val (.int (0 : Int32)), .val .null, .unset] [(.int (0 : Int32))])
  have hb5_2 : (0 : Int32) = (0 : Int32) := by decide
  refine GoH.step (fun t_ k_ => XS.ifNo X1.here hx rfl (hb hby d3_5) rfl (XT.i0_ne_f hb5_2) k_) ?_
  show GoH _ _ _ _ _ _ _ _ _ _ T1 (mkF m 8 #[.val (.ref a1), .val (.ref a2), .val (.int (0 : Int32)), .val (.int (0 : Int32)), .val .null, .unset] [])
  refine GoH.step (fun t_ k_ => XS.aloadN X1.here hx rfl (hb hby d3_8) rfl rfl k_) ?_
  show GoH _ _ _ _ _ _ _ _ _ _ T1 (mkF m 9 #[.val (.ref a1), .val (.ref a2), .val (.int (0 : Int32)), .val (.int (0 : Int32)), .val .null, .unset] [(.ref a1)])
  obtain ⟨lt3, T3, h3, kk3, lb3, kb3, X3, e3, E3, hS3, hk3, hZ3, hown3, fE3, fC3, fV3, fA3, la3, lb_3, CHq3, -, hsn3, st3⟩ := ldcCH X1 hx hZ0 hown0 (hw _ (List.mem_of_getElem? (i := 18) rfl)) (own_SA hw) e1 hS0 hk0 hEL (by decide) C0.1 (vs := []) (z := (0 : Int32)) ⟨(by decide), (by decide)⟩ (by decide) (by decide) (g := (mkF m 9 #[.val (.ref a1), .val (.ref a2), .val (.int (0 : Int32)), .val (.int (0 : Int32)), .val .null, .unset] [(.ref a1)])) rfl (hb hby d3_9) (n := 0) (by decide) (by decide) (by decide) (by decide)
  have f3_0 : Exa Z h3 a1 "java/lang/String" := (PE1.ext E3)
  have f3_1 : Fld Z h3 a1 "java/lang/String" "value" "[B" .null := (PF1.ext E3)
  have f3_2 : Fld Z h3 a1 "java/lang/String" "coder" "B" (.int (0 : Int32)) := (PF2.ext E3)
  have f3_3 : Exa Z h3 lt3 "java/lang/String" := fE3
  have f3_4 : Fld Z h3 lt3 "java/lang/String" "coder" "B" (.int (0 : Int32)) := fC3
  have f3_5 : Fld Z h3 lt3 "java/lang/String" "value" "[B" (.ref lb3) := fV3
  have f3_6 : Arv Z h3 lb3 kb3 .byte (0 : Int32) [] (.int (0 : Int32)) := fA3
  have sf3_a1 : Safe Z own_EL T3.vm h3 a1 := CHr.safe CHq3 PE1.lt sf0_a1
  have CC3 : CHr Z own_EL s.vm h0 T3.vm h3 := C0.trans CHq3
  have ne_a1_lt3 := (hsn3 _ sf3_a1).1
  have ne_a1_lb3 := (hsn3 _ sf3_a1).2
  have Zs3 : n0 ≤ h3.size := (Nat.le_trans Z0 E3.1)
  have K3 : Keep h0 h3 [a1] := K0.ext E3
  refine GoH.step st3 ?_
  show GoH _ _ _ _ _ _ _ _ _ _ T3 (mkF m 11 #[.val (.ref a1), .val (.ref a2), .val (.int (0 : Int32)), .val (.int (0 : Int32)), .val .null, .unset] [(.ref lt3), (.ref a1)])
  obtain ⟨T4, X4, e4, st4⟩ := getF X3 hx hZ3 hown3 (host := "") (Or.inl (hw _ (List.mem_of_getElem? (i := 24) rfl))) Via.refl e3 f3_5 (g := (mkF m 11 #[.val (.ref a1), .val (.ref a2), .val (.int (0 : Int32)), .val (.int (0 : Int32)), .val .null, .unset] [(.ref lt3), (.ref a1)])) rfl rfl (hb hby d3_11)
  refine GoH.step st4 ?_
  show GoH _ _ _ _ _ _ _ _ _ _ T4 (mkF m 14 #[.val (.ref a1), .val (.ref a2), .val (.int (0 : Int32)), .val (.int (0 : Int32)), .val .null, .unset] [(.ref lb3), (.ref a1)])
  obtain ⟨T5, h5, X5, e5, W5, st5⟩ := putF X4 hx hZ3 hown3 (host := "") (Or.inl (hw _ (List.mem_of_getElem? (i := 24) rfl))) Via.refl e4 f3_1 f3_0 (Or.inr ⟨(hw _ (List.mem_of_getElem? (i := 20) rfl)), rfl, hnm⟩) (hw _ (List.mem_of_getElem? (i := 5) rfl)) (ty := (.array .byte)) (by decide) rfl rfl (g := (mkF m 14 #[.val (.ref a1), .val (.ref a2), .val (.int (0 : Int32)), .val (.int (0 : Int32)), .val .null, .unset] [(.ref lb3), (.ref a1)])) rfl rfl (hb hby d3_14)
  have N5 := Fr.snoc X5 N0 g1
  refine GoH.step st5 ?_
  have f5_0 : Exa Z h5 a1 "java/lang/String" := (f3_0.wr W5)
  have f5_1 : Fld Z h5 a1 "java/lang/String" "value" "[B" (.ref lb3) := (f3_1.same W5)
  have f5_2 : Fld Z h5 a1 "java/lang/String" "coder" "B" (.int (0 : Int32)) := (f3_2.other W5 (Or.inr (slot_ne (Or.inr (hw _ (List.mem_of_getElem? (i := 21) rfl))) (Or.inr (hw _ (List.mem_of_getElem? (i := 20) rfl))) (by decide) (t := .byte) (t' := (.array .byte)) (by decide) (by decide))))
  have f5_3 : Exa Z h5 lt3 "java/lang/String" := (f3_3.wr W5)
  have f5_4 : Fld Z h5 lt3 "java/lang/String" "coder" "B" (.int (0 : Int32)) := (f3_4.other W5 (Or.inl (Ne.symm ne_a1_lt3)))
  have f5_5 : Fld Z h5 lt3 "java/lang/String" "value" "[B" (.ref lb3) := (f3_5.other W5 (Or.inl (Ne.symm ne_a1_lt3)))
  have f5_6 : Arv Z h5 lb3 kb3 .byte (0 : Int32) [] (.int (0 : Int32)) := (f3_6.other W5 (Ne.symm ne_a1_lb3))
  have sfw5 : Safe Z own_EL T3.vm _ a1 := sf3_a1
  have sf5_a1 : Safe Z own_EL T3.vm h5 a1 := Safe.wr W5 sfw5 CC3.1 sf3_a1
  have hk5 : _ ≤ h5.size := Nat.le_trans hk3 (Keep.of_wr W5).1
  have C5 : CHr Z own_EL s.vm h0 T3.vm h5 := CC3.trans (CHr.wr W5 sfw5 CC3.1)
  have Zs5 : n0 ≤ h5.size := (Nat.le_trans Zs3 (Keep.of_wr W5).1)
  have K5 : Keep h0 h5 [a1] := K3.wr W5 (Or.inl (List.mem_of_getElem? (i := 0) rfl))
  show GoH _ _ _ _ _ _ _ _ _ _ T5 (mkF m 17 #[.val (.ref a1), .val (.ref a2), .val (.int (0 : Int32)), .val (.int (0 : Int32)), .val .null, .unset] [])
  refine GoH.step (fun t_ k_ => XS.aloadN X5.here hx rfl (hb hby d3_17) rfl rfl k_) ?_
  show GoH _ _ _ _ _ _ _ _ _ _ T5 (mkF m 18 #[.val (.ref a1), .val (.ref a2), .val (.int (0 : Int32)), .val (.int (0 : Int32)), .val .null, .unset] [(.ref a1)])
  obtain ⟨lt6, T6, h6, kk6, lb6, kb6, X6, e6, E6, hS6, hk6, hZ6, hown6, fE6, fC6, fV6, fA6, la6, lb_6, CHq6, -, hsn6, st6⟩ := ldcCH X5 hx hZ3 hown3 (hw _ (List.mem_of_getElem? (i := 18) rfl)) (own_SA hw) e5 hS3 hk5 hEL (by decide) C5.1 (vs := []) (z := (0 : Int32)) ⟨(by decide), (by decide)⟩ (by decide) (by decide) (g := (mkF m 18 #[.val (.ref a1), .val (.ref a2), .val (.int (0 : Int32)), .val (.int (0 : Int32)), .val .null, .unset] [(.ref a1)])) rfl (hb hby d3_18) (n := 0) (by decide) (by decide) (by decide) (by decide)
  have f6_0 : Exa Z h6 a1 "java/lang/String" := (f5_0.ext E6)
  have f6_1 : Fld Z h6 a1 "java/lang/String" "value" "[B" (.ref lb3) := (f5_1.ext E6)
  have f6_2 : Fld Z h6 a1 "java/lang/String" "coder" "B" (.int (0 : Int32)) := (f5_2.ext E6)
  have f6_3 : Exa Z h6 lt3 "java/lang/String" := (f5_3.ext E6)
  have f6_4 : Fld Z h6 lt3 "java/lang/String" "coder" "B" (.int (0 : Int32)) := (f5_4.ext E6)
  have f6_5 : Fld Z h6 lt3 "java/lang/String" "value" "[B" (.ref lb3) := (f5_5.ext E6)
  have f6_6 : Arv Z h6 lb3 kb3 .byte (0 : Int32) [] (.int (0 : Int32)) := (f5_6.ext E6)
  have f6_7 : Exa Z h6 lt6 "java/lang/String" := fE6
  have f6_8 : Fld Z h6 lt6 "java/lang/String" "coder" "B" (.int (0 : Int32)) := fC6
  have f6_9 : Fld Z h6 lt6 "java/lang/String" "value" "[B" (.ref lb6) := fV6
  have f6_10 : Arv Z h6 lb6 kb6 .byte (0 : Int32) [] (.int (0 : Int32)) := fA6
  have sf6_a1 : Safe Z own_EL T6.vm h6 a1 := CHr.safe CHq6 f5_0.lt sf5_a1
  have CC6 : CHr Z own_EL s.vm h0 T6.vm h6 := C5.trans CHq6
  have ne_a1_lt6 := (hsn6 _ sf6_a1).1
  have ne_a1_lb6 := (hsn6 _ sf6_a1).2
  have Zs6 : n0 ≤ h6.size := (Nat.le_trans Zs5 E6.1)
  have K6 : Keep h0 h6 [a1] := K5.ext E6
  refine GoH.step st6 ?_
  show GoH _ _ _ _ _ _ _ _ _ _ T6 (mkF m 20 #[.val (.ref a1), .val (.ref a2), .val (.int (0 : Int32)), .val (.int (0 : Int32)), .val .null, .unset] [(.ref lt6), (.ref a1)])
  obtain ⟨T7, X7, e7, st7⟩ := getF X6 hx hZ6 hown6 (host := "") (Or.inl (hw _ (List.mem_of_getElem? (i := 25) rfl))) Via.refl e6 f6_8 (g := (mkF m 20 #[.val (.ref a1), .val (.ref a2), .val (.int (0 : Int32)), .val (.int (0 : Int32)), .val .null, .unset] [(.ref lt6), (.ref a1)])) rfl rfl (hb hby d3_20)
  refine GoH.step st7 ?_
  show GoH _ _ _ _ _ _ _ _ _ _ T7 (mkF m 23 #[.val (.ref a1), .val (.ref a2), .val (.int (0 : Int32)), .val (.int (0 : Int32)), .val .null, .unset] [(.int (0 : Int32)), (.ref a1)])
  obtain ⟨T8, h8, X8, e8, W8, st8⟩ := putF X7 hx hZ6 hown6 (host := "") (Or.inl (hw _ (List.mem_of_getElem? (i := 25) rfl))) Via.refl e7 f6_2 f6_0 (Or.inr ⟨(hw _ (List.mem_of_getElem? (i := 21) rfl)), rfl, hnm⟩) (hw _ (List.mem_of_getElem? (i := 5) rfl)) (ty := .byte) (by decide) rfl rfl (g := (mkF m 23 #[.val (.ref a1), .val (.ref a2), .val (.int (0 : Int32)), .val (.int (0 : Int32)), .val .null, .unset] [(.int (0 : Int32)), (.ref a1)])) rfl rfl (hb hby d3_23)
  have N8 := Fr.snoc X8 N5 g1
  refine GoH.step st8 ?_
  have f8_0 : Exa Z h8 a1 "java/lang/String" := (f6_0.wr W8)
  have f8_1 : Fld Z h8 a1 "java/lang/String" "value" "[B" (.ref lb3) := (f6_1.other W8 (Or.inr (slot_ne (Or.inr (hw _ (List.mem_of_getElem? (i := 20) rfl))) (Or.inr (hw _ (List.mem_of_getElem? (i := 21) rfl))) (by decide) (t := (.array .byte)) (t' := .byte) (by decide) (by decide))))
  have f8_2 : Fld Z h8 a1 "java/lang/String" "coder" "B" (.int (0 : Int32)) := (f6_2.same W8)
  have f8_3 : Exa Z h8 lt3 "java/lang/String" := (f6_3.wr W8)
  have f8_4 : Fld Z h8 lt3 "java/lang/String" "coder" "B" (.int (0 : Int32)) := (f6_4.other W8 (Or.inl (Ne.symm ne_a1_lt3)))
  have f8_5 : Fld Z h8 lt3 "java/lang/String" "value" "[B" (.ref lb3) := (f6_5.other W8 (Or.inl (Ne.symm ne_a1_lt3)))
  have f8_6 : Arv Z h8 lb3 kb3 .byte (0 : Int32) [] (.int (0 : Int32)) := (f6_6.other W8 (Ne.symm ne_a1_lb3))
  have f8_7 : Exa Z h8 lt6 "java/lang/String" := (f6_7.wr W8)
  have f8_8 : Fld Z h8 lt6 "java/lang/String" "coder" "B" (.int (0 : Int32)) := (f6_8.other W8 (Or.inl (Ne.symm ne_a1_lt6)))
  have f8_9 : Fld Z h8 lt6 "java/lang/String" "value" "[B" (.ref lb6) := (f6_9.other W8 (Or.inl (Ne.symm ne_a1_lt6)))
  have f8_10 : Arv Z h8 lb6 kb6 .byte (0 : Int32) [] (.int (0 : Int32)) := (f6_10.other W8 (Ne.symm ne_a1_lb6))
  have sfw8 : Safe Z own_EL T6.vm _ a1 := sf6_a1
  have sf8_a1 : Safe Z own_EL T6.vm h8 a1 := Safe.wr W8 sfw8 CC6.1 sf6_a1
  have hk8 : _ ≤ h8.size := Nat.le_trans hk6 (Keep.of_wr W8).1
  have C8 : CHr Z own_EL s.vm h0 T6.vm h8 := CC6.trans (CHr.wr W8 sfw8 CC6.1)
  have Zs8 : n0 ≤ h8.size := (Nat.le_trans Zs6 (Keep.of_wr W8).1)
  have K8 : Keep h0 h8 [a1] := K6.wr W8 (Or.inl (List.mem_of_getElem? (i := 0) rfl))
  show GoH _ _ _ _ _ _ _ _ _ _ T8 (mkF m 26 #[.val (.ref a1), .val (.ref a2), .val (.int (0 : Int32)), .val (.int (0 : Int32)), .val .null, .unset] [])
  have hkr : kk6 ≤ T8.heap.size := by rw [e8]; exact hk8
  have hCr : CHr Z own_EL s.vm h0 T6.vm T8.heap := by rw [e8]; exact C8
  refine GoH.retV X8 hx hlk hS6 hkr hZ6 hEL hCr hret (hb hby d3_26) ?_ (by decide) (by decide)
  show QSI Z _ _ _ _ _ T8.heap _
  rw [e8]
  exact ⟨rfl, N8, K8, f8_0, f8_2, lb3, kb3, ne_a1_lb3, f8_1, f8_6⟩
theorem ef_rmSO (m : MethodId) (a1 : Addr) (a2 : Addr) : entryFrame m #[(.ref a1), (.ref a2)] 2 = mkF m 0 #[.val (.ref a1), .val (.ref a2)] [] := by first | (simp [entryFrame, mkF, argsToLocals, Value.category]; done) | rfl
def QSO (Z : State) (a1 : Addr) (a2 : Addr) (kc : ClassId) (h0 : Heap) (n0 : Nat) (v : Option Value) (h : Heap) (L : List Loc) : Prop := v = none ∧ Fr n0 L ∧ Keep h0 h [a1] ∧ Exa Z h a1 "java/lang/String" ∧ Fld Z h a1 "java/lang/String" "coder" "B" (.int (0 : Int32)) ∧ ∃ (t : Addr) (kb : ClassId), a1 ≠ t ∧ Fld Z h a1 "java/lang/String" "value" "[B" (.ref t) ∧ Arv Z h t kb .byte (0 : Int32) [] (.int (0 : Int32))
theorem d2_0 : decode jdk_42_method_3_code 0 = .ok (.aload_n 0, 1) := by decide +kernel
theorem d2_1 : decode jdk_42_method_3_code 1 = .ok (.aload_n 1, 1) := by decide +kernel
theorem d2_2 : decode jdk_42_method_3_code 2 = .ok (.iconst 0, 1) := by decide +kernel
theorem d2_3 : decode jdk_42_method_3_code 3 = .ok (.aload_n 1, 1) := by decide +kernel
theorem d2_4 : decode jdk_42_method_3_code 4 = .ok (.arraylength, 1) := by decide +kernel
theorem d2_5 : decode jdk_42_method_3_code 5 = .ok (.aconst_null, 1) := by decide +kernel
theorem pd_0 : parseMethodDescriptor "([CIILjava/lang/Void;)V" = some ⟨[(.array .char), .int, .int, (.object "java/lang/Void")], none⟩ := by decide +kernel
theorem d2_6 : decode jdk_42_method_3_code 6 = .ok (.invokespecial 27, 3) := by decide +kernel
theorem d2_9 : decode jdk_42_method_3_code 9 = .ok (.return_, 1) := by decide +kernel
set_option maxRecDepth 65536 in
set_option maxHeartbeats 40000000 in
theorem rmSO (l : Launch) (Z : State) (a0 : Array Value) (hw : ∀ d ∈ tables_1, d.before a0 Z = true) (ws : List Jvm.Cond) (a1 : Addr) (a2 : Addr) (kc : ClassId) (h0 : Heap) (n0 : Nat) (Z0 : n0 ≤ h0.size) (g1 : n0 ≤ a1) (PE1 : Exa Z h0 a1 "java/lang/String") (PF1 : Fld Z h0 a1 "java/lang/String" "value" "[B" .null) (PF2 : Fld Z h0 a1 "java/lang/String" "coder" "B" (.int (0 : Int32))) (A2 : Arv Z h0 a2 kc .char (0 : Int32) [] (.int (0 : Int32))) :
    MetFree l (⟨"java/lang/String", "<init>", "([C)V"⟩ : MethodName) (head1 (Jvm.Cond.code (⟨"java/lang/String", "<init>", "([C)V"⟩ : MethodName) jdk_42_method_3_code 2 none :: ws) ({ frames := 2, cells := 4, slots := 8, locals := 29 } : Room)) (fun a U => a = #[(.ref a1), (.ref a2)] ∧ Z.Warmed39 U.vm ∧ U.heap = h0 ∧ CHv Z own_EL U.vm h0) (fun _ _ _ _ _ => True) (fun _ U o U' => ∃ v L, o = .returned v ∧ QSO Z a1 a2 kc h0 n0 v U'.heap L ∧ CHr Z own_EL U.vm U.heap U'.vm U'.heap ∧ ReturnedEndW U o U' L ({ frames := 2, cells := 4, slots := 8, locals := 29 } : Room).cells ({ frames := 2, cells := 4, slots := 8, locals := 29 } : Room).slots) := by
  refine MetFree.of_bodySF (plainFor_of_name pn_0) hisR ?_
  intro p e s m args below meth c s₁ Bd hml0 hP hK
  obtain ⟨rfl, hZ0, hh, hCH⟩ := hP
  have hx := Bd.exec
  have hby := Bd.bytes
  have hlk := BodyLoose.notSynchronized Bd
  have hml : c.maxLocals = 2 := hml0
  have hret := Bd.returns
  have hown0 : (s.setVm s.vm).vm.findClass "java/lang/String" = some m.cls := findClass_of_methodNamed Bd.named
  have hnm := (name_of_methodNamed Bd.named Bd.method).1
  have X0 : Stand p l e ({ frames := 2, cells := 4, slots := 8, locals := 29 } : Room) (s.setVm s.vm) m #[(.ref a1), (.ref a2)] below meth c s₁ [] 0 0 := Stand.of_body Bd
  have hZ0 : Z.Warmed39 (s.setVm s.vm).vm := hZ0
  have hEL : EW Z a0 own_EL := own_EW hw
  have hS0 : s.Since s.vm h0.size := (State.WarmedH.refl s).since _
  have hk0 : h0.size ≤ h0.size := Nat.le_refl _
  have C0 : CHr Z own_EL s.vm h0 s.vm h0 := CHr.refl hCH
  have e0 : s₁.heap = h0 := by rw [← hh, Bd.state]; rfl
  have N0 := Fr.nil n0
  show GoH p e below s ({ frames := 2, cells := 4, slots := 8, locals := 29 } : Room).cells ({ frames := 2, cells := 4, slots := 8, locals := 29 } : Room).slots Z own_EL s.heap (QSO Z a1 a2 kc h0 n0) s₁ (entryFrame m #[(.ref a1), (.ref a2)] 2)
  rw [hh]
  refine GoH.cast (ef_rmSO m a1 a2) ?_
  have sf0_a1 : Safe Z own_EL s.vm h0 a1 := own_safe_null hZ0.alike PE1 PF1
  have K0 : Keep h0 h0 [a1] := Keep.refl _ _
  show GoH _ _ _ _ _ _ _ _ _ _ s₁ (mkF m 0 #[.val (.ref a1), .val (.ref a2)] [])
  refine GoH.step (fun t_ k_ => XS.aloadN X0.here hx rfl (hb hby d2_0) rfl rfl k_) ?_
  show GoH _ _ _ _ _ _ _ _ _ _ s₁ (mkF m 1 #[.val (.ref a1), .val (.ref a2)] [(.ref a1)])
  refine GoH.step (fun t_ k_ => XS.aloadN X0.here hx rfl (hb hby d2_1) rfl rfl k_) ?_
  show GoH _ _ _ _ _ _ _ _ _ _ s₁ (mkF m 2 #[.val (.ref a1), .val (.ref a2)] [(.ref a2), (.ref a1)])
  refine GoH.step (fun t_ k_ => XS.iconst X0.here hx rfl (hb hby d2_2) k_) ?_
  show GoH _ _ _ _ _ _ _ _ _ _ s₁ (mkF m 3 #[.val (.ref a1), .val (.ref a2)] [(.int (0 : Int32)), (.ref a2), (.ref a1)])
  refine GoH.step (fun t_ k_ => XS.aloadN X0.here hx rfl (hb hby d2_3) rfl rfl k_) ?_
  show GoH _ _ _ _ _ _ _ _ _ _ s₁ (mkF m 4 #[.val (.ref a1), .val (.ref a2)] [(.ref a2), (.int (0 : Int32)), (.ref a2), (.ref a1)])
  obtain ⟨c1, Ar1, q1, S1, M1, H1, U1⟩ := id A2
  refine GoH.step (fun t_ k_ => X0.arraylength hx (by rw [e0]; exact Ar1.1) (State.isArrayOf_alike hZ0.alike Ar1.2.1) (g := (mkF m 4 #[.val (.ref a1), .val (.ref a2)] [(.ref a2), (.int (0 : Int32)), (.ref a2), (.ref a1)])) rfl rfl (hb hby d2_4) _ k_) ?_
  rw [len_of S1 M1]
  show GoH _ _ _ _ _ _ _ _ _ _ s₁ (mkF m 5 #[.val (.ref a1), .val (.ref a2)] [(.int (0 : Int32)), (.int (0 : Int32)), (.ref a2), (.ref a1)])
  refine GoH.step (fun t_ k_ => XS.aconstNull X0.here hx rfl (hb hby d2_5) k_) ?_
  show GoH _ _ _ _ _ _ _ _ _ _ s₁ (mkF m 6 #[.val (.ref a1), .val (.ref a2)] [.null, (.int (0 : Int32)), (.int (0 : Int32)), (.ref a2), (.ref a1)])
  obtain ⟨_, _, ⟨T2, L2, k2, n2⟩, -, X2, hSq2, hgr2, ⟨Lc2, hQ2, l2, y2, z2, CHq2⟩, st2⟩ := X0.specialBackS hx (y := (⟨"java/lang/String", "<init>", "([CIILjava/lang/Void;)V"⟩ : MethodName)) rfl hown0 (mvT hZ0 (hw _ (List.mem_of_getElem? (i := 11) rfl))) (mvT hZ0 (hw _ (List.mem_of_getElem? (i := 12) rfl))) (mvT hZ0 (hw _ (List.mem_of_getElem? (i := 14) rfl))) (by decide) (backOfSH (W := 0) (rmSI l Z a0 hw [] a1 a2 h0 n0 Z0 g1 PE1 PF1 PF2) hZ0 (hw _ (List.mem_of_getElem? (i := 14) rfl)) (hw _ (List.mem_of_getElem? (i := 6) rfl)) (by decide) (by decide) hEL C0.1) (g := (mkF m 6 #[.val (.ref a1), .val (.ref a2)] [.null, (.int (0 : Int32)), (.int (0 : Int32)), (.ref a2), (.ref a1)])) rfl (by rw [hml]; rfl) (Steps.refl _) (a := a1) (argsL := [(.ref a2), (.int (0 : Int32)), (.int (0 : Int32)), .null]) (rest := []) (lenOf pd_0 rfl) rfl (by show 2 * 0 + _ ≤ _; exact Nat.le_of_eq rfl) (hb hby d2_6) (fun _ _ => ⟨rfl, e0, (by decide : 0 + 4 ≤ _), (by decide : 0 + 8 ≤ _)⟩)
  dsimp only [Pt.U, Pt.locs, Pt.cells, Pt.slots] at X2 hSq2 hgr2 l2 y2 z2 st2 hQ2 CHq2
  subst l2 y2 z2
  have X2 : Stand p l e _ (s.setVm T2.vm) _ _ _ _ _ T2 _ _ _ := X2
  have hS2 : s.Since T2.vm T2.heap.size := State.Since.trans hS0 hSq2 (Nat.le_trans hk0 (by first | exact hgr2 | (rw [← e0]; exact hgr2)))
  have hZ2 : Z.Warmed39 (s.setVm T2.vm).vm := State.Warmed39.trans (t := s.setVm s.vm) hZ0 hSq2.1
  have hown2 : (s.setVm T2.vm).vm.findClass "java/lang/String" = some m.cls := by rw [show (s.setVm T2.vm).vm = T2.vm from rfl, hSq2.1.alike.findClass]; exact hown0
  have hk2 : T2.heap.size ≤ T2.heap.size := Nat.le_refl _
  obtain ⟨rfl, N2q, Kq2, Eq2, Cq2, tb2, kb2, nt2, Vq2, Aq2⟩ := hQ2
  have N2 := Fr.app N0 N2q
  have f2_0 : Exa Z T2.heap a1 "java/lang/String" := Eq2
  have f2_1 : Fld Z T2.heap a1 "java/lang/String" "coder" "B" (.int (0 : Int32)) := Cq2
  have f2_2 : Fld Z T2.heap a1 "java/lang/String" "value" "[B" (.ref tb2) := Vq2
  have f2_3 : Arv Z T2.heap tb2 kb2 .byte (0 : Int32) [] (.int (0 : Int32)) := Aq2
  have Zs2 : n0 ≤ T2.heap.size := (Nat.le_trans Z0 Kq2.1)
  have K2 : Keep h0 T2.heap [a1] := K0.trans Kq2 (allS (Or.inl (List.mem_of_getElem? (i := 0) rfl)) all0)
  have sf2_a1 : Safe Z own_EL T2.vm T2.heap a1 := CHr.safe CHq2 PE1.lt sf0_a1
  have CC2 : CHr Z own_EL s.vm h0 T2.vm T2.heap := C0.trans CHq2
  refine GoH.step (fun t_ k_ => st2.trans k_) ?_
  show GoH _ _ _ _ _ _ _ _ _ _ T2 (mkF m 9 #[.val (.ref a1), .val (.ref a2)] [])
  have hkr := hk2
  have hCr := CC2
  refine GoH.retV X2 hx hlk hS2 hkr hZ2 hEL hCr hret (hb hby d2_9) ?_ (by decide) (by decide)
  show QSO Z _ _ _ _ _ _ T2.heap _
  exact ⟨rfl, N2, K2, f2_0, f2_1, tb2, kb2, nt2, f2_2, f2_3⟩
theorem pn_1 : plainName "com/example/majority_lease/majoritylease/redis/ErrorReplyEqualsPinLaw" = true := by first | (simp [plainName, overriddenIn]; done) | decide +kernel
theorem ef_rmDr (m : MethodId) (p1 : Int32) (p2 : Int32) : entryFrame m #[(.int p1), (.int p2)] 6 = mkF m 0 #[.val (.int p1), .val (.int p2), .unset, .unset, .unset, .unset] [] := by first | (simp [entryFrame, mkF, argsToLocals, Value.category]; done) | rfl
def QDr (Z : State) (p1 : Int32) (p2 : Int32) (G1 : Int32) (h0 : Heap) (n0 : Nat) (v : Option Value) (h : Heap) (L : List Loc) : Prop := ∃ (a t : Addr) (kb : ClassId), v = some (.ref a) ∧ Fr n0 L ∧ Keep h0 h [] ∧ h0.size ≤ a ∧ Exa Z h a "java/lang/String" ∧ Fld Z h a "java/lang/String" "coder" "B" (.int (0 : Int32)) ∧ Fld Z h a "java/lang/String" "value" "[B" (.ref t) ∧ Arv Z h t kb .byte (Int32.ofNat (own_draw p1 p2).length) (((own_draw p1 p2).map (fun c => c.toInt8.toInt32)).map Value.int) (.int (0 : Int32))
theorem d1_0 : decode method_2_code 0 = .ok (.iload_n 0, 1) := by decide +kernel
theorem d1_1 : decode method_2_code 1 = .ok (.iconst 3, 1) := by decide +kernel
theorem d1_2 : decode method_2_code 2 = .ok (.iand, 1) := by decide +kernel
theorem d1_3 : decode method_2_code 3 = .ok (.istore_n 2, 1) := by decide +kernel
theorem d1_4 : decode method_2_code 4 = .ok (.iload_n 1, 1) := by decide +kernel
theorem d1_5 : decode method_2_code 5 = .ok (.sipush 255, 3) := by decide +kernel
theorem d1_8 : decode method_2_code 8 = .ok (.iand, 1) := by decide +kernel
theorem d1_9 : decode method_2_code 9 = .ok (.i2c, 1) := by decide +kernel
theorem d1_10 : decode method_2_code 10 = .ok (.istore_n 3, 1) := by decide +kernel
theorem d1_11 : decode method_2_code 11 = .ok (.iload_n 1, 1) := by decide +kernel
theorem d1_12 : decode method_2_code 12 = .ok (.bipush 8, 2) := by decide +kernel
theorem d1_14 : decode method_2_code 14 = .ok (.iushr, 1) := by decide +kernel
theorem d1_15 : decode method_2_code 15 = .ok (.sipush 255, 3) := by decide +kernel
theorem d1_18 : decode method_2_code 18 = .ok (.iand, 1) := by decide +kernel
theorem d1_19 : decode method_2_code 19 = .ok (.i2c, 1) := by decide +kernel
theorem d1_20 : decode method_2_code 20 = .ok (.istore 4, 2) := by decide +kernel
theorem d1_22 : decode method_2_code 22 = .ok (.iload_n 1, 1) := by decide +kernel
theorem d1_23 : decode method_2_code 23 = .ok (.bipush 16, 2) := by decide +kernel
theorem d1_25 : decode method_2_code 25 = .ok (.iushr, 1) := by decide +kernel
theorem d1_26 : decode method_2_code 26 = .ok (.sipush 255, 3) := by decide +kernel
theorem d1_29 : decode method_2_code 29 = .ok (.iand, 1) := by decide +kernel
theorem d1_30 : decode method_2_code 30 = .ok (.i2c, 1) := by decide +kernel
theorem d1_31 : decode method_2_code 31 = .ok (.istore 5, 2) := by decide +kernel
theorem d1_33 : decode method_2_code 33 = .ok (.iload_n 2, 1) := by decide +kernel
theorem d1_34 : decode method_2_code 34 = .ok (.ifCond .ne 14, 3) := by decide +kernel
theorem d1_37 : decode method_2_code 37 = .ok (.new 7, 3) := by decide +kernel
theorem d1_40 : decode method_2_code 40 = .ok (.dup, 1) := by decide +kernel
theorem d1_41 : decode method_2_code 41 = .ok (.iconst 0, 1) := by decide +kernel
theorem d1_42 : decode method_2_code 42 = .ok (.newarray .char, 2) := by decide +kernel
theorem pd_1 : parseMethodDescriptor "([C)V" = some ⟨[(.array .char)], none⟩ := by decide +kernel
theorem d1_44 : decode method_2_code 44 = .ok (.invokespecial 9, 3) := by decide +kernel
theorem d1_47 : decode method_2_code 47 = .ok (.areturn, 1) := by decide +kernel
theorem d1_48 : decode method_2_code 48 = .ok (.iload_n 2, 1) := by decide +kernel
theorem d1_49 : decode method_2_code 49 = .ok (.iconst 1, 1) := by decide +kernel
theorem d1_50 : decode method_2_code 50 = .ok (.if_icmp .ne 18, 3) := by decide +kernel
theorem d1_53 : decode method_2_code 53 = .ok (.new 7, 3) := by decide +kernel
theorem d1_56 : decode method_2_code 56 = .ok (.dup, 1) := by decide +kernel
theorem d1_57 : decode method_2_code 57 = .ok (.iconst 1, 1) := by decide +kernel
theorem d1_58 : decode method_2_code 58 = .ok (.newarray .char, 2) := by decide +kernel
theorem d1_60 : decode method_2_code 60 = .ok (.dup, 1) := by decide +kernel
theorem d1_61 : decode method_2_code 61 = .ok (.iconst 0, 1) := by decide +kernel
theorem d1_62 : decode method_2_code 62 = .ok (.iload_n 3, 1) := by decide +kernel
theorem d1_63 : decode method_2_code 63 = .ok (.castore, 1) := by decide +kernel
theorem d1_64 : decode method_2_code 64 = .ok (.invokespecial 9, 3) := by decide +kernel
theorem d1_67 : decode method_2_code 67 = .ok (.areturn, 1) := by decide +kernel
theorem d1_68 : decode method_2_code 68 = .ok (.iload_n 2, 1) := by decide +kernel
theorem d1_69 : decode method_2_code 69 = .ok (.iconst 2, 1) := by decide +kernel
theorem d1_70 : decode method_2_code 70 = .ok (.if_icmp .ne 23, 3) := by decide +kernel
theorem d1_73 : decode method_2_code 73 = .ok (.new 7, 3) := by decide +kernel
theorem d1_76 : decode method_2_code 76 = .ok (.dup, 1) := by decide +kernel
theorem d1_77 : decode method_2_code 77 = .ok (.iconst 2, 1) := by decide +kernel
theorem d1_78 : decode method_2_code 78 = .ok (.newarray .char, 2) := by decide +kernel
theorem d1_80 : decode method_2_code 80 = .ok (.dup, 1) := by decide +kernel
theorem d1_81 : decode method_2_code 81 = .ok (.iconst 0, 1) := by decide +kernel
theorem d1_82 : decode method_2_code 82 = .ok (.iload_n 3, 1) := by decide +kernel
theorem d1_83 : decode method_2_code 83 = .ok (.castore, 1) := by decide +kernel
theorem d1_84 : decode method_2_code 84 = .ok (.dup, 1) := by decide +kernel
theorem d1_85 : decode method_2_code 85 = .ok (.iconst 1, 1) := by decide +kernel
theorem d1_86 : decode method_2_code 86 = .ok (.iload 4, 2) := by decide +kernel
theorem d1_88 : decode method_2_code 88 = .ok (.castore, 1) := by decide +kernel
theorem d1_89 : decode method_2_code 89 = .ok (.invokespecial 9, 3) := by decide +kernel
theorem d1_92 : decode method_2_code 92 = .ok (.areturn, 1) := by decide +kernel
theorem d1_93 : decode method_2_code 93 = .ok (.new 7, 3) := by decide +kernel
theorem d1_96 : decode method_2_code 96 = .ok (.dup, 1) := by decide +kernel
theorem d1_97 : decode method_2_code 97 = .ok (.iconst 3, 1) := by decide +kernel
theorem d1_98 : decode method_2_code 98 = .ok (.newarray .char, 2) := by decide +kernel
theorem d1_100 : decode method_2_code 100 = .ok (.dup, 1) := by decide +kernel
theorem d1_101 : decode method_2_code 101 = .ok (.iconst 0, 1) := by decide +kernel
theorem d1_102 : decode method_2_code 102 = .ok (.iload_n 3, 1) := by decide +kernel
theorem d1_103 : decode method_2_code 103 = .ok (.castore, 1) := by decide +kernel
theorem d1_104 : decode method_2_code 104 = .ok (.dup, 1) := by decide +kernel
theorem d1_105 : decode method_2_code 105 = .ok (.iconst 1, 1) := by decide +kernel
theorem d1_106 : decode method_2_code 106 = .ok (.iload 4, 2) := by decide +kernel
theorem d1_108 : decode method_2_code 108 = .ok (.castore, 1) := by decide +kernel
theorem d1_109 : decode method_2_code 109 = .ok (.dup, 1) := by decide +kernel
theorem d1_110 : decode method_2_code 110 = .ok (.iconst 2, 1) := by decide +kernel
theorem d1_111 : decode method_2_code 111 = .ok (.iload 5, 2) := by decide +kernel
theorem d1_113 : decode method_2_code 113 = .ok (.castore, 1) := by decide +kernel
theorem d1_114 : decode method_2_code 114 = .ok (.invokespecial 9, 3) := by decide +kernel
theorem d1_117 : decode method_2_code 117 = .ok (.areturn, 1) := by decide +kernel
set_option maxRecDepth 65536 in
set_option maxHeartbeats 40000000 in
theorem rmDr (l : Launch) (Z : State) (a0 : Array Value) (hw : ∀ d ∈ tables_1, d.before a0 Z = true) (ws : List Jvm.Cond) (p1 : Int32) (p2 : Int32) (G1 : Int32) (h0 : Heap) (n0 : Nat) (Z0 : n0 ≤ h0.size) (O0 : Old Z n0 h0) (S_COMPACT : Sta Z Z.heap "java/lang/String" "COMPACT_STRINGS" "Z" (.int G1)) (P_COMPACT : ¬ (G1 = (0 : Int32))) :
    MetFree l (⟨"com/example/majority_lease/majoritylease/redis/ErrorReplyEqualsPinLaw", "draw", "(II)Ljava/lang/String;"⟩ : MethodName) (head1 (Jvm.Cond.code (⟨"com/example/majority_lease/majoritylease/redis/ErrorReplyEqualsPinLaw", "draw", "(II)Ljava/lang/String;"⟩ : MethodName) method_2_code 6 (some (.object "java/lang/String")) :: ws) ({ frames := 4, cells := 6, slots := 12, locals := 66 } : Room)) (fun a U => a = #[(.int p1), (.int p2)] ∧ Z.Warmed39 U.vm ∧ U.heap = h0 ∧ CHv Z own_EL U.vm h0) (fun _ _ _ _ _ => True) (fun _ U o U' => ∃ v L, o = .returned v ∧ QDr Z p1 p2 G1 h0 n0 v U'.heap L ∧ CHr Z own_EL U.vm U.heap U'.vm U'.heap ∧ ReturnedEndW U o U' L ({ frames := 4, cells := 6, slots := 12, locals := 66 } : Room).cells ({ frames := 4, cells := 6, slots := 12, locals := 66 } : Room).slots) := by
  refine MetFree.of_bodySF (plainFor_of_name pn_1) hisR ?_
  intro p e s m args below meth c s₁ Bd hml0 hP hK
  obtain ⟨rfl, hZ0, hh, hCH⟩ := hP
  have hx := Bd.exec
  have hby := Bd.bytes
  have hlk := BodyLoose.notSynchronized Bd
  have hml : c.maxLocals = 6 := hml0
  have hret := Bd.returns
  have hown0 : (s.setVm s.vm).vm.findClass "com/example/majority_lease/majoritylease/redis/ErrorReplyEqualsPinLaw" = some m.cls := findClass_of_methodNamed Bd.named
  have hnm := (name_of_methodNamed Bd.named Bd.method).1
  have X0 : Stand p l e ({ frames := 4, cells := 6, slots := 12, locals := 66 } : Room) (s.setVm s.vm) m #[(.int p1), (.int p2)] below meth c s₁ [] 0 0 := Stand.of_body Bd
  have hZ0 : Z.Warmed39 (s.setVm s.vm).vm := hZ0
  have hEL : EW Z a0 own_EL := own_EW hw
  have hS0 : s.Since s.vm h0.size := (State.WarmedH.refl s).since _
  have hk0 : h0.size ≤ h0.size := Nat.le_refl _
  have C0 : CHr Z own_EL s.vm h0 s.vm h0 := CHr.refl hCH
  have e0 : s₁.heap = h0 := by rw [← hh, Bd.state]; rfl
  have N0 := Fr.nil n0
  show GoH p e below s ({ frames := 4, cells := 6, slots := 12, locals := 66 } : Room).cells ({ frames := 4, cells := 6, slots := 12, locals := 66 } : Room).slots Z own_EL s.heap (QDr Z p1 p2 G1 h0 n0) s₁ (entryFrame m #[(.int p1), (.int p2)] 6)
  rw [hh]
  refine GoH.cast (ef_rmDr m p1 p2) ?_
  have K0 : Keep h0 h0 [] := Keep.refl _ _
  show GoH _ _ _ _ _ _ _ _ _ _ s₁ (mkF m 0 #[.val (.int p1), .val (.int p2), .unset, .unset, .unset, .unset] [])
  refine GoH.step (fun t_ k_ => XS.iloadN X0.here hx rfl (hb hby d1_0) rfl k_) ?_
  show GoH _ _ _ _ _ _ _ _ _ _ s₁ (mkF m 1 #[.val (.int p1), .val (.int p2), .unset, .unset, .unset, .unset] [(.int p1)])
  refine GoH.step (fun t_ k_ => XS.iconst X0.here hx rfl (hb hby d1_1) k_) ?_
  show GoH _ _ _ _ _ _ _ _ _ _ s₁ (mkF m 2 #[.val (.int p1), .val (.int p2), .unset, .unset, .unset, .unset] [(.int (3 : Int32)), (.int p1)])
  refine GoH.step (fun t_ k_ => XS.iand X0.here hx rfl (hb hby d1_2) rfl k_) ?_
  show GoH _ _ _ _ _ _ _ _ _ _ s₁ (mkF m 3 #[.val (.int p1), .val (.int p2), .unset, .unset, .unset, .unset] [(.int (p1 &&& (3 : Int32)))])
  refine GoH.step (fun t_ k_ => XS.istoreN X0.here hx rfl (hb hby d1_3) rfl (l' := #[.val (.int p1), .val (.int p2), .val (.int (p1 &&& (3 : Int32))), .unset, .unset, .unset]) rfl k_) ?_
  show GoH _ _ _ _ _ _ _ _ _ _ s₁ (mkF m 4 #[.val (.int p1), .val (.int p2), .val (.int (p1 &&& (3 : Int32))), .unset, .unset, .unset] [])
  refine GoH.step (fun t_ k_ => XS.iloadN X0.here hx rfl (hb hby d1_4) rfl k_) ?_
  show GoH _ _ _ _ _ _ _ _ _ _ s₁ (mkF m 5 #[.val (.int p1), .val (.int p2), .val (.int (p1 &&& (3 : Int32))), .unset, .unset, .unset] [(.int p2)])
  refine GoH.step (fun t_ k_ => XS.sipush X0.here hx rfl (hb hby d1_5) k_) ?_
  show GoH _ _ _ _ _ _ _ _ _ _ s₁ (mkF m 8 #[.val (.int p1), .val (.int p2), .val (.int (p1 &&& (3 : Int32))), .unset, .unset, .unset] [(.int (255 : Int32)), (.int p2)])
  refine GoH.step (fun t_ k_ => XS.iand X0.here hx rfl (hb hby d1_8) rfl k_) ?_
  show GoH _ _ _ _ _ _ _ _ _ _ s₁ (mkF m 9 #[.val (.int p1), .val (.int p2), .val (.int (p1 &&& (3 : Int32))), .unset, .unset, .unset] [(.int (p2 &&& (255 : Int32)))])
  refine GoH.step (fun t_ k_ => XT.i2c X0.here hx rfl (hb hby d1_9) rfl k_) ?_
  show GoH _ _ _ _ _ _ _ _ _ _ s₁ (mkF m 10 #[.val (.int p1), .val (.int p2), .val (.int (p1 &&& (3 : Int32))), .unset, .unset, .unset] [(.int ((p2 &&& (255 : Int32)).toUInt32.toUInt16.toUInt32.toInt32))])
  generalize hc0 : ((p2 &&& (255 : Int32)).toUInt32.toUInt16.toUInt32.toInt32) = c0
  show GoH _ _ _ _ _ _ _ _ _ _ s₁ (mkF m 10 #[.val (.int p1), .val (.int p2), .val (.int (p1 &&& (3 : Int32))), .unset, .unset, .unset] [(.int c0)])
  have hc0r : (¬ c0 < 0 ∧ ¬ (255 : Int32) < c0) ∧ nar .char c0 = c0 := by rw [← hc0]; exact own_c255 _
  refine GoH.step (fun t_ k_ => XS.istoreN X0.here hx rfl (hb hby d1_10) rfl (l' := #[.val (.int p1), .val (.int p2), .val (.int (p1 &&& (3 : Int32))), .val (.int c0), .unset, .unset]) rfl k_) ?_
  show GoH _ _ _ _ _ _ _ _ _ _ s₁ (mkF m 11 #[.val (.int p1), .val (.int p2), .val (.int (p1 &&& (3 : Int32))), .val (.int c0), .unset, .unset] [])
  refine GoH.step (fun t_ k_ => XS.iloadN X0.here hx rfl (hb hby d1_11) rfl k_) ?_
  show GoH _ _ _ _ _ _ _ _ _ _ s₁ (mkF m 12 #[.val (.int p1), .val (.int p2), .val (.int (p1 &&& (3 : Int32))), .val (.int c0), .unset, .unset] [(.int p2)])
  refine GoH.step (fun t_ k_ => XS.bipush X0.here hx rfl (hb hby d1_12) k_) ?_
  show GoH _ _ _ _ _ _ _ _ _ _ s₁ (mkF m 14 #[.val (.int p1), .val (.int p2), .val (.int (p1 &&& (3 : Int32))), .val (.int c0), .unset, .unset] [(.int (8 : Int32)), (.int p2)])
  refine GoH.step (fun t_ k_ => XT.iushr X0.here hx rfl (hb hby d1_14) rfl k_) ?_
  show GoH _ _ _ _ _ _ _ _ _ _ s₁ (mkF m 15 #[.val (.int p1), .val (.int p2), .val (.int (p1 &&& (3 : Int32))), .val (.int c0), .unset, .unset] [(.int (XT.ushr p2 (8 : Int32)))])
  refine GoH.step (fun t_ k_ => XS.sipush X0.here hx rfl (hb hby d1_15) k_) ?_
  show GoH _ _ _ _ _ _ _ _ _ _ s₁ (mkF m 18 #[.val (.int p1), .val (.int p2), .val (.int (p1 &&& (3 : Int32))), .val (.int c0), .unset, .unset] [(.int (255 : Int32)), (.int (XT.ushr p2 (8 : Int32)))])
  refine GoH.step (fun t_ k_ => XS.iand X0.here hx rfl (hb hby d1_18) rfl k_) ?_
  show GoH _ _ _ _ _ _ _ _ _ _ s₁ (mkF m 19 #[.val (.int p1), .val (.int p2), .val (.int (p1 &&& (3 : Int32))), .val (.int c0), .unset, .unset] [(.int ((XT.ushr p2 (8 : Int32)) &&& (255 : Int32)))])
  refine GoH.step (fun t_ k_ => XT.i2c X0.here hx rfl (hb hby d1_19) rfl k_) ?_
  show GoH _ _ _ _ _ _ _ _ _ _ s₁ (mkF m 20 #[.val (.int p1), .val (.int p2), .val (.int (p1 &&& (3 : Int32))), .val (.int c0), .unset, .unset] [(.int (((XT.ushr p2 (8 : Int32)) &&& (255 : Int32)).toUInt32.toUInt16.toUInt32.toInt32))])
  generalize hc1 : (((XT.ushr p2 (8 : Int32)) &&& (255 : Int32)).toUInt32.toUInt16.toUInt32.toInt32) = c1
  show GoH _ _ _ _ _ _ _ _ _ _ s₁ (mkF m 20 #[.val (.int p1), .val (.int p2), .val (.int (p1 &&& (3 : Int32))), .val (.int c0), .unset, .unset] [(.int c1)])
  have hc1r : (¬ c1 < 0 ∧ ¬ (255 : Int32) < c1) ∧ nar .char c1 = c1 := by rw [← hc1]; exact own_c255 _
  refine GoH.step (fun t_ k_ => XS.istore X0.here hx rfl (hb hby d1_20) rfl (l' := #[.val (.int p1), .val (.int p2), .val (.int (p1 &&& (3 : Int32))), .val (.int c0), .val (.int c1), .unset]) rfl k_) ?_
  show GoH _ _ _ _ _ _ _ _ _ _ s₁ (mkF m 22 #[.val (.int p1), .val (.int p2), .val (.int (p1 &&& (3 : Int32))), .val (.int c0), .val (.int c1), .unset] [])
  refine GoH.step (fun t_ k_ => XS.iloadN X0.here hx rfl (hb hby d1_22) rfl k_) ?_
  show GoH _ _ _ _ _ _ _ _ _ _ s₁ (mkF m 23 #[.val (.int p1), .val (.int p2), .val (.int (p1 &&& (3 : Int32))), .val (.int c0), .val (.int c1), .unset] [(.int p2)])
  refine GoH.step (fun t_ k_ => XS.bipush X0.here hx rfl (hb hby d1_23) k_) ?_
  show GoH _ _ _ _ _ _ _ _ _ _ s₁ (mkF m 25 #[.val (.int p1), .val (.int p2), .val (.int (p1 &&& (3 : Int32))), .val (.int c0), .val (.int c1), .unset] [(.int (16 : Int32)), (.int p2)])
  refine GoH.step (fun t_ k_ => XT.iushr X0.here hx rfl (hb hby d1_25) rfl k_) ?_
  show GoH _ _ _ _ _ _ _ _ _ _ s₁ (mkF m 26 #[.val (.int p1), .val (.int p2), .val (.int (p1 &&& (3 : Int32))), .val (.int c0), .val (.int c1), .unset] [(.int (XT.ushr p2 (16 : Int32)))])
  refine GoH.step (fun t_ k_ => XS.sipush X0.here hx rfl (hb hby d1_26) k_) ?_
  show GoH _ _ _ _ _ _ _ _ _ _ s₁ (mkF m 29 #[.val (.int p1), .val (.int p2), .val (.int (p1 &&& (3 : Int32))), .val (.int c0), .val (.int c1), .unset] [(.int (255 : Int32)), (.int (XT.ushr p2 (16 : Int32)))])
  refine GoH.step (fun t_ k_ => XS.iand X0.here hx rfl (hb hby d1_29) rfl k_) ?_
  show GoH _ _ _ _ _ _ _ _ _ _ s₁ (mkF m 30 #[.val (.int p1), .val (.int p2), .val (.int (p1 &&& (3 : Int32))), .val (.int c0), .val (.int c1), .unset] [(.int ((XT.ushr p2 (16 : Int32)) &&& (255 : Int32)))])
  refine GoH.step (fun t_ k_ => XT.i2c X0.here hx rfl (hb hby d1_30) rfl k_) ?_
  show GoH _ _ _ _ _ _ _ _ _ _ s₁ (mkF m 31 #[.val (.int p1), .val (.int p2), .val (.int (p1 &&& (3 : Int32))), .val (.int c0), .val (.int c1), .unset] [(.int (((XT.ushr p2 (16 : Int32)) &&& (255 : Int32)).toUInt32.toUInt16.toUInt32.toInt32))])
  generalize hc2 : (((XT.ushr p2 (16 : Int32)) &&& (255 : Int32)).toUInt32.toUInt16.toUInt32.toInt32) = c2
  show GoH _ _ _ _ _ _ _ _ _ _ s₁ (mkF m 31 #[.val (.int p1), .val (.int p2), .val (.int (p1 &&& (3 : Int32))), .val (.int c0), .val (.int c1), .unset] [(.int c2)])
  have hc2r : (¬ c2 < 0 ∧ ¬ (255 : Int32) < c2) ∧ nar .char c2 = c2 := by rw [← hc2]; exact own_c255 _
  refine GoH.step (fun t_ k_ => XS.istore X0.here hx rfl (hb hby d1_31) rfl (l' := #[.val (.int p1), .val (.int p2), .val (.int (p1 &&& (3 : Int32))), .val (.int c0), .val (.int c1), .val (.int c2)]) rfl k_) ?_
  show GoH _ _ _ _ _ _ _ _ _ _ s₁ (mkF m 33 #[.val (.int p1), .val (.int p2), .val (.int (p1 &&& (3 : Int32))), .val (.int c0), .val (.int c1), .val (.int c2)] [])
  refine GoH.step (fun t_ k_ => XS.iloadN X0.here hx rfl (hb hby d1_33) rfl k_) ?_
  show GoH _ _ _ _ _ _ _ _ _ _ s₁ (mkF m 34 #[.val (.int p1), .val (.int p2), .val (.int (p1 &&& (3 : Int32))), .val (.int c0), .val (.int c1), .val (.int c2)] [(.int (p1 &&& (3 : Int32)))])
  by_cases hb34_1 : (p1 &&& (3 : Int32)) = (0 : Int32)
  · refine GoH.step (fun t_ k_ => XS.ifNo X0.here hx rfl (hb hby d1_34) rfl (XT.i0_ne_f hb34_1) k_) ?_
    show GoH _ _ _ _ _ _ _ _ _ _ s₁ (mkF m 37 #[.val (.int p1), .val (.int p2), .val (.int (p1 &&& (3 : Int32))), .val (.int c0), .val (.int c1), .val (.int c2)] [])
    obtain ⟨T2, h2, X2, e2, E2, A2, D2, -, st2⟩ := newO X0 hx hZ0 hown0 (hw _ (List.mem_of_getElem? (i := 4) rfl)) (hw _ (List.mem_of_getElem? (i := 5) rfl)) (hw _ (List.mem_of_getElem? (i := 6) rfl)) e0 (g := (mkF m 37 #[.val (.int p1), .val (.int p2), .val (.int (p1 &&& (3 : Int32))), .val (.int c0), .val (.int c1), .val (.int c2)] [])) rfl (hb hby d1_37) (by decide) (by decide)
    obtain ⟨o2, g2⟩ : ∃ z, z = h0.size := ⟨_, rfl⟩
    rw [← g2] at A2 D2 st2
    have ge_o2 : n0 ≤ o2 := Nat.le_trans Z0 (Nat.le_of_eq g2.symm)
    have geh_o2 : h0.size ≤ o2 := Nat.le_trans K0.1 (Nat.le_of_eq g2.symm)
    have f2_0 : Exa Z h2 o2 "java/lang/String" := A2
    have f2_1 : Fld Z h2 o2 "java/lang/String" "value" "[B" .null := (D2 (Or.inr (hw _ (List.mem_of_getElem? (i := 20) rfl))) (ty := (.array .byte)) (by decide))
    have f2_2 : Fld Z h2 o2 "java/lang/String" "coder" "B" (.int (0 : Int32)) := (D2 (Or.inr (hw _ (List.mem_of_getElem? (i := 21) rfl))) (ty := .byte) (by decide))
    have sf2_o2 : Safe Z own_EL s.vm h2 o2 := Safe.ext E2 C0.1 (Safe.new (Nat.le_of_eq g2.symm))
    have hk2 : _ ≤ h2.size := Nat.le_trans hk0 E2.1
    have C2 : CHr Z own_EL s.vm h0 s.vm h2 := C0.trans (CHr.ext E2 C0.1)
    have Zs2 : n0 ≤ h2.size := (Nat.le_trans Z0 E2.1)
    have O2 : Old Z n0 h2 := O0.ext E2
    have K2 : Keep h0 h2 [] := K0.ext E2
    refine GoH.step st2 ?_
    show GoH _ _ _ _ _ _ _ _ _ _ T2 (mkF m 40 #[.val (.int p1), .val (.int p2), .val (.int (p1 &&& (3 : Int32))), .val (.int c0), .val (.int c1), .val (.int c2)] [(.ref o2)])
    refine GoH.step (fun t_ k_ => XS.dup X2.here hx rfl (hb hby d1_40) rfl rfl k_) ?_
    show GoH _ _ _ _ _ _ _ _ _ _ T2 (mkF m 41 #[.val (.int p1), .val (.int p2), .val (.int (p1 &&& (3 : Int32))), .val (.int c0), .val (.int c1), .val (.int c2)] [(.ref o2), (.ref o2)])
    refine GoH.step (fun t_ k_ => XS.iconst X2.here hx rfl (hb hby d1_41) k_) ?_
    show GoH _ _ _ _ _ _ _ _ _ _ T2 (mkF m 42 #[.val (.int p1), .val (.int p2), .val (.int (p1 &&& (3 : Int32))), .val (.int c0), .val (.int c1), .val (.int c2)] [(.int (0 : Int32)), (.ref o2), (.ref o2)])
    obtain ⟨T3, h3, k3, X3, e3, E3, A3, st3⟩ := newP X2 hx hZ0 (hw _ (List.mem_of_getElem? (i := 7) rfl)) e2 (g := (mkF m 42 #[.val (.int p1), .val (.int p2), .val (.int (p1 &&& (3 : Int32))), .val (.int c0), .val (.int c1), .val (.int c2)] [(.int (0 : Int32)), (.ref o2), (.ref o2)])) rfl (hb hby d1_42) rfl (by decide) (cap := 0) (by decide) (by decide) (by decide) (by decide)
    obtain ⟨r3, g3⟩ : ∃ z, z = h2.size := ⟨_, rfl⟩
    rw [← g3] at A3 st3
    have ne_o2_r3 : o2 ≠ r3 := Nat.ne_of_lt (Nat.lt_of_lt_of_le f2_0.lt (Nat.le_of_eq g3.symm))
    have ge_r3 : n0 ≤ r3 := Nat.le_trans Zs2 (Nat.le_of_eq g3.symm)
    have geh_r3 : h0.size ≤ r3 := Nat.le_trans K2.1 (Nat.le_of_eq g3.symm)
    have f3_0 : Exa Z h3 o2 "java/lang/String" := (f2_0.ext E3)
    have f3_1 : Fld Z h3 o2 "java/lang/String" "value" "[B" .null := (f2_1.ext E3)
    have f3_2 : Fld Z h3 o2 "java/lang/String" "coder" "B" (.int (0 : Int32)) := (f2_2.ext E3)
    have f3_3 : Arv Z h3 r3 k3 .char (0 : Int32) [] (.int (0 : Int32)) := (Arv.new A3 (by decide))
    have sf3_o2 : Safe Z own_EL s.vm h3 o2 := Safe.ext E3 C2.1 sf2_o2
    have hk3 : _ ≤ h3.size := Nat.le_trans hk2 E3.1
    have C3 : CHr Z own_EL s.vm h0 s.vm h3 := C2.trans (CHr.ext E3 C2.1)
    have Zs3 : n0 ≤ h3.size := (Nat.le_trans Zs2 E3.1)
    have O3 : Old Z n0 h3 := O2.ext E3
    have K3 : Keep h0 h3 [] := K2.ext E3
    refine GoH.step st3 ?_
    show GoH _ _ _ _ _ _ _ _ _ _ T3 (mkF m 44 #[.val (.int p1), .val (.int p2), .val (.int (p1 &&& (3 : Int32))), .val (.int c0), .val (.int c1), .val (.int c2)] [(.ref r3), (.ref o2), (.ref o2)])
    obtain ⟨_, _, ⟨T4, L4, k4, n4⟩, -, X4, hSq4, hgr4, ⟨Lc4, hQ4, l4, y4, z4, CHq4⟩, st4⟩ := X3.specialBackS hx (y := (⟨"java/lang/String", "<init>", "([C)V"⟩ : MethodName)) rfl hown0 (mvT hZ0 (hw _ (List.mem_of_getElem? (i := 8) rfl))) (mvT hZ0 (hw _ (List.mem_of_getElem? (i := 9) rfl))) (mvT hZ0 (hw _ (List.mem_of_getElem? (i := 10) rfl))) (by decide) (backOfSH (W := 1) (rmSO l Z a0 hw [] o2 r3 k3 h3 n0 Zs3 ge_o2 f3_0 f3_1 f3_2 f3_3) hZ0 (hw _ (List.mem_of_getElem? (i := 10) rfl)) (hw _ (List.mem_of_getElem? (i := 6) rfl)) (by decide) (by decide) hEL C3.1) (g := (mkF m 44 #[.val (.int p1), .val (.int p2), .val (.int (p1 &&& (3 : Int32))), .val (.int c0), .val (.int c1), .val (.int c2)] [(.ref r3), (.ref o2), (.ref o2)])) rfl (by rw [hml]; rfl) (Steps.refl _) (a := o2) (argsL := [(.ref r3)]) (rest := [(.ref o2)]) (lenOf pd_1 rfl) rfl (by show 2 * 0 + _ ≤ _; exact Nat.le_of_eq rfl) (hb hby d1_44) (fun _ _ => ⟨rfl, e3, (by decide : 0 + 1 + 1 + 4 ≤ _), (by decide : 0 + 4 + 0 + 8 ≤ _)⟩)
    dsimp only [Pt.U, Pt.locs, Pt.cells, Pt.slots] at X4 hSq4 hgr4 l4 y4 z4 st4 hQ4 CHq4
    subst l4 y4 z4
    have X4 : Stand p l e _ (s.setVm T4.vm) _ _ _ _ _ T4 _ _ _ := X4
    have hS4 : s.Since T4.vm T4.heap.size := State.Since.trans hS0 hSq4 (Nat.le_trans hk3 (by first | exact hgr4 | (rw [← e3]; exact hgr4)))
    have hZ4 : Z.Warmed39 (s.setVm T4.vm).vm := State.Warmed39.trans (t := s.setVm s.vm) hZ0 hSq4.1
    have hown4 : (s.setVm T4.vm).vm.findClass "com/example/majority_lease/majoritylease/redis/ErrorReplyEqualsPinLaw" = some m.cls := by rw [show (s.setVm T4.vm).vm = T4.vm from rfl, hSq4.1.alike.findClass]; exact hown0
    have hk4 : T4.heap.size ≤ T4.heap.size := Nat.le_refl _
    obtain ⟨rfl, N4q, Kq4, Eq4, Cq4, tb4, kb4, nt4, Vq4, Aq4⟩ := hQ4
    have N4 := Fr.app N0 N4q
    have f4_0 : Arv Z T4.heap r3 k3 .char (0 : Int32) [] (.int (0 : Int32)) := (f3_3.keep Kq4 (ninS (Ne.symm ne_o2_r3) nin0))
    have f4_1 : Exa Z T4.heap o2 "java/lang/String" := Eq4
    have f4_2 : Fld Z T4.heap o2 "java/lang/String" "coder" "B" (.int (0 : Int32)) := Cq4
    have f4_3 : Fld Z T4.heap o2 "java/lang/String" "value" "[B" (.ref tb4) := Vq4
    have f4_4 : Arv Z T4.heap tb4 kb4 .byte (0 : Int32) [] (.int (0 : Int32)) := Aq4
    have Zs4 : n0 ≤ T4.heap.size := (Nat.le_trans Zs3 Kq4.1)
    have O4 : Old Z n0 T4.heap := O3.keep Kq4 (allS ge_o2 all0)
    have K4 : Keep h0 T4.heap [] := K3.trans Kq4 (allS (Or.inr geh_o2) all0)
    have sf4_o2 : Safe Z own_EL T4.vm T4.heap o2 := CHr.safe CHq4 f3_0.lt sf3_o2
    have CC4 : CHr Z own_EL s.vm h0 T4.vm T4.heap := C3.trans CHq4
    refine GoH.step (fun t_ k_ => st4.trans k_) ?_
    show GoH _ _ _ _ _ _ _ _ _ _ T4 (mkF m 47 #[.val (.int p1), .val (.int p2), .val (.int (p1 &&& (3 : Int32))), .val (.int c0), .val (.int c1), .val (.int c2)] [(.ref o2)])
    have hkr := hk4
    have hCr := CC4
    refine GoH.ret X4 hx hlk hS4 hkr hZ4 hEL hCr hret rfl (Or.inr (Or.inr (Or.inr (Or.inr ⟨rfl, rfl, rfl⟩)))) (hb hby d1_47) ?_ (by decide) (by decide)
    show QDr Z _ _ _ _ _ _ T4.heap _
    have hd : own_draw p1 p2 = ([] : List Int32) := by unfold own_draw; rw [if_pos hb34_1]
    refine ⟨o2, tb4, kb4, rfl, N4, K4, geh_o2, f4_1, f4_2, f4_3, ?_⟩
    rw [hd]
    exact f4_4
  · refine GoH.step (fun t_ k_ => XS.ifYes X0.here hx rfl (pc0 := 34) (pc' := 48) rfl (hb hby d1_34) rfl (XT.i0_ne_t hb34_1) (by decide) (by decide) k_) ?_
    show GoH _ _ _ _ _ _ _ _ _ _ s₁ (mkF m 48 #[.val (.int p1), .val (.int p2), .val (.int (p1 &&& (3 : Int32))), .val (.int c0), .val (.int c1), .val (.int c2)] [])
    refine GoH.step (fun t_ k_ => XS.iloadN X0.here hx rfl (hb hby d1_48) rfl k_) ?_
    show GoH _ _ _ _ _ _ _ _ _ _ s₁ (mkF m 49 #[.val (.int p1), .val (.int p2), .val (.int (p1 &&& (3 : Int32))), .val (.int c0), .val (.int c1), .val (.int c2)] [(.int (p1 &&& (3 : Int32)))])
    refine GoH.step (fun t_ k_ => XS.iconst X0.here hx rfl (hb hby d1_49) k_) ?_
    show GoH _ _ _ _ _ _ _ _ _ _ s₁ (mkF m 50 #[.val (.int p1), .val (.int p2), .val (.int (p1 &&& (3 : Int32))), .val (.int c0), .val (.int c1), .val (.int c2)] [(.int (1 : Int32)), (.int (p1 &&& (3 : Int32)))])
    by_cases hb50_5 : (p1 &&& (3 : Int32)) = (1 : Int32)
    · refine GoH.step (fun t_ k_ => XS.icmpNo X0.here hx rfl (hb hby d1_50) rfl (XT.ii_ne_f hb50_5) k_) ?_
      show GoH _ _ _ _ _ _ _ _ _ _ s₁ (mkF m 53 #[.val (.int p1), .val (.int p2), .val (.int (p1 &&& (3 : Int32))), .val (.int c0), .val (.int c1), .val (.int c2)] [])
      obtain ⟨T6, h6, X6, e6, E6, A6, D6, -, st6⟩ := newO X0 hx hZ0 hown0 (hw _ (List.mem_of_getElem? (i := 4) rfl)) (hw _ (List.mem_of_getElem? (i := 5) rfl)) (hw _ (List.mem_of_getElem? (i := 6) rfl)) e0 (g := (mkF m 53 #[.val (.int p1), .val (.int p2), .val (.int (p1 &&& (3 : Int32))), .val (.int c0), .val (.int c1), .val (.int c2)] [])) rfl (hb hby d1_53) (by decide) (by decide)
      obtain ⟨o6, g6⟩ : ∃ z, z = h0.size := ⟨_, rfl⟩
      rw [← g6] at A6 D6 st6
      have ge_o6 : n0 ≤ o6 := Nat.le_trans Z0 (Nat.le_of_eq g6.symm)
      have geh_o6 : h0.size ≤ o6 := Nat.le_trans K0.1 (Nat.le_of_eq g6.symm)
      have f6_0 : Exa Z h6 o6 "java/lang/String" := A6
      have f6_1 : Fld Z h6 o6 "java/lang/String" "value" "[B" .null := (D6 (Or.inr (hw _ (List.mem_of_getElem? (i := 20) rfl))) (ty := (.array .byte)) (by decide))
      have f6_2 : Fld Z h6 o6 "java/lang/String" "coder" "B" (.int (0 : Int32)) := (D6 (Or.inr (hw _ (List.mem_of_getElem? (i := 21) rfl))) (ty := .byte) (by decide))
      have sf6_o6 : Safe Z own_EL s.vm h6 o6 := Safe.ext E6 C0.1 (Safe.new (Nat.le_of_eq g6.symm))
      have hk6 : _ ≤ h6.size := Nat.le_trans hk0 E6.1
      have C6 : CHr Z own_EL s.vm h0 s.vm h6 := C0.trans (CHr.ext E6 C0.1)
      have Zs6 : n0 ≤ h6.size := (Nat.le_trans Z0 E6.1)
      have O6 : Old Z n0 h6 := O0.ext E6
      have K6 : Keep h0 h6 [] := K0.ext E6
      refine GoH.step st6 ?_
      show GoH _ _ _ _ _ _ _ _ _ _ T6 (mkF m 56 #[.val (.int p1), .val (.int p2), .val (.int (p1 &&& (3 : Int32))), .val (.int c0), .val (.int c1), .val (.int c2)] [(.ref o6)])
      refine GoH.step (fun t_ k_ => XS.dup X6.here hx rfl (hb hby d1_56) rfl rfl k_) ?_
      show GoH _ _ _ _ _ _ _ _ _ _ T6 (mkF m 57 #[.val (.int p1), .val (.int p2), .val (.int (p1 &&& (3 : Int32))), .val (.int c0), .val (.int c1), .val (.int c2)] [(.ref o6), (.ref o6)])
      refine GoH.step (fun t_ k_ => XS.iconst X6.here hx rfl (hb hby d1_57) k_) ?_
      show GoH _ _ _ _ _ _ _ _ _ _ T6 (mkF m 58 #[.val (.int p1), .val (.int p2), .val (.int (p1 &&& (3 : Int32))), .val (.int c0), .val (.int c1), .val (.int c2)] [(.int (1 : Int32)), (.ref o6), (.ref o6)])
      obtain ⟨T7, h7, k7, X7, e7, E7, A7, st7⟩ := newP X6 hx hZ0 (hw _ (List.mem_of_getElem? (i := 7) rfl)) e6 (g := (mkF m 58 #[.val (.int p1), .val (.int p2), .val (.int (p1 &&& (3 : Int32))), .val (.int c0), .val (.int c1), .val (.int c2)] [(.int (1 : Int32)), (.ref o6), (.ref o6)])) rfl (hb hby d1_58) rfl (by decide) (cap := 1) (by decide) (by decide) (by decide) (by decide)
      obtain ⟨r7, g7⟩ : ∃ z, z = h6.size := ⟨_, rfl⟩
      rw [← g7] at A7 st7
      have ne_o6_r7 : o6 ≠ r7 := Nat.ne_of_lt (Nat.lt_of_lt_of_le f6_0.lt (Nat.le_of_eq g7.symm))
      have ge_r7 : n0 ≤ r7 := Nat.le_trans Zs6 (Nat.le_of_eq g7.symm)
      have geh_r7 : h0.size ≤ r7 := Nat.le_trans K6.1 (Nat.le_of_eq g7.symm)
      have f7_0 : Exa Z h7 o6 "java/lang/String" := (f6_0.ext E7)
      have f7_1 : Fld Z h7 o6 "java/lang/String" "value" "[B" .null := (f6_1.ext E7)
      have f7_2 : Fld Z h7 o6 "java/lang/String" "coder" "B" (.int (0 : Int32)) := (f6_2.ext E7)
      have f7_3 : Arv Z h7 r7 k7 .char (1 : Int32) [(.int (0 : Int32))] (.int (0 : Int32)) := ((Arv.new A7 (by decide)).pad (pad_rep [] (.int (0 : Int32)) 1))
      have sf7_o6 : Safe Z own_EL s.vm h7 o6 := Safe.ext E7 C6.1 sf6_o6
      have hk7 : _ ≤ h7.size := Nat.le_trans hk6 E7.1
      have C7 : CHr Z own_EL s.vm h0 s.vm h7 := C6.trans (CHr.ext E7 C6.1)
      have Zs7 : n0 ≤ h7.size := (Nat.le_trans Zs6 E7.1)
      have O7 : Old Z n0 h7 := O6.ext E7
      have K7 : Keep h0 h7 [] := K6.ext E7
      refine GoH.step st7 ?_
      show GoH _ _ _ _ _ _ _ _ _ _ T7 (mkF m 60 #[.val (.int p1), .val (.int p2), .val (.int (p1 &&& (3 : Int32))), .val (.int c0), .val (.int c1), .val (.int c2)] [(.ref r7), (.ref o6), (.ref o6)])
      refine GoH.step (fun t_ k_ => XS.dup X7.here hx rfl (hb hby d1_60) rfl rfl k_) ?_
      show GoH _ _ _ _ _ _ _ _ _ _ T7 (mkF m 61 #[.val (.int p1), .val (.int p2), .val (.int (p1 &&& (3 : Int32))), .val (.int c0), .val (.int c1), .val (.int c2)] [(.ref r7), (.ref r7), (.ref o6), (.ref o6)])
      refine GoH.step (fun t_ k_ => XS.iconst X7.here hx rfl (hb hby d1_61) k_) ?_
      show GoH _ _ _ _ _ _ _ _ _ _ T7 (mkF m 62 #[.val (.int p1), .val (.int p2), .val (.int (p1 &&& (3 : Int32))), .val (.int c0), .val (.int c1), .val (.int c2)] [(.int (0 : Int32)), (.ref r7), (.ref r7), (.ref o6), (.ref o6)])
      refine GoH.step (fun t_ k_ => XS.iloadN X7.here hx rfl (hb hby d1_62) rfl k_) ?_
      show GoH _ _ _ _ _ _ _ _ _ _ T7 (mkF m 63 #[.val (.int p1), .val (.int p2), .val (.int (p1 &&& (3 : Int32))), .val (.int c0), .val (.int c1), .val (.int c2)] [(.int c0), (.int (0 : Int32)), (.ref r7), (.ref r7), (.ref o6), (.ref o6)])
      obtain ⟨c8, Ar8, q8, S8, M8, H8, U8⟩ := id f7_3
      obtain ⟨T8, h8, X8, e8, W8, st8⟩ := stC X7 hx hZ0 e7 Ar8 (j := (0 : Int32)) (inb_of S8 ⟨(by decide), (by decide)⟩) (g := (mkF m 63 #[.val (.int p1), .val (.int p2), .val (.int (p1 &&& (3 : Int32))), .val (.int c0), .val (.int c1), .val (.int c2)] [(.int c0), (.int (0 : Int32)), (.ref r7), (.ref r7), (.ref o6), (.ref o6)])) rfl rfl (hb hby d1_63)
      have N8 := Fr.snoc X8 N0 ge_r7
      refine GoH.step st8 ?_
      have f8_0 : Exa Z h8 o6 "java/lang/String" := (f7_0.wr W8)
      have f8_1 : Fld Z h8 o6 "java/lang/String" "value" "[B" .null := (f7_1.other W8 (Or.inl ne_o6_r7))
      have f8_2 : Fld Z h8 o6 "java/lang/String" "coder" "B" (.int (0 : Int32)) := (f7_2.other W8 (Or.inl ne_o6_r7))
      have sfw8 : Safe Z own_EL s.vm _ r7 := (Safe.arv hZ0.alike f7_3 (by decide))
      have sf8_o6 : Safe Z own_EL s.vm h8 o6 := Safe.wr W8 sfw8 C7.1 sf7_o6
      have hk8 : _ ≤ h8.size := Nat.le_trans hk7 (Keep.of_wr W8).1
      have C8 : CHr Z own_EL s.vm h0 s.vm h8 := C7.trans (CHr.wr W8 sfw8 C7.1)
      have Zs8 : n0 ≤ h8.size := (Nat.le_trans Zs7 (Keep.of_wr W8).1)
      have O8 : Old Z n0 h8 := O7.wr W8 ge_r7
      have K8 : Keep h0 h8 [] := K7.wr W8 (Or.inr geh_r7)
      have fA8 : Arv Z h8 r7 k7 .char (1 : Int32) [(.int c0)] (.int (0 : Int32)) := by have q := (Arv.set Ar8 q8 S8 M8 H8 U8 (fits_nar_char _) W8 0 rfl (Nat.le_of_ble_eq_true rfl)); rw [hc0r.2] at q; exact q
      show GoH _ _ _ _ _ _ _ _ _ _ T8 (mkF m 64 #[.val (.int p1), .val (.int p2), .val (.int (p1 &&& (3 : Int32))), .val (.int c0), .val (.int c1), .val (.int c2)] [(.ref r7), (.ref o6), (.ref o6)])
      have hp9 : ∀ c ∈ ([c0] : List Int32), ¬ c < 0 ∧ ¬ (255 : Int32) < c := by
        intro c hc
        simp only [List.mem_cons, List.not_mem_nil, or_false] at hc
        rcases hc with rfl
        · exact hc0r.1
      obtain ⟨_, _, ⟨T9, L9, k9, n9⟩, -, X9, ⟨Lc9, hQ9, l9, y9, z9⟩, st9⟩ := X8.specialBack hx (y := (⟨"java/lang/String", "<init>", "([C)V"⟩ : MethodName)) rfl hown0 (mvT hZ0 (hw _ (List.mem_of_getElem? (i := 8) rfl))) (mvT hZ0 (hw _ (List.mem_of_getElem? (i := 9) rfl))) (mvT hZ0 (hw _ (List.mem_of_getElem? (i := 10) rfl))) (by decide) (StrChars.Road.backV (W := 1) hZ0 (own_words hw) (kI := 4) (hw _ (List.mem_of_getElem? (i := 5) rfl)) (cs := ([c0] : List Int32)) (bs := ([c0] : List Int32).map (fun c => c.toInt8.toInt32)) (n := 1) ge_o6 Zs8 f8_0 f8_1 f8_2 fA8 (S_COMPACT.ext O8.2) P_COMPACT rfl rfl (by decide) (by decide) hp9 rfl (by decide) (by decide)) (g := (mkF m 64 #[.val (.int p1), .val (.int p2), .val (.int (p1 &&& (3 : Int32))), .val (.int c0), .val (.int c1), .val (.int c2)] [(.ref r7), (.ref o6), (.ref o6)])) rfl (by rw [hml]; rfl) (Steps.refl _) (a := o6) (argsL := [(.ref r7)]) (rest := [(.ref o6)]) (lenOf pd_1 rfl) rfl (by show 2 * 0 + _ ≤ _; exact Nat.le_of_eq rfl) (hb hby d1_64) (fun _ _ => ⟨rfl, e8, (by decide : 0 + 1 + 1 + 1 ≤ _), (by decide : 0 + 4 + 1 + 1 ≤ _)⟩)
      dsimp only [Pt.U, Pt.locs, Pt.cells, Pt.slots] at X9 l9 y9 z9 st9 hQ9
      subst l9 y9 z9
      obtain ⟨rfl, N9q, Kq9, Eq9, Cq9, tb9, kb9, u9, v9, w9, Vq9, Aq9⟩ := hQ9
      have N9 := Fr.app N8 N9q
      have ne_o6_tb9 : o6 ≠ tb9 := Nat.ne_of_lt (Nat.lt_of_lt_of_le f8_0.lt v9)
      have ne_r7_tb9 : r7 ≠ tb9 := Nat.ne_of_lt (Nat.lt_of_lt_of_le fA8.lt v9)
      have geh_tb9 : h0.size ≤ tb9 := Nat.le_trans K8.1 v9
      have f9_0 : Arv Z T9.heap r7 k7 .char (1 : Int32) [(.int c0)] (.int (0 : Int32)) := (fA8.keep Kq9 (ninS (Ne.symm ne_o6_r7) nin0))
      have f9_1 : Exa Z T9.heap o6 "java/lang/String" := Eq9
      have f9_2 : Fld Z T9.heap o6 "java/lang/String" "coder" "B" (.int (0 : Int32)) := Cq9
      have f9_3 : Fld Z T9.heap o6 "java/lang/String" "value" "[B" (.ref tb9) := Vq9
      have f9_4 : Arv Z T9.heap tb9 kb9 .byte (1 : Int32) ((([c0] : List Int32).map (fun c => c.toInt8.toInt32)).map Value.int) (.int (0 : Int32)) := Aq9
      have sfk9 : ∀ x ∈ ([o6] : List Addr), Safe Z own_EL s.vm h8 x := (sfS sf8_o6 sf0)
      have sf9_o6 : Safe Z own_EL s.vm T9.heap o6 := Safe.keep Kq9 sfk9 C8.1 sf8_o6
      have hk9 : _ ≤ T9.heap.size := Nat.le_trans hk8 Kq9.1
      have C9 : CHr Z own_EL s.vm h0 s.vm T9.heap := C8.trans (CHr.keep Kq9 sfk9 C8.1)
      have Zs9 : n0 ≤ T9.heap.size := (Nat.le_trans Zs8 Kq9.1)
      have O9 : Old Z n0 T9.heap := O8.keep Kq9 (allS ge_o6 all0)
      have K9 : Keep h0 T9.heap [] := K8.trans Kq9 (allS (Or.inr geh_o6) all0)
      refine GoH.step (fun t_ k_ => st9.trans k_) ?_
      show GoH _ _ _ _ _ _ _ _ _ _ T9 (mkF m 67 #[.val (.int p1), .val (.int p2), .val (.int (p1 &&& (3 : Int32))), .val (.int c0), .val (.int c1), .val (.int c2)] [(.ref o6)])
      have hkr := hk9
      have hCr := C9
      refine GoH.ret X9 hx hlk hS0 hkr hZ0 hEL hCr hret rfl (Or.inr (Or.inr (Or.inr (Or.inr ⟨rfl, rfl, rfl⟩)))) (hb hby d1_67) ?_ (by decide) (by decide)
      show QDr Z _ _ _ _ _ _ T9.heap _
      have hd : own_draw p1 p2 = ([c0] : List Int32) := by unfold own_draw; rw [if_neg hb34_1, if_pos hb50_5]; rw [show own_ch p2 = c0 from hc0]
      refine ⟨o6, tb9, kb9, rfl, N9, K9, geh_o6, f9_1, f9_2, f9_3, ?_⟩
      rw [hd]
      exact f9_4
    · refine GoH.step (fun t_ k_ => XS.icmpYes X0.here hx rfl (pc0 := 50) (pc' := 68) rfl (hb hby d1_50) rfl (XT.ii_ne_t hb50_5) (by decide) (by decide) k_) ?_
      show GoH _ _ _ _ _ _ _ _ _ _ s₁ (mkF m 68 #[.val (.int p1), .val (.int p2), .val (.int (p1 &&& (3 : Int32))), .val (.int c0), .val (.int c1), .val (.int c2)] [])
      refine GoH.step (fun t_ k_ => XS.iloadN X0.here hx rfl (hb hby d1_68) rfl k_) ?_
      show GoH _ _ _ _ _ _ _ _ _ _ s₁ (mkF m 69 #[.val (.int p1), .val (.int p2), .val (.int (p1 &&& (3 : Int32))), .val (.int c0), .val (.int c1), .val (.int c2)] [(.int (p1 &&& (3 : Int32)))])
      refine GoH.step (fun t_ k_ => XS.iconst X0.here hx rfl (hb hby d1_69) k_) ?_
      show GoH _ _ _ _ _ _ _ _ _ _ s₁ (mkF m 70 #[.val (.int p1), .val (.int p2), .val (.int (p1 &&& (3 : Int32))), .val (.int c0), .val (.int c1), .val (.int c2)] [(.int (2 : Int32)), (.int (p1 &&& (3 : Int32)))])
      by_cases hb70_10 : (p1 &&& (3 : Int32)) = (2 : Int32)
      · refine GoH.step (fun t_ k_ => XS.icmpNo X0.here hx rfl (hb hby d1_70) rfl (XT.ii_ne_f hb70_10) k_) ?_
        show GoH _ _ _ _ _ _ _ _ _ _ s₁ (mkF m 73 #[.val (.int p1), .val (.int p2), .val (.int (p1 &&& (3 : Int32))), .val (.int c0), .val (.int c1), .val (.int c2)] [])
        obtain ⟨T11, h11, X11, e11, E11, A11, D11, -, st11⟩ := newO X0 hx hZ0 hown0 (hw _ (List.mem_of_getElem? (i := 4) rfl)) (hw _ (List.mem_of_getElem? (i := 5) rfl)) (hw _ (List.mem_of_getElem? (i := 6) rfl)) e0 (g := (mkF m 73 #[.val (.int p1), .val (.int p2), .val (.int (p1 &&& (3 : Int32))), .val (.int c0), .val (.int c1), .val (.int c2)] [])) rfl (hb hby d1_73) (by decide) (by decide)
        obtain ⟨o11, g11⟩ : ∃ z, z = h0.size := ⟨_, rfl⟩
        rw [← g11] at A11 D11 st11
        have ge_o11 : n0 ≤ o11 := Nat.le_trans Z0 (Nat.le_of_eq g11.symm)
        have geh_o11 : h0.size ≤ o11 := Nat.le_trans K0.1 (Nat.le_of_eq g11.symm)
        have f11_0 : Exa Z h11 o11 "java/lang/String" := A11
        have f11_1 : Fld Z h11 o11 "java/lang/String" "value" "[B" .null := (D11 (Or.inr (hw _ (List.mem_of_getElem? (i := 20) rfl))) (ty := (.array .byte)) (by decide))
        have f11_2 : Fld Z h11 o11 "java/lang/String" "coder" "B" (.int (0 : Int32)) := (D11 (Or.inr (hw _ (List.mem_of_getElem? (i := 21) rfl))) (ty := .byte) (by decide))
        have sf11_o11 : Safe Z own_EL s.vm h11 o11 := Safe.ext E11 C0.1 (Safe.new (Nat.le_of_eq g11.symm))
        have hk11 : _ ≤ h11.size := Nat.le_trans hk0 E11.1
        have C11 : CHr Z own_EL s.vm h0 s.vm h11 := C0.trans (CHr.ext E11 C0.1)
        have Zs11 : n0 ≤ h11.size := (Nat.le_trans Z0 E11.1)
        have O11 : Old Z n0 h11 := O0.ext E11
        have K11 : Keep h0 h11 [] := K0.ext E11
        refine GoH.step st11 ?_
        show GoH _ _ _ _ _ _ _ _ _ _ T11 (mkF m 76 #[.val (.int p1), .val (.int p2), .val (.int (p1 &&& (3 : Int32))), .val (.int c0), .val (.int c1), .val (.int c2)] [(.ref o11)])
        refine GoH.step (fun t_ k_ => XS.dup X11.here hx rfl (hb hby d1_76) rfl rfl k_) ?_
        show GoH _ _ _ _ _ _ _ _ _ _ T11 (mkF m 77 #[.val (.int p1), .val (.int p2), .val (.int (p1 &&& (3 : Int32))), .val (.int c0), .val (.int c1), .val (.int c2)] [(.ref o11), (.ref o11)])
        refine GoH.step (fun t_ k_ => XS.iconst X11.here hx rfl (hb hby d1_77) k_) ?_
        show GoH _ _ _ _ _ _ _ _ _ _ T11 (mkF m 78 #[.val (.int p1), .val (.int p2), .val (.int (p1 &&& (3 : Int32))), .val (.int c0), .val (.int c1), .val (.int c2)] [(.int (2 : Int32)), (.ref o11), (.ref o11)])
        obtain ⟨T12, h12, k12, X12, e12, E12, A12, st12⟩ := newP X11 hx hZ0 (hw _ (List.mem_of_getElem? (i := 7) rfl)) e11 (g := (mkF m 78 #[.val (.int p1), .val (.int p2), .val (.int (p1 &&& (3 : Int32))), .val (.int c0), .val (.int c1), .val (.int c2)] [(.int (2 : Int32)), (.ref o11), (.ref o11)])) rfl (hb hby d1_78) rfl (by decide) (cap := 2) (by decide) (by decide) (by decide) (by decide)
        obtain ⟨r12, g12⟩ : ∃ z, z = h11.size := ⟨_, rfl⟩
        rw [← g12] at A12 st12
        have ne_o11_r12 : o11 ≠ r12 := Nat.ne_of_lt (Nat.lt_of_lt_of_le f11_0.lt (Nat.le_of_eq g12.symm))
        have ge_r12 : n0 ≤ r12 := Nat.le_trans Zs11 (Nat.le_of_eq g12.symm)
        have geh_r12 : h0.size ≤ r12 := Nat.le_trans K11.1 (Nat.le_of_eq g12.symm)
        have f12_0 : Exa Z h12 o11 "java/lang/String" := (f11_0.ext E12)
        have f12_1 : Fld Z h12 o11 "java/lang/String" "value" "[B" .null := (f11_1.ext E12)
        have f12_2 : Fld Z h12 o11 "java/lang/String" "coder" "B" (.int (0 : Int32)) := (f11_2.ext E12)
        have f12_3 : Arv Z h12 r12 k12 .char (2 : Int32) [(.int (0 : Int32)), (.int (0 : Int32))] (.int (0 : Int32)) := ((Arv.new A12 (by decide)).pad (pad_rep [] (.int (0 : Int32)) 2))
        have sf12_o11 : Safe Z own_EL s.vm h12 o11 := Safe.ext E12 C11.1 sf11_o11
        have hk12 : _ ≤ h12.size := Nat.le_trans hk11 E12.1
        have C12 : CHr Z own_EL s.vm h0 s.vm h12 := C11.trans (CHr.ext E12 C11.1)
        have Zs12 : n0 ≤ h12.size := (Nat.le_trans Zs11 E12.1)
        have O12 : Old Z n0 h12 := O11.ext E12
        have K12 : Keep h0 h12 [] := K11.ext E12
        refine GoH.step st12 ?_
        show GoH _ _ _ _ _ _ _ _ _ _ T12 (mkF m 80 #[.val (.int p1), .val (.int p2), .val (.int (p1 &&& (3 : Int32))), .val (.int c0), .val (.int c1), .val (.int c2)] [(.ref r12), (.ref o11), (.ref o11)])
        refine GoH.step (fun t_ k_ => XS.dup X12.here hx rfl (hb hby d1_80) rfl rfl k_) ?_
        show GoH _ _ _ _ _ _ _ _ _ _ T12 (mkF m 81 #[.val (.int p1), .val (.int p2), .val (.int (p1 &&& (3 : Int32))), .val (.int c0), .val (.int c1), .val (.int c2)] [(.ref r12), (.ref r12), (.ref o11), (.ref o11)])
        refine GoH.step (fun t_ k_ => XS.iconst X12.here hx rfl (hb hby d1_81) k_) ?_
        show GoH _ _ _ _ _ _ _ _ _ _ T12 (mkF m 82 #[.val (.int p1), .val (.int p2), .val (.int (p1 &&& (3 : Int32))), .val (.int c0), .val (.int c1), .val (.int c2)] [(.int (0 : Int32)), (.ref r12), (.ref r12), (.ref o11), (.ref o11)])
        refine GoH.step (fun t_ k_ => XS.iloadN X12.here hx rfl (hb hby d1_82) rfl k_) ?_
        show GoH _ _ _ _ _ _ _ _ _ _ T12 (mkF m 83 #[.val (.int p1), .val (.int p2), .val (.int (p1 &&& (3 : Int32))), .val (.int c0), .val (.int c1), .val (.int c2)] [(.int c0), (.int (0 : Int32)), (.ref r12), (.ref r12), (.ref o11), (.ref o11)])
        obtain ⟨c13, Ar13, q13, S13, M13, H13, U13⟩ := id f12_3
        obtain ⟨T13, h13, X13, e13, W13, st13⟩ := stC X12 hx hZ0 e12 Ar13 (j := (0 : Int32)) (inb_of S13 ⟨(by decide), (by decide)⟩) (g := (mkF m 83 #[.val (.int p1), .val (.int p2), .val (.int (p1 &&& (3 : Int32))), .val (.int c0), .val (.int c1), .val (.int c2)] [(.int c0), (.int (0 : Int32)), (.ref r12), (.ref r12), (.ref o11), (.ref o11)])) rfl rfl (hb hby d1_83)
        have N13 := Fr.snoc X13 N0 ge_r12
        refine GoH.step st13 ?_
        have f13_0 : Exa Z h13 o11 "java/lang/String" := (f12_0.wr W13)
        have f13_1 : Fld Z h13 o11 "java/lang/String" "value" "[B" .null := (f12_1.other W13 (Or.inl ne_o11_r12))
        have f13_2 : Fld Z h13 o11 "java/lang/String" "coder" "B" (.int (0 : Int32)) := (f12_2.other W13 (Or.inl ne_o11_r12))
        have sfw13 : Safe Z own_EL s.vm _ r12 := (Safe.arv hZ0.alike f12_3 (by decide))
        have sf13_o11 : Safe Z own_EL s.vm h13 o11 := Safe.wr W13 sfw13 C12.1 sf12_o11
        have hk13 : _ ≤ h13.size := Nat.le_trans hk12 (Keep.of_wr W13).1
        have C13 : CHr Z own_EL s.vm h0 s.vm h13 := C12.trans (CHr.wr W13 sfw13 C12.1)
        have Zs13 : n0 ≤ h13.size := (Nat.le_trans Zs12 (Keep.of_wr W13).1)
        have O13 : Old Z n0 h13 := O12.wr W13 ge_r12
        have K13 : Keep h0 h13 [] := K12.wr W13 (Or.inr geh_r12)
        have fA13 : Arv Z h13 r12 k12 .char (2 : Int32) [(.int c0), (.int (0 : Int32))] (.int (0 : Int32)) := by have q := (Arv.set Ar13 q13 S13 M13 H13 U13 (fits_nar_char _) W13 0 rfl (Nat.le_of_ble_eq_true rfl)); rw [hc0r.2] at q; exact q
        show GoH _ _ _ _ _ _ _ _ _ _ T13 (mkF m 84 #[.val (.int p1), .val (.int p2), .val (.int (p1 &&& (3 : Int32))), .val (.int c0), .val (.int c1), .val (.int c2)] [(.ref r12), (.ref o11), (.ref o11)])
        refine GoH.step (fun t_ k_ => XS.dup X13.here hx rfl (hb hby d1_84) rfl rfl k_) ?_
        show GoH _ _ _ _ _ _ _ _ _ _ T13 (mkF m 85 #[.val (.int p1), .val (.int p2), .val (.int (p1 &&& (3 : Int32))), .val (.int c0), .val (.int c1), .val (.int c2)] [(.ref r12), (.ref r12), (.ref o11), (.ref o11)])
        refine GoH.step (fun t_ k_ => XS.iconst X13.here hx rfl (hb hby d1_85) k_) ?_
        show GoH _ _ _ _ _ _ _ _ _ _ T13 (mkF m 86 #[.val (.int p1), .val (.int p2), .val (.int (p1 &&& (3 : Int32))), .val (.int c0), .val (.int c1), .val (.int c2)] [(.int (1 : Int32)), (.ref r12), (.ref r12), (.ref o11), (.ref o11)])
        refine GoH.step (fun t_ k_ => XS.iload X13.here hx rfl (hb hby d1_86) rfl k_) ?_
        show GoH _ _ _ _ _ _ _ _ _ _ T13 (mkF m 88 #[.val (.int p1), .val (.int p2), .val (.int (p1 &&& (3 : Int32))), .val (.int c0), .val (.int c1), .val (.int c2)] [(.int c1), (.int (1 : Int32)), (.ref r12), (.ref r12), (.ref o11), (.ref o11)])
        obtain ⟨c14, Ar14, q14, S14, M14, H14, U14⟩ := id fA13
        obtain ⟨T14, h14, X14, e14, W14, st14⟩ := stC X13 hx hZ0 e13 Ar14 (j := (1 : Int32)) (inb_of S14 ⟨(by decide), (by decide)⟩) (g := (mkF m 88 #[.val (.int p1), .val (.int p2), .val (.int (p1 &&& (3 : Int32))), .val (.int c0), .val (.int c1), .val (.int c2)] [(.int c1), (.int (1 : Int32)), (.ref r12), (.ref r12), (.ref o11), (.ref o11)])) rfl rfl (hb hby d1_88)
        have N14 := Fr.snoc X14 N13 ge_r12
        refine GoH.step st14 ?_
        have f14_0 : Exa Z h14 o11 "java/lang/String" := (f13_0.wr W14)
        have f14_1 : Fld Z h14 o11 "java/lang/String" "value" "[B" .null := (f13_1.other W14 (Or.inl ne_o11_r12))
        have f14_2 : Fld Z h14 o11 "java/lang/String" "coder" "B" (.int (0 : Int32)) := (f13_2.other W14 (Or.inl ne_o11_r12))
        have sfw14 : Safe Z own_EL s.vm _ r12 := (Safe.arv hZ0.alike fA13 (by decide))
        have sf14_o11 : Safe Z own_EL s.vm h14 o11 := Safe.wr W14 sfw14 C13.1 sf13_o11
        have hk14 : _ ≤ h14.size := Nat.le_trans hk13 (Keep.of_wr W14).1
        have C14 : CHr Z own_EL s.vm h0 s.vm h14 := C13.trans (CHr.wr W14 sfw14 C13.1)
        have Zs14 : n0 ≤ h14.size := (Nat.le_trans Zs13 (Keep.of_wr W14).1)
        have O14 : Old Z n0 h14 := O13.wr W14 ge_r12
        have K14 : Keep h0 h14 [] := K13.wr W14 (Or.inr geh_r12)
        have fA14 : Arv Z h14 r12 k12 .char (2 : Int32) [(.int c0), (.int c1)] (.int (0 : Int32)) := by have q := (Arv.set Ar14 q14 S14 M14 H14 U14 (fits_nar_char _) W14 1 rfl (Nat.le_of_ble_eq_true rfl)); rw [hc1r.2] at q; exact q
        show GoH _ _ _ _ _ _ _ _ _ _ T14 (mkF m 89 #[.val (.int p1), .val (.int p2), .val (.int (p1 &&& (3 : Int32))), .val (.int c0), .val (.int c1), .val (.int c2)] [(.ref r12), (.ref o11), (.ref o11)])
        have hp15 : ∀ c ∈ ([c0, c1] : List Int32), ¬ c < 0 ∧ ¬ (255 : Int32) < c := by
          intro c hc
          simp only [List.mem_cons, List.not_mem_nil, or_false] at hc
          rcases hc with rfl | rfl
          · exact hc0r.1
          · exact hc1r.1
        obtain ⟨_, _, ⟨T15, L15, k15, n15⟩, -, X15, ⟨Lc15, hQ15, l15, y15, z15⟩, st15⟩ := X14.specialBack hx (y := (⟨"java/lang/String", "<init>", "([C)V"⟩ : MethodName)) rfl hown0 (mvT hZ0 (hw _ (List.mem_of_getElem? (i := 8) rfl))) (mvT hZ0 (hw _ (List.mem_of_getElem? (i := 9) rfl))) (mvT hZ0 (hw _ (List.mem_of_getElem? (i := 10) rfl))) (by decide) (StrChars.Road.backV (W := 1) hZ0 (own_words hw) (kI := 4) (hw _ (List.mem_of_getElem? (i := 5) rfl)) (cs := ([c0, c1] : List Int32)) (bs := ([c0, c1] : List Int32).map (fun c => c.toInt8.toInt32)) (n := 2) ge_o11 Zs14 f14_0 f14_1 f14_2 fA14 (S_COMPACT.ext O14.2) P_COMPACT rfl rfl (by decide) (by decide) hp15 rfl (by decide) (by decide)) (g := (mkF m 89 #[.val (.int p1), .val (.int p2), .val (.int (p1 &&& (3 : Int32))), .val (.int c0), .val (.int c1), .val (.int c2)] [(.ref r12), (.ref o11), (.ref o11)])) rfl (by rw [hml]; rfl) (Steps.refl _) (a := o11) (argsL := [(.ref r12)]) (rest := [(.ref o11)]) (lenOf pd_1 rfl) rfl (by show 2 * 0 + _ ≤ _; exact Nat.le_of_eq rfl) (hb hby d1_89) (fun _ _ => ⟨rfl, e14, (by decide : 0 + 1 + 1 + 1 ≤ _), (by decide : 0 + 4 + 2 + 2 ≤ _)⟩)
        dsimp only [Pt.U, Pt.locs, Pt.cells, Pt.slots] at X15 l15 y15 z15 st15 hQ15
        subst l15 y15 z15
        obtain ⟨rfl, N15q, Kq15, Eq15, Cq15, tb15, kb15, u15, v15, w15, Vq15, Aq15⟩ := hQ15
        have N15 := Fr.app N14 N15q
        have ne_o11_tb15 : o11 ≠ tb15 := Nat.ne_of_lt (Nat.lt_of_lt_of_le f14_0.lt v15)
        have ne_r12_tb15 : r12 ≠ tb15 := Nat.ne_of_lt (Nat.lt_of_lt_of_le fA14.lt v15)
        have geh_tb15 : h0.size ≤ tb15 := Nat.le_trans K14.1 v15
        have f15_0 : Arv Z T15.heap r12 k12 .char (2 : Int32) [(.int c0), (.int c1)] (.int (0 : Int32)) := (fA14.keep Kq15 (ninS (Ne.symm ne_o11_r12) nin0))
        have f15_1 : Exa Z T15.heap o11 "java/lang/String" := Eq15
        have f15_2 : Fld Z T15.heap o11 "java/lang/String" "coder" "B" (.int (0 : Int32)) := Cq15
        have f15_3 : Fld Z T15.heap o11 "java/lang/String" "value" "[B" (.ref tb15) := Vq15
        have f15_4 : Arv Z T15.heap tb15 kb15 .byte (2 : Int32) ((([c0, c1] : List Int32).map (fun c => c.toInt8.toInt32)).map Value.int) (.int (0 : Int32)) := Aq15
        have sfk15 : ∀ x ∈ ([o11] : List Addr), Safe Z own_EL s.vm h14 x := (sfS sf14_o11 sf0)
        have sf15_o11 : Safe Z own_EL s.vm T15.heap o11 := Safe.keep Kq15 sfk15 C14.1 sf14_o11
        have hk15 : _ ≤ T15.heap.size := Nat.le_trans hk14 Kq15.1
        have C15 : CHr Z own_EL s.vm h0 s.vm T15.heap := C14.trans (CHr.keep Kq15 sfk15 C14.1)
        have Zs15 : n0 ≤ T15.heap.size := (Nat.le_trans Zs14 Kq15.1)
        have O15 : Old Z n0 T15.heap := O14.keep Kq15 (allS ge_o11 all0)
        have K15 : Keep h0 T15.heap [] := K14.trans Kq15 (allS (Or.inr geh_o11) all0)
        refine GoH.step (fun t_ k_ => st15.trans k_) ?_
        show GoH _ _ _ _ _ _ _ _ _ _ T15 (mkF m 92 #[.val (.int p1), .val (.int p2), .val (.int (p1 &&& (3 : Int32))), .val (.int c0), .val (.int c1), .val (.int c2)] [(.ref o11)])
        have hkr := hk15
        have hCr := C15
        refine GoH.ret X15 hx hlk hS0 hkr hZ0 hEL hCr hret rfl (Or.inr (Or.inr (Or.inr (Or.inr ⟨rfl, rfl, rfl⟩)))) (hb hby d1_92) ?_ (by decide) (by decide)
        show QDr Z _ _ _ _ _ _ T15.heap _
        have hd : own_draw p1 p2 = ([c0, c1] : List Int32) := by unfold own_draw; rw [if_neg hb34_1, if_neg hb50_5, if_pos hb70_10]; rw [show own_ch p2 = c0 from hc0]; rw [show own_ch (XT.ushr p2 (8 : Int32)) = c1 from hc1]
        refine ⟨o11, tb15, kb15, rfl, N15, K15, geh_o11, f15_1, f15_2, f15_3, ?_⟩
        rw [hd]
        exact f15_4
      · refine GoH.step (fun t_ k_ => XS.icmpYes X0.here hx rfl (pc0 := 70) (pc' := 93) rfl (hb hby d1_70) rfl (XT.ii_ne_t hb70_10) (by decide) (by decide) k_) ?_
        show GoH _ _ _ _ _ _ _ _ _ _ s₁ (mkF m 93 #[.val (.int p1), .val (.int p2), .val (.int (p1 &&& (3 : Int32))), .val (.int c0), .val (.int c1), .val (.int c2)] [])
        obtain ⟨T16, h16, X16, e16, E16, A16, D16, -, st16⟩ := newO X0 hx hZ0 hown0 (hw _ (List.mem_of_getElem? (i := 4) rfl)) (hw _ (List.mem_of_getElem? (i := 5) rfl)) (hw _ (List.mem_of_getElem? (i := 6) rfl)) e0 (g := (mkF m 93 #[.val (.int p1), .val (.int p2), .val (.int (p1 &&& (3 : Int32))), .val (.int c0), .val (.int c1), .val (.int c2)] [])) rfl (hb hby d1_93) (by decide) (by decide)
        obtain ⟨o16, g16⟩ : ∃ z, z = h0.size := ⟨_, rfl⟩
        rw [← g16] at A16 D16 st16
        have ge_o16 : n0 ≤ o16 := Nat.le_trans Z0 (Nat.le_of_eq g16.symm)
        have geh_o16 : h0.size ≤ o16 := Nat.le_trans K0.1 (Nat.le_of_eq g16.symm)
        have f16_0 : Exa Z h16 o16 "java/lang/String" := A16
        have f16_1 : Fld Z h16 o16 "java/lang/String" "value" "[B" .null := (D16 (Or.inr (hw _ (List.mem_of_getElem? (i := 20) rfl))) (ty := (.array .byte)) (by decide))
        have f16_2 : Fld Z h16 o16 "java/lang/String" "coder" "B" (.int (0 : Int32)) := (D16 (Or.inr (hw _ (List.mem_of_getElem? (i := 21) rfl))) (ty := .byte) (by decide))
        have sf16_o16 : Safe Z own_EL s.vm h16 o16 := Safe.ext E16 C0.1 (Safe.new (Nat.le_of_eq g16.symm))
        have hk16 : _ ≤ h16.size := Nat.le_trans hk0 E16.1
        have C16 : CHr Z own_EL s.vm h0 s.vm h16 := C0.trans (CHr.ext E16 C0.1)
        have Zs16 : n0 ≤ h16.size := (Nat.le_trans Z0 E16.1)
        have O16 : Old Z n0 h16 := O0.ext E16
        have K16 : Keep h0 h16 [] := K0.ext E16
        refine GoH.step st16 ?_
        show GoH _ _ _ _ _ _ _ _ _ _ T16 (mkF m 96 #[.val (.int p1), .val (.int p2), .val (.int (p1 &&& (3 : Int32))), .val (.int c0), .val (.int c1), .val (.int c2)] [(.ref o16)])
        refine GoH.step (fun t_ k_ => XS.dup X16.here hx rfl (hb hby d1_96) rfl rfl k_) ?_
        show GoH _ _ _ _ _ _ _ _ _ _ T16 (mkF m 97 #[.val (.int p1), .val (.int p2), .val (.int (p1 &&& (3 : Int32))), .val (.int c0), .val (.int c1), .val (.int c2)] [(.ref o16), (.ref o16)])
        refine GoH.step (fun t_ k_ => XS.iconst X16.here hx rfl (hb hby d1_97) k_) ?_
        show GoH _ _ _ _ _ _ _ _ _ _ T16 (mkF m 98 #[.val (.int p1), .val (.int p2), .val (.int (p1 &&& (3 : Int32))), .val (.int c0), .val (.int c1), .val (.int c2)] [(.int (3 : Int32)), (.ref o16), (.ref o16)])
        obtain ⟨T17, h17, k17, X17, e17, E17, A17, st17⟩ := newP X16 hx hZ0 (hw _ (List.mem_of_getElem? (i := 7) rfl)) e16 (g := (mkF m 98 #[.val (.int p1), .val (.int p2), .val (.int (p1 &&& (3 : Int32))), .val (.int c0), .val (.int c1), .val (.int c2)] [(.int (3 : Int32)), (.ref o16), (.ref o16)])) rfl (hb hby d1_98) rfl (by decide) (cap := 3) (by decide) (by decide) (by decide) (by decide)
        obtain ⟨r17, g17⟩ : ∃ z, z = h16.size := ⟨_, rfl⟩
        rw [← g17] at A17 st17
        have ne_o16_r17 : o16 ≠ r17 := Nat.ne_of_lt (Nat.lt_of_lt_of_le f16_0.lt (Nat.le_of_eq g17.symm))
        have ge_r17 : n0 ≤ r17 := Nat.le_trans Zs16 (Nat.le_of_eq g17.symm)
        have geh_r17 : h0.size ≤ r17 := Nat.le_trans K16.1 (Nat.le_of_eq g17.symm)
        have f17_0 : Exa Z h17 o16 "java/lang/String" := (f16_0.ext E17)
        have f17_1 : Fld Z h17 o16 "java/lang/String" "value" "[B" .null := (f16_1.ext E17)
        have f17_2 : Fld Z h17 o16 "java/lang/String" "coder" "B" (.int (0 : Int32)) := (f16_2.ext E17)
        have f17_3 : Arv Z h17 r17 k17 .char (3 : Int32) [(.int (0 : Int32)), (.int (0 : Int32)), (.int (0 : Int32))] (.int (0 : Int32)) := ((Arv.new A17 (by decide)).pad (pad_rep [] (.int (0 : Int32)) 3))
        have sf17_o16 : Safe Z own_EL s.vm h17 o16 := Safe.ext E17 C16.1 sf16_o16
        have hk17 : _ ≤ h17.size := Nat.le_trans hk16 E17.1
        have C17 : CHr Z own_EL s.vm h0 s.vm h17 := C16.trans (CHr.ext E17 C16.1)
        have Zs17 : n0 ≤ h17.size := (Nat.le_trans Zs16 E17.1)
        have O17 : Old Z n0 h17 := O16.ext E17
        have K17 : Keep h0 h17 [] := K16.ext E17
        refine GoH.step st17 ?_
        show GoH _ _ _ _ _ _ _ _ _ _ T17 (mkF m 100 #[.val (.int p1), .val (.int p2), .val (.int (p1 &&& (3 : Int32))), .val (.int c0), .val (.int c1), .val (.int c2)] [(.ref r17), (.ref o16), (.ref o16)])
        refine GoH.step (fun t_ k_ => XS.dup X17.here hx rfl (hb hby d1_100) rfl rfl k_) ?_
        show GoH _ _ _ _ _ _ _ _ _ _ T17 (mkF m 101 #[.val (.int p1), .val (.int p2), .val (.int (p1 &&& (3 : Int32))), .val (.int c0), .val (.int c1), .val (.int c2)] [(.ref r17), (.ref r17), (.ref o16), (.ref o16)])
        refine GoH.step (fun t_ k_ => XS.iconst X17.here hx rfl (hb hby d1_101) k_) ?_
        show GoH _ _ _ _ _ _ _ _ _ _ T17 (mkF m 102 #[.val (.int p1), .val (.int p2), .val (.int (p1 &&& (3 : Int32))), .val (.int c0), .val (.int c1), .val (.int c2)] [(.int (0 : Int32)), (.ref r17), (.ref r17), (.ref o16), (.ref o16)])
        refine GoH.step (fun t_ k_ => XS.iloadN X17.here hx rfl (hb hby d1_102) rfl k_) ?_
        show GoH _ _ _ _ _ _ _ _ _ _ T17 (mkF m 103 #[.val (.int p1), .val (.int p2), .val (.int (p1 &&& (3 : Int32))), .val (.int c0), .val (.int c1), .val (.int c2)] [(.int c0), (.int (0 : Int32)), (.ref r17), (.ref r17), (.ref o16), (.ref o16)])
        obtain ⟨c18, Ar18, q18, S18, M18, H18, U18⟩ := id f17_3
        obtain ⟨T18, h18, X18, e18, W18, st18⟩ := stC X17 hx hZ0 e17 Ar18 (j := (0 : Int32)) (inb_of S18 ⟨(by decide), (by decide)⟩) (g := (mkF m 103 #[.val (.int p1), .val (.int p2), .val (.int (p1 &&& (3 : Int32))), .val (.int c0), .val (.int c1), .val (.int c2)] [(.int c0), (.int (0 : Int32)), (.ref r17), (.ref r17), (.ref o16), (.ref o16)])) rfl rfl (hb hby d1_103)
        have N18 := Fr.snoc X18 N0 ge_r17
        refine GoH.step st18 ?_
        have f18_0 : Exa Z h18 o16 "java/lang/String" := (f17_0.wr W18)
        have f18_1 : Fld Z h18 o16 "java/lang/String" "value" "[B" .null := (f17_1.other W18 (Or.inl ne_o16_r17))
        have f18_2 : Fld Z h18 o16 "java/lang/String" "coder" "B" (.int (0 : Int32)) := (f17_2.other W18 (Or.inl ne_o16_r17))
        have sfw18 : Safe Z own_EL s.vm _ r17 := (Safe.arv hZ0.alike f17_3 (by decide))
        have sf18_o16 : Safe Z own_EL s.vm h18 o16 := Safe.wr W18 sfw18 C17.1 sf17_o16
        have hk18 : _ ≤ h18.size := Nat.le_trans hk17 (Keep.of_wr W18).1
        have C18 : CHr Z own_EL s.vm h0 s.vm h18 := C17.trans (CHr.wr W18 sfw18 C17.1)
        have Zs18 : n0 ≤ h18.size := (Nat.le_trans Zs17 (Keep.of_wr W18).1)
        have O18 : Old Z n0 h18 := O17.wr W18 ge_r17
        have K18 : Keep h0 h18 [] := K17.wr W18 (Or.inr geh_r17)
        have fA18 : Arv Z h18 r17 k17 .char (3 : Int32) [(.int c0), (.int (0 : Int32)), (.int (0 : Int32))] (.int (0 : Int32)) := by have q := (Arv.set Ar18 q18 S18 M18 H18 U18 (fits_nar_char _) W18 0 rfl (Nat.le_of_ble_eq_true rfl)); rw [hc0r.2] at q; exact q
        show GoH _ _ _ _ _ _ _ _ _ _ T18 (mkF m 104 #[.val (.int p1), .val (.int p2), .val (.int (p1 &&& (3 : Int32))), .val (.int c0), .val (.int c1), .val (.int c2)] [(.ref r17), (.ref o16), (.ref o16)])
        refine GoH.step (fun t_ k_ => XS.dup X18.here hx rfl (hb hby d1_104) rfl rfl k_) ?_
        show GoH _ _ _ _ _ _ _ _ _ _ T18 (mkF m 105 #[.val (.int p1), .val (.int p2), .val (.int (p1 &&& (3 : Int32))), .val (.int c0), .val (.int c1), .val (.int c2)] [(.ref r17), (.ref r17), (.ref o16), (.ref o16)])
        refine GoH.step (fun t_ k_ => XS.iconst X18.here hx rfl (hb hby d1_105) k_) ?_
        show GoH _ _ _ _ _ _ _ _ _ _ T18 (mkF m 106 #[.val (.int p1), .val (.int p2), .val (.int (p1 &&& (3 : Int32))), .val (.int c0), .val (.int c1), .val (.int c2)] [(.int (1 : Int32)), (.ref r17), (.ref r17), (.ref o16), (.ref o16)])
        refine GoH.step (fun t_ k_ => XS.iload X18.here hx rfl (hb hby d1_106) rfl k_) ?_
        show GoH _ _ _ _ _ _ _ _ _ _ T18 (mkF m 108 #[.val (.int p1), .val (.int p2), .val (.int (p1 &&& (3 : Int32))), .val (.int c0), .val (.int c1), .val (.int c2)] [(.int c1), (.int (1 : Int32)), (.ref r17), (.ref r17), (.ref o16), (.ref o16)])
        obtain ⟨c19, Ar19, q19, S19, M19, H19, U19⟩ := id fA18
        obtain ⟨T19, h19, X19, e19, W19, st19⟩ := stC X18 hx hZ0 e18 Ar19 (j := (1 : Int32)) (inb_of S19 ⟨(by decide), (by decide)⟩) (g := (mkF m 108 #[.val (.int p1), .val (.int p2), .val (.int (p1 &&& (3 : Int32))), .val (.int c0), .val (.int c1), .val (.int c2)] [(.int c1), (.int (1 : Int32)), (.ref r17), (.ref r17), (.ref o16), (.ref o16)])) rfl rfl (hb hby d1_108)
        have N19 := Fr.snoc X19 N18 ge_r17
        refine GoH.step st19 ?_
        have f19_0 : Exa Z h19 o16 "java/lang/String" := (f18_0.wr W19)
        have f19_1 : Fld Z h19 o16 "java/lang/String" "value" "[B" .null := (f18_1.other W19 (Or.inl ne_o16_r17))
        have f19_2 : Fld Z h19 o16 "java/lang/String" "coder" "B" (.int (0 : Int32)) := (f18_2.other W19 (Or.inl ne_o16_r17))
        have sfw19 : Safe Z own_EL s.vm _ r17 := (Safe.arv hZ0.alike fA18 (by decide))
        have sf19_o16 : Safe Z own_EL s.vm h19 o16 := Safe.wr W19 sfw19 C18.1 sf18_o16
        have hk19 : _ ≤ h19.size := Nat.le_trans hk18 (Keep.of_wr W19).1
        have C19 : CHr Z own_EL s.vm h0 s.vm h19 := C18.trans (CHr.wr W19 sfw19 C18.1)
        have Zs19 : n0 ≤ h19.size := (Nat.le_trans Zs18 (Keep.of_wr W19).1)
        have O19 : Old Z n0 h19 := O18.wr W19 ge_r17
        have K19 : Keep h0 h19 [] := K18.wr W19 (Or.inr geh_r17)
        have fA19 : Arv Z h19 r17 k17 .char (3 : Int32) [(.int c0), (.int c1), (.int (0 : Int32))] (.int (0 : Int32)) := by have q := (Arv.set Ar19 q19 S19 M19 H19 U19 (fits_nar_char _) W19 1 rfl (Nat.le_of_ble_eq_true rfl)); rw [hc1r.2] at q; exact q
        show GoH _ _ _ _ _ _ _ _ _ _ T19 (mkF m 109 #[.val (.int p1), .val (.int p2), .val (.int (p1 &&& (3 : Int32))), .val (.int c0), .val (.int c1), .val (.int c2)] [(.ref r17), (.ref o16), (.ref o16)])
        refine GoH.step (fun t_ k_ => XS.dup X19.here hx rfl (hb hby d1_109) rfl rfl k_) ?_
        show GoH _ _ _ _ _ _ _ _ _ _ T19 (mkF m 110 #[.val (.int p1), .val (.int p2), .val (.int (p1 &&& (3 : Int32))), .val (.int c0), .val (.int c1), .val (.int c2)] [(.ref r17), (.ref r17), (.ref o16), (.ref o16)])
        refine GoH.step (fun t_ k_ => XS.iconst X19.here hx rfl (hb hby d1_110) k_) ?_
        show GoH _ _ _ _ _ _ _ _ _ _ T19 (mkF m 111 #[.val (.int p1), .val (.int p2), .val (.int (p1 &&& (3 : Int32))), .val (.int c0), .val (.int c1), .val (.int c2)] [(.int (2 : Int32)), (.ref r17), (.ref r17), (.ref o16), (.ref o16)])
        refine GoH.step (fun t_ k_ => XS.iload X19.here hx rfl (hb hby d1_111) rfl k_) ?_
        show GoH _ _ _ _ _ _ _ _ _ _ T19 (mkF m 113 #[.val (.int p1), .val (.int p2), .val (.int (p1 &&& (3 : Int32))), .val (.int c0), .val (.int c1), .val (.int c2)] [(.int c2), (.int (2 : Int32)), (.ref r17), (.ref r17), (.ref o16), (.ref o16)])
        obtain ⟨c20, Ar20, q20, S20, M20, H20, U20⟩ := id fA19
        obtain ⟨T20, h20, X20, e20, W20, st20⟩ := stC X19 hx hZ0 e19 Ar20 (j := (2 : Int32)) (inb_of S20 ⟨(by decide), (by decide)⟩) (g := (mkF m 113 #[.val (.int p1), .val (.int p2), .val (.int (p1 &&& (3 : Int32))), .val (.int c0), .val (.int c1), .val (.int c2)] [(.int c2), (.int (2 : Int32)), (.ref r17), (.ref r17), (.ref o16), (.ref o16)])) rfl rfl (hb hby d1_113)
        have N20 := Fr.snoc X20 N19 ge_r17
        refine GoH.step st20 ?_
        have f20_0 : Exa Z h20 o16 "java/lang/String" := (f19_0.wr W20)
        have f20_1 : Fld Z h20 o16 "java/lang/String" "value" "[B" .null := (f19_1.other W20 (Or.inl ne_o16_r17))
        have f20_2 : Fld Z h20 o16 "java/lang/String" "coder" "B" (.int (0 : Int32)) := (f19_2.other W20 (Or.inl ne_o16_r17))
        have sfw20 : Safe Z own_EL s.vm _ r17 := (Safe.arv hZ0.alike fA19 (by decide))
        have sf20_o16 : Safe Z own_EL s.vm h20 o16 := Safe.wr W20 sfw20 C19.1 sf19_o16
        have hk20 : _ ≤ h20.size := Nat.le_trans hk19 (Keep.of_wr W20).1
        have C20 : CHr Z own_EL s.vm h0 s.vm h20 := C19.trans (CHr.wr W20 sfw20 C19.1)
        have Zs20 : n0 ≤ h20.size := (Nat.le_trans Zs19 (Keep.of_wr W20).1)
        have O20 : Old Z n0 h20 := O19.wr W20 ge_r17
        have K20 : Keep h0 h20 [] := K19.wr W20 (Or.inr geh_r17)
        have fA20 : Arv Z h20 r17 k17 .char (3 : Int32) [(.int c0), (.int c1), (.int c2)] (.int (0 : Int32)) := by have q := (Arv.set Ar20 q20 S20 M20 H20 U20 (fits_nar_char _) W20 2 rfl (Nat.le_of_ble_eq_true rfl)); rw [hc2r.2] at q; exact q
        show GoH _ _ _ _ _ _ _ _ _ _ T20 (mkF m 114 #[.val (.int p1), .val (.int p2), .val (.int (p1 &&& (3 : Int32))), .val (.int c0), .val (.int c1), .val (.int c2)] [(.ref r17), (.ref o16), (.ref o16)])
        have hp21 : ∀ c ∈ ([c0, c1, c2] : List Int32), ¬ c < 0 ∧ ¬ (255 : Int32) < c := by
          intro c hc
          simp only [List.mem_cons, List.not_mem_nil, or_false] at hc
          rcases hc with rfl | rfl | rfl
          · exact hc0r.1
          · exact hc1r.1
          · exact hc2r.1
        obtain ⟨_, _, ⟨T21, L21, k21, n21⟩, -, X21, ⟨Lc21, hQ21, l21, y21, z21⟩, st21⟩ := X20.specialBack hx (y := (⟨"java/lang/String", "<init>", "([C)V"⟩ : MethodName)) rfl hown0 (mvT hZ0 (hw _ (List.mem_of_getElem? (i := 8) rfl))) (mvT hZ0 (hw _ (List.mem_of_getElem? (i := 9) rfl))) (mvT hZ0 (hw _ (List.mem_of_getElem? (i := 10) rfl))) (by decide) (StrChars.Road.backV (W := 1) hZ0 (own_words hw) (kI := 4) (hw _ (List.mem_of_getElem? (i := 5) rfl)) (cs := ([c0, c1, c2] : List Int32)) (bs := ([c0, c1, c2] : List Int32).map (fun c => c.toInt8.toInt32)) (n := 3) ge_o16 Zs20 f20_0 f20_1 f20_2 fA20 (S_COMPACT.ext O20.2) P_COMPACT rfl rfl (by decide) (by decide) hp21 rfl (by decide) (by decide)) (g := (mkF m 114 #[.val (.int p1), .val (.int p2), .val (.int (p1 &&& (3 : Int32))), .val (.int c0), .val (.int c1), .val (.int c2)] [(.ref r17), (.ref o16), (.ref o16)])) rfl (by rw [hml]; rfl) (Steps.refl _) (a := o16) (argsL := [(.ref r17)]) (rest := [(.ref o16)]) (lenOf pd_1 rfl) rfl (by show 2 * 0 + _ ≤ _; exact Nat.le_of_eq rfl) (hb hby d1_114) (fun _ _ => ⟨rfl, e20, (by decide : 0 + 1 + 1 + 1 ≤ _), (by decide : 0 + 4 + 3 + 3 ≤ _)⟩)
        dsimp only [Pt.U, Pt.locs, Pt.cells, Pt.slots] at X21 l21 y21 z21 st21 hQ21
        subst l21 y21 z21
        obtain ⟨rfl, N21q, Kq21, Eq21, Cq21, tb21, kb21, u21, v21, w21, Vq21, Aq21⟩ := hQ21
        have N21 := Fr.app N20 N21q
        have ne_o16_tb21 : o16 ≠ tb21 := Nat.ne_of_lt (Nat.lt_of_lt_of_le f20_0.lt v21)
        have ne_r17_tb21 : r17 ≠ tb21 := Nat.ne_of_lt (Nat.lt_of_lt_of_le fA20.lt v21)
        have geh_tb21 : h0.size ≤ tb21 := Nat.le_trans K20.1 v21
        have f21_0 : Arv Z T21.heap r17 k17 .char (3 : Int32) [(.int c0), (.int c1), (.int c2)] (.int (0 : Int32)) := (fA20.keep Kq21 (ninS (Ne.symm ne_o16_r17) nin0))
        have f21_1 : Exa Z T21.heap o16 "java/lang/String" := Eq21
        have f21_2 : Fld Z T21.heap o16 "java/lang/String" "coder" "B" (.int (0 : Int32)) := Cq21
        have f21_3 : Fld Z T21.heap o16 "java/lang/String" "value" "[B" (.ref tb21) := Vq21
        have f21_4 : Arv Z T21.heap tb21 kb21 .byte (3 : Int32) ((([c0, c1, c2] : List Int32).map (fun c => c.toInt8.toInt32)).map Value.int) (.int (0 : Int32)) := Aq21
        have sfk21 : ∀ x ∈ ([o16] : List Addr), Safe Z own_EL s.vm h20 x := (sfS sf20_o16 sf0)
        have sf21_o16 : Safe Z own_EL s.vm T21.heap o16 := Safe.keep Kq21 sfk21 C20.1 sf20_o16
        have hk21 : _ ≤ T21.heap.size := Nat.le_trans hk20 Kq21.1
        have C21 : CHr Z own_EL s.vm h0 s.vm T21.heap := C20.trans (CHr.keep Kq21 sfk21 C20.1)
        have Zs21 : n0 ≤ T21.heap.size := (Nat.le_trans Zs20 Kq21.1)
        have O21 : Old Z n0 T21.heap := O20.keep Kq21 (allS ge_o16 all0)
        have K21 : Keep h0 T21.heap [] := K20.trans Kq21 (allS (Or.inr geh_o16) all0)
        refine GoH.step (fun t_ k_ => st21.trans k_) ?_
        show GoH _ _ _ _ _ _ _ _ _ _ T21 (mkF m 117 #[.val (.int p1), .val (.int p2), .val (.int (p1 &&& (3 : Int32))), .val (.int c0), .val (.int c1), .val (.int c2)] [(.ref o16)])
        have hkr := hk21
        have hCr := C21
        refine GoH.ret X21 hx hlk hS0 hkr hZ0 hEL hCr hret rfl (Or.inr (Or.inr (Or.inr (Or.inr ⟨rfl, rfl, rfl⟩)))) (hb hby d1_117) ?_ (by decide) (by decide)
        show QDr Z _ _ _ _ _ _ T21.heap _
        have hd : own_draw p1 p2 = ([c0, c1, c2] : List Int32) := by unfold own_draw; rw [if_neg hb34_1, if_neg hb50_5, if_neg hb70_10]; rw [show own_ch p2 = c0 from hc0]; rw [show own_ch (XT.ushr p2 (8 : Int32)) = c1 from hc1]; rw [show own_ch (XT.ushr p2 (16 : Int32)) = c2 from hc2]
        refine ⟨o16, tb21, kb21, rfl, N21, K21, geh_o16, f21_1, f21_2, f21_3, ?_⟩
        rw [hd]
        exact f21_4
theorem ef_rmST (m : MethodId) (a1 : Addr) (a2 : Addr) : entryFrame m #[(.ref a1), (.ref a2)] 3 = mkF m 0 #[.val (.ref a1), .val (.ref a2), .unset] [] := by first | (simp [entryFrame, mkF, argsToLocals, Value.category]; done) | rfl
def QST (Z : State) (a1 : Addr) (a2 : Addr) (G1 : Int32) (G3 : Value) (t1 : Addr) (kb1 : ClassId) (cs : List Int32) (t2 : Addr) (kb2 : ClassId) (ds : List Int32) (h0 : Heap) (n0 : Nat) (v : Option Value) (h : Heap) (L : List Loc) : Prop := v = some (.int (own_same cs ds)) ∧ Fr n0 L ∧ h = h0
theorem d9_0 : decode method_3_code 0 = .ok (.aload_n 0, 1) := by decide +kernel
theorem pd_2 : parseMethodDescriptor "()I" = some ⟨[], some .int⟩ := by decide +kernel
theorem d9_1 : decode method_3_code 1 = .ok (.invokevirtual 12, 3) := by decide +kernel
theorem d9_4 : decode method_3_code 4 = .ok (.istore_n 2, 1) := by decide +kernel
theorem d9_5 : decode method_3_code 5 = .ok (.iload_n 2, 1) := by decide +kernel
theorem d9_6 : decode method_3_code 6 = .ok (.aload_n 1, 1) := by decide +kernel
theorem d9_7 : decode method_3_code 7 = .ok (.invokevirtual 12, 3) := by decide +kernel
theorem d9_10 : decode method_3_code 10 = .ok (.if_icmp .eq 5, 3) := by decide +kernel
theorem d9_15 : decode method_3_code 15 = .ok (.iload_n 2, 1) := by decide +kernel
theorem d9_16 : decode method_3_code 16 = .ok (.ifCond .le 18, 3) := by decide +kernel
theorem d9_19 : decode method_3_code 19 = .ok (.aload_n 0, 1) := by decide +kernel
theorem d9_20 : decode method_3_code 20 = .ok (.iconst 0, 1) := by decide +kernel
theorem pd_3 : parseMethodDescriptor "(I)C" = some ⟨[.int], some .char⟩ := by decide +kernel
theorem d9_21 : decode method_3_code 21 = .ok (.invokevirtual 16, 3) := by decide +kernel
theorem d9_24 : decode method_3_code 24 = .ok (.aload_n 1, 1) := by decide +kernel
theorem d9_25 : decode method_3_code 25 = .ok (.iconst 0, 1) := by decide +kernel
theorem d9_26 : decode method_3_code 26 = .ok (.invokevirtual 16, 3) := by decide +kernel
theorem d9_29 : decode method_3_code 29 = .ok (.if_icmp .eq 5, 3) := by decide +kernel
theorem d9_34 : decode method_3_code 34 = .ok (.iload_n 2, 1) := by decide +kernel
theorem d9_35 : decode method_3_code 35 = .ok (.iconst 1, 1) := by decide +kernel
theorem d9_36 : decode method_3_code 36 = .ok (.if_icmp .le 18, 3) := by decide +kernel
theorem d9_39 : decode method_3_code 39 = .ok (.aload_n 0, 1) := by decide +kernel
theorem d9_40 : decode method_3_code 40 = .ok (.iconst 1, 1) := by decide +kernel
theorem d9_41 : decode method_3_code 41 = .ok (.invokevirtual 16, 3) := by decide +kernel
theorem d9_44 : decode method_3_code 44 = .ok (.aload_n 1, 1) := by decide +kernel
theorem d9_45 : decode method_3_code 45 = .ok (.iconst 1, 1) := by decide +kernel
theorem d9_46 : decode method_3_code 46 = .ok (.invokevirtual 16, 3) := by decide +kernel
theorem d9_49 : decode method_3_code 49 = .ok (.if_icmp .eq 5, 3) := by decide +kernel
theorem d9_54 : decode method_3_code 54 = .ok (.iload_n 2, 1) := by decide +kernel
theorem d9_55 : decode method_3_code 55 = .ok (.iconst 2, 1) := by decide +kernel
theorem d9_56 : decode method_3_code 56 = .ok (.if_icmp .le 18, 3) := by decide +kernel
theorem d9_59 : decode method_3_code 59 = .ok (.aload_n 0, 1) := by decide +kernel
theorem d9_60 : decode method_3_code 60 = .ok (.iconst 2, 1) := by decide +kernel
theorem d9_61 : decode method_3_code 61 = .ok (.invokevirtual 16, 3) := by decide +kernel
theorem d9_64 : decode method_3_code 64 = .ok (.aload_n 1, 1) := by decide +kernel
theorem d9_65 : decode method_3_code 65 = .ok (.iconst 2, 1) := by decide +kernel
theorem d9_66 : decode method_3_code 66 = .ok (.invokevirtual 16, 3) := by decide +kernel
theorem d9_69 : decode method_3_code 69 = .ok (.if_icmp .eq 5, 3) := by decide +kernel
theorem d9_74 : decode method_3_code 74 = .ok (.iconst 1, 1) := by decide +kernel
theorem d9_75 : decode method_3_code 75 = .ok (.ireturn, 1) := by decide +kernel
theorem d9_72 : decode method_3_code 72 = .ok (.iconst 0, 1) := by decide +kernel
theorem d9_73 : decode method_3_code 73 = .ok (.ireturn, 1) := by decide +kernel
theorem d9_52 : decode method_3_code 52 = .ok (.iconst 0, 1) := by decide +kernel
theorem d9_53 : decode method_3_code 53 = .ok (.ireturn, 1) := by decide +kernel
theorem d9_32 : decode method_3_code 32 = .ok (.iconst 0, 1) := by decide +kernel
theorem d9_33 : decode method_3_code 33 = .ok (.ireturn, 1) := by decide +kernel
theorem d9_13 : decode method_3_code 13 = .ok (.iconst 0, 1) := by decide +kernel
theorem d9_14 : decode method_3_code 14 = .ok (.ireturn, 1) := by decide +kernel
set_option maxRecDepth 65536 in
set_option maxHeartbeats 40000000 in
theorem rmST (l : Launch) (Z : State) (a0 : Array Value) (hw : ∀ d ∈ tables_1, d.before a0 Z = true) (ws : List Jvm.Cond) (a1 : Addr) (a2 : Addr) (G1 : Int32) (G3 : Value) (t1 : Addr) (kb1 : ClassId) (cs : List Int32) (t2 : Addr) (kb2 : ClassId) (ds : List Int32) (h0 : Heap) (n0 : Nat) (Z0 : n0 ≤ h0.size) (O0 : Old Z n0 h0) (S_COMPACT : Sta Z Z.heap "java/lang/String" "COMPACT_STRINGS" "Z" (.int G1)) (P_COMPACT : ¬ (G1 = (0 : Int32))) (S_SIOOBE : Sta Z Z.heap "jdk/internal/util/Preconditions" "SIOOBE_FORMATTER" "Ljava/util/function/BiFunction;" G3) (r_SIOOBE : G3.isRef = true) (PE1 : Exa Z h0 a1 "java/lang/String") (PV1 : Fld Z h0 a1 "java/lang/String" "value" "[B" (.ref t1)) (PC1 : Fld Z h0 a1 "java/lang/String" "coder" "B" (.int (0 : Int32))) (PA1 : Arv Z h0 t1 kb1 .byte (Int32.ofNat cs.length) ((cs.map (fun c => c.toInt8.toInt32)).map Value.int) (.int (0 : Int32))) (PO1 : ∀ c ∈ cs, ¬ c < 0 ∧ ¬ (255 : Int32) < c) (PL1 : cs.length ≤ 3) (PE2 : Exa Z h0 a2 "java/lang/String") (PV2 : Fld Z h0 a2 "java/lang/String" "value" "[B" (.ref t2)) (PC2 : Fld Z h0 a2 "java/lang/String" "coder" "B" (.int (0 : Int32))) (PA2 : Arv Z h0 t2 kb2 .byte (Int32.ofNat ds.length) ((ds.map (fun c => c.toInt8.toInt32)).map Value.int) (.int (0 : Int32))) (PO2 : ∀ c ∈ ds, ¬ c < 0 ∧ ¬ (255 : Int32) < c) (PL2 : ds.length ≤ 3) :
    MetFree l (⟨"com/example/majority_lease/majoritylease/redis/ErrorReplyEqualsPinLaw", "sameText", "(Ljava/lang/String;Ljava/lang/String;)Z"⟩ : MethodName) (head1 (Jvm.Cond.code (⟨"com/example/majority_lease/majoritylease/redis/ErrorReplyEqualsPinLaw", "sameText", "(Ljava/lang/String;Ljava/lang/String;)Z"⟩ : MethodName) method_3_code 3 (some .boolean) :: ws) ({ frames := 4, cells := 0, slots := 0, locals := 54 } : Room)) (fun a U => a = #[(.ref a1), (.ref a2)] ∧ Z.Warmed39 U.vm ∧ U.heap = h0) (fun _ _ _ _ _ => True) (fun _ U o U' => ∃ v L, o = .returned v ∧ QST Z a1 a2 G1 G3 t1 kb1 cs t2 kb2 ds h0 n0 v U'.heap L ∧ FrameEnd U o U' L ({ frames := 4, cells := 0, slots := 0, locals := 54 } : Room).cells ({ frames := 4, cells := 0, slots := 0, locals := 54 } : Room).slots) := by
  refine MetFree.of_bodySF (plainFor_of_name pn_1) hisR ?_
  intro p e s m args below meth c s₁ Bd hml0 hP hK
  obtain ⟨rfl, hZ, hh⟩ := hP
  have hx := Bd.exec
  have hby := Bd.bytes
  have hlk := BodyLoose.notSynchronized Bd
  have hml : c.maxLocals = 3 := hml0
  have hret := Bd.returns
  have hown : s.vm.findClass "com/example/majority_lease/majoritylease/redis/ErrorReplyEqualsPinLaw" = some m.cls := findClass_of_methodNamed Bd.named
  have hnm := (name_of_methodNamed Bd.named Bd.method).1
  have X0 : Stand p l e ({ frames := 4, cells := 0, slots := 0, locals := 54 } : Room) s m #[(.ref a1), (.ref a2)] below meth c s₁ [] 0 0 := Stand.of_body Bd
  have e0 : s₁.heap = h0 := by rw [← hh, Bd.state]; rfl
  have N0 := Fr.nil n0
  show Go p e below s ({ frames := 4, cells := 0, slots := 0, locals := 54 } : Room).cells ({ frames := 4, cells := 0, slots := 0, locals := 54 } : Room).slots (QST Z a1 a2 G1 G3 t1 kb1 cs t2 kb2 ds h0 n0) s₁ (entryFrame m #[(.ref a1), (.ref a2)] 3)
  refine Go.cast (ef_rmST m a1 a2) ?_
  show Go _ _ _ _ _ _ _ s₁ (mkF m 0 #[.val (.ref a1), .val (.ref a2), .unset] [])
  refine Go.step (fun t_ k_ => XS.aloadN X0.here hx rfl (hb hby d9_0) rfl rfl k_) ?_
  show Go _ _ _ _ _ _ _ s₁ (mkF m 1 #[.val (.ref a1), .val (.ref a2), .unset] [(.ref a1)])
  have hcd1 : StrChars.Road.CodA cs 0 (Int32.ofNat cs.length) ((cs.map (fun c => c.toInt8.toInt32)).map Value.int) := StrChars.Road.codOf rfl (fun c hc => (PO1 c hc).2)
  have hbd1 : ∀ c ∈ cs, ¬ c < 0 ∧ ¬ (65535 : Int32) < c := own_up _ PO1
  obtain ⟨cq1, kq1, qa1, qb1, qc1⟩ := isOf hZ e0 PE1
  obtain ⟨vv1, _, ⟨T1, L1, k1, n1⟩, -, X1, ⟨Lc1, hQ1, l1, y1, z1⟩, st1⟩ := X0.virtualBack hx (y := (⟨"java/lang/String", "length", "()I"⟩ : MethodName)) (z := (⟨"java/lang/String", "length", "()I"⟩ : MethodName)) hown (mvT hZ (hw _ (List.mem_of_getElem? (i := 49) rfl))) (mvT hZ (hw _ (List.mem_of_getElem? (i := 50) rfl))) (notFace_of_selects (args := #[]) (mvT hZ (hw _ (List.mem_of_getElem? (i := 52) rfl)))) (mvT hZ (hw _ (List.mem_of_getElem? (i := 52) rfl))) (mvT hZ (hw _ (List.mem_of_getElem? (i := 51) rfl))) (by decide) (StrChars.Road.lenW (W := 0) hZ (own_wordsLen hw) (kI := 4) (hw _ (List.mem_of_getElem? (i := 5) rfl)) PE1 PV1 PC1 PA1 hcd1 hbd1 (S_COMPACT.ext O0.2) P_COMPACT (own_le4 PL1) (by decide) (by decide)) qa1 qc1 (g := (mkF m 1 #[.val (.ref a1), .val (.ref a2), .unset] [(.ref a1)])) rfl (by rw [hml]; rfl) (Steps.refl _) (argsL := []) (rest := []) (lenOf pd_2 rfl) rfl (by show 2 * 0 + _ ≤ _; exact Nat.le_of_eq rfl) (hb hby d9_1) (fun _ _ => ⟨rfl, e0, (by decide : 0 + 0 ≤ _), (by decide : 0 + 0 ≤ _)⟩)
  dsimp only [Pt.U, Pt.locs, Pt.cells, Pt.slots] at X1 l1 y1 z1 st1 hQ1
  subst l1 y1 z1
  obtain ⟨rfl, rfl, e1⟩ := hQ1
  have N1 := Fr.app N0 (Fr.nil n0)
  refine Go.step (fun t_ k_ => st1.trans k_) ?_
  show Go _ _ _ _ _ _ _ T1 (mkF m 4 #[.val (.ref a1), .val (.ref a2), .unset] [(.int (Int32.ofNat cs.length))])
  refine Go.step (fun t_ k_ => XS.istoreN X1.here hx rfl (hb hby d9_4) rfl (l' := #[.val (.ref a1), .val (.ref a2), .val (.int (Int32.ofNat cs.length))]) rfl k_) ?_
  show Go _ _ _ _ _ _ _ T1 (mkF m 5 #[.val (.ref a1), .val (.ref a2), .val (.int (Int32.ofNat cs.length))] [])
  refine Go.step (fun t_ k_ => XS.iloadN X1.here hx rfl (hb hby d9_5) rfl k_) ?_
  show Go _ _ _ _ _ _ _ T1 (mkF m 6 #[.val (.ref a1), .val (.ref a2), .val (.int (Int32.ofNat cs.length))] [(.int (Int32.ofNat cs.length))])
  refine Go.step (fun t_ k_ => XS.aloadN X1.here hx rfl (hb hby d9_6) rfl rfl k_) ?_
  show Go _ _ _ _ _ _ _ T1 (mkF m 7 #[.val (.ref a1), .val (.ref a2), .val (.int (Int32.ofNat cs.length))] [(.ref a2), (.int (Int32.ofNat cs.length))])
  have hcd2 : StrChars.Road.CodA ds 0 (Int32.ofNat ds.length) ((ds.map (fun c => c.toInt8.toInt32)).map Value.int) := StrChars.Road.codOf rfl (fun c hc => (PO2 c hc).2)
  have hbd2 : ∀ c ∈ ds, ¬ c < 0 ∧ ¬ (65535 : Int32) < c := own_up _ PO2
  obtain ⟨cq2, kq2, qa2, qb2, qc2⟩ := isOf hZ e1 PE2
  obtain ⟨vv2, _, ⟨T2, L2, k2, n2⟩, -, X2, ⟨Lc2, hQ2, l2, y2, z2⟩, st2⟩ := X1.virtualBack hx (y := (⟨"java/lang/String", "length", "()I"⟩ : MethodName)) (z := (⟨"java/lang/String", "length", "()I"⟩ : MethodName)) hown (mvT hZ (hw _ (List.mem_of_getElem? (i := 49) rfl))) (mvT hZ (hw _ (List.mem_of_getElem? (i := 50) rfl))) (notFace_of_selects (args := #[]) (mvT hZ (hw _ (List.mem_of_getElem? (i := 52) rfl)))) (mvT hZ (hw _ (List.mem_of_getElem? (i := 52) rfl))) (mvT hZ (hw _ (List.mem_of_getElem? (i := 51) rfl))) (by decide) (StrChars.Road.lenW (W := 1) hZ (own_wordsLen hw) (kI := 4) (hw _ (List.mem_of_getElem? (i := 5) rfl)) PE2 PV2 PC2 PA2 hcd2 hbd2 (S_COMPACT.ext O0.2) P_COMPACT (own_le4 PL2) (by decide) (by decide)) qa2 qc2 (g := (mkF m 7 #[.val (.ref a1), .val (.ref a2), .val (.int (Int32.ofNat cs.length))] [(.ref a2), (.int (Int32.ofNat cs.length))])) rfl (by rw [hml]; rfl) (Steps.refl _) (argsL := []) (rest := [(.int (Int32.ofNat cs.length))]) (lenOf pd_2 rfl) rfl (by show 2 * 0 + _ ≤ _; exact Nat.le_of_eq rfl) (hb hby d9_7) (fun _ _ => ⟨rfl, e1, (by decide : 0 + 0 ≤ _), (by decide : 0 + 0 ≤ _)⟩)
  dsimp only [Pt.U, Pt.locs, Pt.cells, Pt.slots] at X2 l2 y2 z2 st2 hQ2
  subst l2 y2 z2
  obtain ⟨rfl, rfl, e2⟩ := hQ2
  have N2 := Fr.app N1 (Fr.nil n0)
  refine Go.step (fun t_ k_ => st2.trans k_) ?_
  show Go _ _ _ _ _ _ _ T2 (mkF m 10 #[.val (.ref a1), .val (.ref a2), .val (.int (Int32.ofNat cs.length))] [(.int (Int32.ofNat ds.length)), (.int (Int32.ofNat cs.length))])
  by_cases hb10_3 : (Int32.ofNat cs.length) = (Int32.ofNat ds.length)
  · refine Go.step (fun t_ k_ => XS.icmpYes X2.here hx rfl (pc0 := 10) (pc' := 15) rfl (hb hby d9_10) rfl (XT.ii_eq_t hb10_3) (by decide) (by decide) k_) ?_
    show Go _ _ _ _ _ _ _ T2 (mkF m 15 #[.val (.ref a1), .val (.ref a2), .val (.int (Int32.ofNat cs.length))] [])
    refine Go.step (fun t_ k_ => XS.iloadN X2.here hx rfl (hb hby d9_15) rfl k_) ?_
    show Go _ _ _ _ _ _ _ T2 (mkF m 16 #[.val (.ref a1), .val (.ref a2), .val (.int (Int32.ofNat cs.length))] [(.int (Int32.ofNat cs.length))])
    by_cases hb16_4 : (0 : Int32) < (Int32.ofNat cs.length)
    · refine Go.step (fun t_ k_ => XS.ifNo X2.here hx rfl (hb hby d9_16) rfl (XT.i0_le_f hb16_4) k_) ?_
      show Go _ _ _ _ _ _ _ T2 (mkF m 19 #[.val (.ref a1), .val (.ref a2), .val (.int (Int32.ofNat cs.length))] [])
      refine Go.step (fun t_ k_ => XS.aloadN X2.here hx rfl (hb hby d9_19) rfl rfl k_) ?_
      show Go _ _ _ _ _ _ _ T2 (mkF m 20 #[.val (.ref a1), .val (.ref a2), .val (.int (Int32.ofNat cs.length))] [(.ref a1)])
      refine Go.step (fun t_ k_ => XS.iconst X2.here hx rfl (hb hby d9_20) k_) ?_
      show Go _ _ _ _ _ _ _ T2 (mkF m 21 #[.val (.ref a1), .val (.ref a2), .val (.int (Int32.ofNat cs.length))] [(.int (0 : Int32)), (.ref a1)])
      have hcd5 : StrChars.Road.CodA cs 0 (Int32.ofNat cs.length) ((cs.map (fun c => c.toInt8.toInt32)).map Value.int) := StrChars.Road.codOf rfl (fun c hc => (PO1 c hc).2)
      have hbd5 : ∀ c ∈ cs, ¬ c < 0 ∧ ¬ (65535 : Int32) < c := own_up _ PO1
      obtain ⟨cq5, kq5, qa5, qb5, qc5⟩ := isOf hZ e2 PE1
      obtain ⟨vv5, _, ⟨T5, L5, k5, n5⟩, -, X5, ⟨Lc5, hQ5, l5, y5, z5⟩, st5⟩ := X2.virtualBack hx (y := (⟨"java/lang/String", "charAt", "(I)C"⟩ : MethodName)) (z := (⟨"java/lang/String", "charAt", "(I)C"⟩ : MethodName)) hown (mvT hZ (hw _ (List.mem_of_getElem? (i := 78) rfl))) (mvT hZ (hw _ (List.mem_of_getElem? (i := 79) rfl))) (notFace_of_selects (args := #[]) (mvT hZ (hw _ (List.mem_of_getElem? (i := 81) rfl)))) (mvT hZ (hw _ (List.mem_of_getElem? (i := 81) rfl))) (mvT hZ (hw _ (List.mem_of_getElem? (i := 80) rfl))) (by decide) (StrChars.Road.chN (W := 0) hZ (own_wordsChN hw) (kI := 4) (hw _ (List.mem_of_getElem? (i := 5) rfl)) PE1 PV1 PC1 PA1 hcd5 hbd5 (S_COMPACT.ext O0.2) P_COMPACT (S_SIOOBE.ext O0.2) r_SIOOBE (own_le4 PL1) (i := 0) ((own_lt (i := 0) (by decide) PL1).mp hb16_4) (j := (0 : Int32)) rfl (by decide) (by decide)) qa5 qc5 (g := (mkF m 21 #[.val (.ref a1), .val (.ref a2), .val (.int (Int32.ofNat cs.length))] [(.int (0 : Int32)), (.ref a1)])) rfl (by rw [hml]; rfl) (Steps.refl _) (argsL := [(.int (0 : Int32))]) (rest := []) (lenOf pd_3 rfl) rfl (by show 2 * 0 + _ ≤ _; exact Nat.le_of_eq rfl) (hb hby d9_21) (fun _ _ => ⟨rfl, e2, (by decide : 0 + 0 ≤ _), (by decide : 0 + 0 ≤ _)⟩)
      dsimp only [Pt.U, Pt.locs, Pt.cells, Pt.slots] at X5 l5 y5 z5 st5 hQ5
      subst l5 y5 z5
      obtain ⟨rfl, rfl, e5⟩ := hQ5
      have N5 := Fr.app N2 (Fr.nil n0)
      refine Go.step (fun t_ k_ => st5.trans k_) ?_
      show Go _ _ _ _ _ _ _ T5 (mkF m 24 #[.val (.ref a1), .val (.ref a2), .val (.int (Int32.ofNat cs.length))] [(.int (cs.getD 0 0))])
      refine Go.step (fun t_ k_ => XS.aloadN X5.here hx rfl (hb hby d9_24) rfl rfl k_) ?_
      show Go _ _ _ _ _ _ _ T5 (mkF m 25 #[.val (.ref a1), .val (.ref a2), .val (.int (Int32.ofNat cs.length))] [(.ref a2), (.int (cs.getD 0 0))])
      refine Go.step (fun t_ k_ => XS.iconst X5.here hx rfl (hb hby d9_25) k_) ?_
      show Go _ _ _ _ _ _ _ T5 (mkF m 26 #[.val (.ref a1), .val (.ref a2), .val (.int (Int32.ofNat cs.length))] [(.int (0 : Int32)), (.ref a2), (.int (cs.getD 0 0))])
      have hcd6 : StrChars.Road.CodA ds 0 (Int32.ofNat ds.length) ((ds.map (fun c => c.toInt8.toInt32)).map Value.int) := StrChars.Road.codOf rfl (fun c hc => (PO2 c hc).2)
      have hbd6 : ∀ c ∈ ds, ¬ c < 0 ∧ ¬ (65535 : Int32) < c := own_up _ PO2
      obtain ⟨cq6, kq6, qa6, qb6, qc6⟩ := isOf hZ e5 PE2
      obtain ⟨vv6, _, ⟨T6, L6, k6, n6⟩, -, X6, ⟨Lc6, hQ6, l6, y6, z6⟩, st6⟩ := X5.virtualBack hx (y := (⟨"java/lang/String", "charAt", "(I)C"⟩ : MethodName)) (z := (⟨"java/lang/String", "charAt", "(I)C"⟩ : MethodName)) hown (mvT hZ (hw _ (List.mem_of_getElem? (i := 78) rfl))) (mvT hZ (hw _ (List.mem_of_getElem? (i := 79) rfl))) (notFace_of_selects (args := #[]) (mvT hZ (hw _ (List.mem_of_getElem? (i := 81) rfl)))) (mvT hZ (hw _ (List.mem_of_getElem? (i := 81) rfl))) (mvT hZ (hw _ (List.mem_of_getElem? (i := 80) rfl))) (by decide) (StrChars.Road.chN (W := 1) hZ (own_wordsChN hw) (kI := 4) (hw _ (List.mem_of_getElem? (i := 5) rfl)) PE2 PV2 PC2 PA2 hcd6 hbd6 (S_COMPACT.ext O0.2) P_COMPACT (S_SIOOBE.ext O0.2) r_SIOOBE (own_le4 PL2) (i := 0) (own_eqn PL1 PL2 hb10_3 ▸ ((own_lt (i := 0) (by decide) PL1).mp hb16_4)) (j := (0 : Int32)) rfl (by decide) (by decide)) qa6 qc6 (g := (mkF m 26 #[.val (.ref a1), .val (.ref a2), .val (.int (Int32.ofNat cs.length))] [(.int (0 : Int32)), (.ref a2), (.int (cs.getD 0 0))])) rfl (by rw [hml]; rfl) (Steps.refl _) (argsL := [(.int (0 : Int32))]) (rest := [(.int (cs.getD 0 0))]) (lenOf pd_3 rfl) rfl (by show 2 * 0 + _ ≤ _; exact Nat.le_of_eq rfl) (hb hby d9_26) (fun _ _ => ⟨rfl, e5, (by decide : 0 + 0 ≤ _), (by decide : 0 + 0 ≤ _)⟩)
      dsimp only [Pt.U, Pt.locs, Pt.cells, Pt.slots] at X6 l6 y6 z6 st6 hQ6
      subst l6 y6 z6
      obtain ⟨rfl, rfl, e6⟩ := hQ6
      have N6 := Fr.app N5 (Fr.nil n0)
      refine Go.step (fun t_ k_ => st6.trans k_) ?_
      show Go _ _ _ _ _ _ _ T6 (mkF m 29 #[.val (.ref a1), .val (.ref a2), .val (.int (Int32.ofNat cs.length))] [(.int (ds.getD 0 0)), (.int (cs.getD 0 0))])
      by_cases hb29_7 : (cs.getD 0 0) = (ds.getD 0 0)
      · refine Go.step (fun t_ k_ => XS.icmpYes X6.here hx rfl (pc0 := 29) (pc' := 34) rfl (hb hby d9_29) rfl (XT.ii_eq_t hb29_7) (by decide) (by decide) k_) ?_
        show Go _ _ _ _ _ _ _ T6 (mkF m 34 #[.val (.ref a1), .val (.ref a2), .val (.int (Int32.ofNat cs.length))] [])
        refine Go.step (fun t_ k_ => XS.iloadN X6.here hx rfl (hb hby d9_34) rfl k_) ?_
        show Go _ _ _ _ _ _ _ T6 (mkF m 35 #[.val (.ref a1), .val (.ref a2), .val (.int (Int32.ofNat cs.length))] [(.int (Int32.ofNat cs.length))])
        refine Go.step (fun t_ k_ => XS.iconst X6.here hx rfl (hb hby d9_35) k_) ?_
        show Go _ _ _ _ _ _ _ T6 (mkF m 36 #[.val (.ref a1), .val (.ref a2), .val (.int (Int32.ofNat cs.length))] [(.int (1 : Int32)), (.int (Int32.ofNat cs.length))])
        by_cases hb36_8 : (1 : Int32) < (Int32.ofNat cs.length)
        · refine Go.step (fun t_ k_ => XS.icmpNo X6.here hx rfl (hb hby d9_36) rfl (XT.ii_le_f hb36_8) k_) ?_
          show Go _ _ _ _ _ _ _ T6 (mkF m 39 #[.val (.ref a1), .val (.ref a2), .val (.int (Int32.ofNat cs.length))] [])
          refine Go.step (fun t_ k_ => XS.aloadN X6.here hx rfl (hb hby d9_39) rfl rfl k_) ?_
          show Go _ _ _ _ _ _ _ T6 (mkF m 40 #[.val (.ref a1), .val (.ref a2), .val (.int (Int32.ofNat cs.length))] [(.ref a1)])
          refine Go.step (fun t_ k_ => XS.iconst X6.here hx rfl (hb hby d9_40) k_) ?_
          show Go _ _ _ _ _ _ _ T6 (mkF m 41 #[.val (.ref a1), .val (.ref a2), .val (.int (Int32.ofNat cs.length))] [(.int (1 : Int32)), (.ref a1)])
          have hcd9 : StrChars.Road.CodA cs 0 (Int32.ofNat cs.length) ((cs.map (fun c => c.toInt8.toInt32)).map Value.int) := StrChars.Road.codOf rfl (fun c hc => (PO1 c hc).2)
          have hbd9 : ∀ c ∈ cs, ¬ c < 0 ∧ ¬ (65535 : Int32) < c := own_up _ PO1
          obtain ⟨cq9, kq9, qa9, qb9, qc9⟩ := isOf hZ e6 PE1
          obtain ⟨vv9, _, ⟨T9, L9, k9, n9⟩, -, X9, ⟨Lc9, hQ9, l9, y9, z9⟩, st9⟩ := X6.virtualBack hx (y := (⟨"java/lang/String", "charAt", "(I)C"⟩ : MethodName)) (z := (⟨"java/lang/String", "charAt", "(I)C"⟩ : MethodName)) hown (mvT hZ (hw _ (List.mem_of_getElem? (i := 78) rfl))) (mvT hZ (hw _ (List.mem_of_getElem? (i := 79) rfl))) (notFace_of_selects (args := #[]) (mvT hZ (hw _ (List.mem_of_getElem? (i := 81) rfl)))) (mvT hZ (hw _ (List.mem_of_getElem? (i := 81) rfl))) (mvT hZ (hw _ (List.mem_of_getElem? (i := 80) rfl))) (by decide) (StrChars.Road.chN (W := 0) hZ (own_wordsChN hw) (kI := 4) (hw _ (List.mem_of_getElem? (i := 5) rfl)) PE1 PV1 PC1 PA1 hcd9 hbd9 (S_COMPACT.ext O0.2) P_COMPACT (S_SIOOBE.ext O0.2) r_SIOOBE (own_le4 PL1) (i := 1) ((own_lt (i := 1) (by decide) PL1).mp hb36_8) (j := (1 : Int32)) rfl (by decide) (by decide)) qa9 qc9 (g := (mkF m 41 #[.val (.ref a1), .val (.ref a2), .val (.int (Int32.ofNat cs.length))] [(.int (1 : Int32)), (.ref a1)])) rfl (by rw [hml]; rfl) (Steps.refl _) (argsL := [(.int (1 : Int32))]) (rest := []) (lenOf pd_3 rfl) rfl (by show 2 * 0 + _ ≤ _; exact Nat.le_of_eq rfl) (hb hby d9_41) (fun _ _ => ⟨rfl, e6, (by decide : 0 + 0 ≤ _), (by decide : 0 + 0 ≤ _)⟩)
          dsimp only [Pt.U, Pt.locs, Pt.cells, Pt.slots] at X9 l9 y9 z9 st9 hQ9
          subst l9 y9 z9
          obtain ⟨rfl, rfl, e9⟩ := hQ9
          have N9 := Fr.app N6 (Fr.nil n0)
          refine Go.step (fun t_ k_ => st9.trans k_) ?_
          show Go _ _ _ _ _ _ _ T9 (mkF m 44 #[.val (.ref a1), .val (.ref a2), .val (.int (Int32.ofNat cs.length))] [(.int (cs.getD 1 0))])
          refine Go.step (fun t_ k_ => XS.aloadN X9.here hx rfl (hb hby d9_44) rfl rfl k_) ?_
          show Go _ _ _ _ _ _ _ T9 (mkF m 45 #[.val (.ref a1), .val (.ref a2), .val (.int (Int32.ofNat cs.length))] [(.ref a2), (.int (cs.getD 1 0))])
          refine Go.step (fun t_ k_ => XS.iconst X9.here hx rfl (hb hby d9_45) k_) ?_
          show Go _ _ _ _ _ _ _ T9 (mkF m 46 #[.val (.ref a1), .val (.ref a2), .val (.int (Int32.ofNat cs.length))] [(.int (1 : Int32)), (.ref a2), (.int (cs.getD 1 0))])
          have hcd10 : StrChars.Road.CodA ds 0 (Int32.ofNat ds.length) ((ds.map (fun c => c.toInt8.toInt32)).map Value.int) := StrChars.Road.codOf rfl (fun c hc => (PO2 c hc).2)
          have hbd10 : ∀ c ∈ ds, ¬ c < 0 ∧ ¬ (65535 : Int32) < c := own_up _ PO2
          obtain ⟨cq10, kq10, qa10, qb10, qc10⟩ := isOf hZ e9 PE2
          obtain ⟨vv10, _, ⟨T10, L10, k10, n10⟩, -, X10, ⟨Lc10, hQ10, l10, y10, z10⟩, st10⟩ := X9.virtualBack hx (y := (⟨"java/lang/String", "charAt", "(I)C"⟩ : MethodName)) (z := (⟨"java/lang/String", "charAt", "(I)C"⟩ : MethodName)) hown (mvT hZ (hw _ (List.mem_of_getElem? (i := 78) rfl))) (mvT hZ (hw _ (List.mem_of_getElem? (i := 79) rfl))) (notFace_of_selects (args := #[]) (mvT hZ (hw _ (List.mem_of_getElem? (i := 81) rfl)))) (mvT hZ (hw _ (List.mem_of_getElem? (i := 81) rfl))) (mvT hZ (hw _ (List.mem_of_getElem? (i := 80) rfl))) (by decide) (StrChars.Road.chN (W := 1) hZ (own_wordsChN hw) (kI := 4) (hw _ (List.mem_of_getElem? (i := 5) rfl)) PE2 PV2 PC2 PA2 hcd10 hbd10 (S_COMPACT.ext O0.2) P_COMPACT (S_SIOOBE.ext O0.2) r_SIOOBE (own_le4 PL2) (i := 1) (own_eqn PL1 PL2 hb10_3 ▸ ((own_lt (i := 1) (by decide) PL1).mp hb36_8)) (j := (1 : Int32)) rfl (by decide) (by decide)) qa10 qc10 (g := (mkF m 46 #[.val (.ref a1), .val (.ref a2), .val (.int (Int32.ofNat cs.length))] [(.int (1 : Int32)), (.ref a2), (.int (cs.getD 1 0))])) rfl (by rw [hml]; rfl) (Steps.refl _) (argsL := [(.int (1 : Int32))]) (rest := [(.int (cs.getD 1 0))]) (lenOf pd_3 rfl) rfl (by show 2 * 0 + _ ≤ _; exact Nat.le_of_eq rfl) (hb hby d9_46) (fun _ _ => ⟨rfl, e9, (by decide : 0 + 0 ≤ _), (by decide : 0 + 0 ≤ _)⟩)
          dsimp only [Pt.U, Pt.locs, Pt.cells, Pt.slots] at X10 l10 y10 z10 st10 hQ10
          subst l10 y10 z10
          obtain ⟨rfl, rfl, e10⟩ := hQ10
          have N10 := Fr.app N9 (Fr.nil n0)
          refine Go.step (fun t_ k_ => st10.trans k_) ?_
          show Go _ _ _ _ _ _ _ T10 (mkF m 49 #[.val (.ref a1), .val (.ref a2), .val (.int (Int32.ofNat cs.length))] [(.int (ds.getD 1 0)), (.int (cs.getD 1 0))])
          by_cases hb49_11 : (cs.getD 1 0) = (ds.getD 1 0)
          · refine Go.step (fun t_ k_ => XS.icmpYes X10.here hx rfl (pc0 := 49) (pc' := 54) rfl (hb hby d9_49) rfl (XT.ii_eq_t hb49_11) (by decide) (by decide) k_) ?_
            show Go _ _ _ _ _ _ _ T10 (mkF m 54 #[.val (.ref a1), .val (.ref a2), .val (.int (Int32.ofNat cs.length))] [])
            refine Go.step (fun t_ k_ => XS.iloadN X10.here hx rfl (hb hby d9_54) rfl k_) ?_
            show Go _ _ _ _ _ _ _ T10 (mkF m 55 #[.val (.ref a1), .val (.ref a2), .val (.int (Int32.ofNat cs.length))] [(.int (Int32.ofNat cs.length))])
            refine Go.step (fun t_ k_ => XS.iconst X10.here hx rfl (hb hby d9_55) k_) ?_
            show Go _ _ _ _ _ _ _ T10 (mkF m 56 #[.val (.ref a1), .val (.ref a2), .val (.int (Int32.ofNat cs.length))] [(.int (2 : Int32)), (.int (Int32.ofNat cs.length))])
            by_cases hb56_12 : (2 : Int32) < (Int32.ofNat cs.length)
            · refine Go.step (fun t_ k_ => XS.icmpNo X10.here hx rfl (hb hby d9_56) rfl (XT.ii_le_f hb56_12) k_) ?_
              show Go _ _ _ _ _ _ _ T10 (mkF m 59 #[.val (.ref a1), .val (.ref a2), .val (.int (Int32.ofNat cs.length))] [])
              refine Go.step (fun t_ k_ => XS.aloadN X10.here hx rfl (hb hby d9_59) rfl rfl k_) ?_
              show Go _ _ _ _ _ _ _ T10 (mkF m 60 #[.val (.ref a1), .val (.ref a2), .val (.int (Int32.ofNat cs.length))] [(.ref a1)])
              refine Go.step (fun t_ k_ => XS.iconst X10.here hx rfl (hb hby d9_60) k_) ?_
              show Go _ _ _ _ _ _ _ T10 (mkF m 61 #[.val (.ref a1), .val (.ref a2), .val (.int (Int32.ofNat cs.length))] [(.int (2 : Int32)), (.ref a1)])
              have hcd13 : StrChars.Road.CodA cs 0 (Int32.ofNat cs.length) ((cs.map (fun c => c.toInt8.toInt32)).map Value.int) := StrChars.Road.codOf rfl (fun c hc => (PO1 c hc).2)
              have hbd13 : ∀ c ∈ cs, ¬ c < 0 ∧ ¬ (65535 : Int32) < c := own_up _ PO1
              obtain ⟨cq13, kq13, qa13, qb13, qc13⟩ := isOf hZ e10 PE1
              obtain ⟨vv13, _, ⟨T13, L13, k13, n13⟩, -, X13, ⟨Lc13, hQ13, l13, y13, z13⟩, st13⟩ := X10.virtualBack hx (y := (⟨"java/lang/String", "charAt", "(I)C"⟩ : MethodName)) (z := (⟨"java/lang/String", "charAt", "(I)C"⟩ : MethodName)) hown (mvT hZ (hw _ (List.mem_of_getElem? (i := 78) rfl))) (mvT hZ (hw _ (List.mem_of_getElem? (i := 79) rfl))) (notFace_of_selects (args := #[]) (mvT hZ (hw _ (List.mem_of_getElem? (i := 81) rfl)))) (mvT hZ (hw _ (List.mem_of_getElem? (i := 81) rfl))) (mvT hZ (hw _ (List.mem_of_getElem? (i := 80) rfl))) (by decide) (StrChars.Road.chN (W := 0) hZ (own_wordsChN hw) (kI := 4) (hw _ (List.mem_of_getElem? (i := 5) rfl)) PE1 PV1 PC1 PA1 hcd13 hbd13 (S_COMPACT.ext O0.2) P_COMPACT (S_SIOOBE.ext O0.2) r_SIOOBE (own_le4 PL1) (i := 2) ((own_lt (i := 2) (by decide) PL1).mp hb56_12) (j := (2 : Int32)) rfl (by decide) (by decide)) qa13 qc13 (g := (mkF m 61 #[.val (.ref a1), .val (.ref a2), .val (.int (Int32.ofNat cs.length))] [(.int (2 : Int32)), (.ref a1)])) rfl (by rw [hml]; rfl) (Steps.refl _) (argsL := [(.int (2 : Int32))]) (rest := []) (lenOf pd_3 rfl) rfl (by show 2 * 0 + _ ≤ _; exact Nat.le_of_eq rfl) (hb hby d9_61) (fun _ _ => ⟨rfl, e10, (by decide : 0 + 0 ≤ _), (by decide : 0 + 0 ≤ _)⟩)
              dsimp only [Pt.U, Pt.locs, Pt.cells, Pt.slots] at X13 l13 y13 z13 st13 hQ13
              subst l13 y13 z13
              obtain ⟨rfl, rfl, e13⟩ := hQ13
              have N13 := Fr.app N10 (Fr.nil n0)
              refine Go.step (fun t_ k_ => st13.trans k_) ?_
              show Go _ _ _ _ _ _ _ T13 (mkF m 64 #[.val (.ref a1), .val (.ref a2), .val (.int (Int32.ofNat cs.length))] [(.int (cs.getD 2 0))])
              refine Go.step (fun t_ k_ => XS.aloadN X13.here hx rfl (hb hby d9_64) rfl rfl k_) ?_
              show Go _ _ _ _ _ _ _ T13 (mkF m 65 #[.val (.ref a1), .val (.ref a2), .val (.int (Int32.ofNat cs.length))] [(.ref a2), (.int (cs.getD 2 0))])
              refine Go.step (fun t_ k_ => XS.iconst X13.here hx rfl (hb hby d9_65) k_) ?_
              show Go _ _ _ _ _ _ _ T13 (mkF m 66 #[.val (.ref a1), .val (.ref a2), .val (.int (Int32.ofNat cs.length))] [(.int (2 : Int32)), (.ref a2), (.int (cs.getD 2 0))])
              have hcd14 : StrChars.Road.CodA ds 0 (Int32.ofNat ds.length) ((ds.map (fun c => c.toInt8.toInt32)).map Value.int) := StrChars.Road.codOf rfl (fun c hc => (PO2 c hc).2)
              have hbd14 : ∀ c ∈ ds, ¬ c < 0 ∧ ¬ (65535 : Int32) < c := own_up _ PO2
              obtain ⟨cq14, kq14, qa14, qb14, qc14⟩ := isOf hZ e13 PE2
              obtain ⟨vv14, _, ⟨T14, L14, k14, n14⟩, -, X14, ⟨Lc14, hQ14, l14, y14, z14⟩, st14⟩ := X13.virtualBack hx (y := (⟨"java/lang/String", "charAt", "(I)C"⟩ : MethodName)) (z := (⟨"java/lang/String", "charAt", "(I)C"⟩ : MethodName)) hown (mvT hZ (hw _ (List.mem_of_getElem? (i := 78) rfl))) (mvT hZ (hw _ (List.mem_of_getElem? (i := 79) rfl))) (notFace_of_selects (args := #[]) (mvT hZ (hw _ (List.mem_of_getElem? (i := 81) rfl)))) (mvT hZ (hw _ (List.mem_of_getElem? (i := 81) rfl))) (mvT hZ (hw _ (List.mem_of_getElem? (i := 80) rfl))) (by decide) (StrChars.Road.chN (W := 1) hZ (own_wordsChN hw) (kI := 4) (hw _ (List.mem_of_getElem? (i := 5) rfl)) PE2 PV2 PC2 PA2 hcd14 hbd14 (S_COMPACT.ext O0.2) P_COMPACT (S_SIOOBE.ext O0.2) r_SIOOBE (own_le4 PL2) (i := 2) (own_eqn PL1 PL2 hb10_3 ▸ ((own_lt (i := 2) (by decide) PL1).mp hb56_12)) (j := (2 : Int32)) rfl (by decide) (by decide)) qa14 qc14 (g := (mkF m 66 #[.val (.ref a1), .val (.ref a2), .val (.int (Int32.ofNat cs.length))] [(.int (2 : Int32)), (.ref a2), (.int (cs.getD 2 0))])) rfl (by rw [hml]; rfl) (Steps.refl _) (argsL := [(.int (2 : Int32))]) (rest := [(.int (cs.getD 2 0))]) (lenOf pd_3 rfl) rfl (by show 2 * 0 + _ ≤ _; exact Nat.le_of_eq rfl) (hb hby d9_66) (fun _ _ => ⟨rfl, e13, (by decide : 0 + 0 ≤ _), (by decide : 0 + 0 ≤ _)⟩)
              dsimp only [Pt.U, Pt.locs, Pt.cells, Pt.slots] at X14 l14 y14 z14 st14 hQ14
              subst l14 y14 z14
              obtain ⟨rfl, rfl, e14⟩ := hQ14
              have N14 := Fr.app N13 (Fr.nil n0)
              refine Go.step (fun t_ k_ => st14.trans k_) ?_
              show Go _ _ _ _ _ _ _ T14 (mkF m 69 #[.val (.ref a1), .val (.ref a2), .val (.int (Int32.ofNat cs.length))] [(.int (ds.getD 2 0)), (.int (cs.getD 2 0))])
              by_cases hb69_15 : (cs.getD 2 0) = (ds.getD 2 0)
              · refine Go.step (fun t_ k_ => XS.icmpYes X14.here hx rfl (pc0 := 69) (pc' := 74) rfl (hb hby d9_69) rfl (XT.ii_eq_t hb69_15) (by decide) (by decide) k_) ?_
                show Go _ _ _ _ _ _ _ T14 (mkF m 74 #[.val (.ref a1), .val (.ref a2), .val (.int (Int32.ofNat cs.length))] [])
                refine Go.step (fun t_ k_ => XS.iconst X14.here hx rfl (hb hby d9_74) k_) ?_
                show Go _ _ _ _ _ _ _ T14 (mkF m 75 #[.val (.ref a1), .val (.ref a2), .val (.int (Int32.ofNat cs.length))] [(.int (1 : Int32))])
                refine Go.ret X14 hx hlk hret rfl (Or.inl ⟨rfl, Or.inr (Or.inl rfl), _, rfl⟩) (hb hby d9_75) ?_ (by decide) (by decide)
                show QST Z _ _ _ _ _ _ _ _ _ _ _ _ _ T14.heap _
                exact ⟨by rw [own_same, if_pos (own_eq3 PL1 PL2 hb10_3 (fun _ => hb29_7) (fun _ => hb49_11) (fun _ => hb69_15))], N14, e14⟩
              · refine Go.step (fun t_ k_ => XS.icmpNo X14.here hx rfl (hb hby d9_69) rfl (XT.ii_eq_f hb69_15) k_) ?_
                show Go _ _ _ _ _ _ _ T14 (mkF m 72 #[.val (.ref a1), .val (.ref a2), .val (.int (Int32.ofNat cs.length))] [])
                refine Go.step (fun t_ k_ => XS.iconst X14.here hx rfl (hb hby d9_72) k_) ?_
                show Go _ _ _ _ _ _ _ T14 (mkF m 73 #[.val (.ref a1), .val (.ref a2), .val (.int (Int32.ofNat cs.length))] [(.int (0 : Int32))])
                refine Go.ret X14 hx hlk hret rfl (Or.inl ⟨rfl, Or.inr (Or.inl rfl), _, rfl⟩) (hb hby d9_73) ?_ (by decide) (by decide)
                show QST Z _ _ _ _ _ _ _ _ _ _ _ _ _ T14.heap _
                exact ⟨by rw [own_same, if_neg (fun q => hb69_15 (by rw [q]))], N14, e14⟩
            · refine Go.step (fun t_ k_ => XS.icmpYes X10.here hx rfl (pc0 := 56) (pc' := 74) rfl (hb hby d9_56) rfl (XT.ii_le_t hb56_12) (by decide) (by decide) k_) ?_
              show Go _ _ _ _ _ _ _ T10 (mkF m 74 #[.val (.ref a1), .val (.ref a2), .val (.int (Int32.ofNat cs.length))] [])
              refine Go.step (fun t_ k_ => XS.iconst X10.here hx rfl (hb hby d9_74) k_) ?_
              show Go _ _ _ _ _ _ _ T10 (mkF m 75 #[.val (.ref a1), .val (.ref a2), .val (.int (Int32.ofNat cs.length))] [(.int (1 : Int32))])
              refine Go.ret X10 hx hlk hret rfl (Or.inl ⟨rfl, Or.inr (Or.inl rfl), _, rfl⟩) (hb hby d9_75) ?_ (by decide) (by decide)
              show QST Z _ _ _ _ _ _ _ _ _ _ _ _ _ T10.heap _
              exact ⟨by rw [own_same, if_pos (own_eq3 PL1 PL2 hb10_3 (fun _ => hb29_7) (fun _ => hb49_11) (fun q => absurd ((own_lt (i := 2) (by decide) PL1).mpr q) hb56_12))], N10, e10⟩
          · refine Go.step (fun t_ k_ => XS.icmpNo X10.here hx rfl (hb hby d9_49) rfl (XT.ii_eq_f hb49_11) k_) ?_
            show Go _ _ _ _ _ _ _ T10 (mkF m 52 #[.val (.ref a1), .val (.ref a2), .val (.int (Int32.ofNat cs.length))] [])
            refine Go.step (fun t_ k_ => XS.iconst X10.here hx rfl (hb hby d9_52) k_) ?_
            show Go _ _ _ _ _ _ _ T10 (mkF m 53 #[.val (.ref a1), .val (.ref a2), .val (.int (Int32.ofNat cs.length))] [(.int (0 : Int32))])
            refine Go.ret X10 hx hlk hret rfl (Or.inl ⟨rfl, Or.inr (Or.inl rfl), _, rfl⟩) (hb hby d9_53) ?_ (by decide) (by decide)
            show QST Z _ _ _ _ _ _ _ _ _ _ _ _ _ T10.heap _
            exact ⟨by rw [own_same, if_neg (fun q => hb49_11 (by rw [q]))], N10, e10⟩
        · refine Go.step (fun t_ k_ => XS.icmpYes X6.here hx rfl (pc0 := 36) (pc' := 54) rfl (hb hby d9_36) rfl (XT.ii_le_t hb36_8) (by decide) (by decide) k_) ?_
          show Go _ _ _ _ _ _ _ T6 (mkF m 54 #[.val (.ref a1), .val (.ref a2), .val (.int (Int32.ofNat cs.length))] [])
          refine Go.step (fun t_ k_ => XS.iloadN X6.here hx rfl (hb hby d9_54) rfl k_) ?_
          show Go _ _ _ _ _ _ _ T6 (mkF m 55 #[.val (.ref a1), .val (.ref a2), .val (.int (Int32.ofNat cs.length))] [(.int (Int32.ofNat cs.length))])
          refine Go.step (fun t_ k_ => XS.iconst X6.here hx rfl (hb hby d9_55) k_) ?_
          show Go _ _ _ _ _ _ _ T6 (mkF m 56 #[.val (.ref a1), .val (.ref a2), .val (.int (Int32.ofNat cs.length))] [(.int (2 : Int32)), (.int (Int32.ofNat cs.length))])
          by_cases hb56_16 : (2 : Int32) < (Int32.ofNat cs.length)
          · refine Go.step (fun t_ k_ => XS.icmpNo X6.here hx rfl (hb hby d9_56) rfl (XT.ii_le_f hb56_16) k_) ?_
            show Go _ _ _ _ _ _ _ T6 (mkF m 59 #[.val (.ref a1), .val (.ref a2), .val (.int (Int32.ofNat cs.length))] [])
            refine Go.step (fun t_ k_ => XS.aloadN X6.here hx rfl (hb hby d9_59) rfl rfl k_) ?_
            show Go _ _ _ _ _ _ _ T6 (mkF m 60 #[.val (.ref a1), .val (.ref a2), .val (.int (Int32.ofNat cs.length))] [(.ref a1)])
            refine Go.step (fun t_ k_ => XS.iconst X6.here hx rfl (hb hby d9_60) k_) ?_
            show Go _ _ _ _ _ _ _ T6 (mkF m 61 #[.val (.ref a1), .val (.ref a2), .val (.int (Int32.ofNat cs.length))] [(.int (2 : Int32)), (.ref a1)])
            have hcd17 : StrChars.Road.CodA cs 0 (Int32.ofNat cs.length) ((cs.map (fun c => c.toInt8.toInt32)).map Value.int) := StrChars.Road.codOf rfl (fun c hc => (PO1 c hc).2)
            have hbd17 : ∀ c ∈ cs, ¬ c < 0 ∧ ¬ (65535 : Int32) < c := own_up _ PO1
            obtain ⟨cq17, kq17, qa17, qb17, qc17⟩ := isOf hZ e6 PE1
            obtain ⟨vv17, _, ⟨T17, L17, k17, n17⟩, -, X17, ⟨Lc17, hQ17, l17, y17, z17⟩, st17⟩ := X6.virtualBack hx (y := (⟨"java/lang/String", "charAt", "(I)C"⟩ : MethodName)) (z := (⟨"java/lang/String", "charAt", "(I)C"⟩ : MethodName)) hown (mvT hZ (hw _ (List.mem_of_getElem? (i := 78) rfl))) (mvT hZ (hw _ (List.mem_of_getElem? (i := 79) rfl))) (notFace_of_selects (args := #[]) (mvT hZ (hw _ (List.mem_of_getElem? (i := 81) rfl)))) (mvT hZ (hw _ (List.mem_of_getElem? (i := 81) rfl))) (mvT hZ (hw _ (List.mem_of_getElem? (i := 80) rfl))) (by decide) (StrChars.Road.chN (W := 0) hZ (own_wordsChN hw) (kI := 4) (hw _ (List.mem_of_getElem? (i := 5) rfl)) PE1 PV1 PC1 PA1 hcd17 hbd17 (S_COMPACT.ext O0.2) P_COMPACT (S_SIOOBE.ext O0.2) r_SIOOBE (own_le4 PL1) (i := 2) ((own_lt (i := 2) (by decide) PL1).mp hb56_16) (j := (2 : Int32)) rfl (by decide) (by decide)) qa17 qc17 (g := (mkF m 61 #[.val (.ref a1), .val (.ref a2), .val (.int (Int32.ofNat cs.length))] [(.int (2 : Int32)), (.ref a1)])) rfl (by rw [hml]; rfl) (Steps.refl _) (argsL := [(.int (2 : Int32))]) (rest := []) (lenOf pd_3 rfl) rfl (by show 2 * 0 + _ ≤ _; exact Nat.le_of_eq rfl) (hb hby d9_61) (fun _ _ => ⟨rfl, e6, (by decide : 0 + 0 ≤ _), (by decide : 0 + 0 ≤ _)⟩)
            dsimp only [Pt.U, Pt.locs, Pt.cells, Pt.slots] at X17 l17 y17 z17 st17 hQ17
            subst l17 y17 z17
            obtain ⟨rfl, rfl, e17⟩ := hQ17
            have N17 := Fr.app N6 (Fr.nil n0)
            refine Go.step (fun t_ k_ => st17.trans k_) ?_
            show Go _ _ _ _ _ _ _ T17 (mkF m 64 #[.val (.ref a1), .val (.ref a2), .val (.int (Int32.ofNat cs.length))] [(.int (cs.getD 2 0))])
            refine Go.step (fun t_ k_ => XS.aloadN X17.here hx rfl (hb hby d9_64) rfl rfl k_) ?_
            show Go _ _ _ _ _ _ _ T17 (mkF m 65 #[.val (.ref a1), .val (.ref a2), .val (.int (Int32.ofNat cs.length))] [(.ref a2), (.int (cs.getD 2 0))])
            refine Go.step (fun t_ k_ => XS.iconst X17.here hx rfl (hb hby d9_65) k_) ?_
            show Go _ _ _ _ _ _ _ T17 (mkF m 66 #[.val (.ref a1), .val (.ref a2), .val (.int (Int32.ofNat cs.length))] [(.int (2 : Int32)), (.ref a2), (.int (cs.getD 2 0))])
            have hcd18 : StrChars.Road.CodA ds 0 (Int32.ofNat ds.length) ((ds.map (fun c => c.toInt8.toInt32)).map Value.int) := StrChars.Road.codOf rfl (fun c hc => (PO2 c hc).2)
            have hbd18 : ∀ c ∈ ds, ¬ c < 0 ∧ ¬ (65535 : Int32) < c := own_up _ PO2
            obtain ⟨cq18, kq18, qa18, qb18, qc18⟩ := isOf hZ e17 PE2
            obtain ⟨vv18, _, ⟨T18, L18, k18, n18⟩, -, X18, ⟨Lc18, hQ18, l18, y18, z18⟩, st18⟩ := X17.virtualBack hx (y := (⟨"java/lang/String", "charAt", "(I)C"⟩ : MethodName)) (z := (⟨"java/lang/String", "charAt", "(I)C"⟩ : MethodName)) hown (mvT hZ (hw _ (List.mem_of_getElem? (i := 78) rfl))) (mvT hZ (hw _ (List.mem_of_getElem? (i := 79) rfl))) (notFace_of_selects (args := #[]) (mvT hZ (hw _ (List.mem_of_getElem? (i := 81) rfl)))) (mvT hZ (hw _ (List.mem_of_getElem? (i := 81) rfl))) (mvT hZ (hw _ (List.mem_of_getElem? (i := 80) rfl))) (by decide) (StrChars.Road.chN (W := 1) hZ (own_wordsChN hw) (kI := 4) (hw _ (List.mem_of_getElem? (i := 5) rfl)) PE2 PV2 PC2 PA2 hcd18 hbd18 (S_COMPACT.ext O0.2) P_COMPACT (S_SIOOBE.ext O0.2) r_SIOOBE (own_le4 PL2) (i := 2) (own_eqn PL1 PL2 hb10_3 ▸ ((own_lt (i := 2) (by decide) PL1).mp hb56_16)) (j := (2 : Int32)) rfl (by decide) (by decide)) qa18 qc18 (g := (mkF m 66 #[.val (.ref a1), .val (.ref a2), .val (.int (Int32.ofNat cs.length))] [(.int (2 : Int32)), (.ref a2), (.int (cs.getD 2 0))])) rfl (by rw [hml]; rfl) (Steps.refl _) (argsL := [(.int (2 : Int32))]) (rest := [(.int (cs.getD 2 0))]) (lenOf pd_3 rfl) rfl (by show 2 * 0 + _ ≤ _; exact Nat.le_of_eq rfl) (hb hby d9_66) (fun _ _ => ⟨rfl, e17, (by decide : 0 + 0 ≤ _), (by decide : 0 + 0 ≤ _)⟩)
            dsimp only [Pt.U, Pt.locs, Pt.cells, Pt.slots] at X18 l18 y18 z18 st18 hQ18
            subst l18 y18 z18
            obtain ⟨rfl, rfl, e18⟩ := hQ18
            have N18 := Fr.app N17 (Fr.nil n0)
            refine Go.step (fun t_ k_ => st18.trans k_) ?_
            show Go _ _ _ _ _ _ _ T18 (mkF m 69 #[.val (.ref a1), .val (.ref a2), .val (.int (Int32.ofNat cs.length))] [(.int (ds.getD 2 0)), (.int (cs.getD 2 0))])
            by_cases hb69_19 : (cs.getD 2 0) = (ds.getD 2 0)
            · refine Go.step (fun t_ k_ => XS.icmpYes X18.here hx rfl (pc0 := 69) (pc' := 74) rfl (hb hby d9_69) rfl (XT.ii_eq_t hb69_19) (by decide) (by decide) k_) ?_
              show Go _ _ _ _ _ _ _ T18 (mkF m 74 #[.val (.ref a1), .val (.ref a2), .val (.int (Int32.ofNat cs.length))] [])
              refine Go.step (fun t_ k_ => XS.iconst X18.here hx rfl (hb hby d9_74) k_) ?_
              show Go _ _ _ _ _ _ _ T18 (mkF m 75 #[.val (.ref a1), .val (.ref a2), .val (.int (Int32.ofNat cs.length))] [(.int (1 : Int32))])
              refine Go.ret X18 hx hlk hret rfl (Or.inl ⟨rfl, Or.inr (Or.inl rfl), _, rfl⟩) (hb hby d9_75) ?_ (by decide) (by decide)
              show QST Z _ _ _ _ _ _ _ _ _ _ _ _ _ T18.heap _
              exact ⟨by rw [own_same, if_pos (own_eq3 PL1 PL2 hb10_3 (fun _ => hb29_7) (fun q => absurd ((own_lt (i := 1) (by decide) PL1).mpr q) hb36_8) (fun _ => hb69_19))], N18, e18⟩
            · refine Go.step (fun t_ k_ => XS.icmpNo X18.here hx rfl (hb hby d9_69) rfl (XT.ii_eq_f hb69_19) k_) ?_
              show Go _ _ _ _ _ _ _ T18 (mkF m 72 #[.val (.ref a1), .val (.ref a2), .val (.int (Int32.ofNat cs.length))] [])
              refine Go.step (fun t_ k_ => XS.iconst X18.here hx rfl (hb hby d9_72) k_) ?_
              show Go _ _ _ _ _ _ _ T18 (mkF m 73 #[.val (.ref a1), .val (.ref a2), .val (.int (Int32.ofNat cs.length))] [(.int (0 : Int32))])
              refine Go.ret X18 hx hlk hret rfl (Or.inl ⟨rfl, Or.inr (Or.inl rfl), _, rfl⟩) (hb hby d9_73) ?_ (by decide) (by decide)
              show QST Z _ _ _ _ _ _ _ _ _ _ _ _ _ T18.heap _
              exact ⟨by rw [own_same, if_neg (fun q => hb69_19 (by rw [q]))], N18, e18⟩
          · refine Go.step (fun t_ k_ => XS.icmpYes X6.here hx rfl (pc0 := 56) (pc' := 74) rfl (hb hby d9_56) rfl (XT.ii_le_t hb56_16) (by decide) (by decide) k_) ?_
            show Go _ _ _ _ _ _ _ T6 (mkF m 74 #[.val (.ref a1), .val (.ref a2), .val (.int (Int32.ofNat cs.length))] [])
            refine Go.step (fun t_ k_ => XS.iconst X6.here hx rfl (hb hby d9_74) k_) ?_
            show Go _ _ _ _ _ _ _ T6 (mkF m 75 #[.val (.ref a1), .val (.ref a2), .val (.int (Int32.ofNat cs.length))] [(.int (1 : Int32))])
            refine Go.ret X6 hx hlk hret rfl (Or.inl ⟨rfl, Or.inr (Or.inl rfl), _, rfl⟩) (hb hby d9_75) ?_ (by decide) (by decide)
            show QST Z _ _ _ _ _ _ _ _ _ _ _ _ _ T6.heap _
            exact ⟨by rw [own_same, if_pos (own_eq3 PL1 PL2 hb10_3 (fun _ => hb29_7) (fun q => absurd ((own_lt (i := 1) (by decide) PL1).mpr q) hb36_8) (fun q => absurd ((own_lt (i := 2) (by decide) PL1).mpr q) hb56_16))], N6, e6⟩
      · refine Go.step (fun t_ k_ => XS.icmpNo X6.here hx rfl (hb hby d9_29) rfl (XT.ii_eq_f hb29_7) k_) ?_
        show Go _ _ _ _ _ _ _ T6 (mkF m 32 #[.val (.ref a1), .val (.ref a2), .val (.int (Int32.ofNat cs.length))] [])
        refine Go.step (fun t_ k_ => XS.iconst X6.here hx rfl (hb hby d9_32) k_) ?_
        show Go _ _ _ _ _ _ _ T6 (mkF m 33 #[.val (.ref a1), .val (.ref a2), .val (.int (Int32.ofNat cs.length))] [(.int (0 : Int32))])
        refine Go.ret X6 hx hlk hret rfl (Or.inl ⟨rfl, Or.inr (Or.inl rfl), _, rfl⟩) (hb hby d9_33) ?_ (by decide) (by decide)
        show QST Z _ _ _ _ _ _ _ _ _ _ _ _ _ T6.heap _
        exact ⟨by rw [own_same, if_neg (fun q => hb29_7 (by rw [q]))], N6, e6⟩
    · refine Go.step (fun t_ k_ => XS.ifYes X2.here hx rfl (pc0 := 16) (pc' := 34) rfl (hb hby d9_16) rfl (XT.i0_le_t hb16_4) (by decide) (by decide) k_) ?_
      show Go _ _ _ _ _ _ _ T2 (mkF m 34 #[.val (.ref a1), .val (.ref a2), .val (.int (Int32.ofNat cs.length))] [])
      refine Go.step (fun t_ k_ => XS.iloadN X2.here hx rfl (hb hby d9_34) rfl k_) ?_
      show Go _ _ _ _ _ _ _ T2 (mkF m 35 #[.val (.ref a1), .val (.ref a2), .val (.int (Int32.ofNat cs.length))] [(.int (Int32.ofNat cs.length))])
      refine Go.step (fun t_ k_ => XS.iconst X2.here hx rfl (hb hby d9_35) k_) ?_
      show Go _ _ _ _ _ _ _ T2 (mkF m 36 #[.val (.ref a1), .val (.ref a2), .val (.int (Int32.ofNat cs.length))] [(.int (1 : Int32)), (.int (Int32.ofNat cs.length))])
      by_cases hb36_20 : (1 : Int32) < (Int32.ofNat cs.length)
      · refine Go.step (fun t_ k_ => XS.icmpNo X2.here hx rfl (hb hby d9_36) rfl (XT.ii_le_f hb36_20) k_) ?_
        show Go _ _ _ _ _ _ _ T2 (mkF m 39 #[.val (.ref a1), .val (.ref a2), .val (.int (Int32.ofNat cs.length))] [])
        refine Go.step (fun t_ k_ => XS.aloadN X2.here hx rfl (hb hby d9_39) rfl rfl k_) ?_
        show Go _ _ _ _ _ _ _ T2 (mkF m 40 #[.val (.ref a1), .val (.ref a2), .val (.int (Int32.ofNat cs.length))] [(.ref a1)])
        refine Go.step (fun t_ k_ => XS.iconst X2.here hx rfl (hb hby d9_40) k_) ?_
        show Go _ _ _ _ _ _ _ T2 (mkF m 41 #[.val (.ref a1), .val (.ref a2), .val (.int (Int32.ofNat cs.length))] [(.int (1 : Int32)), (.ref a1)])
        have hcd21 : StrChars.Road.CodA cs 0 (Int32.ofNat cs.length) ((cs.map (fun c => c.toInt8.toInt32)).map Value.int) := StrChars.Road.codOf rfl (fun c hc => (PO1 c hc).2)
        have hbd21 : ∀ c ∈ cs, ¬ c < 0 ∧ ¬ (65535 : Int32) < c := own_up _ PO1
        obtain ⟨cq21, kq21, qa21, qb21, qc21⟩ := isOf hZ e2 PE1
        obtain ⟨vv21, _, ⟨T21, L21, k21, n21⟩, -, X21, ⟨Lc21, hQ21, l21, y21, z21⟩, st21⟩ := X2.virtualBack hx (y := (⟨"java/lang/String", "charAt", "(I)C"⟩ : MethodName)) (z := (⟨"java/lang/String", "charAt", "(I)C"⟩ : MethodName)) hown (mvT hZ (hw _ (List.mem_of_getElem? (i := 78) rfl))) (mvT hZ (hw _ (List.mem_of_getElem? (i := 79) rfl))) (notFace_of_selects (args := #[]) (mvT hZ (hw _ (List.mem_of_getElem? (i := 81) rfl)))) (mvT hZ (hw _ (List.mem_of_getElem? (i := 81) rfl))) (mvT hZ (hw _ (List.mem_of_getElem? (i := 80) rfl))) (by decide) (StrChars.Road.chN (W := 0) hZ (own_wordsChN hw) (kI := 4) (hw _ (List.mem_of_getElem? (i := 5) rfl)) PE1 PV1 PC1 PA1 hcd21 hbd21 (S_COMPACT.ext O0.2) P_COMPACT (S_SIOOBE.ext O0.2) r_SIOOBE (own_le4 PL1) (i := 1) ((own_lt (i := 1) (by decide) PL1).mp hb36_20) (j := (1 : Int32)) rfl (by decide) (by decide)) qa21 qc21 (g := (mkF m 41 #[.val (.ref a1), .val (.ref a2), .val (.int (Int32.ofNat cs.length))] [(.int (1 : Int32)), (.ref a1)])) rfl (by rw [hml]; rfl) (Steps.refl _) (argsL := [(.int (1 : Int32))]) (rest := []) (lenOf pd_3 rfl) rfl (by show 2 * 0 + _ ≤ _; exact Nat.le_of_eq rfl) (hb hby d9_41) (fun _ _ => ⟨rfl, e2, (by decide : 0 + 0 ≤ _), (by decide : 0 + 0 ≤ _)⟩)
        dsimp only [Pt.U, Pt.locs, Pt.cells, Pt.slots] at X21 l21 y21 z21 st21 hQ21
        subst l21 y21 z21
        obtain ⟨rfl, rfl, e21⟩ := hQ21
        have N21 := Fr.app N2 (Fr.nil n0)
        refine Go.step (fun t_ k_ => st21.trans k_) ?_
        show Go _ _ _ _ _ _ _ T21 (mkF m 44 #[.val (.ref a1), .val (.ref a2), .val (.int (Int32.ofNat cs.length))] [(.int (cs.getD 1 0))])
        refine Go.step (fun t_ k_ => XS.aloadN X21.here hx rfl (hb hby d9_44) rfl rfl k_) ?_
        show Go _ _ _ _ _ _ _ T21 (mkF m 45 #[.val (.ref a1), .val (.ref a2), .val (.int (Int32.ofNat cs.length))] [(.ref a2), (.int (cs.getD 1 0))])
        refine Go.step (fun t_ k_ => XS.iconst X21.here hx rfl (hb hby d9_45) k_) ?_
        show Go _ _ _ _ _ _ _ T21 (mkF m 46 #[.val (.ref a1), .val (.ref a2), .val (.int (Int32.ofNat cs.length))] [(.int (1 : Int32)), (.ref a2), (.int (cs.getD 1 0))])
        have hcd22 : StrChars.Road.CodA ds 0 (Int32.ofNat ds.length) ((ds.map (fun c => c.toInt8.toInt32)).map Value.int) := StrChars.Road.codOf rfl (fun c hc => (PO2 c hc).2)
        have hbd22 : ∀ c ∈ ds, ¬ c < 0 ∧ ¬ (65535 : Int32) < c := own_up _ PO2
        obtain ⟨cq22, kq22, qa22, qb22, qc22⟩ := isOf hZ e21 PE2
        obtain ⟨vv22, _, ⟨T22, L22, k22, n22⟩, -, X22, ⟨Lc22, hQ22, l22, y22, z22⟩, st22⟩ := X21.virtualBack hx (y := (⟨"java/lang/String", "charAt", "(I)C"⟩ : MethodName)) (z := (⟨"java/lang/String", "charAt", "(I)C"⟩ : MethodName)) hown (mvT hZ (hw _ (List.mem_of_getElem? (i := 78) rfl))) (mvT hZ (hw _ (List.mem_of_getElem? (i := 79) rfl))) (notFace_of_selects (args := #[]) (mvT hZ (hw _ (List.mem_of_getElem? (i := 81) rfl)))) (mvT hZ (hw _ (List.mem_of_getElem? (i := 81) rfl))) (mvT hZ (hw _ (List.mem_of_getElem? (i := 80) rfl))) (by decide) (StrChars.Road.chN (W := 1) hZ (own_wordsChN hw) (kI := 4) (hw _ (List.mem_of_getElem? (i := 5) rfl)) PE2 PV2 PC2 PA2 hcd22 hbd22 (S_COMPACT.ext O0.2) P_COMPACT (S_SIOOBE.ext O0.2) r_SIOOBE (own_le4 PL2) (i := 1) (own_eqn PL1 PL2 hb10_3 ▸ ((own_lt (i := 1) (by decide) PL1).mp hb36_20)) (j := (1 : Int32)) rfl (by decide) (by decide)) qa22 qc22 (g := (mkF m 46 #[.val (.ref a1), .val (.ref a2), .val (.int (Int32.ofNat cs.length))] [(.int (1 : Int32)), (.ref a2), (.int (cs.getD 1 0))])) rfl (by rw [hml]; rfl) (Steps.refl _) (argsL := [(.int (1 : Int32))]) (rest := [(.int (cs.getD 1 0))]) (lenOf pd_3 rfl) rfl (by show 2 * 0 + _ ≤ _; exact Nat.le_of_eq rfl) (hb hby d9_46) (fun _ _ => ⟨rfl, e21, (by decide : 0 + 0 ≤ _), (by decide : 0 + 0 ≤ _)⟩)
        dsimp only [Pt.U, Pt.locs, Pt.cells, Pt.slots] at X22 l22 y22 z22 st22 hQ22
        subst l22 y22 z22
        obtain ⟨rfl, rfl, e22⟩ := hQ22
        have N22 := Fr.app N21 (Fr.nil n0)
        refine Go.step (fun t_ k_ => st22.trans k_) ?_
        show Go _ _ _ _ _ _ _ T22 (mkF m 49 #[.val (.ref a1), .val (.ref a2), .val (.int (Int32.ofNat cs.length))] [(.int (ds.getD 1 0)), (.int (cs.getD 1 0))])
        by_cases hb49_23 : (cs.getD 1 0) = (ds.getD 1 0)
        · refine Go.step (fun t_ k_ => XS.icmpYes X22.here hx rfl (pc0 := 49) (pc' := 54) rfl (hb hby d9_49) rfl (XT.ii_eq_t hb49_23) (by decide) (by decide) k_) ?_
          show Go _ _ _ _ _ _ _ T22 (mkF m 54 #[.val (.ref a1), .val (.ref a2), .val (.int (Int32.ofNat cs.length))] [])
          refine Go.step (fun t_ k_ => XS.iloadN X22.here hx rfl (hb hby d9_54) rfl k_) ?_
          show Go _ _ _ _ _ _ _ T22 (mkF m 55 #[.val (.ref a1), .val (.ref a2), .val (.int (Int32.ofNat cs.length))] [(.int (Int32.ofNat cs.length))])
          refine Go.step (fun t_ k_ => XS.iconst X22.here hx rfl (hb hby d9_55) k_) ?_
          show Go _ _ _ _ _ _ _ T22 (mkF m 56 #[.val (.ref a1), .val (.ref a2), .val (.int (Int32.ofNat cs.length))] [(.int (2 : Int32)), (.int (Int32.ofNat cs.length))])
          by_cases hb56_24 : (2 : Int32) < (Int32.ofNat cs.length)
          · refine Go.step (fun t_ k_ => XS.icmpNo X22.here hx rfl (hb hby d9_56) rfl (XT.ii_le_f hb56_24) k_) ?_
            show Go _ _ _ _ _ _ _ T22 (mkF m 59 #[.val (.ref a1), .val (.ref a2), .val (.int (Int32.ofNat cs.length))] [])
            refine Go.step (fun t_ k_ => XS.aloadN X22.here hx rfl (hb hby d9_59) rfl rfl k_) ?_
            show Go _ _ _ _ _ _ _ T22 (mkF m 60 #[.val (.ref a1), .val (.ref a2), .val (.int (Int32.ofNat cs.length))] [(.ref a1)])
            refine Go.step (fun t_ k_ => XS.iconst X22.here hx rfl (hb hby d9_60) k_) ?_
            show Go _ _ _ _ _ _ _ T22 (mkF m 61 #[.val (.ref a1), .val (.ref a2), .val (.int (Int32.ofNat cs.length))] [(.int (2 : Int32)), (.ref a1)])
            have hcd25 : StrChars.Road.CodA cs 0 (Int32.ofNat cs.length) ((cs.map (fun c => c.toInt8.toInt32)).map Value.int) := StrChars.Road.codOf rfl (fun c hc => (PO1 c hc).2)
            have hbd25 : ∀ c ∈ cs, ¬ c < 0 ∧ ¬ (65535 : Int32) < c := own_up _ PO1
            obtain ⟨cq25, kq25, qa25, qb25, qc25⟩ := isOf hZ e22 PE1
            obtain ⟨vv25, _, ⟨T25, L25, k25, n25⟩, -, X25, ⟨Lc25, hQ25, l25, y25, z25⟩, st25⟩ := X22.virtualBack hx (y := (⟨"java/lang/String", "charAt", "(I)C"⟩ : MethodName)) (z := (⟨"java/lang/String", "charAt", "(I)C"⟩ : MethodName)) hown (mvT hZ (hw _ (List.mem_of_getElem? (i := 78) rfl))) (mvT hZ (hw _ (List.mem_of_getElem? (i := 79) rfl))) (notFace_of_selects (args := #[]) (mvT hZ (hw _ (List.mem_of_getElem? (i := 81) rfl)))) (mvT hZ (hw _ (List.mem_of_getElem? (i := 81) rfl))) (mvT hZ (hw _ (List.mem_of_getElem? (i := 80) rfl))) (by decide) (StrChars.Road.chN (W := 0) hZ (own_wordsChN hw) (kI := 4) (hw _ (List.mem_of_getElem? (i := 5) rfl)) PE1 PV1 PC1 PA1 hcd25 hbd25 (S_COMPACT.ext O0.2) P_COMPACT (S_SIOOBE.ext O0.2) r_SIOOBE (own_le4 PL1) (i := 2) ((own_lt (i := 2) (by decide) PL1).mp hb56_24) (j := (2 : Int32)) rfl (by decide) (by decide)) qa25 qc25 (g := (mkF m 61 #[.val (.ref a1), .val (.ref a2), .val (.int (Int32.ofNat cs.length))] [(.int (2 : Int32)), (.ref a1)])) rfl (by rw [hml]; rfl) (Steps.refl _) (argsL := [(.int (2 : Int32))]) (rest := []) (lenOf pd_3 rfl) rfl (by show 2 * 0 + _ ≤ _; exact Nat.le_of_eq rfl) (hb hby d9_61) (fun _ _ => ⟨rfl, e22, (by decide : 0 + 0 ≤ _), (by decide : 0 + 0 ≤ _)⟩)
            dsimp only [Pt.U, Pt.locs, Pt.cells, Pt.slots] at X25 l25 y25 z25 st25 hQ25
            subst l25 y25 z25
            obtain ⟨rfl, rfl, e25⟩ := hQ25
            have N25 := Fr.app N22 (Fr.nil n0)
            refine Go.step (fun t_ k_ => st25.trans k_) ?_
            show Go _ _ _ _ _ _ _ T25 (mkF m 64 #[.val (.ref a1), .val (.ref a2), .val (.int (Int32.ofNat cs.length))] [(.int (cs.getD 2 0))])
            refine Go.step (fun t_ k_ => XS.aloadN X25.here hx rfl (hb hby d9_64) rfl rfl k_) ?_
            show Go _ _ _ _ _ _ _ T25 (mkF m 65 #[.val (.ref a1), .val (.ref a2), .val (.int (Int32.ofNat cs.length))] [(.ref a2), (.int (cs.getD 2 0))])
            refine Go.step (fun t_ k_ => XS.iconst X25.here hx rfl (hb hby d9_65) k_) ?_
            show Go _ _ _ _ _ _ _ T25 (mkF m 66 #[.val (.ref a1), .val (.ref a2), .val (.int (Int32.ofNat cs.length))] [(.int (2 : Int32)), (.ref a2), (.int (cs.getD 2 0))])
            have hcd26 : StrChars.Road.CodA ds 0 (Int32.ofNat ds.length) ((ds.map (fun c => c.toInt8.toInt32)).map Value.int) := StrChars.Road.codOf rfl (fun c hc => (PO2 c hc).2)
            have hbd26 : ∀ c ∈ ds, ¬ c < 0 ∧ ¬ (65535 : Int32) < c := own_up _ PO2
            obtain ⟨cq26, kq26, qa26, qb26, qc26⟩ := isOf hZ e25 PE2
            obtain ⟨vv26, _, ⟨T26, L26, k26, n26⟩, -, X26, ⟨Lc26, hQ26, l26, y26, z26⟩, st26⟩ := X25.virtualBack hx (y := (⟨"java/lang/String", "charAt", "(I)C"⟩ : MethodName)) (z := (⟨"java/lang/String", "charAt", "(I)C"⟩ : MethodName)) hown (mvT hZ (hw _ (List.mem_of_getElem? (i := 78) rfl))) (mvT hZ (hw _ (List.mem_of_getElem? (i := 79) rfl))) (notFace_of_selects (args := #[]) (mvT hZ (hw _ (List.mem_of_getElem? (i := 81) rfl)))) (mvT hZ (hw _ (List.mem_of_getElem? (i := 81) rfl))) (mvT hZ (hw _ (List.mem_of_getElem? (i := 80) rfl))) (by decide) (StrChars.Road.chN (W := 1) hZ (own_wordsChN hw) (kI := 4) (hw _ (List.mem_of_getElem? (i := 5) rfl)) PE2 PV2 PC2 PA2 hcd26 hbd26 (S_COMPACT.ext O0.2) P_COMPACT (S_SIOOBE.ext O0.2) r_SIOOBE (own_le4 PL2) (i := 2) (own_eqn PL1 PL2 hb10_3 ▸ ((own_lt (i := 2) (by decide) PL1).mp hb56_24)) (j := (2 : Int32)) rfl (by decide) (by decide)) qa26 qc26 (g := (mkF m 66 #[.val (.ref a1), .val (.ref a2), .val (.int (Int32.ofNat cs.length))] [(.int (2 : Int32)), (.ref a2), (.int (cs.getD 2 0))])) rfl (by rw [hml]; rfl) (Steps.refl _) (argsL := [(.int (2 : Int32))]) (rest := [(.int (cs.getD 2 0))]) (lenOf pd_3 rfl) rfl (by show 2 * 0 + _ ≤ _; exact Nat.le_of_eq rfl) (hb hby d9_66) (fun _ _ => ⟨rfl, e25, (by decide : 0 + 0 ≤ _), (by decide : 0 + 0 ≤ _)⟩)
            dsimp only [Pt.U, Pt.locs, Pt.cells, Pt.slots] at X26 l26 y26 z26 st26 hQ26
            subst l26 y26 z26
            obtain ⟨rfl, rfl, e26⟩ := hQ26
            have N26 := Fr.app N25 (Fr.nil n0)
            refine Go.step (fun t_ k_ => st26.trans k_) ?_
            show Go _ _ _ _ _ _ _ T26 (mkF m 69 #[.val (.ref a1), .val (.ref a2), .val (.int (Int32.ofNat cs.length))] [(.int (ds.getD 2 0)), (.int (cs.getD 2 0))])
            by_cases hb69_27 : (cs.getD 2 0) = (ds.getD 2 0)
            · refine Go.step (fun t_ k_ => XS.icmpYes X26.here hx rfl (pc0 := 69) (pc' := 74) rfl (hb hby d9_69) rfl (XT.ii_eq_t hb69_27) (by decide) (by decide) k_) ?_
              show Go _ _ _ _ _ _ _ T26 (mkF m 74 #[.val (.ref a1), .val (.ref a2), .val (.int (Int32.ofNat cs.length))] [])
              refine Go.step (fun t_ k_ => XS.iconst X26.here hx rfl (hb hby d9_74) k_) ?_
              show Go _ _ _ _ _ _ _ T26 (mkF m 75 #[.val (.ref a1), .val (.ref a2), .val (.int (Int32.ofNat cs.length))] [(.int (1 : Int32))])
              refine Go.ret X26 hx hlk hret rfl (Or.inl ⟨rfl, Or.inr (Or.inl rfl), _, rfl⟩) (hb hby d9_75) ?_ (by decide) (by decide)
              show QST Z _ _ _ _ _ _ _ _ _ _ _ _ _ T26.heap _
              exact ⟨by rw [own_same, if_pos (own_eq3 PL1 PL2 hb10_3 (fun q => absurd ((own_lt (i := 0) (by decide) PL1).mpr q) hb16_4) (fun _ => hb49_23) (fun _ => hb69_27))], N26, e26⟩
            · refine Go.step (fun t_ k_ => XS.icmpNo X26.here hx rfl (hb hby d9_69) rfl (XT.ii_eq_f hb69_27) k_) ?_
              show Go _ _ _ _ _ _ _ T26 (mkF m 72 #[.val (.ref a1), .val (.ref a2), .val (.int (Int32.ofNat cs.length))] [])
              refine Go.step (fun t_ k_ => XS.iconst X26.here hx rfl (hb hby d9_72) k_) ?_
              show Go _ _ _ _ _ _ _ T26 (mkF m 73 #[.val (.ref a1), .val (.ref a2), .val (.int (Int32.ofNat cs.length))] [(.int (0 : Int32))])
              refine Go.ret X26 hx hlk hret rfl (Or.inl ⟨rfl, Or.inr (Or.inl rfl), _, rfl⟩) (hb hby d9_73) ?_ (by decide) (by decide)
              show QST Z _ _ _ _ _ _ _ _ _ _ _ _ _ T26.heap _
              exact ⟨by rw [own_same, if_neg (fun q => hb69_27 (by rw [q]))], N26, e26⟩
          · refine Go.step (fun t_ k_ => XS.icmpYes X22.here hx rfl (pc0 := 56) (pc' := 74) rfl (hb hby d9_56) rfl (XT.ii_le_t hb56_24) (by decide) (by decide) k_) ?_
            show Go _ _ _ _ _ _ _ T22 (mkF m 74 #[.val (.ref a1), .val (.ref a2), .val (.int (Int32.ofNat cs.length))] [])
            refine Go.step (fun t_ k_ => XS.iconst X22.here hx rfl (hb hby d9_74) k_) ?_
            show Go _ _ _ _ _ _ _ T22 (mkF m 75 #[.val (.ref a1), .val (.ref a2), .val (.int (Int32.ofNat cs.length))] [(.int (1 : Int32))])
            refine Go.ret X22 hx hlk hret rfl (Or.inl ⟨rfl, Or.inr (Or.inl rfl), _, rfl⟩) (hb hby d9_75) ?_ (by decide) (by decide)
            show QST Z _ _ _ _ _ _ _ _ _ _ _ _ _ T22.heap _
            exact ⟨by rw [own_same, if_pos (own_eq3 PL1 PL2 hb10_3 (fun q => absurd ((own_lt (i := 0) (by decide) PL1).mpr q) hb16_4) (fun _ => hb49_23) (fun q => absurd ((own_lt (i := 2) (by decide) PL1).mpr q) hb56_24))], N22, e22⟩
        · refine Go.step (fun t_ k_ => XS.icmpNo X22.here hx rfl (hb hby d9_49) rfl (XT.ii_eq_f hb49_23) k_) ?_
          show Go _ _ _ _ _ _ _ T22 (mkF m 52 #[.val (.ref a1), .val (.ref a2), .val (.int (Int32.ofNat cs.length))] [])
          refine Go.step (fun t_ k_ => XS.iconst X22.here hx rfl (hb hby d9_52) k_) ?_
          show Go _ _ _ _ _ _ _ T22 (mkF m 53 #[.val (.ref a1), .val (.ref a2), .val (.int (Int32.ofNat cs.length))] [(.int (0 : Int32))])
          refine Go.ret X22 hx hlk hret rfl (Or.inl ⟨rfl, Or.inr (Or.inl rfl), _, rfl⟩) (hb hby d9_53) ?_ (by decide) (by decide)
          show QST Z _ _ _ _ _ _ _ _ _ _ _ _ _ T22.heap _
          exact ⟨by rw [own_same, if_neg (fun q => hb49_23 (by rw [q]))], N22, e22⟩
      · refine Go.step (fun t_ k_ => XS.icmpYes X2.here hx rfl (pc0 := 36) (pc' := 54) rfl (hb hby d9_36) rfl (XT.ii_le_t hb36_20) (by decide) (by decide) k_) ?_
        show Go _ _ _ _ _ _ _ T2 (mkF m 54 #[.val (.ref a1), .val (.ref a2), .val (.int (Int32.ofNat cs.length))] [])
        refine Go.step (fun t_ k_ => XS.iloadN X2.here hx rfl (hb hby d9_54) rfl k_) ?_
        show Go _ _ _ _ _ _ _ T2 (mkF m 55 #[.val (.ref a1), .val (.ref a2), .val (.int (Int32.ofNat cs.length))] [(.int (Int32.ofNat cs.length))])
        refine Go.step (fun t_ k_ => XS.iconst X2.here hx rfl (hb hby d9_55) k_) ?_
        show Go _ _ _ _ _ _ _ T2 (mkF m 56 #[.val (.ref a1), .val (.ref a2), .val (.int (Int32.ofNat cs.length))] [(.int (2 : Int32)), (.int (Int32.ofNat cs.length))])
        by_cases hb56_28 : (2 : Int32) < (Int32.ofNat cs.length)
        · refine Go.step (fun t_ k_ => XS.icmpNo X2.here hx rfl (hb hby d9_56) rfl (XT.ii_le_f hb56_28) k_) ?_
          show Go _ _ _ _ _ _ _ T2 (mkF m 59 #[.val (.ref a1), .val (.ref a2), .val (.int (Int32.ofNat cs.length))] [])
          refine Go.step (fun t_ k_ => XS.aloadN X2.here hx rfl (hb hby d9_59) rfl rfl k_) ?_
          show Go _ _ _ _ _ _ _ T2 (mkF m 60 #[.val (.ref a1), .val (.ref a2), .val (.int (Int32.ofNat cs.length))] [(.ref a1)])
          refine Go.step (fun t_ k_ => XS.iconst X2.here hx rfl (hb hby d9_60) k_) ?_
          show Go _ _ _ _ _ _ _ T2 (mkF m 61 #[.val (.ref a1), .val (.ref a2), .val (.int (Int32.ofNat cs.length))] [(.int (2 : Int32)), (.ref a1)])
          have hcd29 : StrChars.Road.CodA cs 0 (Int32.ofNat cs.length) ((cs.map (fun c => c.toInt8.toInt32)).map Value.int) := StrChars.Road.codOf rfl (fun c hc => (PO1 c hc).2)
          have hbd29 : ∀ c ∈ cs, ¬ c < 0 ∧ ¬ (65535 : Int32) < c := own_up _ PO1
          obtain ⟨cq29, kq29, qa29, qb29, qc29⟩ := isOf hZ e2 PE1
          obtain ⟨vv29, _, ⟨T29, L29, k29, n29⟩, -, X29, ⟨Lc29, hQ29, l29, y29, z29⟩, st29⟩ := X2.virtualBack hx (y := (⟨"java/lang/String", "charAt", "(I)C"⟩ : MethodName)) (z := (⟨"java/lang/String", "charAt", "(I)C"⟩ : MethodName)) hown (mvT hZ (hw _ (List.mem_of_getElem? (i := 78) rfl))) (mvT hZ (hw _ (List.mem_of_getElem? (i := 79) rfl))) (notFace_of_selects (args := #[]) (mvT hZ (hw _ (List.mem_of_getElem? (i := 81) rfl)))) (mvT hZ (hw _ (List.mem_of_getElem? (i := 81) rfl))) (mvT hZ (hw _ (List.mem_of_getElem? (i := 80) rfl))) (by decide) (StrChars.Road.chN (W := 0) hZ (own_wordsChN hw) (kI := 4) (hw _ (List.mem_of_getElem? (i := 5) rfl)) PE1 PV1 PC1 PA1 hcd29 hbd29 (S_COMPACT.ext O0.2) P_COMPACT (S_SIOOBE.ext O0.2) r_SIOOBE (own_le4 PL1) (i := 2) ((own_lt (i := 2) (by decide) PL1).mp hb56_28) (j := (2 : Int32)) rfl (by decide) (by decide)) qa29 qc29 (g := (mkF m 61 #[.val (.ref a1), .val (.ref a2), .val (.int (Int32.ofNat cs.length))] [(.int (2 : Int32)), (.ref a1)])) rfl (by rw [hml]; rfl) (Steps.refl _) (argsL := [(.int (2 : Int32))]) (rest := []) (lenOf pd_3 rfl) rfl (by show 2 * 0 + _ ≤ _; exact Nat.le_of_eq rfl) (hb hby d9_61) (fun _ _ => ⟨rfl, e2, (by decide : 0 + 0 ≤ _), (by decide : 0 + 0 ≤ _)⟩)
          dsimp only [Pt.U, Pt.locs, Pt.cells, Pt.slots] at X29 l29 y29 z29 st29 hQ29
          subst l29 y29 z29
          obtain ⟨rfl, rfl, e29⟩ := hQ29
          have N29 := Fr.app N2 (Fr.nil n0)
          refine Go.step (fun t_ k_ => st29.trans k_) ?_
          show Go _ _ _ _ _ _ _ T29 (mkF m 64 #[.val (.ref a1), .val (.ref a2), .val (.int (Int32.ofNat cs.length))] [(.int (cs.getD 2 0))])
          refine Go.step (fun t_ k_ => XS.aloadN X29.here hx rfl (hb hby d9_64) rfl rfl k_) ?_
          show Go _ _ _ _ _ _ _ T29 (mkF m 65 #[.val (.ref a1), .val (.ref a2), .val (.int (Int32.ofNat cs.length))] [(.ref a2), (.int (cs.getD 2 0))])
          refine Go.step (fun t_ k_ => XS.iconst X29.here hx rfl (hb hby d9_65) k_) ?_
          show Go _ _ _ _ _ _ _ T29 (mkF m 66 #[.val (.ref a1), .val (.ref a2), .val (.int (Int32.ofNat cs.length))] [(.int (2 : Int32)), (.ref a2), (.int (cs.getD 2 0))])
          have hcd30 : StrChars.Road.CodA ds 0 (Int32.ofNat ds.length) ((ds.map (fun c => c.toInt8.toInt32)).map Value.int) := StrChars.Road.codOf rfl (fun c hc => (PO2 c hc).2)
          have hbd30 : ∀ c ∈ ds, ¬ c < 0 ∧ ¬ (65535 : Int32) < c := own_up _ PO2
          obtain ⟨cq30, kq30, qa30, qb30, qc30⟩ := isOf hZ e29 PE2
          obtain ⟨vv30, _, ⟨T30, L30, k30, n30⟩, -, X30, ⟨Lc30, hQ30, l30, y30, z30⟩, st30⟩ := X29.virtualBack hx (y := (⟨"java/lang/String", "charAt", "(I)C"⟩ : MethodName)) (z := (⟨"java/lang/String", "charAt", "(I)C"⟩ : MethodName)) hown (mvT hZ (hw _ (List.mem_of_getElem? (i := 78) rfl))) (mvT hZ (hw _ (List.mem_of_getElem? (i := 79) rfl))) (notFace_of_selects (args := #[]) (mvT hZ (hw _ (List.mem_of_getElem? (i := 81) rfl)))) (mvT hZ (hw _ (List.mem_of_getElem? (i := 81) rfl))) (mvT hZ (hw _ (List.mem_of_getElem? (i := 80) rfl))) (by decide) (StrChars.Road.chN (W := 1) hZ (own_wordsChN hw) (kI := 4) (hw _ (List.mem_of_getElem? (i := 5) rfl)) PE2 PV2 PC2 PA2 hcd30 hbd30 (S_COMPACT.ext O0.2) P_COMPACT (S_SIOOBE.ext O0.2) r_SIOOBE (own_le4 PL2) (i := 2) (own_eqn PL1 PL2 hb10_3 ▸ ((own_lt (i := 2) (by decide) PL1).mp hb56_28)) (j := (2 : Int32)) rfl (by decide) (by decide)) qa30 qc30 (g := (mkF m 66 #[.val (.ref a1), .val (.ref a2), .val (.int (Int32.ofNat cs.length))] [(.int (2 : Int32)), (.ref a2), (.int (cs.getD 2 0))])) rfl (by rw [hml]; rfl) (Steps.refl _) (argsL := [(.int (2 : Int32))]) (rest := [(.int (cs.getD 2 0))]) (lenOf pd_3 rfl) rfl (by show 2 * 0 + _ ≤ _; exact Nat.le_of_eq rfl) (hb hby d9_66) (fun _ _ => ⟨rfl, e29, (by decide : 0 + 0 ≤ _), (by decide : 0 + 0 ≤ _)⟩)
          dsimp only [Pt.U, Pt.locs, Pt.cells, Pt.slots] at X30 l30 y30 z30 st30 hQ30
          subst l30 y30 z30
          obtain ⟨rfl, rfl, e30⟩ := hQ30
          have N30 := Fr.app N29 (Fr.nil n0)
          refine Go.step (fun t_ k_ => st30.trans k_) ?_
          show Go _ _ _ _ _ _ _ T30 (mkF m 69 #[.val (.ref a1), .val (.ref a2), .val (.int (Int32.ofNat cs.length))] [(.int (ds.getD 2 0)), (.int (cs.getD 2 0))])
          by_cases hb69_31 : (cs.getD 2 0) = (ds.getD 2 0)
          · refine Go.step (fun t_ k_ => XS.icmpYes X30.here hx rfl (pc0 := 69) (pc' := 74) rfl (hb hby d9_69) rfl (XT.ii_eq_t hb69_31) (by decide) (by decide) k_) ?_
            show Go _ _ _ _ _ _ _ T30 (mkF m 74 #[.val (.ref a1), .val (.ref a2), .val (.int (Int32.ofNat cs.length))] [])
            refine Go.step (fun t_ k_ => XS.iconst X30.here hx rfl (hb hby d9_74) k_) ?_
            show Go _ _ _ _ _ _ _ T30 (mkF m 75 #[.val (.ref a1), .val (.ref a2), .val (.int (Int32.ofNat cs.length))] [(.int (1 : Int32))])
            refine Go.ret X30 hx hlk hret rfl (Or.inl ⟨rfl, Or.inr (Or.inl rfl), _, rfl⟩) (hb hby d9_75) ?_ (by decide) (by decide)
            show QST Z _ _ _ _ _ _ _ _ _ _ _ _ _ T30.heap _
            exact ⟨by rw [own_same, if_pos (own_eq3 PL1 PL2 hb10_3 (fun q => absurd ((own_lt (i := 0) (by decide) PL1).mpr q) hb16_4) (fun q => absurd ((own_lt (i := 1) (by decide) PL1).mpr q) hb36_20) (fun _ => hb69_31))], N30, e30⟩
          · refine Go.step (fun t_ k_ => XS.icmpNo X30.here hx rfl (hb hby d9_69) rfl (XT.ii_eq_f hb69_31) k_) ?_
            show Go _ _ _ _ _ _ _ T30 (mkF m 72 #[.val (.ref a1), .val (.ref a2), .val (.int (Int32.ofNat cs.length))] [])
            refine Go.step (fun t_ k_ => XS.iconst X30.here hx rfl (hb hby d9_72) k_) ?_
            show Go _ _ _ _ _ _ _ T30 (mkF m 73 #[.val (.ref a1), .val (.ref a2), .val (.int (Int32.ofNat cs.length))] [(.int (0 : Int32))])
            refine Go.ret X30 hx hlk hret rfl (Or.inl ⟨rfl, Or.inr (Or.inl rfl), _, rfl⟩) (hb hby d9_73) ?_ (by decide) (by decide)
            show QST Z _ _ _ _ _ _ _ _ _ _ _ _ _ T30.heap _
            exact ⟨by rw [own_same, if_neg (fun q => hb69_31 (by rw [q]))], N30, e30⟩
        · refine Go.step (fun t_ k_ => XS.icmpYes X2.here hx rfl (pc0 := 56) (pc' := 74) rfl (hb hby d9_56) rfl (XT.ii_le_t hb56_28) (by decide) (by decide) k_) ?_
          show Go _ _ _ _ _ _ _ T2 (mkF m 74 #[.val (.ref a1), .val (.ref a2), .val (.int (Int32.ofNat cs.length))] [])
          refine Go.step (fun t_ k_ => XS.iconst X2.here hx rfl (hb hby d9_74) k_) ?_
          show Go _ _ _ _ _ _ _ T2 (mkF m 75 #[.val (.ref a1), .val (.ref a2), .val (.int (Int32.ofNat cs.length))] [(.int (1 : Int32))])
          refine Go.ret X2 hx hlk hret rfl (Or.inl ⟨rfl, Or.inr (Or.inl rfl), _, rfl⟩) (hb hby d9_75) ?_ (by decide) (by decide)
          show QST Z _ _ _ _ _ _ _ _ _ _ _ _ _ T2.heap _
          exact ⟨by rw [own_same, if_pos (own_eq3 PL1 PL2 hb10_3 (fun q => absurd ((own_lt (i := 0) (by decide) PL1).mpr q) hb16_4) (fun q => absurd ((own_lt (i := 1) (by decide) PL1).mpr q) hb36_20) (fun q => absurd ((own_lt (i := 2) (by decide) PL1).mpr q) hb56_28))], N2, e2⟩
  · refine Go.step (fun t_ k_ => XS.icmpNo X2.here hx rfl (hb hby d9_10) rfl (XT.ii_eq_f hb10_3) k_) ?_
    show Go _ _ _ _ _ _ _ T2 (mkF m 13 #[.val (.ref a1), .val (.ref a2), .val (.int (Int32.ofNat cs.length))] [])
    refine Go.step (fun t_ k_ => XS.iconst X2.here hx rfl (hb hby d9_13) k_) ?_
    show Go _ _ _ _ _ _ _ T2 (mkF m 14 #[.val (.ref a1), .val (.ref a2), .val (.int (Int32.ofNat cs.length))] [(.int (0 : Int32))])
    refine Go.ret X2 hx hlk hret rfl (Or.inl ⟨rfl, Or.inr (Or.inl rfl), _, rfl⟩) (hb hby d9_14) ?_ (by decide) (by decide)
    show QST Z _ _ _ _ _ _ _ _ _ _ _ _ _ T2.heap _
    exact ⟨by rw [own_same, if_neg (fun q => hb10_3 (by rw [q]))], N2, e2⟩
theorem pn_2 : plainName "com/example/majority_lease/majoritylease/redis/Resp$ErrorReply" = true := by first | (simp [plainName, overriddenIn]; done) | decide +kernel
theorem ef_rmEI (m : MethodId) (a1 : Addr) (a2 : Addr) : entryFrame m #[(.ref a1), (.ref a2)] 2 = mkF m 0 #[.val (.ref a1), .val (.ref a2)] [] := by first | (simp [entryFrame, mkF, argsToLocals, Value.category]; done) | rfl
def QEI (Z : State) (a1 : Addr) (a2 : Addr) (h0 : Heap) (n0 : Nat) (v : Option Value) (h : Heap) (L : List Loc) : Prop := v = none ∧ Fr n0 L ∧ Keep h0 h [a1] ∧ Exa Z h a1 "com/example/majority_lease/majoritylease/redis/Resp$ErrorReply" ∧ Fld Z h a1 "com/example/majority_lease/majoritylease/redis/Resp$ErrorReply" "message" "Ljava/lang/String;" (.ref a2)
theorem d8_0 : decode prog_12_method_1_code 0 = .ok (.aload_n 0, 1) := by decide +kernel
theorem d8_1 : decode prog_12_method_1_code 1 = .ok (.invokespecial 1, 3) := by decide +kernel
theorem d8_4 : decode prog_12_method_1_code 4 = .ok (.aload_n 0, 1) := by decide +kernel
theorem d8_5 : decode prog_12_method_1_code 5 = .ok (.aload_n 1, 1) := by decide +kernel
theorem d8_6 : decode prog_12_method_1_code 6 = .ok (.putfield 7, 3) := by decide +kernel
theorem d8_9 : decode prog_12_method_1_code 9 = .ok (.return_, 1) := by decide +kernel
set_option maxRecDepth 65536 in
set_option maxHeartbeats 40000000 in
theorem rmEI (l : Launch) (Z : State) (a0 : Array Value) (hw : ∀ d ∈ tables_1, d.before a0 Z = true) (ws : List Jvm.Cond) (a1 : Addr) (a2 : Addr) (h0 : Heap) (n0 : Nat) (Z0 : n0 ≤ h0.size) (g1 : n0 ≤ a1) (PE1 : Exa Z h0 a1 "com/example/majority_lease/majoritylease/redis/Resp$ErrorReply") (PF1 : Fld Z h0 a1 "com/example/majority_lease/majoritylease/redis/Resp$ErrorReply" "message" "Ljava/lang/String;" .null) :
    MetFree l (⟨"com/example/majority_lease/majoritylease/redis/Resp$ErrorReply", "<init>", "(Ljava/lang/String;)V"⟩ : MethodName) (head1 (Jvm.Cond.code (⟨"com/example/majority_lease/majoritylease/redis/Resp$ErrorReply", "<init>", "(Ljava/lang/String;)V"⟩ : MethodName) prog_12_method_1_code 2 none :: ws) ({ frames := 1, cells := 0, slots := 0, locals := 12 } : Room)) (fun a U => a = #[(.ref a1), (.ref a2)] ∧ Z.Warmed39 U.vm ∧ U.heap = h0) (fun _ _ _ _ _ => True) (fun _ U o U' => ∃ v L, o = .returned v ∧ QEI Z a1 a2  h0 n0 v U'.heap L ∧ FrameEnd U o U' L ({ frames := 1, cells := 0, slots := 0, locals := 12 } : Room).cells ({ frames := 1, cells := 0, slots := 0, locals := 12 } : Room).slots) := by
  refine MetFree.of_bodySF (plainFor_of_name pn_2) hisR ?_
  intro p e s m args below meth c s₁ Bd hml0 hP hK
  obtain ⟨rfl, hZ, hh⟩ := hP
  have hx := Bd.exec
  have hby := Bd.bytes
  have hlk := BodyLoose.notSynchronized Bd
  have hml : c.maxLocals = 2 := hml0
  have hret := Bd.returns
  have hown : s.vm.findClass "com/example/majority_lease/majoritylease/redis/Resp$ErrorReply" = some m.cls := findClass_of_methodNamed Bd.named
  have hnm := (name_of_methodNamed Bd.named Bd.method).1
  have X0 : Stand p l e ({ frames := 1, cells := 0, slots := 0, locals := 12 } : Room) s m #[(.ref a1), (.ref a2)] below meth c s₁ [] 0 0 := Stand.of_body Bd
  have e0 : s₁.heap = h0 := by rw [← hh, Bd.state]; rfl
  have N0 := Fr.nil n0
  show Go p e below s ({ frames := 1, cells := 0, slots := 0, locals := 12 } : Room).cells ({ frames := 1, cells := 0, slots := 0, locals := 12 } : Room).slots (QEI Z a1 a2  h0 n0) s₁ (entryFrame m #[(.ref a1), (.ref a2)] 2)
  refine Go.cast (ef_rmEI m a1 a2) ?_
  have K0 : Keep h0 h0 [a1] := Keep.refl _ _
  show Go _ _ _ _ _ _ _ s₁ (mkF m 0 #[.val (.ref a1), .val (.ref a2)] [])
  refine Go.step (fun t_ k_ => XS.aloadN X0.here hx rfl (hb hby d8_0) rfl rfl k_) ?_
  show Go _ _ _ _ _ _ _ s₁ (mkF m 1 #[.val (.ref a1), .val (.ref a2)] [(.ref a1)])
  obtain ⟨T1, X1, e1, st1⟩ := initO X0 hx hZ hown (hw _ (List.mem_of_getElem? (i := 43) rfl)) (hw _ (List.mem_of_getElem? (i := 16) rfl)) (hw _ (List.mem_of_getElem? (i := 17) rfl)) e0 (g := (mkF m 1 #[.val (.ref a1), .val (.ref a2)] [(.ref a1)])) rfl (by rw [hml]; rfl) rfl (hb hby d8_1) (by decide) (W := 0) (by show 2 * 0 + _ ≤ _; exact Nat.le_of_eq rfl) (by decide)
  refine Go.step st1 ?_
  show Go _ _ _ _ _ _ _ T1 (mkF m 4 #[.val (.ref a1), .val (.ref a2)] [])
  refine Go.step (fun t_ k_ => XS.aloadN X1.here hx rfl (hb hby d8_4) rfl rfl k_) ?_
  show Go _ _ _ _ _ _ _ T1 (mkF m 5 #[.val (.ref a1), .val (.ref a2)] [(.ref a1)])
  refine Go.step (fun t_ k_ => XS.aloadN X1.here hx rfl (hb hby d8_5) rfl rfl k_) ?_
  show Go _ _ _ _ _ _ _ T1 (mkF m 6 #[.val (.ref a1), .val (.ref a2)] [(.ref a2), (.ref a1)])
  obtain ⟨T2, h2, X2, e2, W2, st2⟩ := putF X1 hx hZ hown (host := "") (Or.inl (hw _ (List.mem_of_getElem? (i := 44) rfl))) Via.refl e1 PF1 PE1 (Or.inr ⟨(hw _ (List.mem_of_getElem? (i := 45) rfl)), rfl, hnm⟩) (hw _ (List.mem_of_getElem? (i := 38) rfl)) (ty := (.object "java/lang/String")) (by decide) rfl rfl (g := (mkF m 6 #[.val (.ref a1), .val (.ref a2)] [(.ref a2), (.ref a1)])) rfl rfl (hb hby d8_6)
  have N2 := Fr.snoc X2 N0 g1
  refine Go.step st2 ?_
  have f2_0 : Exa Z h2 a1 "com/example/majority_lease/majoritylease/redis/Resp$ErrorReply" := (PE1.wr W2)
  have f2_1 : Fld Z h2 a1 "com/example/majority_lease/majoritylease/redis/Resp$ErrorReply" "message" "Ljava/lang/String;" (.ref a2) := (PF1.same W2)
  have Zs2 : n0 ≤ h2.size := (Nat.le_trans Z0 (Keep.of_wr W2).1)
  have K2 : Keep h0 h2 [a1] := K0.wr W2 (Or.inl (List.mem_of_getElem? (i := 0) rfl))
  show Go _ _ _ _ _ _ _ T2 (mkF m 9 #[.val (.ref a1), .val (.ref a2)] [])
  refine Go.retV X2 hx hlk hret (hb hby d8_9) ?_ (by decide) (by decide)
  show QEI Z _ _ _ _ _ T2.heap _
  rw [e2]
  exact ⟨rfl, N2, K2, f2_0, f2_1⟩
theorem ef_rmEQ (m : MethodId) (a1 : Addr) (a2 : Addr) : entryFrame m #[(.ref a1), (.ref a2)] 2 = mkF m 0 #[.val (.ref a1), .val (.ref a2)] [] := by first | (simp [entryFrame, mkF, argsToLocals, Value.category]; done) | rfl
def QEQ (Z : State) (a1 : Addr) (a2 : Addr) (m1 : Addr) (m2 : Addr) (G1 : Int32) (t1 : Addr) (kb1 : ClassId) (cs : List Int32) (t2 : Addr) (kb2 : ClassId) (ds : List Int32) (h0 : Heap) (n0 : Nat) (v : Option Value) (h : Heap) (L : List Loc) : Prop := v = some (.int (own_same ds cs)) ∧ Fr n0 L ∧ h = h0
theorem d12_0 : decode prog_12_method_2_code 0 = .ok (.aload_n 1, 1) := by decide +kernel
theorem d12_1 : decode prog_12_method_2_code 1 = .ok (.instanceof 8, 3) := by decide +kernel
theorem d12_4 : decode prog_12_method_2_code 4 = .ok (.ifCond .eq 24, 3) := by decide +kernel
theorem d12_7 : decode prog_12_method_2_code 7 = .ok (.aload_n 1, 1) := by decide +kernel
theorem d12_8 : decode prog_12_method_2_code 8 = .ok (.checkcast 8, 3) := by decide +kernel
theorem d12_11 : decode prog_12_method_2_code 11 = .ok (.getfield 7, 3) := by decide +kernel
theorem d12_14 : decode prog_12_method_2_code 14 = .ok (.aload_n 0, 1) := by decide +kernel
theorem d12_15 : decode prog_12_method_2_code 15 = .ok (.getfield 7, 3) := by decide +kernel
theorem pd_4 : parseMethodDescriptor "(Ljava/lang/Object;)Z" = some ⟨[(.object "java/lang/Object")], some .boolean⟩ := by decide +kernel
theorem d12_18 : decode prog_12_method_2_code 18 = .ok (.invokevirtual 13, 3) := by decide +kernel
theorem d12_21 : decode prog_12_method_2_code 21 = .ok (.ifCond .eq 7, 3) := by decide +kernel
theorem d12_28 : decode prog_12_method_2_code 28 = .ok (.iconst 0, 1) := by decide +kernel
theorem d12_29 : decode prog_12_method_2_code 29 = .ok (.ireturn, 1) := by decide +kernel
theorem d12_24 : decode prog_12_method_2_code 24 = .ok (.iconst 1, 1) := by decide +kernel
theorem d12_25 : decode prog_12_method_2_code 25 = .ok (.goto 4, 3) := by decide +kernel
set_option maxRecDepth 65536 in
set_option maxHeartbeats 40000000 in
theorem rmEQ (l : Launch) (Z : State) (a0 : Array Value) (hw : ∀ d ∈ tables_1, d.before a0 Z = true) (ws : List Jvm.Cond) (a1 : Addr) (a2 : Addr) (m1 : Addr) (m2 : Addr) (G1 : Int32) (t1 : Addr) (kb1 : ClassId) (cs : List Int32) (t2 : Addr) (kb2 : ClassId) (ds : List Int32) (h0 : Heap) (n0 : Nat) (Z0 : n0 ≤ h0.size) (O0 : Old Z n0 h0) (S_COMPACT : Sta Z Z.heap "java/lang/String" "COMPACT_STRINGS" "Z" (.int G1)) (P_COMPACT : ¬ (G1 = (0 : Int32))) (PX2 : Exa Z h0 a2 "com/example/majority_lease/majoritylease/redis/Resp$ErrorReply") (PM1 : Fld Z h0 a1 "com/example/majority_lease/majoritylease/redis/Resp$ErrorReply" "message" "Ljava/lang/String;" (.ref m1)) (PM2 : Fld Z h0 a2 "com/example/majority_lease/majoritylease/redis/Resp$ErrorReply" "message" "Ljava/lang/String;" (.ref m2)) (PE1 : Exa Z h0 m1 "java/lang/String") (PV1 : Fld Z h0 m1 "java/lang/String" "value" "[B" (.ref t1)) (PC1 : Fld Z h0 m1 "java/lang/String" "coder" "B" (.int (0 : Int32))) (PA1 : Arv Z h0 t1 kb1 .byte (Int32.ofNat cs.length) ((cs.map (fun c => c.toInt8.toInt32)).map Value.int) (.int (0 : Int32))) (PO1 : ∀ c ∈ cs, ¬ c < 0 ∧ ¬ (255 : Int32) < c) (PL1 : cs.length ≤ 3) (PE2 : Exa Z h0 m2 "java/lang/String") (PV2 : Fld Z h0 m2 "java/lang/String" "value" "[B" (.ref t2)) (PC2 : Fld Z h0 m2 "java/lang/String" "coder" "B" (.int (0 : Int32))) (PA2 : Arv Z h0 t2 kb2 .byte (Int32.ofNat ds.length) ((ds.map (fun c => c.toInt8.toInt32)).map Value.int) (.int (0 : Int32))) (PO2 : ∀ c ∈ ds, ¬ c < 0 ∧ ¬ (255 : Int32) < c) (PL2 : ds.length ≤ 3) :
    MetFree l (⟨"com/example/majority_lease/majoritylease/redis/Resp$ErrorReply", "equals", "(Ljava/lang/Object;)Z"⟩ : MethodName) (head1 (Jvm.Cond.code (⟨"com/example/majority_lease/majoritylease/redis/Resp$ErrorReply", "equals", "(Ljava/lang/Object;)Z"⟩ : MethodName) prog_12_method_2_code 2 (some .boolean) :: ws) ({ frames := 2, cells := 0, slots := 0, locals := 28 } : Room)) (fun a U => a = #[(.ref a1), (.ref a2)] ∧ Z.Warmed39 U.vm ∧ U.heap = h0) (fun _ _ _ _ _ => True) (fun _ U o U' => ∃ v L, o = .returned v ∧ QEQ Z a1 a2 m1 m2 G1 t1 kb1 cs t2 kb2 ds h0 n0 v U'.heap L ∧ FrameEnd U o U' L ({ frames := 2, cells := 0, slots := 0, locals := 28 } : Room).cells ({ frames := 2, cells := 0, slots := 0, locals := 28 } : Room).slots) := by
  refine MetFree.of_bodySF (plainFor_of_name pn_2) hisR ?_
  intro p e s m args below meth c s₁ Bd hml0 hP hK
  obtain ⟨rfl, hZ, hh⟩ := hP
  have hx := Bd.exec
  have hby := Bd.bytes
  have hlk := BodyLoose.notSynchronized Bd
  have hml : c.maxLocals = 2 := hml0
  have hret := Bd.returns
  have hown : s.vm.findClass "com/example/majority_lease/majoritylease/redis/Resp$ErrorReply" = some m.cls := findClass_of_methodNamed Bd.named
  have hnm := (name_of_methodNamed Bd.named Bd.method).1
  have X0 : Stand p l e ({ frames := 2, cells := 0, slots := 0, locals := 28 } : Room) s m #[(.ref a1), (.ref a2)] below meth c s₁ [] 0 0 := Stand.of_body Bd
  have e0 : s₁.heap = h0 := by rw [← hh, Bd.state]; rfl
  have N0 := Fr.nil n0
  show Go p e below s ({ frames := 2, cells := 0, slots := 0, locals := 28 } : Room).cells ({ frames := 2, cells := 0, slots := 0, locals := 28 } : Room).slots (QEQ Z a1 a2 m1 m2 G1 t1 kb1 cs t2 kb2 ds h0 n0) s₁ (entryFrame m #[(.ref a1), (.ref a2)] 2)
  refine Go.cast (ef_rmEQ m a1 a2) ?_
  show Go _ _ _ _ _ _ _ s₁ (mkF m 0 #[.val (.ref a1), .val (.ref a2)] [])
  refine Go.step (fun t_ k_ => XS.aloadN X0.here hx rfl (hb hby d12_0) rfl rfl k_) ?_
  show Go _ _ _ _ _ _ _ s₁ (mkF m 1 #[.val (.ref a1), .val (.ref a2)] [(.ref a2)])
  obtain ⟨T1, X1, e1, st1⟩ := instY X0 hx hZ hown (hw _ (List.mem_of_getElem? (i := 64) rfl)) e0 (Ins.self PX2) (g := (mkF m 1 #[.val (.ref a1), .val (.ref a2)] [(.ref a2)])) rfl rfl (hb hby d12_1)
  refine Go.step st1 ?_
  show Go _ _ _ _ _ _ _ T1 (mkF m 4 #[.val (.ref a1), .val (.ref a2)] [(.int (1 : Int32))])
  have hb4_2 : ¬ ((1 : Int32) = (0 : Int32)) := by decide
  refine Go.step (fun t_ k_ => XS.ifNo X1.here hx rfl (hb hby d12_4) rfl (XT.i0_eq_f hb4_2) k_) ?_
  show Go _ _ _ _ _ _ _ T1 (mkF m 7 #[.val (.ref a1), .val (.ref a2)] [])
  refine Go.step (fun t_ k_ => XS.aloadN X1.here hx rfl (hb hby d12_7) rfl rfl k_) ?_
  show Go _ _ _ _ _ _ _ T1 (mkF m 8 #[.val (.ref a1), .val (.ref a2)] [(.ref a2)])
  obtain ⟨T3, X3, e3, st3⟩ := castY X1 hx hZ hown (hw _ (List.mem_of_getElem? (i := 64) rfl)) e1 (Ins.self PX2) (g := (mkF m 8 #[.val (.ref a1), .val (.ref a2)] [(.ref a2)])) rfl rfl (hb hby d12_8)
  refine Go.step st3 ?_
  show Go _ _ _ _ _ _ _ T3 (mkF m 11 #[.val (.ref a1), .val (.ref a2)] [(.ref a2)])
  obtain ⟨T4, X4, e4, st4⟩ := getF X3 hx hZ hown (host := "") (Or.inl (hw _ (List.mem_of_getElem? (i := 44) rfl))) Via.refl e3 PM2 (g := (mkF m 11 #[.val (.ref a1), .val (.ref a2)] [(.ref a2)])) rfl rfl (hb hby d12_11)
  refine Go.step st4 ?_
  show Go _ _ _ _ _ _ _ T4 (mkF m 14 #[.val (.ref a1), .val (.ref a2)] [(.ref m2)])
  refine Go.step (fun t_ k_ => XS.aloadN X4.here hx rfl (hb hby d12_14) rfl rfl k_) ?_
  show Go _ _ _ _ _ _ _ T4 (mkF m 15 #[.val (.ref a1), .val (.ref a2)] [(.ref a1), (.ref m2)])
  obtain ⟨T5, X5, e5, st5⟩ := getF X4 hx hZ hown (host := "") (Or.inl (hw _ (List.mem_of_getElem? (i := 44) rfl))) Via.refl e4 PM1 (g := (mkF m 15 #[.val (.ref a1), .val (.ref a2)] [(.ref a1), (.ref m2)])) rfl rfl (hb hby d12_15)
  refine Go.step st5 ?_
  show Go _ _ _ _ _ _ _ T5 (mkF m 18 #[.val (.ref a1), .val (.ref a2)] [(.ref m1), (.ref m2)])
  have hcd6 : StrChars.Road.CodA ds 0 (Int32.ofNat ds.length) ((ds.map (fun c => c.toInt8.toInt32)).map Value.int) := StrChars.Road.codOf rfl (fun c hc => (PO2 c hc).2)
  have hbd6 : ∀ c ∈ ds, ¬ c < 0 ∧ ¬ (65535 : Int32) < c := own_up _ PO2
  obtain ⟨cq6, kq6, qa6, qb6, qc6⟩ := isOf hZ e5 PE2
  have hcd6b : StrChars.Road.CodA cs 0 (Int32.ofNat cs.length) ((cs.map (fun c => c.toInt8.toInt32)).map Value.int) := StrChars.Road.codOf rfl (fun c hc => (PO1 c hc).2)
  have hbd6b : ∀ c ∈ cs, ¬ c < 0 ∧ ¬ (65535 : Int32) < c := own_up _ PO1
  obtain ⟨vv6, _, ⟨T6, L6, k6, n6⟩, -, X6, ⟨Lc6, hQ6, l6, y6, z6⟩, st6⟩ := X5.virtualBack hx (y := (⟨"java/lang/String", "equals", "(Ljava/lang/Object;)Z"⟩ : MethodName)) (z := (⟨"java/lang/String", "equals", "(Ljava/lang/Object;)Z"⟩ : MethodName)) hown (mvT hZ (hw _ (List.mem_of_getElem? (i := 66) rfl))) (mvT hZ (hw _ (List.mem_of_getElem? (i := 67) rfl))) (notFace_of_selects (args := #[]) (mvT hZ (hw _ (List.mem_of_getElem? (i := 69) rfl)))) (mvT hZ (hw _ (List.mem_of_getElem? (i := 69) rfl))) (mvT hZ (hw _ (List.mem_of_getElem? (i := 68) rfl))) (by decide) (StrChars.Road.eqW (W := 0) hZ (own_wordsEq hw) (kI := 4) (hw _ (List.mem_of_getElem? (i := 5) rfl)) PE2 PV2 PC2 PA2 hcd6 hbd6 (own_le4 PL2) PE1 PV1 PC1 PA1 hcd6b hbd6b (own_le4 PL1) (S_COMPACT.ext O0.2) P_COMPACT (by decide) (by decide)) qa6 qc6 (g := (mkF m 18 #[.val (.ref a1), .val (.ref a2)] [(.ref m1), (.ref m2)])) rfl (by rw [hml]; rfl) (Steps.refl _) (argsL := [(.ref m1)]) (rest := []) (lenOf pd_4 rfl) rfl (by show 2 * 0 + _ ≤ _; exact Nat.le_of_eq rfl) (hb hby d12_18) (fun _ _ => ⟨rfl, e5, (by decide : 0 + 0 ≤ _), (by decide : 0 + 0 ≤ _)⟩)
  dsimp only [Pt.U, Pt.locs, Pt.cells, Pt.slots] at X6 l6 y6 z6 st6 hQ6
  subst l6 y6 z6
  obtain ⟨hcase6, rfl, e6⟩ := hQ6
  obtain rfl : vv6 = some (.int (own_same ds cs)) := own_same_of hcase6
  have N6 := Fr.app N0 (Fr.nil n0)
  refine Go.step (fun t_ k_ => st6.trans k_) ?_
  show Go _ _ _ _ _ _ _ T6 (mkF m 21 #[.val (.ref a1), .val (.ref a2)] [(.int (own_same ds cs))])
  by_cases hb21_7 : (own_same ds cs) = (0 : Int32)
  · refine Go.step (fun t_ k_ => XS.ifYes X6.here hx rfl (pc0 := 21) (pc' := 28) rfl (hb hby d12_21) rfl (XT.i0_eq_t hb21_7) (by decide) (by decide) k_) ?_
    show Go _ _ _ _ _ _ _ T6 (mkF m 28 #[.val (.ref a1), .val (.ref a2)] [])
    refine Go.step (fun t_ k_ => XS.iconst X6.here hx rfl (hb hby d12_28) k_) ?_
    show Go _ _ _ _ _ _ _ T6 (mkF m 29 #[.val (.ref a1), .val (.ref a2)] [(.int (0 : Int32))])
    refine Go.ret X6 hx hlk hret rfl (Or.inl ⟨rfl, Or.inr (Or.inl rfl), _, rfl⟩) (hb hby d12_29) ?_ (by decide) (by decide)
    show QEQ Z _ _ _ _ _ _ _ _ _ _ _ _ _ _ T6.heap _
    exact ⟨by rw [hb21_7], N6, e6⟩
  · refine Go.step (fun t_ k_ => XS.ifNo X6.here hx rfl (hb hby d12_21) rfl (XT.i0_eq_f hb21_7) k_) ?_
    show Go _ _ _ _ _ _ _ T6 (mkF m 24 #[.val (.ref a1), .val (.ref a2)] [])
    refine Go.step (fun t_ k_ => XS.iconst X6.here hx rfl (hb hby d12_24) k_) ?_
    show Go _ _ _ _ _ _ _ T6 (mkF m 25 #[.val (.ref a1), .val (.ref a2)] [(.int (1 : Int32))])
    refine Go.step (fun t_ k_ => XS.goto X6.here hx rfl (pc0 := 25) (pc' := 29) rfl (hb hby d12_25) (by decide) (by decide) k_) ?_
    show Go _ _ _ _ _ _ _ T6 (mkF m 29 #[.val (.ref a1), .val (.ref a2)] [(.int (1 : Int32))])
    refine Go.ret X6 hx hlk hret rfl (Or.inl ⟨rfl, Or.inr (Or.inl rfl), _, rfl⟩) (hb hby d12_29) ?_ (by decide) (by decide)
    show QEQ Z _ _ _ _ _ _ _ _ _ _ _ _ _ _ T6.heap _
    exact ⟨by rw [(own_same01 ds cs).resolve_left hb21_7], N6, e6⟩
theorem ef_rmEQn (m : MethodId) (a1 : Addr) : entryFrame m #[(.ref a1), .null] 2 = mkF m 0 #[.val (.ref a1), .val .null] [] := by first | (simp [entryFrame, mkF, argsToLocals, Value.category]; done) | rfl
def QEQn (Z : State) (a1 : Addr) (h0 : Heap) (n0 : Nat) (v : Option Value) (h : Heap) (L : List Loc) : Prop := v = some (.int (0 : Int32)) ∧ Fr n0 L ∧ h = h0
set_option maxRecDepth 65536 in
set_option maxHeartbeats 40000000 in
theorem rmEQn (l : Launch) (Z : State) (a0 : Array Value) (hw : ∀ d ∈ tables_1, d.before a0 Z = true) (ws : List Jvm.Cond) (a1 : Addr) (h0 : Heap) (n0 : Nat) (Z0 : n0 ≤ h0.size) :
    MetFree l (⟨"com/example/majority_lease/majoritylease/redis/Resp$ErrorReply", "equals", "(Ljava/lang/Object;)Z"⟩ : MethodName) (head1 (Jvm.Cond.code (⟨"com/example/majority_lease/majoritylease/redis/Resp$ErrorReply", "equals", "(Ljava/lang/Object;)Z"⟩ : MethodName) prog_12_method_2_code 2 (some .boolean) :: ws) ({ frames := 0, cells := 0, slots := 0, locals := 0 } : Room)) (fun a U => a = #[(.ref a1), .null] ∧ Z.Warmed39 U.vm ∧ U.heap = h0) (fun _ _ _ _ _ => True) (fun _ U o U' => ∃ v L, o = .returned v ∧ QEQn Z a1  h0 n0 v U'.heap L ∧ FrameEnd U o U' L ({ frames := 0, cells := 0, slots := 0, locals := 0 } : Room).cells ({ frames := 0, cells := 0, slots := 0, locals := 0 } : Room).slots) := by
  refine MetFree.of_bodySF (plainFor_of_name pn_2) hisR ?_
  intro p e s m args below meth c s₁ Bd hml0 hP hK
  obtain ⟨rfl, hZ, hh⟩ := hP
  have hx := Bd.exec
  have hby := Bd.bytes
  have hlk := BodyLoose.notSynchronized Bd
  have hml : c.maxLocals = 2 := hml0
  have hret := Bd.returns
  have hown : s.vm.findClass "com/example/majority_lease/majoritylease/redis/Resp$ErrorReply" = some m.cls := findClass_of_methodNamed Bd.named
  have hnm := (name_of_methodNamed Bd.named Bd.method).1
  have X0 : Stand p l e ({ frames := 0, cells := 0, slots := 0, locals := 0 } : Room) s m #[(.ref a1), .null] below meth c s₁ [] 0 0 := Stand.of_body Bd
  have e0 : s₁.heap = h0 := by rw [← hh, Bd.state]; rfl
  have N0 := Fr.nil n0
  show Go p e below s ({ frames := 0, cells := 0, slots := 0, locals := 0 } : Room).cells ({ frames := 0, cells := 0, slots := 0, locals := 0 } : Room).slots (QEQn Z a1  h0 n0) s₁ (entryFrame m #[(.ref a1), .null] 2)
  refine Go.cast (ef_rmEQn m a1) ?_
  show Go _ _ _ _ _ _ _ s₁ (mkF m 0 #[.val (.ref a1), .val .null] [])
  refine Go.step (fun t_ k_ => XS.aloadN X0.here hx rfl (hb hby d12_0) rfl rfl k_) ?_
  show Go _ _ _ _ _ _ _ s₁ (mkF m 1 #[.val (.ref a1), .val .null] [.null])
  refine Go.step (fun t_ k_ => X0.instanceofNull hx (g := (mkF m 1 #[.val (.ref a1), .val .null] [.null])) rfl rfl (hb hby d12_1) _ k_) ?_
  show Go _ _ _ _ _ _ _ s₁ (mkF m 4 #[.val (.ref a1), .val .null] [(.int (0 : Int32))])
  have hb4_2 : (0 : Int32) = (0 : Int32) := by decide
  refine Go.step (fun t_ k_ => XS.ifYes X0.here hx rfl (pc0 := 4) (pc' := 28) rfl (hb hby d12_4) rfl (XT.i0_eq_t hb4_2) (by decide) (by decide) k_) ?_
  show Go _ _ _ _ _ _ _ s₁ (mkF m 28 #[.val (.ref a1), .val .null] [])
  refine Go.step (fun t_ k_ => XS.iconst X0.here hx rfl (hb hby d12_28) k_) ?_
  show Go _ _ _ _ _ _ _ s₁ (mkF m 29 #[.val (.ref a1), .val .null] [(.int (0 : Int32))])
  refine Go.ret X0 hx hlk hret rfl (Or.inl ⟨rfl, Or.inr (Or.inl rfl), _, rfl⟩) (hb hby d12_29) ?_ (by decide) (by decide)
  show QEQn Z _ _ _ _ s₁.heap _
  exact ⟨rfl, N0, e0⟩
theorem ef_rmEQs (m : MethodId) (a1 : Addr) (a2 : Addr) : entryFrame m #[(.ref a1), (.ref a2)] 2 = mkF m 0 #[.val (.ref a1), .val (.ref a2)] [] := by first | (simp [entryFrame, mkF, argsToLocals, Value.category]; done) | rfl
def QEQs (Z : State) (a1 : Addr) (a2 : Addr) (h0 : Heap) (n0 : Nat) (v : Option Value) (h : Heap) (L : List Loc) : Prop := v = some (.int (0 : Int32)) ∧ Fr n0 L ∧ h = h0
set_option maxRecDepth 65536 in
set_option maxHeartbeats 40000000 in
theorem rmEQs (l : Launch) (Z : State) (a0 : Array Value) (hw : ∀ d ∈ tables_1, d.before a0 Z = true) (ws : List Jvm.Cond) (a1 : Addr) (a2 : Addr) (h0 : Heap) (n0 : Nat) (Z0 : n0 ≤ h0.size) (PX2 : Exa Z h0 a2 "java/lang/String") :
    MetFree l (⟨"com/example/majority_lease/majoritylease/redis/Resp$ErrorReply", "equals", "(Ljava/lang/Object;)Z"⟩ : MethodName) (head1 (Jvm.Cond.code (⟨"com/example/majority_lease/majoritylease/redis/Resp$ErrorReply", "equals", "(Ljava/lang/Object;)Z"⟩ : MethodName) prog_12_method_2_code 2 (some .boolean) :: ws) ({ frames := 0, cells := 0, slots := 0, locals := 0 } : Room)) (fun a U => a = #[(.ref a1), (.ref a2)] ∧ Z.Warmed39 U.vm ∧ U.heap = h0) (fun _ _ _ _ _ => True) (fun _ U o U' => ∃ v L, o = .returned v ∧ QEQs Z a1 a2  h0 n0 v U'.heap L ∧ FrameEnd U o U' L ({ frames := 0, cells := 0, slots := 0, locals := 0 } : Room).cells ({ frames := 0, cells := 0, slots := 0, locals := 0 } : Room).slots) := by
  refine MetFree.of_bodySF (plainFor_of_name pn_2) hisR ?_
  intro p e s m args below meth c s₁ Bd hml0 hP hK
  obtain ⟨rfl, hZ, hh⟩ := hP
  have hx := Bd.exec
  have hby := Bd.bytes
  have hlk := BodyLoose.notSynchronized Bd
  have hml : c.maxLocals = 2 := hml0
  have hret := Bd.returns
  have hown : s.vm.findClass "com/example/majority_lease/majoritylease/redis/Resp$ErrorReply" = some m.cls := findClass_of_methodNamed Bd.named
  have hnm := (name_of_methodNamed Bd.named Bd.method).1
  have X0 : Stand p l e ({ frames := 0, cells := 0, slots := 0, locals := 0 } : Room) s m #[(.ref a1), (.ref a2)] below meth c s₁ [] 0 0 := Stand.of_body Bd
  have e0 : s₁.heap = h0 := by rw [← hh, Bd.state]; rfl
  have N0 := Fr.nil n0
  show Go p e below s ({ frames := 0, cells := 0, slots := 0, locals := 0 } : Room).cells ({ frames := 0, cells := 0, slots := 0, locals := 0 } : Room).slots (QEQs Z a1 a2  h0 n0) s₁ (entryFrame m #[(.ref a1), (.ref a2)] 2)
  refine Go.cast (ef_rmEQs m a1 a2) ?_
  show Go _ _ _ _ _ _ _ s₁ (mkF m 0 #[.val (.ref a1), .val (.ref a2)] [])
  refine Go.step (fun t_ k_ => XS.aloadN X0.here hx rfl (hb hby d12_0) rfl rfl k_) ?_
  show Go _ _ _ _ _ _ _ s₁ (mkF m 1 #[.val (.ref a1), .val (.ref a2)] [(.ref a2)])
  obtain ⟨T2, X2, e2, st2⟩ := instNo X0 hx hZ hown (hw _ (List.mem_of_getElem? (i := 64) rfl)) e0 PX2 (own_noSE (hw _ (List.mem_of_getElem? (i := 76) rfl)) (hw _ (List.mem_of_getElem? (i := 77) rfl)) (hw _ (List.mem_of_getElem? (i := 38) rfl)) (by decide) (by decide)) (g := (mkF m 1 #[.val (.ref a1), .val (.ref a2)] [(.ref a2)])) rfl rfl (hb hby d12_1)
  refine Go.step st2 ?_
  show Go _ _ _ _ _ _ _ T2 (mkF m 4 #[.val (.ref a1), .val (.ref a2)] [(.int (0 : Int32))])
  have hb4_3 : (0 : Int32) = (0 : Int32) := by decide
  refine Go.step (fun t_ k_ => XS.ifYes X2.here hx rfl (pc0 := 4) (pc' := 28) rfl (hb hby d12_4) rfl (XT.i0_eq_t hb4_3) (by decide) (by decide) k_) ?_
  show Go _ _ _ _ _ _ _ T2 (mkF m 28 #[.val (.ref a1), .val (.ref a2)] [])
  refine Go.step (fun t_ k_ => XS.iconst X2.here hx rfl (hb hby d12_28) k_) ?_
  show Go _ _ _ _ _ _ _ T2 (mkF m 29 #[.val (.ref a1), .val (.ref a2)] [(.int (0 : Int32))])
  refine Go.ret X2 hx hlk hret rfl (Or.inl ⟨rfl, Or.inr (Or.inl rfl), _, rfl⟩) (hb hby d12_29) ?_ (by decide) (by decide)
  show QEQs Z _ _ _ _ _ T2.heap _
  exact ⟨rfl, N0, e2⟩
theorem ef_rm0 (m : MethodId) (p1 : Int32) (p2 : Int32) (p3 : Int32) (p4 : Int32) (p5 : Int32) : entryFrame m #[(.int p1), (.int p2), (.int p3), (.int p4), (.int p5)] maxLocals = mkF m 0 #[.val (.int p1), .val (.int p2), .val (.int p3), .val (.int p4), .val (.int p5), .unset, .unset, .unset, .unset, .unset, .unset] [] := by first | (simp [entryFrame, mkF, argsToLocals, Value.category, maxLocals]; done) | rfl
def Q0 (Z : State) (p1 : Int32) (p2 : Int32) (p3 : Int32) (p4 : Int32) (p5 : Int32) (G1 : Int32) (G3 : Value) (h0 : Heap) (n0 : Nat) (v : Option Value) (h : Heap) (L : List Loc) : Prop := v = some (.int (1 : Int32)) ∧ Fr n0 L
theorem pd_5 : parseMethodDescriptor "(II)Ljava/lang/String;" = some ⟨[.int, .int], some (.object "java/lang/String")⟩ := by decide +kernel
theorem pd_6 : parseMethodDescriptor "(Ljava/lang/String;)V" = some ⟨[(.object "java/lang/String")], none⟩ := by decide +kernel
theorem pd_7 : parseMethodDescriptor "(Ljava/lang/String;Ljava/lang/String;)Z" = some ⟨[(.object "java/lang/String"), (.object "java/lang/String")], some .boolean⟩ := by decide +kernel
set_option maxRecDepth 65536 in
set_option maxHeartbeats 40000000 in
theorem rm0 (l : Launch) (Z : State) (a0 : Array Value) (hw : ∀ d ∈ tables_1, d.before a0 Z = true) (ws : List Jvm.Cond) (p1 : Int32) (p2 : Int32) (p3 : Int32) (p4 : Int32) (p5 : Int32) (G1 : Int32) (G3 : Value) (h0 : Heap) (n0 : Nat) (Z0 : n0 ≤ h0.size) (O0 : Old Z n0 h0) (S_COMPACT : Sta Z Z.heap "java/lang/String" "COMPACT_STRINGS" "Z" (.int G1)) (P_COMPACT : ¬ (G1 = (0 : Int32))) (S_SIOOBE : Sta Z Z.heap "jdk/internal/util/Preconditions" "SIOOBE_FORMATTER" "Ljava/util/function/BiFunction;" G3) (r_SIOOBE : G3.isRef = true) :
    MetFree l x (head1 (Jvm.Cond.code x code maxLocals ret :: ws) room_1) (fun a U => a = #[(.int p1), (.int p2), (.int p3), (.int p4), (.int p5)] ∧ Z.Warmed39 U.vm ∧ U.heap = h0 ∧ CHv Z own_EL U.vm h0) (fun _ _ _ _ _ => True) (fun _ U o U' => ∃ v L, o = .returned v ∧ Q0 Z p1 p2 p3 p4 p5 G1 G3 h0 n0 v U'.heap L ∧ CHr Z own_EL U.vm U.heap U'.vm U'.heap ∧ ReturnedEndW U o U' L room_1.cells room_1.slots) := by
  refine MetFree.of_bodySF (plainFor_of_name pn_1) hisR ?_
  intro p e s m args below meth c s₁ Bd hml0 hP hK
  obtain ⟨rfl, hZ0, hh, hCH⟩ := hP
  have hx := Bd.exec
  have hby := Bd.bytes
  have hlk := BodyLoose.notSynchronized Bd
  have hml : c.maxLocals = 11 := hml0
  have hret := Bd.returns
  have hown0 : (s.setVm s.vm).vm.findClass "com/example/majority_lease/majoritylease/redis/ErrorReplyEqualsPinLaw" = some m.cls := findClass_of_methodNamed Bd.named
  have hnm := (name_of_methodNamed Bd.named Bd.method).1
  have X0 : Stand p l e room_1 (s.setVm s.vm) m #[(.int p1), (.int p2), (.int p3), (.int p4), (.int p5)] below meth c s₁ [] 0 0 := Stand.of_body Bd
  have hZ0 : Z.Warmed39 (s.setVm s.vm).vm := hZ0
  have hEL : EW Z a0 own_EL := own_EW hw
  have hS0 : s.Since s.vm h0.size := (State.WarmedH.refl s).since _
  have hk0 : h0.size ≤ h0.size := Nat.le_refl _
  have C0 : CHr Z own_EL s.vm h0 s.vm h0 := CHr.refl hCH
  have e0 : s₁.heap = h0 := by rw [← hh, Bd.state]; rfl
  have N0 := Fr.nil n0
  show GoH p e below s room_1.cells room_1.slots Z own_EL s.heap (Q0 Z p1 p2 p3 p4 p5 G1 G3 h0 n0) s₁ (entryFrame m #[(.int p1), (.int p2), (.int p3), (.int p4), (.int p5)] maxLocals)
  rw [hh]
  refine GoH.cast (ef_rm0 m p1 p2 p3 p4 p5) ?_
  show GoH _ _ _ _ _ _ _ _ _ _ s₁ (mkF m 0 #[.val (.int p1), .val (.int p2), .val (.int p3), .val (.int p4), .val (.int p5), .unset, .unset, .unset, .unset, .unset, .unset] [])
  refine GoH.step (fun t_ k_ => XS.iloadN X0.here hx rfl (hb hby at_0) rfl k_) ?_
  show GoH _ _ _ _ _ _ _ _ _ _ s₁ (mkF m 1 #[.val (.int p1), .val (.int p2), .val (.int p3), .val (.int p4), .val (.int p5), .unset, .unset, .unset, .unset, .unset, .unset] [(.int p1)])
  refine GoH.step (fun t_ k_ => XS.iloadN X0.here hx rfl (hb hby at_1) rfl k_) ?_
  show GoH _ _ _ _ _ _ _ _ _ _ s₁ (mkF m 2 #[.val (.int p1), .val (.int p2), .val (.int p3), .val (.int p4), .val (.int p5), .unset, .unset, .unset, .unset, .unset, .unset] [(.int p2), (.int p1)])
  obtain ⟨_, _, ⟨T1, L1, k1, n1⟩, -, X1, hSq1, hgr1, ⟨Lc1, hQ1, l1, y1, z1, CHq1⟩, st1⟩ := callSS X0 hx (y := (⟨"com/example/majority_lease/majoritylease/redis/ErrorReplyEqualsPinLaw", "draw", "(II)Ljava/lang/String;"⟩ : MethodName)) hown0 (mvT hZ0 (hw _ (List.mem_of_getElem? (i := 0) rfl))) (mvT hZ0 (hw _ (List.mem_of_getElem? (i := 1) rfl))) (mvT hZ0 (hw _ (List.mem_of_getElem? (i := 2) rfl))) (mvT hZ0 (hw _ (List.mem_of_getElem? (i := 3) rfl))) (by decide) (backOfSH (W := 0) (rmDr l Z a0 hw [] p1 p2 G1 h0 n0 Z0 O0 S_COMPACT P_COMPACT) hZ0 (hw _ (List.mem_of_getElem? (i := 3) rfl)) (hw _ (List.mem_of_getElem? (i := 2) rfl)) (by decide) (by decide) hEL C0.1) (g := (mkF m 2 #[.val (.int p1), .val (.int p2), .val (.int p3), .val (.int p4), .val (.int p5), .unset, .unset, .unset, .unset, .unset, .unset] [(.int p2), (.int p1)])) rfl (by rw [hml]; rfl) (argsL := [(.int p1), (.int p2)]) (rest := []) (lenOf pd_5 rfl) rfl (by show 2 * 0 + _ ≤ _; exact Nat.le_of_eq rfl) (hb hby at_2) (fun _ _ => ⟨rfl, e0, (by decide : 0 + 6 ≤ _), (by decide : 0 + 12 ≤ _)⟩)
  dsimp only [Pt.U, Pt.locs, Pt.cells, Pt.slots] at X1 hSq1 hgr1 l1 y1 z1 st1 hQ1 CHq1
  subst l1 y1 z1
  have X1 : Stand p l e _ (s.setVm T1.vm) _ _ _ _ _ T1 _ _ _ := X1
  have hS1 : s.Since T1.vm T1.heap.size := State.Since.trans hS0 hSq1 (Nat.le_trans hk0 (by first | exact hgr1 | (rw [← e0]; exact hgr1)))
  have hZ1 : Z.Warmed39 (s.setVm T1.vm).vm := State.Warmed39.trans (t := s.setVm s.vm) hZ0 hSq1.1
  have hown1 : (s.setVm T1.vm).vm.findClass "com/example/majority_lease/majoritylease/redis/ErrorReplyEqualsPinLaw" = some m.cls := by rw [show (s.setVm T1.vm).vm = T1.vm from rfl, hSq1.1.alike.findClass]; exact hown0
  have hk1 : T1.heap.size ≤ T1.heap.size := Nat.le_refl _
  obtain ⟨sa1, st_1, kb1, rfl, N1q, Kq1, gq1, Eq1, Cq1, Vq1, Aq1⟩ := hQ1
  have N1 := Fr.app N0 N1q
  have f1_0 : Exa Z T1.heap sa1 "java/lang/String" := Eq1
  have f1_1 : Fld Z T1.heap sa1 "java/lang/String" "coder" "B" (.int (0 : Int32)) := Cq1
  have f1_2 : Fld Z T1.heap sa1 "java/lang/String" "value" "[B" (.ref st_1) := Vq1
  have f1_3 : Arv Z T1.heap st_1 kb1 .byte (Int32.ofNat (own_draw p1 p2).length) (((own_draw p1 p2).map (fun c => c.toInt8.toInt32)).map Value.int) (.int (0 : Int32)) := Aq1
  have Zs1 : n0 ≤ T1.heap.size := (Nat.le_trans Z0 Kq1.1)
  have O1 : Old Z n0 T1.heap := O0.keep Kq1 all0
  have CC1 : CHr Z own_EL s.vm h0 T1.vm T1.heap := C0.trans CHq1
  refine GoH.step (fun t_ k_ => st1.trans k_) ?_
  show GoH _ _ _ _ _ _ _ _ _ _ T1 (mkF m 5 #[.val (.int p1), .val (.int p2), .val (.int p3), .val (.int p4), .val (.int p5), .unset, .unset, .unset, .unset, .unset, .unset] [(.ref sa1)])
  refine GoH.step (fun t_ k_ => XS.astore X1.here hx rfl (hb hby at_5) rfl rfl (l' := #[.val (.int p1), .val (.int p2), .val (.int p3), .val (.int p4), .val (.int p5), .val (.ref sa1), .unset, .unset, .unset, .unset, .unset]) rfl k_) ?_
  show GoH _ _ _ _ _ _ _ _ _ _ T1 (mkF m 7 #[.val (.int p1), .val (.int p2), .val (.int p3), .val (.int p4), .val (.int p5), .val (.ref sa1), .unset, .unset, .unset, .unset, .unset] [])
  refine GoH.step (fun t_ k_ => XS.iload X1.here hx rfl (hb hby at_7) rfl k_) ?_
  show GoH _ _ _ _ _ _ _ _ _ _ T1 (mkF m 9 #[.val (.int p1), .val (.int p2), .val (.int p3), .val (.int p4), .val (.int p5), .val (.ref sa1), .unset, .unset, .unset, .unset, .unset] [(.int p5)])
  refine GoH.step (fun t_ k_ => XS.iconst X1.here hx rfl (hb hby at_9) k_) ?_
  show GoH _ _ _ _ _ _ _ _ _ _ T1 (mkF m 10 #[.val (.int p1), .val (.int p2), .val (.int p3), .val (.int p4), .val (.int p5), .val (.ref sa1), .unset, .unset, .unset, .unset, .unset] [(.int (1 : Int32)), (.int p5)])
  refine GoH.step (fun t_ k_ => XS.iand X1.here hx rfl (hb hby at_10) rfl k_) ?_
  show GoH _ _ _ _ _ _ _ _ _ _ T1 (mkF m 11 #[.val (.int p1), .val (.int p2), .val (.int p3), .val (.int p4), .val (.int p5), .val (.ref sa1), .unset, .unset, .unset, .unset, .unset] [(.int (p5 &&& (1 : Int32)))])
  by_cases hb11_2 : (p5 &&& (1 : Int32)) = (0 : Int32)
  · refine GoH.step (fun t_ k_ => XS.ifYes X1.here hx rfl (pc0 := 11) (pc' := 22) rfl (hb hby at_11) rfl (XT.i0_eq_t hb11_2) (by decide) (by decide) k_) ?_
    show GoH _ _ _ _ _ _ _ _ _ _ T1 (mkF m 22 #[.val (.int p1), .val (.int p2), .val (.int p3), .val (.int p4), .val (.int p5), .val (.ref sa1), .unset, .unset, .unset, .unset, .unset] [])
    refine GoH.step (fun t_ k_ => XS.iloadN X1.here hx rfl (hb hby at_22) rfl k_) ?_
    show GoH _ _ _ _ _ _ _ _ _ _ T1 (mkF m 23 #[.val (.int p1), .val (.int p2), .val (.int p3), .val (.int p4), .val (.int p5), .val (.ref sa1), .unset, .unset, .unset, .unset, .unset] [(.int p3)])
    refine GoH.step (fun t_ k_ => XS.iloadN X1.here hx rfl (hb hby at_23) rfl k_) ?_
    show GoH _ _ _ _ _ _ _ _ _ _ T1 (mkF m 24 #[.val (.int p1), .val (.int p2), .val (.int p3), .val (.int p4), .val (.int p5), .val (.ref sa1), .unset, .unset, .unset, .unset, .unset] [(.int p4), (.int p3)])
    obtain ⟨_, _, ⟨T3, L3, k3, n3⟩, -, X3, hSq3, hgr3, ⟨Lc3, hQ3, l3, y3, z3, CHq3⟩, st3⟩ := callSS X1 hx (y := (⟨"com/example/majority_lease/majoritylease/redis/ErrorReplyEqualsPinLaw", "draw", "(II)Ljava/lang/String;"⟩ : MethodName)) hown1 (mvT hZ1 (hw _ (List.mem_of_getElem? (i := 0) rfl))) (mvT hZ1 (hw _ (List.mem_of_getElem? (i := 1) rfl))) (mvT hZ1 (hw _ (List.mem_of_getElem? (i := 2) rfl))) (mvT hZ1 (hw _ (List.mem_of_getElem? (i := 3) rfl))) (by decide) (backOfSH (W := 0) (rmDr l Z a0 hw [] p3 p4 G1 T1.heap n0 Zs1 O1 S_COMPACT P_COMPACT) hZ1 (hw _ (List.mem_of_getElem? (i := 3) rfl)) (hw _ (List.mem_of_getElem? (i := 2) rfl)) (by decide) (by decide) hEL CC1.1) (g := (mkF m 24 #[.val (.int p1), .val (.int p2), .val (.int p3), .val (.int p4), .val (.int p5), .val (.ref sa1), .unset, .unset, .unset, .unset, .unset] [(.int p4), (.int p3)])) rfl (by rw [hml]; rfl) (argsL := [(.int p3), (.int p4)]) (rest := []) (lenOf pd_5 rfl) rfl (by show 2 * 0 + _ ≤ _; exact Nat.le_of_eq rfl) (hb hby at_24) (fun _ _ => ⟨rfl, rfl, (by decide : 0 + 6 + 6 ≤ _), (by decide : 0 + 12 + 12 ≤ _)⟩)
    dsimp only [Pt.U, Pt.locs, Pt.cells, Pt.slots] at X3 hSq3 hgr3 l3 y3 z3 st3 hQ3 CHq3
    subst l3 y3 z3
    have X3 : Stand p l e _ (s.setVm T3.vm) _ _ _ _ _ T3 _ _ _ := X3
    have hS3 : s.Since T3.vm T3.heap.size := State.Since.trans hS1 hSq3 (Nat.le_trans hk1 (by first | exact hgr3 | (rw [← (rfl : T1.heap = T1.heap)]; exact hgr3)))
    have hZ3 : Z.Warmed39 (s.setVm T3.vm).vm := State.Warmed39.trans (t := s.setVm T1.vm) hZ1 hSq3.1
    have hown3 : (s.setVm T3.vm).vm.findClass "com/example/majority_lease/majoritylease/redis/ErrorReplyEqualsPinLaw" = some m.cls := by rw [show (s.setVm T3.vm).vm = T3.vm from rfl, hSq3.1.alike.findClass]; exact hown1
    have hk3 : T3.heap.size ≤ T3.heap.size := Nat.le_refl _
    obtain ⟨sa3, st_3, kb3, rfl, N3q, Kq3, gq3, Eq3, Cq3, Vq3, Aq3⟩ := hQ3
    have N3 := Fr.app N1 N3q
    have ne_sa1_sa3 : sa1 ≠ sa3 := Nat.ne_of_lt (Nat.lt_of_lt_of_le f1_0.lt gq3)
    have ne_st_1_sa3 : st_1 ≠ sa3 := Nat.ne_of_lt (Nat.lt_of_lt_of_le f1_3.lt gq3)
    have f3_0 : Exa Z T3.heap sa1 "java/lang/String" := (f1_0.keep Kq3)
    have f3_1 : Fld Z T3.heap sa1 "java/lang/String" "coder" "B" (.int (0 : Int32)) := (f1_1.keep Kq3 nin0)
    have f3_2 : Fld Z T3.heap sa1 "java/lang/String" "value" "[B" (.ref st_1) := (f1_2.keep Kq3 nin0)
    have f3_3 : Arv Z T3.heap st_1 kb1 .byte (Int32.ofNat (own_draw p1 p2).length) (((own_draw p1 p2).map (fun c => c.toInt8.toInt32)).map Value.int) (.int (0 : Int32)) := (f1_3.keep Kq3 nin0)
    have f3_4 : Exa Z T3.heap sa3 "java/lang/String" := Eq3
    have f3_5 : Fld Z T3.heap sa3 "java/lang/String" "coder" "B" (.int (0 : Int32)) := Cq3
    have f3_6 : Fld Z T3.heap sa3 "java/lang/String" "value" "[B" (.ref st_3) := Vq3
    have f3_7 : Arv Z T3.heap st_3 kb3 .byte (Int32.ofNat (own_draw p3 p4).length) (((own_draw p3 p4).map (fun c => c.toInt8.toInt32)).map Value.int) (.int (0 : Int32)) := Aq3
    have Zs3 : n0 ≤ T3.heap.size := (Nat.le_trans Zs1 Kq3.1)
    have O3 : Old Z n0 T3.heap := O1.keep Kq3 all0
    have CC3 : CHr Z own_EL s.vm h0 T3.vm T3.heap := CC1.trans CHq3
    refine GoH.step (fun t_ k_ => st3.trans k_) ?_
    show GoH _ _ _ _ _ _ _ _ _ _ T3 (mkF m 27 #[.val (.int p1), .val (.int p2), .val (.int p3), .val (.int p4), .val (.int p5), .val (.ref sa1), .unset, .unset, .unset, .unset, .unset] [(.ref sa3)])
    refine GoH.step (fun t_ k_ => XS.astore X3.here hx rfl (hb hby at_27) rfl rfl (l' := #[.val (.int p1), .val (.int p2), .val (.int p3), .val (.int p4), .val (.int p5), .val (.ref sa1), .val (.ref sa3), .unset, .unset, .unset, .unset]) rfl k_) ?_
    show GoH _ _ _ _ _ _ _ _ _ _ T3 (mkF m 29 #[.val (.int p1), .val (.int p2), .val (.int p3), .val (.int p4), .val (.int p5), .val (.ref sa1), .val (.ref sa3), .unset, .unset, .unset, .unset] [])
    obtain ⟨T4, h4, X4, e4, E4, A4, D4, -, st4⟩ := newO X3 hx hZ3 hown3 (hw _ (List.mem_of_getElem? (i := 37) rfl)) (hw _ (List.mem_of_getElem? (i := 38) rfl)) (hw _ (List.mem_of_getElem? (i := 39) rfl)) rfl (g := (mkF m 29 #[.val (.int p1), .val (.int p2), .val (.int p3), .val (.int p4), .val (.int p5), .val (.ref sa1), .val (.ref sa3), .unset, .unset, .unset, .unset] [])) rfl (hb hby at_29) (by decide) (by decide)
    obtain ⟨o4, g4⟩ : ∃ z, z = T3.heap.size := ⟨_, rfl⟩
    rw [← g4] at A4 D4 st4
    have ne_sa1_o4 : sa1 ≠ o4 := Nat.ne_of_lt (Nat.lt_of_lt_of_le f3_0.lt (Nat.le_of_eq g4.symm))
    have ne_st_1_o4 : st_1 ≠ o4 := Nat.ne_of_lt (Nat.lt_of_lt_of_le f3_3.lt (Nat.le_of_eq g4.symm))
    have ne_sa3_o4 : sa3 ≠ o4 := Nat.ne_of_lt (Nat.lt_of_lt_of_le f3_4.lt (Nat.le_of_eq g4.symm))
    have ne_st_3_o4 : st_3 ≠ o4 := Nat.ne_of_lt (Nat.lt_of_lt_of_le f3_7.lt (Nat.le_of_eq g4.symm))
    have ge_o4 : n0 ≤ o4 := Nat.le_trans Zs3 (Nat.le_of_eq g4.symm)
    have f4_0 : Exa Z h4 sa1 "java/lang/String" := (f3_0.ext E4)
    have f4_1 : Fld Z h4 sa1 "java/lang/String" "coder" "B" (.int (0 : Int32)) := (f3_1.ext E4)
    have f4_2 : Fld Z h4 sa1 "java/lang/String" "value" "[B" (.ref st_1) := (f3_2.ext E4)
    have f4_3 : Arv Z h4 st_1 kb1 .byte (Int32.ofNat (own_draw p1 p2).length) (((own_draw p1 p2).map (fun c => c.toInt8.toInt32)).map Value.int) (.int (0 : Int32)) := (f3_3.ext E4)
    have f4_4 : Exa Z h4 sa3 "java/lang/String" := (f3_4.ext E4)
    have f4_5 : Fld Z h4 sa3 "java/lang/String" "coder" "B" (.int (0 : Int32)) := (f3_5.ext E4)
    have f4_6 : Fld Z h4 sa3 "java/lang/String" "value" "[B" (.ref st_3) := (f3_6.ext E4)
    have f4_7 : Arv Z h4 st_3 kb3 .byte (Int32.ofNat (own_draw p3 p4).length) (((own_draw p3 p4).map (fun c => c.toInt8.toInt32)).map Value.int) (.int (0 : Int32)) := (f3_7.ext E4)
    have f4_8 : Exa Z h4 o4 "com/example/majority_lease/majoritylease/redis/Resp$ErrorReply" := A4
    have f4_9 : Fld Z h4 o4 "com/example/majority_lease/majoritylease/redis/Resp$ErrorReply" "message" "Ljava/lang/String;" .null := (D4 (Or.inr (hw _ (List.mem_of_getElem? (i := 45) rfl))) (ty := (.object "java/lang/String")) (by decide))
    have hk4 : _ ≤ h4.size := Nat.le_trans hk3 E4.1
    have C4 : CHr Z own_EL s.vm h0 T3.vm h4 := CC3.trans (CHr.ext E4 CC3.1)
    have Zs4 : n0 ≤ h4.size := (Nat.le_trans Zs3 E4.1)
    have O4 : Old Z n0 h4 := O3.ext E4
    refine GoH.step st4 ?_
    show GoH _ _ _ _ _ _ _ _ _ _ T4 (mkF m 32 #[.val (.int p1), .val (.int p2), .val (.int p3), .val (.int p4), .val (.int p5), .val (.ref sa1), .val (.ref sa3), .unset, .unset, .unset, .unset] [(.ref o4)])
    refine GoH.step (fun t_ k_ => XS.dup X4.here hx rfl (hb hby at_32) rfl rfl k_) ?_
    show GoH _ _ _ _ _ _ _ _ _ _ T4 (mkF m 33 #[.val (.int p1), .val (.int p2), .val (.int p3), .val (.int p4), .val (.int p5), .val (.ref sa1), .val (.ref sa3), .unset, .unset, .unset, .unset] [(.ref o4), (.ref o4)])
    refine GoH.step (fun t_ k_ => XS.aload X4.here hx rfl (hb hby at_33) rfl rfl k_) ?_
    show GoH _ _ _ _ _ _ _ _ _ _ T4 (mkF m 35 #[.val (.int p1), .val (.int p2), .val (.int p3), .val (.int p4), .val (.int p5), .val (.ref sa1), .val (.ref sa3), .unset, .unset, .unset, .unset] [(.ref sa1), (.ref o4), (.ref o4)])
    obtain ⟨_, _, ⟨T5, L5, k5, n5⟩, -, X5, ⟨Lc5, hQ5, l5, y5, z5⟩, st5⟩ := X4.specialBack hx (y := (⟨"com/example/majority_lease/majoritylease/redis/Resp$ErrorReply", "<init>", "(Ljava/lang/String;)V"⟩ : MethodName)) rfl hown3 (mvT hZ3 (hw _ (List.mem_of_getElem? (i := 40) rfl))) (mvT hZ3 (hw _ (List.mem_of_getElem? (i := 41) rfl))) (mvT hZ3 (hw _ (List.mem_of_getElem? (i := 42) rfl))) (by decide) (backOf (W := 1) (rmEI l Z a0 hw [] o4 sa1 h4 n0 Zs4 ge_o4 f4_8 f4_9) hZ3 (hw _ (List.mem_of_getElem? (i := 42) rfl)) (hw _ (List.mem_of_getElem? (i := 39) rfl)) (by decide) (by decide)) (g := (mkF m 35 #[.val (.int p1), .val (.int p2), .val (.int p3), .val (.int p4), .val (.int p5), .val (.ref sa1), .val (.ref sa3), .unset, .unset, .unset, .unset] [(.ref sa1), (.ref o4), (.ref o4)])) rfl (by rw [hml]; rfl) (Steps.refl _) (a := o4) (argsL := [(.ref sa1)]) (rest := [(.ref o4)]) (lenOf pd_6 rfl) rfl (by show 2 * 0 + _ ≤ _; exact Nat.le_of_eq rfl) (hb hby at_35) (fun _ _ => ⟨rfl, e4, (by decide : 0 + 6 + 6 + 1 + 0 ≤ _), (by decide : 0 + 12 + 12 + 1 + 0 ≤ _)⟩)
    dsimp only [Pt.U, Pt.locs, Pt.cells, Pt.slots] at X5 l5 y5 z5 st5 hQ5
    subst l5 y5 z5
    obtain ⟨rfl, N5q, Kq5, Eq5, Fq5⟩ := hQ5
    have N5 := Fr.app N3 N5q
    have f5_0 : Exa Z T5.heap sa1 "java/lang/String" := (f4_0.keep Kq5)
    have f5_1 : Fld Z T5.heap sa1 "java/lang/String" "coder" "B" (.int (0 : Int32)) := (f4_1.keep Kq5 (ninS ne_sa1_o4 nin0))
    have f5_2 : Fld Z T5.heap sa1 "java/lang/String" "value" "[B" (.ref st_1) := (f4_2.keep Kq5 (ninS ne_sa1_o4 nin0))
    have f5_3 : Arv Z T5.heap st_1 kb1 .byte (Int32.ofNat (own_draw p1 p2).length) (((own_draw p1 p2).map (fun c => c.toInt8.toInt32)).map Value.int) (.int (0 : Int32)) := (f4_3.keep Kq5 (ninS ne_st_1_o4 nin0))
    have f5_4 : Exa Z T5.heap sa3 "java/lang/String" := (f4_4.keep Kq5)
    have f5_5 : Fld Z T5.heap sa3 "java/lang/String" "coder" "B" (.int (0 : Int32)) := (f4_5.keep Kq5 (ninS ne_sa3_o4 nin0))
    have f5_6 : Fld Z T5.heap sa3 "java/lang/String" "value" "[B" (.ref st_3) := (f4_6.keep Kq5 (ninS ne_sa3_o4 nin0))
    have f5_7 : Arv Z T5.heap st_3 kb3 .byte (Int32.ofNat (own_draw p3 p4).length) (((own_draw p3 p4).map (fun c => c.toInt8.toInt32)).map Value.int) (.int (0 : Int32)) := (f4_7.keep Kq5 (ninS ne_st_3_o4 nin0))
    have f5_8 : Exa Z T5.heap o4 "com/example/majority_lease/majoritylease/redis/Resp$ErrorReply" := Eq5
    have f5_9 : Fld Z T5.heap o4 "com/example/majority_lease/majoritylease/redis/Resp$ErrorReply" "message" "Ljava/lang/String;" (.ref sa1) := Fq5
    have sfk5 : ∀ x ∈ ([o4] : List Addr), Safe Z own_EL T3.vm h4 x := (sfS (Safe.exa hZ3.alike f4_8 (by decide) (by decide)) sf0)
    have hk5 : _ ≤ T5.heap.size := Nat.le_trans hk4 Kq5.1
    have C5 : CHr Z own_EL s.vm h0 T3.vm T5.heap := C4.trans (CHr.keep Kq5 sfk5 C4.1)
    have Zs5 : n0 ≤ T5.heap.size := (Nat.le_trans Zs4 Kq5.1)
    have O5 : Old Z n0 T5.heap := O4.keep Kq5 (allS ge_o4 all0)
    refine GoH.step (fun t_ k_ => st5.trans k_) ?_
    show GoH _ _ _ _ _ _ _ _ _ _ T5 (mkF m 38 #[.val (.int p1), .val (.int p2), .val (.int p3), .val (.int p4), .val (.int p5), .val (.ref sa1), .val (.ref sa3), .unset, .unset, .unset, .unset] [(.ref o4)])
    refine GoH.step (fun t_ k_ => XS.astore X5.here hx rfl (hb hby at_38) rfl rfl (l' := #[.val (.int p1), .val (.int p2), .val (.int p3), .val (.int p4), .val (.int p5), .val (.ref sa1), .val (.ref sa3), .val (.ref o4), .unset, .unset, .unset]) rfl k_) ?_
    show GoH _ _ _ _ _ _ _ _ _ _ T5 (mkF m 40 #[.val (.int p1), .val (.int p2), .val (.int p3), .val (.int p4), .val (.int p5), .val (.ref sa1), .val (.ref sa3), .val (.ref o4), .unset, .unset, .unset] [])
    refine GoH.step (fun t_ k_ => XS.iload X5.here hx rfl (hb hby at_40) rfl k_) ?_
    show GoH _ _ _ _ _ _ _ _ _ _ T5 (mkF m 42 #[.val (.int p1), .val (.int p2), .val (.int p3), .val (.int p4), .val (.int p5), .val (.ref sa1), .val (.ref sa3), .val (.ref o4), .unset, .unset, .unset] [(.int p5)])
    refine GoH.step (fun t_ k_ => XS.iconst X5.here hx rfl (hb hby at_42) k_) ?_
    show GoH _ _ _ _ _ _ _ _ _ _ T5 (mkF m 43 #[.val (.int p1), .val (.int p2), .val (.int p3), .val (.int p4), .val (.int p5), .val (.ref sa1), .val (.ref sa3), .val (.ref o4), .unset, .unset, .unset] [(.int (1 : Int32)), (.int p5)])
    refine GoH.step (fun t_ k_ => XT.iushr X5.here hx rfl (hb hby at_43) rfl k_) ?_
    show GoH _ _ _ _ _ _ _ _ _ _ T5 (mkF m 44 #[.val (.int p1), .val (.int p2), .val (.int p3), .val (.int p4), .val (.int p5), .val (.ref sa1), .val (.ref sa3), .val (.ref o4), .unset, .unset, .unset] [(.int (XT.ushr p5 (1 : Int32)))])
    refine GoH.step (fun t_ k_ => XS.iconst X5.here hx rfl (hb hby at_44) k_) ?_
    show GoH _ _ _ _ _ _ _ _ _ _ T5 (mkF m 45 #[.val (.int p1), .val (.int p2), .val (.int p3), .val (.int p4), .val (.int p5), .val (.ref sa1), .val (.ref sa3), .val (.ref o4), .unset, .unset, .unset] [(.int (3 : Int32)), (.int (XT.ushr p5 (1 : Int32)))])
    refine GoH.step (fun t_ k_ => XS.iand X5.here hx rfl (hb hby at_45) rfl k_) ?_
    show GoH _ _ _ _ _ _ _ _ _ _ T5 (mkF m 46 #[.val (.int p1), .val (.int p2), .val (.int p3), .val (.int p4), .val (.int p5), .val (.ref sa1), .val (.ref sa3), .val (.ref o4), .unset, .unset, .unset] [(.int ((XT.ushr p5 (1 : Int32)) &&& (3 : Int32)))])
    generalize hkd : ((XT.ushr p5 (1 : Int32)) &&& (3 : Int32)) = kd
    show GoH _ _ _ _ _ _ _ _ _ _ T5 (mkF m 46 #[.val (.int p1), .val (.int p2), .val (.int p3), .val (.int p4), .val (.int p5), .val (.ref sa1), .val (.ref sa3), .val (.ref o4), .unset, .unset, .unset] [(.int kd)])
    refine GoH.step (fun t_ k_ => XS.istore X5.here hx rfl (hb hby at_46) rfl (l' := #[.val (.int p1), .val (.int p2), .val (.int p3), .val (.int p4), .val (.int p5), .val (.ref sa1), .val (.ref sa3), .val (.ref o4), .val (.int kd), .unset, .unset]) rfl k_) ?_
    show GoH _ _ _ _ _ _ _ _ _ _ T5 (mkF m 48 #[.val (.int p1), .val (.int p2), .val (.int p3), .val (.int p4), .val (.int p5), .val (.ref sa1), .val (.ref sa3), .val (.ref o4), .val (.int kd), .unset, .unset] [])
    refine GoH.step (fun t_ k_ => XS.iload X5.here hx rfl (hb hby at_48) rfl k_) ?_
    show GoH _ _ _ _ _ _ _ _ _ _ T5 (mkF m 50 #[.val (.int p1), .val (.int p2), .val (.int p3), .val (.int p4), .val (.int p5), .val (.ref sa1), .val (.ref sa3), .val (.ref o4), .val (.int kd), .unset, .unset] [(.int kd)])
    by_cases hb50_6 : kd = (0 : Int32)
    · refine GoH.step (fun t_ k_ => XS.ifNo X5.here hx rfl (hb hby at_50) rfl (XT.i0_ne_f hb50_6) k_) ?_
      show GoH _ _ _ _ _ _ _ _ _ _ T5 (mkF m 53 #[.val (.int p1), .val (.int p2), .val (.int p3), .val (.int p4), .val (.int p5), .val (.ref sa1), .val (.ref sa3), .val (.ref o4), .val (.int kd), .unset, .unset] [])
      obtain ⟨T7, h7, X7, e7, E7, A7, D7, -, st7⟩ := newO X5 hx hZ3 hown3 (hw _ (List.mem_of_getElem? (i := 37) rfl)) (hw _ (List.mem_of_getElem? (i := 38) rfl)) (hw _ (List.mem_of_getElem? (i := 39) rfl)) rfl (g := (mkF m 53 #[.val (.int p1), .val (.int p2), .val (.int p3), .val (.int p4), .val (.int p5), .val (.ref sa1), .val (.ref sa3), .val (.ref o4), .val (.int kd), .unset, .unset] [])) rfl (hb hby at_53) (by decide) (by decide)
      obtain ⟨o7, g7⟩ : ∃ z, z = T5.heap.size := ⟨_, rfl⟩
      rw [← g7] at A7 D7 st7
      have ne_sa1_o7 : sa1 ≠ o7 := Nat.ne_of_lt (Nat.lt_of_lt_of_le f5_0.lt (Nat.le_of_eq g7.symm))
      have ne_st_1_o7 : st_1 ≠ o7 := Nat.ne_of_lt (Nat.lt_of_lt_of_le f5_3.lt (Nat.le_of_eq g7.symm))
      have ne_sa3_o7 : sa3 ≠ o7 := Nat.ne_of_lt (Nat.lt_of_lt_of_le f5_4.lt (Nat.le_of_eq g7.symm))
      have ne_st_3_o7 : st_3 ≠ o7 := Nat.ne_of_lt (Nat.lt_of_lt_of_le f5_7.lt (Nat.le_of_eq g7.symm))
      have ne_o4_o7 : o4 ≠ o7 := Nat.ne_of_lt (Nat.lt_of_lt_of_le f5_8.lt (Nat.le_of_eq g7.symm))
      have ge_o7 : n0 ≤ o7 := Nat.le_trans Zs5 (Nat.le_of_eq g7.symm)
      have f7_0 : Exa Z h7 sa1 "java/lang/String" := (f5_0.ext E7)
      have f7_1 : Fld Z h7 sa1 "java/lang/String" "coder" "B" (.int (0 : Int32)) := (f5_1.ext E7)
      have f7_2 : Fld Z h7 sa1 "java/lang/String" "value" "[B" (.ref st_1) := (f5_2.ext E7)
      have f7_3 : Arv Z h7 st_1 kb1 .byte (Int32.ofNat (own_draw p1 p2).length) (((own_draw p1 p2).map (fun c => c.toInt8.toInt32)).map Value.int) (.int (0 : Int32)) := (f5_3.ext E7)
      have f7_4 : Exa Z h7 sa3 "java/lang/String" := (f5_4.ext E7)
      have f7_5 : Fld Z h7 sa3 "java/lang/String" "coder" "B" (.int (0 : Int32)) := (f5_5.ext E7)
      have f7_6 : Fld Z h7 sa3 "java/lang/String" "value" "[B" (.ref st_3) := (f5_6.ext E7)
      have f7_7 : Arv Z h7 st_3 kb3 .byte (Int32.ofNat (own_draw p3 p4).length) (((own_draw p3 p4).map (fun c => c.toInt8.toInt32)).map Value.int) (.int (0 : Int32)) := (f5_7.ext E7)
      have f7_8 : Exa Z h7 o4 "com/example/majority_lease/majoritylease/redis/Resp$ErrorReply" := (f5_8.ext E7)
      have f7_9 : Fld Z h7 o4 "com/example/majority_lease/majoritylease/redis/Resp$ErrorReply" "message" "Ljava/lang/String;" (.ref sa1) := (f5_9.ext E7)
      have f7_10 : Exa Z h7 o7 "com/example/majority_lease/majoritylease/redis/Resp$ErrorReply" := A7
      have f7_11 : Fld Z h7 o7 "com/example/majority_lease/majoritylease/redis/Resp$ErrorReply" "message" "Ljava/lang/String;" .null := (D7 (Or.inr (hw _ (List.mem_of_getElem? (i := 45) rfl))) (ty := (.object "java/lang/String")) (by decide))
      have hk7 : _ ≤ h7.size := Nat.le_trans hk5 E7.1
      have C7 : CHr Z own_EL s.vm h0 T3.vm h7 := C5.trans (CHr.ext E7 C5.1)
      have Zs7 : n0 ≤ h7.size := (Nat.le_trans Zs5 E7.1)
      have O7 : Old Z n0 h7 := O5.ext E7
      refine GoH.step st7 ?_
      show GoH _ _ _ _ _ _ _ _ _ _ T7 (mkF m 56 #[.val (.int p1), .val (.int p2), .val (.int p3), .val (.int p4), .val (.int p5), .val (.ref sa1), .val (.ref sa3), .val (.ref o4), .val (.int kd), .unset, .unset] [(.ref o7)])
      refine GoH.step (fun t_ k_ => XS.dup X7.here hx rfl (hb hby at_56) rfl rfl k_) ?_
      show GoH _ _ _ _ _ _ _ _ _ _ T7 (mkF m 57 #[.val (.int p1), .val (.int p2), .val (.int p3), .val (.int p4), .val (.int p5), .val (.ref sa1), .val (.ref sa3), .val (.ref o4), .val (.int kd), .unset, .unset] [(.ref o7), (.ref o7)])
      refine GoH.step (fun t_ k_ => XS.aload X7.here hx rfl (hb hby at_57) rfl rfl k_) ?_
      show GoH _ _ _ _ _ _ _ _ _ _ T7 (mkF m 59 #[.val (.int p1), .val (.int p2), .val (.int p3), .val (.int p4), .val (.int p5), .val (.ref sa1), .val (.ref sa3), .val (.ref o4), .val (.int kd), .unset, .unset] [(.ref sa3), (.ref o7), (.ref o7)])
      obtain ⟨_, _, ⟨T8, L8, k8, n8⟩, -, X8, ⟨Lc8, hQ8, l8, y8, z8⟩, st8⟩ := X7.specialBack hx (y := (⟨"com/example/majority_lease/majoritylease/redis/Resp$ErrorReply", "<init>", "(Ljava/lang/String;)V"⟩ : MethodName)) rfl hown3 (mvT hZ3 (hw _ (List.mem_of_getElem? (i := 40) rfl))) (mvT hZ3 (hw _ (List.mem_of_getElem? (i := 41) rfl))) (mvT hZ3 (hw _ (List.mem_of_getElem? (i := 42) rfl))) (by decide) (backOf (W := 1) (rmEI l Z a0 hw [] o7 sa3 h7 n0 Zs7 ge_o7 f7_10 f7_11) hZ3 (hw _ (List.mem_of_getElem? (i := 42) rfl)) (hw _ (List.mem_of_getElem? (i := 39) rfl)) (by decide) (by decide)) (g := (mkF m 59 #[.val (.int p1), .val (.int p2), .val (.int p3), .val (.int p4), .val (.int p5), .val (.ref sa1), .val (.ref sa3), .val (.ref o4), .val (.int kd), .unset, .unset] [(.ref sa3), (.ref o7), (.ref o7)])) rfl (by rw [hml]; rfl) (Steps.refl _) (a := o7) (argsL := [(.ref sa3)]) (rest := [(.ref o7)]) (lenOf pd_6 rfl) rfl (by show 2 * 0 + _ ≤ _; exact Nat.le_of_eq rfl) (hb hby at_59) (fun _ _ => ⟨rfl, e7, (by decide : 0 + 6 + 6 + 1 + 0 + 1 + 0 ≤ _), (by decide : 0 + 12 + 12 + 1 + 0 + 1 + 0 ≤ _)⟩)
      dsimp only [Pt.U, Pt.locs, Pt.cells, Pt.slots] at X8 l8 y8 z8 st8 hQ8
      subst l8 y8 z8
      obtain ⟨rfl, N8q, Kq8, Eq8, Fq8⟩ := hQ8
      have N8 := Fr.app N5 N8q
      have f8_0 : Exa Z T8.heap sa1 "java/lang/String" := (f7_0.keep Kq8)
      have f8_1 : Fld Z T8.heap sa1 "java/lang/String" "coder" "B" (.int (0 : Int32)) := (f7_1.keep Kq8 (ninS ne_sa1_o7 nin0))
      have f8_2 : Fld Z T8.heap sa1 "java/lang/String" "value" "[B" (.ref st_1) := (f7_2.keep Kq8 (ninS ne_sa1_o7 nin0))
      have f8_3 : Arv Z T8.heap st_1 kb1 .byte (Int32.ofNat (own_draw p1 p2).length) (((own_draw p1 p2).map (fun c => c.toInt8.toInt32)).map Value.int) (.int (0 : Int32)) := (f7_3.keep Kq8 (ninS ne_st_1_o7 nin0))
      have f8_4 : Exa Z T8.heap sa3 "java/lang/String" := (f7_4.keep Kq8)
      have f8_5 : Fld Z T8.heap sa3 "java/lang/String" "coder" "B" (.int (0 : Int32)) := (f7_5.keep Kq8 (ninS ne_sa3_o7 nin0))
      have f8_6 : Fld Z T8.heap sa3 "java/lang/String" "value" "[B" (.ref st_3) := (f7_6.keep Kq8 (ninS ne_sa3_o7 nin0))
      have f8_7 : Arv Z T8.heap st_3 kb3 .byte (Int32.ofNat (own_draw p3 p4).length) (((own_draw p3 p4).map (fun c => c.toInt8.toInt32)).map Value.int) (.int (0 : Int32)) := (f7_7.keep Kq8 (ninS ne_st_3_o7 nin0))
      have f8_8 : Exa Z T8.heap o4 "com/example/majority_lease/majoritylease/redis/Resp$ErrorReply" := (f7_8.keep Kq8)
      have f8_9 : Fld Z T8.heap o4 "com/example/majority_lease/majoritylease/redis/Resp$ErrorReply" "message" "Ljava/lang/String;" (.ref sa1) := (f7_9.keep Kq8 (ninS ne_o4_o7 nin0))
      have f8_10 : Exa Z T8.heap o7 "com/example/majority_lease/majoritylease/redis/Resp$ErrorReply" := Eq8
      have f8_11 : Fld Z T8.heap o7 "com/example/majority_lease/majoritylease/redis/Resp$ErrorReply" "message" "Ljava/lang/String;" (.ref sa3) := Fq8
      have sfk8 : ∀ x ∈ ([o7] : List Addr), Safe Z own_EL T3.vm h7 x := (sfS (Safe.exa hZ3.alike f7_10 (by decide) (by decide)) sf0)
      have hk8 : _ ≤ T8.heap.size := Nat.le_trans hk7 Kq8.1
      have C8 : CHr Z own_EL s.vm h0 T3.vm T8.heap := C7.trans (CHr.keep Kq8 sfk8 C7.1)
      have Zs8 : n0 ≤ T8.heap.size := (Nat.le_trans Zs7 Kq8.1)
      have O8 : Old Z n0 T8.heap := O7.keep Kq8 (allS ge_o7 all0)
      refine GoH.step (fun t_ k_ => st8.trans k_) ?_
      show GoH _ _ _ _ _ _ _ _ _ _ T8 (mkF m 62 #[.val (.int p1), .val (.int p2), .val (.int p3), .val (.int p4), .val (.int p5), .val (.ref sa1), .val (.ref sa3), .val (.ref o4), .val (.int kd), .unset, .unset] [(.ref o7)])
      refine GoH.step (fun t_ k_ => XS.astore X8.here hx rfl (hb hby at_62) rfl rfl (l' := #[.val (.int p1), .val (.int p2), .val (.int p3), .val (.int p4), .val (.int p5), .val (.ref sa1), .val (.ref sa3), .val (.ref o4), .val (.int kd), .val (.ref o7), .unset]) rfl k_) ?_
      show GoH _ _ _ _ _ _ _ _ _ _ T8 (mkF m 64 #[.val (.int p1), .val (.int p2), .val (.int p3), .val (.int p4), .val (.int p5), .val (.ref sa1), .val (.ref sa3), .val (.ref o4), .val (.int kd), .val (.ref o7), .unset] [])
      refine GoH.step (fun t_ k_ => XS.aload X8.here hx rfl (hb hby at_64) rfl rfl k_) ?_
      show GoH _ _ _ _ _ _ _ _ _ _ T8 (mkF m 66 #[.val (.int p1), .val (.int p2), .val (.int p3), .val (.int p4), .val (.int p5), .val (.ref sa1), .val (.ref sa3), .val (.ref o4), .val (.int kd), .val (.ref o7), .unset] [(.ref sa1)])
      refine GoH.step (fun t_ k_ => XS.aload X8.here hx rfl (hb hby at_66) rfl rfl k_) ?_
      show GoH _ _ _ _ _ _ _ _ _ _ T8 (mkF m 68 #[.val (.int p1), .val (.int p2), .val (.int p3), .val (.int p4), .val (.int p5), .val (.ref sa1), .val (.ref sa3), .val (.ref o4), .val (.int kd), .val (.ref o7), .unset] [(.ref sa3), (.ref sa1)])
      obtain ⟨_, _, ⟨T9, L9, k9, n9⟩, -, X9, ⟨Lc9, hQ9, l9, y9, z9⟩, st9⟩ := Jvm.LawKit.callS X8 hx (y := (⟨"com/example/majority_lease/majoritylease/redis/ErrorReplyEqualsPinLaw", "sameText", "(Ljava/lang/String;Ljava/lang/String;)Z"⟩ : MethodName)) hown3 (mvT hZ3 (hw _ (List.mem_of_getElem? (i := 46) rfl))) (mvT hZ3 (hw _ (List.mem_of_getElem? (i := 47) rfl))) (mvT hZ3 (hw _ (List.mem_of_getElem? (i := 2) rfl))) (mvT hZ3 (hw _ (List.mem_of_getElem? (i := 48) rfl))) (by decide) (backOf (W := 0) (rmST l Z a0 hw [] sa1 sa3 G1 G3 st_1 kb1 (own_draw p1 p2) st_3 kb3 (own_draw p3 p4) T8.heap n0 Zs8 O8 S_COMPACT P_COMPACT S_SIOOBE r_SIOOBE f8_0 f8_2 f8_1 f8_3 (own_draw_ok p1 p2) (own_draw_le p1 p2) f8_4 f8_6 f8_5 f8_7 (own_draw_ok p3 p4) (own_draw_le p3 p4)) hZ3 (hw _ (List.mem_of_getElem? (i := 48) rfl)) (hw _ (List.mem_of_getElem? (i := 2) rfl)) (by decide) (by decide)) (g := (mkF m 68 #[.val (.int p1), .val (.int p2), .val (.int p3), .val (.int p4), .val (.int p5), .val (.ref sa1), .val (.ref sa3), .val (.ref o4), .val (.int kd), .val (.ref o7), .unset] [(.ref sa3), (.ref sa1)])) rfl (by rw [hml]; rfl) (argsL := [(.ref sa1), (.ref sa3)]) (rest := []) (lenOf pd_7 rfl) rfl (by show 2 * 0 + _ ≤ _; exact Nat.le_of_eq rfl) (hb hby at_68) (fun _ _ => ⟨rfl, rfl, (by decide : 0 + 6 + 6 + 1 + 0 + 1 + 0 + 0 ≤ _), (by decide : 0 + 12 + 12 + 1 + 0 + 1 + 0 + 0 ≤ _)⟩)
      dsimp only [Pt.U, Pt.locs, Pt.cells, Pt.slots] at X9 l9 y9 z9 st9 hQ9
      subst l9 y9 z9
      obtain ⟨rfl, N9q, e9⟩ := hQ9
      have N9 := Fr.app N8 N9q
      refine GoH.step st9 ?_
      show GoH _ _ _ _ _ _ _ _ _ _ T9 (mkF m 71 #[.val (.int p1), .val (.int p2), .val (.int p3), .val (.int p4), .val (.int p5), .val (.ref sa1), .val (.ref sa3), .val (.ref o4), .val (.int kd), .val (.ref o7), .unset] [(.int (own_same (own_draw p1 p2) (own_draw p3 p4)))])
      refine GoH.step (fun t_ k_ => XS.istore X9.here hx rfl (hb hby at_71) rfl (l' := #[.val (.int p1), .val (.int p2), .val (.int p3), .val (.int p4), .val (.int p5), .val (.ref sa1), .val (.ref sa3), .val (.ref o4), .val (.int kd), .val (.ref o7), .val (.int (own_same (own_draw p1 p2) (own_draw p3 p4)))]) rfl k_) ?_
      show GoH _ _ _ _ _ _ _ _ _ _ T9 (mkF m 73 #[.val (.int p1), .val (.int p2), .val (.int p3), .val (.int p4), .val (.int p5), .val (.ref sa1), .val (.ref sa3), .val (.ref o4), .val (.int kd), .val (.ref o7), .val (.int (own_same (own_draw p1 p2) (own_draw p3 p4)))] [])
      refine GoH.step (fun t_ k_ => XS.aload X9.here hx rfl (hb hby at_73) rfl rfl k_) ?_
      show GoH _ _ _ _ _ _ _ _ _ _ T9 (mkF m 75 #[.val (.int p1), .val (.int p2), .val (.int p3), .val (.int p4), .val (.int p5), .val (.ref sa1), .val (.ref sa3), .val (.ref o4), .val (.int kd), .val (.ref o7), .val (.int (own_same (own_draw p1 p2) (own_draw p3 p4)))] [(.ref o4)])
      refine GoH.step (fun t_ k_ => XS.aload X9.here hx rfl (hb hby at_75) rfl rfl k_) ?_
      show GoH _ _ _ _ _ _ _ _ _ _ T9 (mkF m 77 #[.val (.int p1), .val (.int p2), .val (.int p3), .val (.int p4), .val (.int p5), .val (.ref sa1), .val (.ref sa3), .val (.ref o4), .val (.int kd), .val (.ref o7), .val (.int (own_same (own_draw p1 p2) (own_draw p3 p4)))] [(.ref o7), (.ref o4)])
      obtain ⟨cq10, kq10, qa10, qb10, qc10⟩ := isOf hZ3 (e9) f8_8
      obtain ⟨_, _, ⟨T10, L10, k10, n10⟩, -, X10, ⟨Lc10, hQ10, l10, y10, z10⟩, st10⟩ := X9.virtualBack hx (y := (⟨"com/example/majority_lease/majoritylease/redis/Resp$ErrorReply", "equals", "(Ljava/lang/Object;)Z"⟩ : MethodName)) (z := (⟨"com/example/majority_lease/majoritylease/redis/Resp$ErrorReply", "equals", "(Ljava/lang/Object;)Z"⟩ : MethodName)) hown3 (mvT hZ3 (hw _ (List.mem_of_getElem? (i := 59) rfl))) (mvT hZ3 (hw _ (List.mem_of_getElem? (i := 60) rfl))) (notFace_of_selects (args := #[]) (mvT hZ3 (hw _ (List.mem_of_getElem? (i := 62) rfl)))) (mvT hZ3 (hw _ (List.mem_of_getElem? (i := 62) rfl))) (mvT hZ3 (hw _ (List.mem_of_getElem? (i := 61) rfl))) (by decide) (backOf (W := 0) (rmEQ l Z a0 hw [] o4 o7 sa1 sa3 G1 st_1 kb1 (own_draw p1 p2) st_3 kb3 (own_draw p3 p4) T8.heap n0 Zs8 O8 S_COMPACT P_COMPACT f8_10 f8_9 f8_11 f8_0 f8_2 f8_1 f8_3 (own_draw_ok p1 p2) (own_draw_le p1 p2) f8_4 f8_6 f8_5 f8_7 (own_draw_ok p3 p4) (own_draw_le p3 p4)) hZ3 (hw _ (List.mem_of_getElem? (i := 63) rfl)) (hw _ (List.mem_of_getElem? (i := 39) rfl)) (by decide) (by decide)) qa10 qc10 (g := (mkF m 77 #[.val (.int p1), .val (.int p2), .val (.int p3), .val (.int p4), .val (.int p5), .val (.ref sa1), .val (.ref sa3), .val (.ref o4), .val (.int kd), .val (.ref o7), .val (.int (own_same (own_draw p1 p2) (own_draw p3 p4)))] [(.ref o7), (.ref o4)])) rfl (by rw [hml]; rfl) (Steps.refl _) (argsL := [(.ref o7)]) (rest := []) (lenOf pd_4 rfl) rfl (by show 2 * 0 + _ ≤ _; exact Nat.le_of_eq rfl) (hb hby at_77) (fun _ _ => ⟨rfl, (e9), (by decide : 0 + 6 + 6 + 1 + 0 + 1 + 0 + 0 + 0 ≤ _), (by decide : 0 + 12 + 12 + 1 + 0 + 1 + 0 + 0 + 0 ≤ _)⟩)
      dsimp only [Pt.U, Pt.locs, Pt.cells, Pt.slots] at X10 l10 y10 z10 st10 hQ10
      subst l10 y10 z10
      obtain ⟨rfl, N10q, e10⟩ := hQ10
      have N10 := Fr.app N9 N10q
      refine GoH.step (fun t_ k_ => st10.trans k_) ?_
      show GoH _ _ _ _ _ _ _ _ _ _ T10 (mkF m 80 #[.val (.int p1), .val (.int p2), .val (.int p3), .val (.int p4), .val (.int p5), .val (.ref sa1), .val (.ref sa3), .val (.ref o4), .val (.int kd), .val (.ref o7), .val (.int (own_same (own_draw p1 p2) (own_draw p3 p4)))] [(.int (own_same (own_draw p3 p4) (own_draw p1 p2)))])
      refine GoH.step (fun t_ k_ => XS.iload X10.here hx rfl (hb hby at_80) rfl k_) ?_
      show GoH _ _ _ _ _ _ _ _ _ _ T10 (mkF m 82 #[.val (.int p1), .val (.int p2), .val (.int p3), .val (.int p4), .val (.int p5), .val (.ref sa1), .val (.ref sa3), .val (.ref o4), .val (.int kd), .val (.ref o7), .val (.int (own_same (own_draw p1 p2) (own_draw p3 p4)))] [(.int (own_same (own_draw p1 p2) (own_draw p3 p4))), (.int (own_same (own_draw p3 p4) (own_draw p1 p2)))])
      have hb82_11 : (own_same (own_draw p3 p4) (own_draw p1 p2)) = (own_same (own_draw p1 p2) (own_draw p3 p4)) := by exact own_same_comm _ _
      refine GoH.step (fun t_ k_ => XS.icmpNo X10.here hx rfl (hb hby at_82) rfl (XT.ii_ne_f hb82_11) k_) ?_
      show GoH _ _ _ _ _ _ _ _ _ _ T10 (mkF m 85 #[.val (.int p1), .val (.int p2), .val (.int p3), .val (.int p4), .val (.int p5), .val (.ref sa1), .val (.ref sa3), .val (.ref o4), .val (.int kd), .val (.ref o7), .val (.int (own_same (own_draw p1 p2) (own_draw p3 p4)))] [])
      refine GoH.step (fun t_ k_ => XS.aload X10.here hx rfl (hb hby at_85) rfl rfl k_) ?_
      show GoH _ _ _ _ _ _ _ _ _ _ T10 (mkF m 87 #[.val (.int p1), .val (.int p2), .val (.int p3), .val (.int p4), .val (.int p5), .val (.ref sa1), .val (.ref sa3), .val (.ref o4), .val (.int kd), .val (.ref o7), .val (.int (own_same (own_draw p1 p2) (own_draw p3 p4)))] [(.ref o7)])
      refine GoH.step (fun t_ k_ => XS.aload X10.here hx rfl (hb hby at_87) rfl rfl k_) ?_
      show GoH _ _ _ _ _ _ _ _ _ _ T10 (mkF m 89 #[.val (.int p1), .val (.int p2), .val (.int p3), .val (.int p4), .val (.int p5), .val (.ref sa1), .val (.ref sa3), .val (.ref o4), .val (.int kd), .val (.ref o7), .val (.int (own_same (own_draw p1 p2) (own_draw p3 p4)))] [(.ref o4), (.ref o7)])
      obtain ⟨cq12, kq12, qa12, qb12, qc12⟩ := isOf hZ3 (e10) f8_10
      obtain ⟨_, _, ⟨T12, L12, k12, n12⟩, -, X12, ⟨Lc12, hQ12, l12, y12, z12⟩, st12⟩ := X10.virtualBack hx (y := (⟨"com/example/majority_lease/majoritylease/redis/Resp$ErrorReply", "equals", "(Ljava/lang/Object;)Z"⟩ : MethodName)) (z := (⟨"com/example/majority_lease/majoritylease/redis/Resp$ErrorReply", "equals", "(Ljava/lang/Object;)Z"⟩ : MethodName)) hown3 (mvT hZ3 (hw _ (List.mem_of_getElem? (i := 59) rfl))) (mvT hZ3 (hw _ (List.mem_of_getElem? (i := 60) rfl))) (notFace_of_selects (args := #[]) (mvT hZ3 (hw _ (List.mem_of_getElem? (i := 62) rfl)))) (mvT hZ3 (hw _ (List.mem_of_getElem? (i := 62) rfl))) (mvT hZ3 (hw _ (List.mem_of_getElem? (i := 61) rfl))) (by decide) (backOf (W := 0) (rmEQ l Z a0 hw [] o7 o4 sa3 sa1 G1 st_3 kb3 (own_draw p3 p4) st_1 kb1 (own_draw p1 p2) T8.heap n0 Zs8 O8 S_COMPACT P_COMPACT f8_8 f8_11 f8_9 f8_4 f8_6 f8_5 f8_7 (own_draw_ok p3 p4) (own_draw_le p3 p4) f8_0 f8_2 f8_1 f8_3 (own_draw_ok p1 p2) (own_draw_le p1 p2)) hZ3 (hw _ (List.mem_of_getElem? (i := 63) rfl)) (hw _ (List.mem_of_getElem? (i := 39) rfl)) (by decide) (by decide)) qa12 qc12 (g := (mkF m 89 #[.val (.int p1), .val (.int p2), .val (.int p3), .val (.int p4), .val (.int p5), .val (.ref sa1), .val (.ref sa3), .val (.ref o4), .val (.int kd), .val (.ref o7), .val (.int (own_same (own_draw p1 p2) (own_draw p3 p4)))] [(.ref o4), (.ref o7)])) rfl (by rw [hml]; rfl) (Steps.refl _) (argsL := [(.ref o4)]) (rest := []) (lenOf pd_4 rfl) rfl (by show 2 * 0 + _ ≤ _; exact Nat.le_of_eq rfl) (hb hby at_89) (fun _ _ => ⟨rfl, (e10), (by decide : 0 + 6 + 6 + 1 + 0 + 1 + 0 + 0 + 0 + 0 ≤ _), (by decide : 0 + 12 + 12 + 1 + 0 + 1 + 0 + 0 + 0 + 0 ≤ _)⟩)
      dsimp only [Pt.U, Pt.locs, Pt.cells, Pt.slots] at X12 l12 y12 z12 st12 hQ12
      subst l12 y12 z12
      obtain ⟨rfl, N12q, e12⟩ := hQ12
      have N12 := Fr.app N10 N12q
      refine GoH.step (fun t_ k_ => st12.trans k_) ?_
      show GoH _ _ _ _ _ _ _ _ _ _ T12 (mkF m 92 #[.val (.int p1), .val (.int p2), .val (.int p3), .val (.int p4), .val (.int p5), .val (.ref sa1), .val (.ref sa3), .val (.ref o4), .val (.int kd), .val (.ref o7), .val (.int (own_same (own_draw p1 p2) (own_draw p3 p4)))] [(.int (own_same (own_draw p1 p2) (own_draw p3 p4)))])
      refine GoH.step (fun t_ k_ => XS.iload X12.here hx rfl (hb hby at_92) rfl k_) ?_
      show GoH _ _ _ _ _ _ _ _ _ _ T12 (mkF m 94 #[.val (.int p1), .val (.int p2), .val (.int p3), .val (.int p4), .val (.int p5), .val (.ref sa1), .val (.ref sa3), .val (.ref o4), .val (.int kd), .val (.ref o7), .val (.int (own_same (own_draw p1 p2) (own_draw p3 p4)))] [(.int (own_same (own_draw p1 p2) (own_draw p3 p4))), (.int (own_same (own_draw p1 p2) (own_draw p3 p4)))])
      have hb94_13 : (own_same (own_draw p1 p2) (own_draw p3 p4)) = (own_same (own_draw p1 p2) (own_draw p3 p4)) := by rfl
      refine GoH.step (fun t_ k_ => XS.icmpNo X12.here hx rfl (hb hby at_94) rfl (XT.ii_ne_f hb94_13) k_) ?_
      show GoH _ _ _ _ _ _ _ _ _ _ T12 (mkF m 97 #[.val (.int p1), .val (.int p2), .val (.int p3), .val (.int p4), .val (.int p5), .val (.ref sa1), .val (.ref sa3), .val (.ref o4), .val (.int kd), .val (.ref o7), .val (.int (own_same (own_draw p1 p2) (own_draw p3 p4)))] [])
      refine GoH.step (fun t_ k_ => XS.iconst X12.here hx rfl (hb hby at_97) k_) ?_
      show GoH _ _ _ _ _ _ _ _ _ _ T12 (mkF m 98 #[.val (.int p1), .val (.int p2), .val (.int p3), .val (.int p4), .val (.int p5), .val (.ref sa1), .val (.ref sa3), .val (.ref o4), .val (.int kd), .val (.ref o7), .val (.int (own_same (own_draw p1 p2) (own_draw p3 p4)))] [(.int (1 : Int32))])
      refine GoH.step (fun t_ k_ => XS.goto X12.here hx rfl (pc0 := 98) (pc' := 102) rfl (hb hby at_98) (by decide) (by decide) k_) ?_
      show GoH _ _ _ _ _ _ _ _ _ _ T12 (mkF m 102 #[.val (.int p1), .val (.int p2), .val (.int p3), .val (.int p4), .val (.int p5), .val (.ref sa1), .val (.ref sa3), .val (.ref o4), .val (.int kd), .val (.ref o7), .val (.int (own_same (own_draw p1 p2) (own_draw p3 p4)))] [(.int (1 : Int32))])
      have hkr : T3.heap.size ≤ T12.heap.size := by rw [(e12)]; exact hk8
      have hCr : CHr Z own_EL s.vm h0 T3.vm T12.heap := by rw [(e12)]; exact C8
      refine GoH.ret X12 hx hlk hS3 hkr hZ3 hEL hCr hret rfl (Or.inl ⟨rfl, Or.inr (Or.inl rfl), _, rfl⟩) (hb hby at_102) ?_ (by decide) (by decide)
      show Q0 Z _ _ _ _ _ _ _ _ _ _ T12.heap _
      exact ⟨rfl, N12⟩
    · refine GoH.step (fun t_ k_ => XS.ifYes X5.here hx rfl (pc0 := 50) (pc' := 103) rfl (hb hby at_50) rfl (XT.i0_ne_t hb50_6) (by decide) (by decide) k_) ?_
      show GoH _ _ _ _ _ _ _ _ _ _ T5 (mkF m 103 #[.val (.int p1), .val (.int p2), .val (.int p3), .val (.int p4), .val (.int p5), .val (.ref sa1), .val (.ref sa3), .val (.ref o4), .val (.int kd), .unset, .unset] [])
      refine GoH.step (fun t_ k_ => XS.iload X5.here hx rfl (hb hby at_103) rfl k_) ?_
      show GoH _ _ _ _ _ _ _ _ _ _ T5 (mkF m 105 #[.val (.int p1), .val (.int p2), .val (.int p3), .val (.int p4), .val (.int p5), .val (.ref sa1), .val (.ref sa3), .val (.ref o4), .val (.int kd), .unset, .unset] [(.int kd)])
      refine GoH.step (fun t_ k_ => XS.iconst X5.here hx rfl (hb hby at_105) k_) ?_
      show GoH _ _ _ _ _ _ _ _ _ _ T5 (mkF m 106 #[.val (.int p1), .val (.int p2), .val (.int p3), .val (.int p4), .val (.int p5), .val (.ref sa1), .val (.ref sa3), .val (.ref o4), .val (.int kd), .unset, .unset] [(.int (1 : Int32)), (.int kd)])
      by_cases hb106_14 : kd = (1 : Int32)
      · refine GoH.step (fun t_ k_ => XS.icmpNo X5.here hx rfl (hb hby at_106) rfl (XT.ii_ne_f hb106_14) k_) ?_
        show GoH _ _ _ _ _ _ _ _ _ _ T5 (mkF m 109 #[.val (.int p1), .val (.int p2), .val (.int p3), .val (.int p4), .val (.int p5), .val (.ref sa1), .val (.ref sa3), .val (.ref o4), .val (.int kd), .unset, .unset] [])
        refine GoH.step (fun t_ k_ => XS.aconstNull X5.here hx rfl (hb hby at_109) k_) ?_
        show GoH _ _ _ _ _ _ _ _ _ _ T5 (mkF m 110 #[.val (.int p1), .val (.int p2), .val (.int p3), .val (.int p4), .val (.int p5), .val (.ref sa1), .val (.ref sa3), .val (.ref o4), .val (.int kd), .unset, .unset] [.null])
        refine GoH.step (fun t_ k_ => XS.astore X5.here hx rfl (hb hby at_110) rfl rfl (l' := #[.val (.int p1), .val (.int p2), .val (.int p3), .val (.int p4), .val (.int p5), .val (.ref sa1), .val (.ref sa3), .val (.ref o4), .val (.int kd), .val .null, .unset]) rfl k_) ?_
        show GoH _ _ _ _ _ _ _ _ _ _ T5 (mkF m 112 #[.val (.int p1), .val (.int p2), .val (.int p3), .val (.int p4), .val (.int p5), .val (.ref sa1), .val (.ref sa3), .val (.ref o4), .val (.int kd), .val .null, .unset] [])
        refine GoH.step (fun t_ k_ => XS.aload X5.here hx rfl (hb hby at_112) rfl rfl k_) ?_
        show GoH _ _ _ _ _ _ _ _ _ _ T5 (mkF m 114 #[.val (.int p1), .val (.int p2), .val (.int p3), .val (.int p4), .val (.int p5), .val (.ref sa1), .val (.ref sa3), .val (.ref o4), .val (.int kd), .val .null, .unset] [(.ref o4)])
        refine GoH.step (fun t_ k_ => XS.aload X5.here hx rfl (hb hby at_114) rfl rfl k_) ?_
        show GoH _ _ _ _ _ _ _ _ _ _ T5 (mkF m 116 #[.val (.int p1), .val (.int p2), .val (.int p3), .val (.int p4), .val (.int p5), .val (.ref sa1), .val (.ref sa3), .val (.ref o4), .val (.int kd), .val .null, .unset] [.null, (.ref o4)])
        obtain ⟨cq15, kq15, qa15, qb15, qc15⟩ := isOf hZ3 rfl f5_8
        obtain ⟨_, _, ⟨T15, L15, k15, n15⟩, -, X15, ⟨Lc15, hQ15, l15, y15, z15⟩, st15⟩ := X5.virtualBack hx (y := (⟨"com/example/majority_lease/majoritylease/redis/Resp$ErrorReply", "equals", "(Ljava/lang/Object;)Z"⟩ : MethodName)) (z := (⟨"com/example/majority_lease/majoritylease/redis/Resp$ErrorReply", "equals", "(Ljava/lang/Object;)Z"⟩ : MethodName)) hown3 (mvT hZ3 (hw _ (List.mem_of_getElem? (i := 59) rfl))) (mvT hZ3 (hw _ (List.mem_of_getElem? (i := 60) rfl))) (notFace_of_selects (args := #[]) (mvT hZ3 (hw _ (List.mem_of_getElem? (i := 62) rfl)))) (mvT hZ3 (hw _ (List.mem_of_getElem? (i := 62) rfl))) (mvT hZ3 (hw _ (List.mem_of_getElem? (i := 61) rfl))) (by decide) (backOf (W := 0) (rmEQn l Z a0 hw [] o4 T5.heap n0 Zs5 ) hZ3 (hw _ (List.mem_of_getElem? (i := 63) rfl)) (hw _ (List.mem_of_getElem? (i := 39) rfl)) (by decide) (by decide)) qa15 qc15 (g := (mkF m 116 #[.val (.int p1), .val (.int p2), .val (.int p3), .val (.int p4), .val (.int p5), .val (.ref sa1), .val (.ref sa3), .val (.ref o4), .val (.int kd), .val .null, .unset] [.null, (.ref o4)])) rfl (by rw [hml]; rfl) (Steps.refl _) (argsL := [.null]) (rest := []) (lenOf pd_4 rfl) rfl (by show 2 * 0 + _ ≤ _; exact Nat.le_of_eq rfl) (hb hby at_116) (fun _ _ => ⟨rfl, rfl, (by decide : 0 + 6 + 6 + 1 + 0 + 0 ≤ _), (by decide : 0 + 12 + 12 + 1 + 0 + 0 ≤ _)⟩)
        dsimp only [Pt.U, Pt.locs, Pt.cells, Pt.slots] at X15 l15 y15 z15 st15 hQ15
        subst l15 y15 z15
        obtain ⟨rfl, N15q, e15⟩ := hQ15
        have N15 := Fr.app N5 N15q
        refine GoH.step (fun t_ k_ => st15.trans k_) ?_
        show GoH _ _ _ _ _ _ _ _ _ _ T15 (mkF m 119 #[.val (.int p1), .val (.int p2), .val (.int p3), .val (.int p4), .val (.int p5), .val (.ref sa1), .val (.ref sa3), .val (.ref o4), .val (.int kd), .val .null, .unset] [(.int (0 : Int32))])
        have hb119_16 : (0 : Int32) = (0 : Int32) := by decide
        refine GoH.step (fun t_ k_ => XS.ifNo X15.here hx rfl (hb hby at_119) rfl (XT.i0_ne_f hb119_16) k_) ?_
        show GoH _ _ _ _ _ _ _ _ _ _ T15 (mkF m 122 #[.val (.int p1), .val (.int p2), .val (.int p3), .val (.int p4), .val (.int p5), .val (.ref sa1), .val (.ref sa3), .val (.ref o4), .val (.int kd), .val .null, .unset] [])
        refine GoH.step (fun t_ k_ => XS.iconst X15.here hx rfl (hb hby at_122) k_) ?_
        show GoH _ _ _ _ _ _ _ _ _ _ T15 (mkF m 123 #[.val (.int p1), .val (.int p2), .val (.int p3), .val (.int p4), .val (.int p5), .val (.ref sa1), .val (.ref sa3), .val (.ref o4), .val (.int kd), .val .null, .unset] [(.int (1 : Int32))])
        refine GoH.step (fun t_ k_ => XS.goto X15.here hx rfl (pc0 := 123) (pc' := 127) rfl (hb hby at_123) (by decide) (by decide) k_) ?_
        show GoH _ _ _ _ _ _ _ _ _ _ T15 (mkF m 127 #[.val (.int p1), .val (.int p2), .val (.int p3), .val (.int p4), .val (.int p5), .val (.ref sa1), .val (.ref sa3), .val (.ref o4), .val (.int kd), .val .null, .unset] [(.int (1 : Int32))])
        have hkr : T3.heap.size ≤ T15.heap.size := by rw [(e15)]; exact hk5
        have hCr : CHr Z own_EL s.vm h0 T3.vm T15.heap := by rw [(e15)]; exact C5
        refine GoH.ret X15 hx hlk hS3 hkr hZ3 hEL hCr hret rfl (Or.inl ⟨rfl, Or.inr (Or.inl rfl), _, rfl⟩) (hb hby at_127) ?_ (by decide) (by decide)
        show Q0 Z _ _ _ _ _ _ _ _ _ _ T15.heap _
        exact ⟨rfl, N15⟩
      · refine GoH.step (fun t_ k_ => XS.icmpYes X5.here hx rfl (pc0 := 106) (pc' := 128) rfl (hb hby at_106) rfl (XT.ii_ne_t hb106_14) (by decide) (by decide) k_) ?_
        show GoH _ _ _ _ _ _ _ _ _ _ T5 (mkF m 128 #[.val (.int p1), .val (.int p2), .val (.int p3), .val (.int p4), .val (.int p5), .val (.ref sa1), .val (.ref sa3), .val (.ref o4), .val (.int kd), .unset, .unset] [])
        refine GoH.step (fun t_ k_ => XS.iload X5.here hx rfl (hb hby at_128) rfl k_) ?_
        show GoH _ _ _ _ _ _ _ _ _ _ T5 (mkF m 130 #[.val (.int p1), .val (.int p2), .val (.int p3), .val (.int p4), .val (.int p5), .val (.ref sa1), .val (.ref sa3), .val (.ref o4), .val (.int kd), .unset, .unset] [(.int kd)])
        refine GoH.step (fun t_ k_ => XS.iconst X5.here hx rfl (hb hby at_130) k_) ?_
        show GoH _ _ _ _ _ _ _ _ _ _ T5 (mkF m 131 #[.val (.int p1), .val (.int p2), .val (.int p3), .val (.int p4), .val (.int p5), .val (.ref sa1), .val (.ref sa3), .val (.ref o4), .val (.int kd), .unset, .unset] [(.int (2 : Int32)), (.int kd)])
        by_cases hb131_17 : kd = (2 : Int32)
        · refine GoH.step (fun t_ k_ => XS.icmpNo X5.here hx rfl (hb hby at_131) rfl (XT.ii_ne_f hb131_17) k_) ?_
          show GoH _ _ _ _ _ _ _ _ _ _ T5 (mkF m 134 #[.val (.int p1), .val (.int p2), .val (.int p3), .val (.int p4), .val (.int p5), .val (.ref sa1), .val (.ref sa3), .val (.ref o4), .val (.int kd), .unset, .unset] [])
          refine GoH.step (fun t_ k_ => XS.aload X5.here hx rfl (hb hby at_134) rfl rfl k_) ?_
          show GoH _ _ _ _ _ _ _ _ _ _ T5 (mkF m 136 #[.val (.int p1), .val (.int p2), .val (.int p3), .val (.int p4), .val (.int p5), .val (.ref sa1), .val (.ref sa3), .val (.ref o4), .val (.int kd), .unset, .unset] [(.ref sa1)])
          refine GoH.step (fun t_ k_ => XS.astore X5.here hx rfl (hb hby at_136) rfl rfl (l' := #[.val (.int p1), .val (.int p2), .val (.int p3), .val (.int p4), .val (.int p5), .val (.ref sa1), .val (.ref sa3), .val (.ref o4), .val (.int kd), .val (.ref sa1), .unset]) rfl k_) ?_
          show GoH _ _ _ _ _ _ _ _ _ _ T5 (mkF m 138 #[.val (.int p1), .val (.int p2), .val (.int p3), .val (.int p4), .val (.int p5), .val (.ref sa1), .val (.ref sa3), .val (.ref o4), .val (.int kd), .val (.ref sa1), .unset] [])
          refine GoH.step (fun t_ k_ => XS.aload X5.here hx rfl (hb hby at_138) rfl rfl k_) ?_
          show GoH _ _ _ _ _ _ _ _ _ _ T5 (mkF m 140 #[.val (.int p1), .val (.int p2), .val (.int p3), .val (.int p4), .val (.int p5), .val (.ref sa1), .val (.ref sa3), .val (.ref o4), .val (.int kd), .val (.ref sa1), .unset] [(.ref o4)])
          refine GoH.step (fun t_ k_ => XS.aload X5.here hx rfl (hb hby at_140) rfl rfl k_) ?_
          show GoH _ _ _ _ _ _ _ _ _ _ T5 (mkF m 142 #[.val (.int p1), .val (.int p2), .val (.int p3), .val (.int p4), .val (.int p5), .val (.ref sa1), .val (.ref sa3), .val (.ref o4), .val (.int kd), .val (.ref sa1), .unset] [(.ref sa1), (.ref o4)])
          obtain ⟨cq18, kq18, qa18, qb18, qc18⟩ := isOf hZ3 rfl f5_8
          obtain ⟨_, _, ⟨T18, L18, k18, n18⟩, -, X18, ⟨Lc18, hQ18, l18, y18, z18⟩, st18⟩ := X5.virtualBack hx (y := (⟨"com/example/majority_lease/majoritylease/redis/Resp$ErrorReply", "equals", "(Ljava/lang/Object;)Z"⟩ : MethodName)) (z := (⟨"com/example/majority_lease/majoritylease/redis/Resp$ErrorReply", "equals", "(Ljava/lang/Object;)Z"⟩ : MethodName)) hown3 (mvT hZ3 (hw _ (List.mem_of_getElem? (i := 59) rfl))) (mvT hZ3 (hw _ (List.mem_of_getElem? (i := 60) rfl))) (notFace_of_selects (args := #[]) (mvT hZ3 (hw _ (List.mem_of_getElem? (i := 62) rfl)))) (mvT hZ3 (hw _ (List.mem_of_getElem? (i := 62) rfl))) (mvT hZ3 (hw _ (List.mem_of_getElem? (i := 61) rfl))) (by decide) (backOf (W := 0) (rmEQs l Z a0 hw [] o4 sa1 T5.heap n0 Zs5 f5_0) hZ3 (hw _ (List.mem_of_getElem? (i := 63) rfl)) (hw _ (List.mem_of_getElem? (i := 39) rfl)) (by decide) (by decide)) qa18 qc18 (g := (mkF m 142 #[.val (.int p1), .val (.int p2), .val (.int p3), .val (.int p4), .val (.int p5), .val (.ref sa1), .val (.ref sa3), .val (.ref o4), .val (.int kd), .val (.ref sa1), .unset] [(.ref sa1), (.ref o4)])) rfl (by rw [hml]; rfl) (Steps.refl _) (argsL := [(.ref sa1)]) (rest := []) (lenOf pd_4 rfl) rfl (by show 2 * 0 + _ ≤ _; exact Nat.le_of_eq rfl) (hb hby at_142) (fun _ _ => ⟨rfl, rfl, (by decide : 0 + 6 + 6 + 1 + 0 + 0 ≤ _), (by decide : 0 + 12 + 12 + 1 + 0 + 0 ≤ _)⟩)
          dsimp only [Pt.U, Pt.locs, Pt.cells, Pt.slots] at X18 l18 y18 z18 st18 hQ18
          subst l18 y18 z18
          obtain ⟨rfl, N18q, e18⟩ := hQ18
          have N18 := Fr.app N5 N18q
          refine GoH.step (fun t_ k_ => st18.trans k_) ?_
          show GoH _ _ _ _ _ _ _ _ _ _ T18 (mkF m 145 #[.val (.int p1), .val (.int p2), .val (.int p3), .val (.int p4), .val (.int p5), .val (.ref sa1), .val (.ref sa3), .val (.ref o4), .val (.int kd), .val (.ref sa1), .unset] [(.int (0 : Int32))])
          have hb145_19 : (0 : Int32) = (0 : Int32) := by decide
          refine GoH.step (fun t_ k_ => XS.ifNo X18.here hx rfl (hb hby at_145) rfl (XT.i0_ne_f hb145_19) k_) ?_
          show GoH _ _ _ _ _ _ _ _ _ _ T18 (mkF m 148 #[.val (.int p1), .val (.int p2), .val (.int p3), .val (.int p4), .val (.int p5), .val (.ref sa1), .val (.ref sa3), .val (.ref o4), .val (.int kd), .val (.ref sa1), .unset] [])
          refine GoH.step (fun t_ k_ => XS.iconst X18.here hx rfl (hb hby at_148) k_) ?_
          show GoH _ _ _ _ _ _ _ _ _ _ T18 (mkF m 149 #[.val (.int p1), .val (.int p2), .val (.int p3), .val (.int p4), .val (.int p5), .val (.ref sa1), .val (.ref sa3), .val (.ref o4), .val (.int kd), .val (.ref sa1), .unset] [(.int (1 : Int32))])
          refine GoH.step (fun t_ k_ => XS.goto X18.here hx rfl (pc0 := 149) (pc' := 153) rfl (hb hby at_149) (by decide) (by decide) k_) ?_
          show GoH _ _ _ _ _ _ _ _ _ _ T18 (mkF m 153 #[.val (.int p1), .val (.int p2), .val (.int p3), .val (.int p4), .val (.int p5), .val (.ref sa1), .val (.ref sa3), .val (.ref o4), .val (.int kd), .val (.ref sa1), .unset] [(.int (1 : Int32))])
          have hkr : T3.heap.size ≤ T18.heap.size := by rw [(e18)]; exact hk5
          have hCr : CHr Z own_EL s.vm h0 T3.vm T18.heap := by rw [(e18)]; exact C5
          refine GoH.ret X18 hx hlk hS3 hkr hZ3 hEL hCr hret rfl (Or.inl ⟨rfl, Or.inr (Or.inl rfl), _, rfl⟩) (hb hby at_153) ?_ (by decide) (by decide)
          show Q0 Z _ _ _ _ _ _ _ _ _ _ T18.heap _
          exact ⟨rfl, N18⟩
        · refine GoH.step (fun t_ k_ => XS.icmpYes X5.here hx rfl (pc0 := 131) (pc' := 154) rfl (hb hby at_131) rfl (XT.ii_ne_t hb131_17) (by decide) (by decide) k_) ?_
          show GoH _ _ _ _ _ _ _ _ _ _ T5 (mkF m 154 #[.val (.int p1), .val (.int p2), .val (.int p3), .val (.int p4), .val (.int p5), .val (.ref sa1), .val (.ref sa3), .val (.ref o4), .val (.int kd), .unset, .unset] [])
          obtain ⟨T20, h20, X20, e20, E20, A20, D20, -, st20⟩ := newO X5 hx hZ3 hown3 (hw _ (List.mem_of_getElem? (i := 37) rfl)) (hw _ (List.mem_of_getElem? (i := 38) rfl)) (hw _ (List.mem_of_getElem? (i := 39) rfl)) rfl (g := (mkF m 154 #[.val (.int p1), .val (.int p2), .val (.int p3), .val (.int p4), .val (.int p5), .val (.ref sa1), .val (.ref sa3), .val (.ref o4), .val (.int kd), .unset, .unset] [])) rfl (hb hby at_154) (by decide) (by decide)
          obtain ⟨o20, g20⟩ : ∃ z, z = T5.heap.size := ⟨_, rfl⟩
          rw [← g20] at A20 D20 st20
          have ne_sa1_o20 : sa1 ≠ o20 := Nat.ne_of_lt (Nat.lt_of_lt_of_le f5_0.lt (Nat.le_of_eq g20.symm))
          have ne_st_1_o20 : st_1 ≠ o20 := Nat.ne_of_lt (Nat.lt_of_lt_of_le f5_3.lt (Nat.le_of_eq g20.symm))
          have ne_sa3_o20 : sa3 ≠ o20 := Nat.ne_of_lt (Nat.lt_of_lt_of_le f5_4.lt (Nat.le_of_eq g20.symm))
          have ne_st_3_o20 : st_3 ≠ o20 := Nat.ne_of_lt (Nat.lt_of_lt_of_le f5_7.lt (Nat.le_of_eq g20.symm))
          have ne_o4_o20 : o4 ≠ o20 := Nat.ne_of_lt (Nat.lt_of_lt_of_le f5_8.lt (Nat.le_of_eq g20.symm))
          have ge_o20 : n0 ≤ o20 := Nat.le_trans Zs5 (Nat.le_of_eq g20.symm)
          have f20_0 : Exa Z h20 sa1 "java/lang/String" := (f5_0.ext E20)
          have f20_1 : Fld Z h20 sa1 "java/lang/String" "coder" "B" (.int (0 : Int32)) := (f5_1.ext E20)
          have f20_2 : Fld Z h20 sa1 "java/lang/String" "value" "[B" (.ref st_1) := (f5_2.ext E20)
          have f20_3 : Arv Z h20 st_1 kb1 .byte (Int32.ofNat (own_draw p1 p2).length) (((own_draw p1 p2).map (fun c => c.toInt8.toInt32)).map Value.int) (.int (0 : Int32)) := (f5_3.ext E20)
          have f20_4 : Exa Z h20 sa3 "java/lang/String" := (f5_4.ext E20)
          have f20_5 : Fld Z h20 sa3 "java/lang/String" "coder" "B" (.int (0 : Int32)) := (f5_5.ext E20)
          have f20_6 : Fld Z h20 sa3 "java/lang/String" "value" "[B" (.ref st_3) := (f5_6.ext E20)
          have f20_7 : Arv Z h20 st_3 kb3 .byte (Int32.ofNat (own_draw p3 p4).length) (((own_draw p3 p4).map (fun c => c.toInt8.toInt32)).map Value.int) (.int (0 : Int32)) := (f5_7.ext E20)
          have f20_8 : Exa Z h20 o4 "com/example/majority_lease/majoritylease/redis/Resp$ErrorReply" := (f5_8.ext E20)
          have f20_9 : Fld Z h20 o4 "com/example/majority_lease/majoritylease/redis/Resp$ErrorReply" "message" "Ljava/lang/String;" (.ref sa1) := (f5_9.ext E20)
          have f20_10 : Exa Z h20 o20 "com/example/majority_lease/majoritylease/redis/Resp$ErrorReply" := A20
          have f20_11 : Fld Z h20 o20 "com/example/majority_lease/majoritylease/redis/Resp$ErrorReply" "message" "Ljava/lang/String;" .null := (D20 (Or.inr (hw _ (List.mem_of_getElem? (i := 45) rfl))) (ty := (.object "java/lang/String")) (by decide))
          have hk20 : _ ≤ h20.size := Nat.le_trans hk5 E20.1
          have C20 : CHr Z own_EL s.vm h0 T3.vm h20 := C5.trans (CHr.ext E20 C5.1)
          have Zs20 : n0 ≤ h20.size := (Nat.le_trans Zs5 E20.1)
          have O20 : Old Z n0 h20 := O5.ext E20
          refine GoH.step st20 ?_
          show GoH _ _ _ _ _ _ _ _ _ _ T20 (mkF m 157 #[.val (.int p1), .val (.int p2), .val (.int p3), .val (.int p4), .val (.int p5), .val (.ref sa1), .val (.ref sa3), .val (.ref o4), .val (.int kd), .unset, .unset] [(.ref o20)])
          refine GoH.step (fun t_ k_ => XS.dup X20.here hx rfl (hb hby at_157) rfl rfl k_) ?_
          show GoH _ _ _ _ _ _ _ _ _ _ T20 (mkF m 158 #[.val (.int p1), .val (.int p2), .val (.int p3), .val (.int p4), .val (.int p5), .val (.ref sa1), .val (.ref sa3), .val (.ref o4), .val (.int kd), .unset, .unset] [(.ref o20), (.ref o20)])
          refine GoH.step (fun t_ k_ => XS.iloadN X20.here hx rfl (hb hby at_158) rfl k_) ?_
          show GoH _ _ _ _ _ _ _ _ _ _ T20 (mkF m 159 #[.val (.int p1), .val (.int p2), .val (.int p3), .val (.int p4), .val (.int p5), .val (.ref sa1), .val (.ref sa3), .val (.ref o4), .val (.int kd), .unset, .unset] [(.int p1), (.ref o20), (.ref o20)])
          refine GoH.step (fun t_ k_ => XS.iloadN X20.here hx rfl (hb hby at_159) rfl k_) ?_
          show GoH _ _ _ _ _ _ _ _ _ _ T20 (mkF m 160 #[.val (.int p1), .val (.int p2), .val (.int p3), .val (.int p4), .val (.int p5), .val (.ref sa1), .val (.ref sa3), .val (.ref o4), .val (.int kd), .unset, .unset] [(.int p2), (.int p1), (.ref o20), (.ref o20)])
          obtain ⟨_, _, ⟨T21, L21, k21, n21⟩, -, X21, hSq21, hgr21, ⟨Lc21, hQ21, l21, y21, z21, CHq21⟩, st21⟩ := callSS X20 hx (y := (⟨"com/example/majority_lease/majoritylease/redis/ErrorReplyEqualsPinLaw", "draw", "(II)Ljava/lang/String;"⟩ : MethodName)) hown3 (mvT hZ3 (hw _ (List.mem_of_getElem? (i := 0) rfl))) (mvT hZ3 (hw _ (List.mem_of_getElem? (i := 1) rfl))) (mvT hZ3 (hw _ (List.mem_of_getElem? (i := 2) rfl))) (mvT hZ3 (hw _ (List.mem_of_getElem? (i := 3) rfl))) (by decide) (backOfSH (W := 2) (rmDr l Z a0 hw [] p1 p2 G1 h20 n0 Zs20 O20 S_COMPACT P_COMPACT) hZ3 (hw _ (List.mem_of_getElem? (i := 3) rfl)) (hw _ (List.mem_of_getElem? (i := 2) rfl)) (by decide) (by decide) hEL C20.1) (g := (mkF m 160 #[.val (.int p1), .val (.int p2), .val (.int p3), .val (.int p4), .val (.int p5), .val (.ref sa1), .val (.ref sa3), .val (.ref o4), .val (.int kd), .unset, .unset] [(.int p2), (.int p1), (.ref o20), (.ref o20)])) rfl (by rw [hml]; rfl) (argsL := [(.int p1), (.int p2)]) (rest := [(.ref o20), (.ref o20)]) (lenOf pd_5 rfl) rfl (by show 2 * 0 + _ ≤ _; exact Nat.le_of_eq rfl) (hb hby at_160) (fun _ _ => ⟨rfl, e20, (by decide : 0 + 6 + 6 + 1 + 0 + 1 + 6 ≤ _), (by decide : 0 + 12 + 12 + 1 + 0 + 1 + 12 ≤ _)⟩)
          dsimp only [Pt.U, Pt.locs, Pt.cells, Pt.slots] at X21 hSq21 hgr21 l21 y21 z21 st21 hQ21 CHq21
          subst l21 y21 z21
          have X21 : Stand p l e _ (s.setVm T21.vm) _ _ _ _ _ T21 _ _ _ := X21
          have hS21 : s.Since T21.vm T21.heap.size := State.Since.trans hS3 hSq21 (Nat.le_trans hk20 (by first | exact hgr21 | (rw [← e20]; exact hgr21)))
          have hZ21 : Z.Warmed39 (s.setVm T21.vm).vm := State.Warmed39.trans (t := s.setVm T3.vm) hZ3 hSq21.1
          have hown21 : (s.setVm T21.vm).vm.findClass "com/example/majority_lease/majoritylease/redis/ErrorReplyEqualsPinLaw" = some m.cls := by rw [show (s.setVm T21.vm).vm = T21.vm from rfl, hSq21.1.alike.findClass]; exact hown3
          have hk21 : T21.heap.size ≤ T21.heap.size := Nat.le_refl _
          obtain ⟨sa21, st_21, kb21, rfl, N21q, Kq21, gq21, Eq21, Cq21, Vq21, Aq21⟩ := hQ21
          have N21 := Fr.app N5 N21q
          have ne_sa1_sa21 : sa1 ≠ sa21 := Nat.ne_of_lt (Nat.lt_of_lt_of_le f20_0.lt gq21)
          have ne_st_1_sa21 : st_1 ≠ sa21 := Nat.ne_of_lt (Nat.lt_of_lt_of_le f20_3.lt gq21)
          have ne_sa3_sa21 : sa3 ≠ sa21 := Nat.ne_of_lt (Nat.lt_of_lt_of_le f20_4.lt gq21)
          have ne_st_3_sa21 : st_3 ≠ sa21 := Nat.ne_of_lt (Nat.lt_of_lt_of_le f20_7.lt gq21)
          have ne_o4_sa21 : o4 ≠ sa21 := Nat.ne_of_lt (Nat.lt_of_lt_of_le f20_8.lt gq21)
          have ne_o20_sa21 : o20 ≠ sa21 := Nat.ne_of_lt (Nat.lt_of_lt_of_le f20_10.lt gq21)
          have f21_0 : Exa Z T21.heap sa1 "java/lang/String" := (f20_0.keep Kq21)
          have f21_1 : Fld Z T21.heap sa1 "java/lang/String" "coder" "B" (.int (0 : Int32)) := (f20_1.keep Kq21 nin0)
          have f21_2 : Fld Z T21.heap sa1 "java/lang/String" "value" "[B" (.ref st_1) := (f20_2.keep Kq21 nin0)
          have f21_3 : Arv Z T21.heap st_1 kb1 .byte (Int32.ofNat (own_draw p1 p2).length) (((own_draw p1 p2).map (fun c => c.toInt8.toInt32)).map Value.int) (.int (0 : Int32)) := (f20_3.keep Kq21 nin0)
          have f21_4 : Exa Z T21.heap sa3 "java/lang/String" := (f20_4.keep Kq21)
          have f21_5 : Fld Z T21.heap sa3 "java/lang/String" "coder" "B" (.int (0 : Int32)) := (f20_5.keep Kq21 nin0)
          have f21_6 : Fld Z T21.heap sa3 "java/lang/String" "value" "[B" (.ref st_3) := (f20_6.keep Kq21 nin0)
          have f21_7 : Arv Z T21.heap st_3 kb3 .byte (Int32.ofNat (own_draw p3 p4).length) (((own_draw p3 p4).map (fun c => c.toInt8.toInt32)).map Value.int) (.int (0 : Int32)) := (f20_7.keep Kq21 nin0)
          have f21_8 : Exa Z T21.heap o4 "com/example/majority_lease/majoritylease/redis/Resp$ErrorReply" := (f20_8.keep Kq21)
          have f21_9 : Fld Z T21.heap o4 "com/example/majority_lease/majoritylease/redis/Resp$ErrorReply" "message" "Ljava/lang/String;" (.ref sa1) := (f20_9.keep Kq21 nin0)
          have f21_10 : Exa Z T21.heap o20 "com/example/majority_lease/majoritylease/redis/Resp$ErrorReply" := (f20_10.keep Kq21)
          have f21_11 : Fld Z T21.heap o20 "com/example/majority_lease/majoritylease/redis/Resp$ErrorReply" "message" "Ljava/lang/String;" .null := (f20_11.keep Kq21 nin0)
          have f21_12 : Exa Z T21.heap sa21 "java/lang/String" := Eq21
          have f21_13 : Fld Z T21.heap sa21 "java/lang/String" "coder" "B" (.int (0 : Int32)) := Cq21
          have f21_14 : Fld Z T21.heap sa21 "java/lang/String" "value" "[B" (.ref st_21) := Vq21
          have f21_15 : Arv Z T21.heap st_21 kb21 .byte (Int32.ofNat (own_draw p1 p2).length) (((own_draw p1 p2).map (fun c => c.toInt8.toInt32)).map Value.int) (.int (0 : Int32)) := Aq21
          have Zs21 : n0 ≤ T21.heap.size := (Nat.le_trans Zs20 Kq21.1)
          have O21 : Old Z n0 T21.heap := O20.keep Kq21 all0
          have CC21 : CHr Z own_EL s.vm h0 T21.vm T21.heap := C20.trans CHq21
          refine GoH.step (fun t_ k_ => st21.trans k_) ?_
          show GoH _ _ _ _ _ _ _ _ _ _ T21 (mkF m 163 #[.val (.int p1), .val (.int p2), .val (.int p3), .val (.int p4), .val (.int p5), .val (.ref sa1), .val (.ref sa3), .val (.ref o4), .val (.int kd), .unset, .unset] [(.ref sa21), (.ref o20), (.ref o20)])
          obtain ⟨_, _, ⟨T22, L22, k22, n22⟩, -, X22, ⟨Lc22, hQ22, l22, y22, z22⟩, st22⟩ := X21.specialBack hx (y := (⟨"com/example/majority_lease/majoritylease/redis/Resp$ErrorReply", "<init>", "(Ljava/lang/String;)V"⟩ : MethodName)) rfl hown21 (mvT hZ21 (hw _ (List.mem_of_getElem? (i := 40) rfl))) (mvT hZ21 (hw _ (List.mem_of_getElem? (i := 41) rfl))) (mvT hZ21 (hw _ (List.mem_of_getElem? (i := 42) rfl))) (by decide) (backOf (W := 1) (rmEI l Z a0 hw [] o20 sa21 T21.heap n0 Zs21 ge_o20 f21_10 f21_11) hZ21 (hw _ (List.mem_of_getElem? (i := 42) rfl)) (hw _ (List.mem_of_getElem? (i := 39) rfl)) (by decide) (by decide)) (g := (mkF m 163 #[.val (.int p1), .val (.int p2), .val (.int p3), .val (.int p4), .val (.int p5), .val (.ref sa1), .val (.ref sa3), .val (.ref o4), .val (.int kd), .unset, .unset] [(.ref sa21), (.ref o20), (.ref o20)])) rfl (by rw [hml]; rfl) (Steps.refl _) (a := o20) (argsL := [(.ref sa21)]) (rest := [(.ref o20)]) (lenOf pd_6 rfl) rfl (by show 2 * 0 + _ ≤ _; exact Nat.le_of_eq rfl) (hb hby at_163) (fun _ _ => ⟨rfl, rfl, (by decide : 0 + 6 + 6 + 1 + 0 + 1 + 6 + 0 ≤ _), (by decide : 0 + 12 + 12 + 1 + 0 + 1 + 12 + 0 ≤ _)⟩)
          dsimp only [Pt.U, Pt.locs, Pt.cells, Pt.slots] at X22 l22 y22 z22 st22 hQ22
          subst l22 y22 z22
          obtain ⟨rfl, N22q, Kq22, Eq22, Fq22⟩ := hQ22
          have N22 := Fr.app N21 N22q
          have f22_0 : Exa Z T22.heap sa1 "java/lang/String" := (f21_0.keep Kq22)
          have f22_1 : Fld Z T22.heap sa1 "java/lang/String" "coder" "B" (.int (0 : Int32)) := (f21_1.keep Kq22 (ninS ne_sa1_o20 nin0))
          have f22_2 : Fld Z T22.heap sa1 "java/lang/String" "value" "[B" (.ref st_1) := (f21_2.keep Kq22 (ninS ne_sa1_o20 nin0))
          have f22_3 : Arv Z T22.heap st_1 kb1 .byte (Int32.ofNat (own_draw p1 p2).length) (((own_draw p1 p2).map (fun c => c.toInt8.toInt32)).map Value.int) (.int (0 : Int32)) := (f21_3.keep Kq22 (ninS ne_st_1_o20 nin0))
          have f22_4 : Exa Z T22.heap sa3 "java/lang/String" := (f21_4.keep Kq22)
          have f22_5 : Fld Z T22.heap sa3 "java/lang/String" "coder" "B" (.int (0 : Int32)) := (f21_5.keep Kq22 (ninS ne_sa3_o20 nin0))
          have f22_6 : Fld Z T22.heap sa3 "java/lang/String" "value" "[B" (.ref st_3) := (f21_6.keep Kq22 (ninS ne_sa3_o20 nin0))
          have f22_7 : Arv Z T22.heap st_3 kb3 .byte (Int32.ofNat (own_draw p3 p4).length) (((own_draw p3 p4).map (fun c => c.toInt8.toInt32)).map Value.int) (.int (0 : Int32)) := (f21_7.keep Kq22 (ninS ne_st_3_o20 nin0))
          have f22_8 : Exa Z T22.heap o4 "com/example/majority_lease/majoritylease/redis/Resp$ErrorReply" := (f21_8.keep Kq22)
          have f22_9 : Fld Z T22.heap o4 "com/example/majority_lease/majoritylease/redis/Resp$ErrorReply" "message" "Ljava/lang/String;" (.ref sa1) := (f21_9.keep Kq22 (ninS ne_o4_o20 nin0))
          have f22_10 : Exa Z T22.heap sa21 "java/lang/String" := (f21_12.keep Kq22)
          have f22_11 : Fld Z T22.heap sa21 "java/lang/String" "coder" "B" (.int (0 : Int32)) := (f21_13.keep Kq22 (ninS (Ne.symm ne_o20_sa21) nin0))
          have f22_12 : Fld Z T22.heap sa21 "java/lang/String" "value" "[B" (.ref st_21) := (f21_14.keep Kq22 (ninS (Ne.symm ne_o20_sa21) nin0))
          have f22_13 : Arv Z T22.heap st_21 kb21 .byte (Int32.ofNat (own_draw p1 p2).length) (((own_draw p1 p2).map (fun c => c.toInt8.toInt32)).map Value.int) (.int (0 : Int32)) := (f21_15.keep Kq22 (ninS (Ne.symm (own_ne_arv f21_10 (hw _ (List.mem_of_getElem? (i := 38) rfl)) f21_15)) nin0))
          have f22_14 : Exa Z T22.heap o20 "com/example/majority_lease/majoritylease/redis/Resp$ErrorReply" := Eq22
          have f22_15 : Fld Z T22.heap o20 "com/example/majority_lease/majoritylease/redis/Resp$ErrorReply" "message" "Ljava/lang/String;" (.ref sa21) := Fq22
          have sfk22 : ∀ x ∈ ([o20] : List Addr), Safe Z own_EL T21.vm T21.heap x := (sfS (Safe.exa hZ21.alike f21_10 (by decide) (by decide)) sf0)
          have hk22 : _ ≤ T22.heap.size := Nat.le_trans hk21 Kq22.1
          have C22 : CHr Z own_EL s.vm h0 T21.vm T22.heap := CC21.trans (CHr.keep Kq22 sfk22 CC21.1)
          have Zs22 : n0 ≤ T22.heap.size := (Nat.le_trans Zs21 Kq22.1)
          have O22 : Old Z n0 T22.heap := O21.keep Kq22 (allS ge_o20 all0)
          refine GoH.step (fun t_ k_ => st22.trans k_) ?_
          show GoH _ _ _ _ _ _ _ _ _ _ T22 (mkF m 166 #[.val (.int p1), .val (.int p2), .val (.int p3), .val (.int p4), .val (.int p5), .val (.ref sa1), .val (.ref sa3), .val (.ref o4), .val (.int kd), .unset, .unset] [(.ref o20)])
          refine GoH.step (fun t_ k_ => XS.astore X22.here hx rfl (hb hby at_166) rfl rfl (l' := #[.val (.int p1), .val (.int p2), .val (.int p3), .val (.int p4), .val (.int p5), .val (.ref sa1), .val (.ref sa3), .val (.ref o4), .val (.int kd), .val (.ref o20), .unset]) rfl k_) ?_
          show GoH _ _ _ _ _ _ _ _ _ _ T22 (mkF m 168 #[.val (.int p1), .val (.int p2), .val (.int p3), .val (.int p4), .val (.int p5), .val (.ref sa1), .val (.ref sa3), .val (.ref o4), .val (.int kd), .val (.ref o20), .unset] [])
          refine GoH.step (fun t_ k_ => XS.aload X22.here hx rfl (hb hby at_168) rfl rfl k_) ?_
          show GoH _ _ _ _ _ _ _ _ _ _ T22 (mkF m 170 #[.val (.int p1), .val (.int p2), .val (.int p3), .val (.int p4), .val (.int p5), .val (.ref sa1), .val (.ref sa3), .val (.ref o4), .val (.int kd), .val (.ref o20), .unset] [(.ref o4)])
          refine GoH.step (fun t_ k_ => XS.aload X22.here hx rfl (hb hby at_170) rfl rfl k_) ?_
          show GoH _ _ _ _ _ _ _ _ _ _ T22 (mkF m 172 #[.val (.int p1), .val (.int p2), .val (.int p3), .val (.int p4), .val (.int p5), .val (.ref sa1), .val (.ref sa3), .val (.ref o4), .val (.int kd), .val (.ref o20), .unset] [(.ref o4), (.ref o4)])
          obtain ⟨cq23, kq23, qa23, qb23, qc23⟩ := isOf hZ21 rfl f22_8
          obtain ⟨_, _, ⟨T23, L23, k23, n23⟩, -, X23, ⟨Lc23, hQ23, l23, y23, z23⟩, st23⟩ := X22.virtualBack hx (y := (⟨"com/example/majority_lease/majoritylease/redis/Resp$ErrorReply", "equals", "(Ljava/lang/Object;)Z"⟩ : MethodName)) (z := (⟨"com/example/majority_lease/majoritylease/redis/Resp$ErrorReply", "equals", "(Ljava/lang/Object;)Z"⟩ : MethodName)) hown21 (mvT hZ21 (hw _ (List.mem_of_getElem? (i := 59) rfl))) (mvT hZ21 (hw _ (List.mem_of_getElem? (i := 60) rfl))) (notFace_of_selects (args := #[]) (mvT hZ21 (hw _ (List.mem_of_getElem? (i := 62) rfl)))) (mvT hZ21 (hw _ (List.mem_of_getElem? (i := 62) rfl))) (mvT hZ21 (hw _ (List.mem_of_getElem? (i := 61) rfl))) (by decide) (backOf (W := 0) (rmEQ l Z a0 hw [] o4 o4 sa1 sa1 G1 st_1 kb1 (own_draw p1 p2) st_1 kb1 (own_draw p1 p2) T22.heap n0 Zs22 O22 S_COMPACT P_COMPACT f22_8 f22_9 f22_9 f22_0 f22_2 f22_1 f22_3 (own_draw_ok p1 p2) (own_draw_le p1 p2) f22_0 f22_2 f22_1 f22_3 (own_draw_ok p1 p2) (own_draw_le p1 p2)) hZ21 (hw _ (List.mem_of_getElem? (i := 63) rfl)) (hw _ (List.mem_of_getElem? (i := 39) rfl)) (by decide) (by decide)) qa23 qc23 (g := (mkF m 172 #[.val (.int p1), .val (.int p2), .val (.int p3), .val (.int p4), .val (.int p5), .val (.ref sa1), .val (.ref sa3), .val (.ref o4), .val (.int kd), .val (.ref o20), .unset] [(.ref o4), (.ref o4)])) rfl (by rw [hml]; rfl) (Steps.refl _) (argsL := [(.ref o4)]) (rest := []) (lenOf pd_4 rfl) rfl (by show 2 * 0 + _ ≤ _; exact Nat.le_of_eq rfl) (hb hby at_172) (fun _ _ => ⟨rfl, rfl, (by decide : 0 + 6 + 6 + 1 + 0 + 1 + 6 + 0 + 0 ≤ _), (by decide : 0 + 12 + 12 + 1 + 0 + 1 + 12 + 0 + 0 ≤ _)⟩)
          dsimp only [Pt.U, Pt.locs, Pt.cells, Pt.slots] at X23 l23 y23 z23 st23 hQ23
          subst l23 y23 z23
          obtain ⟨rfl, N23q, e23⟩ := hQ23
          have N23 := Fr.app N22 N23q
          refine GoH.step (fun t_ k_ => st23.trans k_) ?_
          show GoH _ _ _ _ _ _ _ _ _ _ T23 (mkF m 175 #[.val (.int p1), .val (.int p2), .val (.int p3), .val (.int p4), .val (.int p5), .val (.ref sa1), .val (.ref sa3), .val (.ref o4), .val (.int kd), .val (.ref o20), .unset] [(.int (own_same (own_draw p1 p2) (own_draw p1 p2)))])
          have hb175_24 : ¬ ((own_same (own_draw p1 p2) (own_draw p1 p2)) = (0 : Int32)) := by simp [own_same]
          refine GoH.step (fun t_ k_ => XS.ifNo X23.here hx rfl (hb hby at_175) rfl (XT.i0_eq_f hb175_24) k_) ?_
          show GoH _ _ _ _ _ _ _ _ _ _ T23 (mkF m 178 #[.val (.int p1), .val (.int p2), .val (.int p3), .val (.int p4), .val (.int p5), .val (.ref sa1), .val (.ref sa3), .val (.ref o4), .val (.int kd), .val (.ref o20), .unset] [])
          refine GoH.step (fun t_ k_ => XS.aload X23.here hx rfl (hb hby at_178) rfl rfl k_) ?_
          show GoH _ _ _ _ _ _ _ _ _ _ T23 (mkF m 180 #[.val (.int p1), .val (.int p2), .val (.int p3), .val (.int p4), .val (.int p5), .val (.ref sa1), .val (.ref sa3), .val (.ref o4), .val (.int kd), .val (.ref o20), .unset] [(.ref o4)])
          refine GoH.step (fun t_ k_ => XS.aload X23.here hx rfl (hb hby at_180) rfl rfl k_) ?_
          show GoH _ _ _ _ _ _ _ _ _ _ T23 (mkF m 182 #[.val (.int p1), .val (.int p2), .val (.int p3), .val (.int p4), .val (.int p5), .val (.ref sa1), .val (.ref sa3), .val (.ref o4), .val (.int kd), .val (.ref o20), .unset] [(.ref o20), (.ref o4)])
          obtain ⟨cq25, kq25, qa25, qb25, qc25⟩ := isOf hZ21 (e23) f22_8
          obtain ⟨_, _, ⟨T25, L25, k25, n25⟩, -, X25, ⟨Lc25, hQ25, l25, y25, z25⟩, st25⟩ := X23.virtualBack hx (y := (⟨"com/example/majority_lease/majoritylease/redis/Resp$ErrorReply", "equals", "(Ljava/lang/Object;)Z"⟩ : MethodName)) (z := (⟨"com/example/majority_lease/majoritylease/redis/Resp$ErrorReply", "equals", "(Ljava/lang/Object;)Z"⟩ : MethodName)) hown21 (mvT hZ21 (hw _ (List.mem_of_getElem? (i := 59) rfl))) (mvT hZ21 (hw _ (List.mem_of_getElem? (i := 60) rfl))) (notFace_of_selects (args := #[]) (mvT hZ21 (hw _ (List.mem_of_getElem? (i := 62) rfl)))) (mvT hZ21 (hw _ (List.mem_of_getElem? (i := 62) rfl))) (mvT hZ21 (hw _ (List.mem_of_getElem? (i := 61) rfl))) (by decide) (backOf (W := 0) (rmEQ l Z a0 hw [] o4 o20 sa1 sa21 G1 st_1 kb1 (own_draw p1 p2) st_21 kb21 (own_draw p1 p2) T22.heap n0 Zs22 O22 S_COMPACT P_COMPACT f22_14 f22_9 f22_15 f22_0 f22_2 f22_1 f22_3 (own_draw_ok p1 p2) (own_draw_le p1 p2) f22_10 f22_12 f22_11 f22_13 (own_draw_ok p1 p2) (own_draw_le p1 p2)) hZ21 (hw _ (List.mem_of_getElem? (i := 63) rfl)) (hw _ (List.mem_of_getElem? (i := 39) rfl)) (by decide) (by decide)) qa25 qc25 (g := (mkF m 182 #[.val (.int p1), .val (.int p2), .val (.int p3), .val (.int p4), .val (.int p5), .val (.ref sa1), .val (.ref sa3), .val (.ref o4), .val (.int kd), .val (.ref o20), .unset] [(.ref o20), (.ref o4)])) rfl (by rw [hml]; rfl) (Steps.refl _) (argsL := [(.ref o20)]) (rest := []) (lenOf pd_4 rfl) rfl (by show 2 * 0 + _ ≤ _; exact Nat.le_of_eq rfl) (hb hby at_182) (fun _ _ => ⟨rfl, (e23), (by decide : 0 + 6 + 6 + 1 + 0 + 1 + 6 + 0 + 0 + 0 ≤ _), (by decide : 0 + 12 + 12 + 1 + 0 + 1 + 12 + 0 + 0 + 0 ≤ _)⟩)
          dsimp only [Pt.U, Pt.locs, Pt.cells, Pt.slots] at X25 l25 y25 z25 st25 hQ25
          subst l25 y25 z25
          obtain ⟨rfl, N25q, e25⟩ := hQ25
          have N25 := Fr.app N23 N25q
          refine GoH.step (fun t_ k_ => st25.trans k_) ?_
          show GoH _ _ _ _ _ _ _ _ _ _ T25 (mkF m 185 #[.val (.int p1), .val (.int p2), .val (.int p3), .val (.int p4), .val (.int p5), .val (.ref sa1), .val (.ref sa3), .val (.ref o4), .val (.int kd), .val (.ref o20), .unset] [(.int (own_same (own_draw p1 p2) (own_draw p1 p2)))])
          have hb185_26 : ¬ ((own_same (own_draw p1 p2) (own_draw p1 p2)) = (0 : Int32)) := by simp [own_same]
          refine GoH.step (fun t_ k_ => XS.ifNo X25.here hx rfl (hb hby at_185) rfl (XT.i0_eq_f hb185_26) k_) ?_
          show GoH _ _ _ _ _ _ _ _ _ _ T25 (mkF m 188 #[.val (.int p1), .val (.int p2), .val (.int p3), .val (.int p4), .val (.int p5), .val (.ref sa1), .val (.ref sa3), .val (.ref o4), .val (.int kd), .val (.ref o20), .unset] [])
          refine GoH.step (fun t_ k_ => XS.iconst X25.here hx rfl (hb hby at_188) k_) ?_
          show GoH _ _ _ _ _ _ _ _ _ _ T25 (mkF m 189 #[.val (.int p1), .val (.int p2), .val (.int p3), .val (.int p4), .val (.int p5), .val (.ref sa1), .val (.ref sa3), .val (.ref o4), .val (.int kd), .val (.ref o20), .unset] [(.int (1 : Int32))])
          refine GoH.step (fun t_ k_ => XS.goto X25.here hx rfl (pc0 := 189) (pc' := 193) rfl (hb hby at_189) (by decide) (by decide) k_) ?_
          show GoH _ _ _ _ _ _ _ _ _ _ T25 (mkF m 193 #[.val (.int p1), .val (.int p2), .val (.int p3), .val (.int p4), .val (.int p5), .val (.ref sa1), .val (.ref sa3), .val (.ref o4), .val (.int kd), .val (.ref o20), .unset] [(.int (1 : Int32))])
          have hkr : T21.heap.size ≤ T25.heap.size := by rw [(e25)]; exact hk22
          have hCr : CHr Z own_EL s.vm h0 T21.vm T25.heap := by rw [(e25)]; exact C22
          refine GoH.ret X25 hx hlk hS21 hkr hZ21 hEL hCr hret rfl (Or.inl ⟨rfl, Or.inr (Or.inl rfl), _, rfl⟩) (hb hby at_193) ?_ (by decide) (by decide)
          show Q0 Z _ _ _ _ _ _ _ _ _ _ T25.heap _
          exact ⟨rfl, N25⟩
  · refine GoH.step (fun t_ k_ => XS.ifNo X1.here hx rfl (hb hby at_11) rfl (XT.i0_eq_f hb11_2) k_) ?_
    show GoH _ _ _ _ _ _ _ _ _ _ T1 (mkF m 14 #[.val (.int p1), .val (.int p2), .val (.int p3), .val (.int p4), .val (.int p5), .val (.ref sa1), .unset, .unset, .unset, .unset, .unset] [])
    refine GoH.step (fun t_ k_ => XS.iloadN X1.here hx rfl (hb hby at_14) rfl k_) ?_
    show GoH _ _ _ _ _ _ _ _ _ _ T1 (mkF m 15 #[.val (.int p1), .val (.int p2), .val (.int p3), .val (.int p4), .val (.int p5), .val (.ref sa1), .unset, .unset, .unset, .unset, .unset] [(.int p3)])
    refine GoH.step (fun t_ k_ => XS.iloadN X1.here hx rfl (hb hby at_15) rfl k_) ?_
    show GoH _ _ _ _ _ _ _ _ _ _ T1 (mkF m 16 #[.val (.int p1), .val (.int p2), .val (.int p3), .val (.int p4), .val (.int p5), .val (.ref sa1), .unset, .unset, .unset, .unset, .unset] [(.int p2), (.int p3)])
    obtain ⟨_, _, ⟨T27, L27, k27, n27⟩, -, X27, hSq27, hgr27, ⟨Lc27, hQ27, l27, y27, z27, CHq27⟩, st27⟩ := callSS X1 hx (y := (⟨"com/example/majority_lease/majoritylease/redis/ErrorReplyEqualsPinLaw", "draw", "(II)Ljava/lang/String;"⟩ : MethodName)) hown1 (mvT hZ1 (hw _ (List.mem_of_getElem? (i := 0) rfl))) (mvT hZ1 (hw _ (List.mem_of_getElem? (i := 1) rfl))) (mvT hZ1 (hw _ (List.mem_of_getElem? (i := 2) rfl))) (mvT hZ1 (hw _ (List.mem_of_getElem? (i := 3) rfl))) (by decide) (backOfSH (W := 0) (rmDr l Z a0 hw [] p3 p2 G1 T1.heap n0 Zs1 O1 S_COMPACT P_COMPACT) hZ1 (hw _ (List.mem_of_getElem? (i := 3) rfl)) (hw _ (List.mem_of_getElem? (i := 2) rfl)) (by decide) (by decide) hEL CC1.1) (g := (mkF m 16 #[.val (.int p1), .val (.int p2), .val (.int p3), .val (.int p4), .val (.int p5), .val (.ref sa1), .unset, .unset, .unset, .unset, .unset] [(.int p2), (.int p3)])) rfl (by rw [hml]; rfl) (argsL := [(.int p3), (.int p2)]) (rest := []) (lenOf pd_5 rfl) rfl (by show 2 * 0 + _ ≤ _; exact Nat.le_of_eq rfl) (hb hby at_16) (fun _ _ => ⟨rfl, rfl, (by decide : 0 + 6 + 6 ≤ _), (by decide : 0 + 12 + 12 ≤ _)⟩)
    dsimp only [Pt.U, Pt.locs, Pt.cells, Pt.slots] at X27 hSq27 hgr27 l27 y27 z27 st27 hQ27 CHq27
    subst l27 y27 z27
    have X27 : Stand p l e _ (s.setVm T27.vm) _ _ _ _ _ T27 _ _ _ := X27
    have hS27 : s.Since T27.vm T27.heap.size := State.Since.trans hS1 hSq27 (Nat.le_trans hk1 (by first | exact hgr27 | (rw [← (rfl : T1.heap = T1.heap)]; exact hgr27)))
    have hZ27 : Z.Warmed39 (s.setVm T27.vm).vm := State.Warmed39.trans (t := s.setVm T1.vm) hZ1 hSq27.1
    have hown27 : (s.setVm T27.vm).vm.findClass "com/example/majority_lease/majoritylease/redis/ErrorReplyEqualsPinLaw" = some m.cls := by rw [show (s.setVm T27.vm).vm = T27.vm from rfl, hSq27.1.alike.findClass]; exact hown1
    have hk27 : T27.heap.size ≤ T27.heap.size := Nat.le_refl _
    obtain ⟨sa27, st_27, kb27, rfl, N27q, Kq27, gq27, Eq27, Cq27, Vq27, Aq27⟩ := hQ27
    have N27 := Fr.app N1 N27q
    have ne_sa1_sa27 : sa1 ≠ sa27 := Nat.ne_of_lt (Nat.lt_of_lt_of_le f1_0.lt gq27)
    have ne_st_1_sa27 : st_1 ≠ sa27 := Nat.ne_of_lt (Nat.lt_of_lt_of_le f1_3.lt gq27)
    have f27_0 : Exa Z T27.heap sa1 "java/lang/String" := (f1_0.keep Kq27)
    have f27_1 : Fld Z T27.heap sa1 "java/lang/String" "coder" "B" (.int (0 : Int32)) := (f1_1.keep Kq27 nin0)
    have f27_2 : Fld Z T27.heap sa1 "java/lang/String" "value" "[B" (.ref st_1) := (f1_2.keep Kq27 nin0)
    have f27_3 : Arv Z T27.heap st_1 kb1 .byte (Int32.ofNat (own_draw p1 p2).length) (((own_draw p1 p2).map (fun c => c.toInt8.toInt32)).map Value.int) (.int (0 : Int32)) := (f1_3.keep Kq27 nin0)
    have f27_4 : Exa Z T27.heap sa27 "java/lang/String" := Eq27
    have f27_5 : Fld Z T27.heap sa27 "java/lang/String" "coder" "B" (.int (0 : Int32)) := Cq27
    have f27_6 : Fld Z T27.heap sa27 "java/lang/String" "value" "[B" (.ref st_27) := Vq27
    have f27_7 : Arv Z T27.heap st_27 kb27 .byte (Int32.ofNat (own_draw p3 p2).length) (((own_draw p3 p2).map (fun c => c.toInt8.toInt32)).map Value.int) (.int (0 : Int32)) := Aq27
    have Zs27 : n0 ≤ T27.heap.size := (Nat.le_trans Zs1 Kq27.1)
    have O27 : Old Z n0 T27.heap := O1.keep Kq27 all0
    have CC27 : CHr Z own_EL s.vm h0 T27.vm T27.heap := CC1.trans CHq27
    refine GoH.step (fun t_ k_ => st27.trans k_) ?_
    show GoH _ _ _ _ _ _ _ _ _ _ T27 (mkF m 19 #[.val (.int p1), .val (.int p2), .val (.int p3), .val (.int p4), .val (.int p5), .val (.ref sa1), .unset, .unset, .unset, .unset, .unset] [(.ref sa27)])
    refine GoH.step (fun t_ k_ => XS.goto X27.here hx rfl (pc0 := 19) (pc' := 27) rfl (hb hby at_19) (by decide) (by decide) k_) ?_
    show GoH _ _ _ _ _ _ _ _ _ _ T27 (mkF m 27 #[.val (.int p1), .val (.int p2), .val (.int p3), .val (.int p4), .val (.int p5), .val (.ref sa1), .unset, .unset, .unset, .unset, .unset] [(.ref sa27)])
    refine GoH.step (fun t_ k_ => XS.astore X27.here hx rfl (hb hby at_27) rfl rfl (l' := #[.val (.int p1), .val (.int p2), .val (.int p3), .val (.int p4), .val (.int p5), .val (.ref sa1), .val (.ref sa27), .unset, .unset, .unset, .unset]) rfl k_) ?_
    show GoH _ _ _ _ _ _ _ _ _ _ T27 (mkF m 29 #[.val (.int p1), .val (.int p2), .val (.int p3), .val (.int p4), .val (.int p5), .val (.ref sa1), .val (.ref sa27), .unset, .unset, .unset, .unset] [])
    obtain ⟨T28, h28, X28, e28, E28, A28, D28, -, st28⟩ := newO X27 hx hZ27 hown27 (hw _ (List.mem_of_getElem? (i := 37) rfl)) (hw _ (List.mem_of_getElem? (i := 38) rfl)) (hw _ (List.mem_of_getElem? (i := 39) rfl)) rfl (g := (mkF m 29 #[.val (.int p1), .val (.int p2), .val (.int p3), .val (.int p4), .val (.int p5), .val (.ref sa1), .val (.ref sa27), .unset, .unset, .unset, .unset] [])) rfl (hb hby at_29) (by decide) (by decide)
    obtain ⟨o28, g28⟩ : ∃ z, z = T27.heap.size := ⟨_, rfl⟩
    rw [← g28] at A28 D28 st28
    have ne_sa1_o28 : sa1 ≠ o28 := Nat.ne_of_lt (Nat.lt_of_lt_of_le f27_0.lt (Nat.le_of_eq g28.symm))
    have ne_st_1_o28 : st_1 ≠ o28 := Nat.ne_of_lt (Nat.lt_of_lt_of_le f27_3.lt (Nat.le_of_eq g28.symm))
    have ne_sa27_o28 : sa27 ≠ o28 := Nat.ne_of_lt (Nat.lt_of_lt_of_le f27_4.lt (Nat.le_of_eq g28.symm))
    have ne_st_27_o28 : st_27 ≠ o28 := Nat.ne_of_lt (Nat.lt_of_lt_of_le f27_7.lt (Nat.le_of_eq g28.symm))
    have ge_o28 : n0 ≤ o28 := Nat.le_trans Zs27 (Nat.le_of_eq g28.symm)
    have f28_0 : Exa Z h28 sa1 "java/lang/String" := (f27_0.ext E28)
    have f28_1 : Fld Z h28 sa1 "java/lang/String" "coder" "B" (.int (0 : Int32)) := (f27_1.ext E28)
    have f28_2 : Fld Z h28 sa1 "java/lang/String" "value" "[B" (.ref st_1) := (f27_2.ext E28)
    have f28_3 : Arv Z h28 st_1 kb1 .byte (Int32.ofNat (own_draw p1 p2).length) (((own_draw p1 p2).map (fun c => c.toInt8.toInt32)).map Value.int) (.int (0 : Int32)) := (f27_3.ext E28)
    have f28_4 : Exa Z h28 sa27 "java/lang/String" := (f27_4.ext E28)
    have f28_5 : Fld Z h28 sa27 "java/lang/String" "coder" "B" (.int (0 : Int32)) := (f27_5.ext E28)
    have f28_6 : Fld Z h28 sa27 "java/lang/String" "value" "[B" (.ref st_27) := (f27_6.ext E28)
    have f28_7 : Arv Z h28 st_27 kb27 .byte (Int32.ofNat (own_draw p3 p2).length) (((own_draw p3 p2).map (fun c => c.toInt8.toInt32)).map Value.int) (.int (0 : Int32)) := (f27_7.ext E28)
    have f28_8 : Exa Z h28 o28 "com/example/majority_lease/majoritylease/redis/Resp$ErrorReply" := A28
    have f28_9 : Fld Z h28 o28 "com/example/majority_lease/majoritylease/redis/Resp$ErrorReply" "message" "Ljava/lang/String;" .null := (D28 (Or.inr (hw _ (List.mem_of_getElem? (i := 45) rfl))) (ty := (.object "java/lang/String")) (by decide))
    have hk28 : _ ≤ h28.size := Nat.le_trans hk27 E28.1
    have C28 : CHr Z own_EL s.vm h0 T27.vm h28 := CC27.trans (CHr.ext E28 CC27.1)
    have Zs28 : n0 ≤ h28.size := (Nat.le_trans Zs27 E28.1)
    have O28 : Old Z n0 h28 := O27.ext E28
    refine GoH.step st28 ?_
    show GoH _ _ _ _ _ _ _ _ _ _ T28 (mkF m 32 #[.val (.int p1), .val (.int p2), .val (.int p3), .val (.int p4), .val (.int p5), .val (.ref sa1), .val (.ref sa27), .unset, .unset, .unset, .unset] [(.ref o28)])
    refine GoH.step (fun t_ k_ => XS.dup X28.here hx rfl (hb hby at_32) rfl rfl k_) ?_
    show GoH _ _ _ _ _ _ _ _ _ _ T28 (mkF m 33 #[.val (.int p1), .val (.int p2), .val (.int p3), .val (.int p4), .val (.int p5), .val (.ref sa1), .val (.ref sa27), .unset, .unset, .unset, .unset] [(.ref o28), (.ref o28)])
    refine GoH.step (fun t_ k_ => XS.aload X28.here hx rfl (hb hby at_33) rfl rfl k_) ?_
    show GoH _ _ _ _ _ _ _ _ _ _ T28 (mkF m 35 #[.val (.int p1), .val (.int p2), .val (.int p3), .val (.int p4), .val (.int p5), .val (.ref sa1), .val (.ref sa27), .unset, .unset, .unset, .unset] [(.ref sa1), (.ref o28), (.ref o28)])
    obtain ⟨_, _, ⟨T29, L29, k29, n29⟩, -, X29, ⟨Lc29, hQ29, l29, y29, z29⟩, st29⟩ := X28.specialBack hx (y := (⟨"com/example/majority_lease/majoritylease/redis/Resp$ErrorReply", "<init>", "(Ljava/lang/String;)V"⟩ : MethodName)) rfl hown27 (mvT hZ27 (hw _ (List.mem_of_getElem? (i := 40) rfl))) (mvT hZ27 (hw _ (List.mem_of_getElem? (i := 41) rfl))) (mvT hZ27 (hw _ (List.mem_of_getElem? (i := 42) rfl))) (by decide) (backOf (W := 1) (rmEI l Z a0 hw [] o28 sa1 h28 n0 Zs28 ge_o28 f28_8 f28_9) hZ27 (hw _ (List.mem_of_getElem? (i := 42) rfl)) (hw _ (List.mem_of_getElem? (i := 39) rfl)) (by decide) (by decide)) (g := (mkF m 35 #[.val (.int p1), .val (.int p2), .val (.int p3), .val (.int p4), .val (.int p5), .val (.ref sa1), .val (.ref sa27), .unset, .unset, .unset, .unset] [(.ref sa1), (.ref o28), (.ref o28)])) rfl (by rw [hml]; rfl) (Steps.refl _) (a := o28) (argsL := [(.ref sa1)]) (rest := [(.ref o28)]) (lenOf pd_6 rfl) rfl (by show 2 * 0 + _ ≤ _; exact Nat.le_of_eq rfl) (hb hby at_35) (fun _ _ => ⟨rfl, e28, (by decide : 0 + 6 + 6 + 1 + 0 ≤ _), (by decide : 0 + 12 + 12 + 1 + 0 ≤ _)⟩)
    dsimp only [Pt.U, Pt.locs, Pt.cells, Pt.slots] at X29 l29 y29 z29 st29 hQ29
    subst l29 y29 z29
    obtain ⟨rfl, N29q, Kq29, Eq29, Fq29⟩ := hQ29
    have N29 := Fr.app N27 N29q
    have f29_0 : Exa Z T29.heap sa1 "java/lang/String" := (f28_0.keep Kq29)
    have f29_1 : Fld Z T29.heap sa1 "java/lang/String" "coder" "B" (.int (0 : Int32)) := (f28_1.keep Kq29 (ninS ne_sa1_o28 nin0))
    have f29_2 : Fld Z T29.heap sa1 "java/lang/String" "value" "[B" (.ref st_1) := (f28_2.keep Kq29 (ninS ne_sa1_o28 nin0))
    have f29_3 : Arv Z T29.heap st_1 kb1 .byte (Int32.ofNat (own_draw p1 p2).length) (((own_draw p1 p2).map (fun c => c.toInt8.toInt32)).map Value.int) (.int (0 : Int32)) := (f28_3.keep Kq29 (ninS ne_st_1_o28 nin0))
    have f29_4 : Exa Z T29.heap sa27 "java/lang/String" := (f28_4.keep Kq29)
    have f29_5 : Fld Z T29.heap sa27 "java/lang/String" "coder" "B" (.int (0 : Int32)) := (f28_5.keep Kq29 (ninS ne_sa27_o28 nin0))
    have f29_6 : Fld Z T29.heap sa27 "java/lang/String" "value" "[B" (.ref st_27) := (f28_6.keep Kq29 (ninS ne_sa27_o28 nin0))
    have f29_7 : Arv Z T29.heap st_27 kb27 .byte (Int32.ofNat (own_draw p3 p2).length) (((own_draw p3 p2).map (fun c => c.toInt8.toInt32)).map Value.int) (.int (0 : Int32)) := (f28_7.keep Kq29 (ninS ne_st_27_o28 nin0))
    have f29_8 : Exa Z T29.heap o28 "com/example/majority_lease/majoritylease/redis/Resp$ErrorReply" := Eq29
    have f29_9 : Fld Z T29.heap o28 "com/example/majority_lease/majoritylease/redis/Resp$ErrorReply" "message" "Ljava/lang/String;" (.ref sa1) := Fq29
    have sfk29 : ∀ x ∈ ([o28] : List Addr), Safe Z own_EL T27.vm h28 x := (sfS (Safe.exa hZ27.alike f28_8 (by decide) (by decide)) sf0)
    have hk29 : _ ≤ T29.heap.size := Nat.le_trans hk28 Kq29.1
    have C29 : CHr Z own_EL s.vm h0 T27.vm T29.heap := C28.trans (CHr.keep Kq29 sfk29 C28.1)
    have Zs29 : n0 ≤ T29.heap.size := (Nat.le_trans Zs28 Kq29.1)
    have O29 : Old Z n0 T29.heap := O28.keep Kq29 (allS ge_o28 all0)
    refine GoH.step (fun t_ k_ => st29.trans k_) ?_
    show GoH _ _ _ _ _ _ _ _ _ _ T29 (mkF m 38 #[.val (.int p1), .val (.int p2), .val (.int p3), .val (.int p4), .val (.int p5), .val (.ref sa1), .val (.ref sa27), .unset, .unset, .unset, .unset] [(.ref o28)])
    refine GoH.step (fun t_ k_ => XS.astore X29.here hx rfl (hb hby at_38) rfl rfl (l' := #[.val (.int p1), .val (.int p2), .val (.int p3), .val (.int p4), .val (.int p5), .val (.ref sa1), .val (.ref sa27), .val (.ref o28), .unset, .unset, .unset]) rfl k_) ?_
    show GoH _ _ _ _ _ _ _ _ _ _ T29 (mkF m 40 #[.val (.int p1), .val (.int p2), .val (.int p3), .val (.int p4), .val (.int p5), .val (.ref sa1), .val (.ref sa27), .val (.ref o28), .unset, .unset, .unset] [])
    refine GoH.step (fun t_ k_ => XS.iload X29.here hx rfl (hb hby at_40) rfl k_) ?_
    show GoH _ _ _ _ _ _ _ _ _ _ T29 (mkF m 42 #[.val (.int p1), .val (.int p2), .val (.int p3), .val (.int p4), .val (.int p5), .val (.ref sa1), .val (.ref sa27), .val (.ref o28), .unset, .unset, .unset] [(.int p5)])
    refine GoH.step (fun t_ k_ => XS.iconst X29.here hx rfl (hb hby at_42) k_) ?_
    show GoH _ _ _ _ _ _ _ _ _ _ T29 (mkF m 43 #[.val (.int p1), .val (.int p2), .val (.int p3), .val (.int p4), .val (.int p5), .val (.ref sa1), .val (.ref sa27), .val (.ref o28), .unset, .unset, .unset] [(.int (1 : Int32)), (.int p5)])
    refine GoH.step (fun t_ k_ => XT.iushr X29.here hx rfl (hb hby at_43) rfl k_) ?_
    show GoH _ _ _ _ _ _ _ _ _ _ T29 (mkF m 44 #[.val (.int p1), .val (.int p2), .val (.int p3), .val (.int p4), .val (.int p5), .val (.ref sa1), .val (.ref sa27), .val (.ref o28), .unset, .unset, .unset] [(.int (XT.ushr p5 (1 : Int32)))])
    refine GoH.step (fun t_ k_ => XS.iconst X29.here hx rfl (hb hby at_44) k_) ?_
    show GoH _ _ _ _ _ _ _ _ _ _ T29 (mkF m 45 #[.val (.int p1), .val (.int p2), .val (.int p3), .val (.int p4), .val (.int p5), .val (.ref sa1), .val (.ref sa27), .val (.ref o28), .unset, .unset, .unset] [(.int (3 : Int32)), (.int (XT.ushr p5 (1 : Int32)))])
    refine GoH.step (fun t_ k_ => XS.iand X29.here hx rfl (hb hby at_45) rfl k_) ?_
    show GoH _ _ _ _ _ _ _ _ _ _ T29 (mkF m 46 #[.val (.int p1), .val (.int p2), .val (.int p3), .val (.int p4), .val (.int p5), .val (.ref sa1), .val (.ref sa27), .val (.ref o28), .unset, .unset, .unset] [(.int ((XT.ushr p5 (1 : Int32)) &&& (3 : Int32)))])
    generalize hkd : ((XT.ushr p5 (1 : Int32)) &&& (3 : Int32)) = kd
    show GoH _ _ _ _ _ _ _ _ _ _ T29 (mkF m 46 #[.val (.int p1), .val (.int p2), .val (.int p3), .val (.int p4), .val (.int p5), .val (.ref sa1), .val (.ref sa27), .val (.ref o28), .unset, .unset, .unset] [(.int kd)])
    refine GoH.step (fun t_ k_ => XS.istore X29.here hx rfl (hb hby at_46) rfl (l' := #[.val (.int p1), .val (.int p2), .val (.int p3), .val (.int p4), .val (.int p5), .val (.ref sa1), .val (.ref sa27), .val (.ref o28), .val (.int kd), .unset, .unset]) rfl k_) ?_
    show GoH _ _ _ _ _ _ _ _ _ _ T29 (mkF m 48 #[.val (.int p1), .val (.int p2), .val (.int p3), .val (.int p4), .val (.int p5), .val (.ref sa1), .val (.ref sa27), .val (.ref o28), .val (.int kd), .unset, .unset] [])
    refine GoH.step (fun t_ k_ => XS.iload X29.here hx rfl (hb hby at_48) rfl k_) ?_
    show GoH _ _ _ _ _ _ _ _ _ _ T29 (mkF m 50 #[.val (.int p1), .val (.int p2), .val (.int p3), .val (.int p4), .val (.int p5), .val (.ref sa1), .val (.ref sa27), .val (.ref o28), .val (.int kd), .unset, .unset] [(.int kd)])
    by_cases hb50_30 : kd = (0 : Int32)
    · refine GoH.step (fun t_ k_ => XS.ifNo X29.here hx rfl (hb hby at_50) rfl (XT.i0_ne_f hb50_30) k_) ?_
      show GoH _ _ _ _ _ _ _ _ _ _ T29 (mkF m 53 #[.val (.int p1), .val (.int p2), .val (.int p3), .val (.int p4), .val (.int p5), .val (.ref sa1), .val (.ref sa27), .val (.ref o28), .val (.int kd), .unset, .unset] [])
      obtain ⟨T31, h31, X31, e31, E31, A31, D31, -, st31⟩ := newO X29 hx hZ27 hown27 (hw _ (List.mem_of_getElem? (i := 37) rfl)) (hw _ (List.mem_of_getElem? (i := 38) rfl)) (hw _ (List.mem_of_getElem? (i := 39) rfl)) rfl (g := (mkF m 53 #[.val (.int p1), .val (.int p2), .val (.int p3), .val (.int p4), .val (.int p5), .val (.ref sa1), .val (.ref sa27), .val (.ref o28), .val (.int kd), .unset, .unset] [])) rfl (hb hby at_53) (by decide) (by decide)
      obtain ⟨o31, g31⟩ : ∃ z, z = T29.heap.size := ⟨_, rfl⟩
      rw [← g31] at A31 D31 st31
      have ne_sa1_o31 : sa1 ≠ o31 := Nat.ne_of_lt (Nat.lt_of_lt_of_le f29_0.lt (Nat.le_of_eq g31.symm))
      have ne_st_1_o31 : st_1 ≠ o31 := Nat.ne_of_lt (Nat.lt_of_lt_of_le f29_3.lt (Nat.le_of_eq g31.symm))
      have ne_sa27_o31 : sa27 ≠ o31 := Nat.ne_of_lt (Nat.lt_of_lt_of_le f29_4.lt (Nat.le_of_eq g31.symm))
      have ne_st_27_o31 : st_27 ≠ o31 := Nat.ne_of_lt (Nat.lt_of_lt_of_le f29_7.lt (Nat.le_of_eq g31.symm))
      have ne_o28_o31 : o28 ≠ o31 := Nat.ne_of_lt (Nat.lt_of_lt_of_le f29_8.lt (Nat.le_of_eq g31.symm))
      have ge_o31 : n0 ≤ o31 := Nat.le_trans Zs29 (Nat.le_of_eq g31.symm)
      have f31_0 : Exa Z h31 sa1 "java/lang/String" := (f29_0.ext E31)
      have f31_1 : Fld Z h31 sa1 "java/lang/String" "coder" "B" (.int (0 : Int32)) := (f29_1.ext E31)
      have f31_2 : Fld Z h31 sa1 "java/lang/String" "value" "[B" (.ref st_1) := (f29_2.ext E31)
      have f31_3 : Arv Z h31 st_1 kb1 .byte (Int32.ofNat (own_draw p1 p2).length) (((own_draw p1 p2).map (fun c => c.toInt8.toInt32)).map Value.int) (.int (0 : Int32)) := (f29_3.ext E31)
      have f31_4 : Exa Z h31 sa27 "java/lang/String" := (f29_4.ext E31)
      have f31_5 : Fld Z h31 sa27 "java/lang/String" "coder" "B" (.int (0 : Int32)) := (f29_5.ext E31)
      have f31_6 : Fld Z h31 sa27 "java/lang/String" "value" "[B" (.ref st_27) := (f29_6.ext E31)
      have f31_7 : Arv Z h31 st_27 kb27 .byte (Int32.ofNat (own_draw p3 p2).length) (((own_draw p3 p2).map (fun c => c.toInt8.toInt32)).map Value.int) (.int (0 : Int32)) := (f29_7.ext E31)
      have f31_8 : Exa Z h31 o28 "com/example/majority_lease/majoritylease/redis/Resp$ErrorReply" := (f29_8.ext E31)
      have f31_9 : Fld Z h31 o28 "com/example/majority_lease/majoritylease/redis/Resp$ErrorReply" "message" "Ljava/lang/String;" (.ref sa1) := (f29_9.ext E31)
      have f31_10 : Exa Z h31 o31 "com/example/majority_lease/majoritylease/redis/Resp$ErrorReply" := A31
      have f31_11 : Fld Z h31 o31 "com/example/majority_lease/majoritylease/redis/Resp$ErrorReply" "message" "Ljava/lang/String;" .null := (D31 (Or.inr (hw _ (List.mem_of_getElem? (i := 45) rfl))) (ty := (.object "java/lang/String")) (by decide))
      have hk31 : _ ≤ h31.size := Nat.le_trans hk29 E31.1
      have C31 : CHr Z own_EL s.vm h0 T27.vm h31 := C29.trans (CHr.ext E31 C29.1)
      have Zs31 : n0 ≤ h31.size := (Nat.le_trans Zs29 E31.1)
      have O31 : Old Z n0 h31 := O29.ext E31
      refine GoH.step st31 ?_
      show GoH _ _ _ _ _ _ _ _ _ _ T31 (mkF m 56 #[.val (.int p1), .val (.int p2), .val (.int p3), .val (.int p4), .val (.int p5), .val (.ref sa1), .val (.ref sa27), .val (.ref o28), .val (.int kd), .unset, .unset] [(.ref o31)])
      refine GoH.step (fun t_ k_ => XS.dup X31.here hx rfl (hb hby at_56) rfl rfl k_) ?_
      show GoH _ _ _ _ _ _ _ _ _ _ T31 (mkF m 57 #[.val (.int p1), .val (.int p2), .val (.int p3), .val (.int p4), .val (.int p5), .val (.ref sa1), .val (.ref sa27), .val (.ref o28), .val (.int kd), .unset, .unset] [(.ref o31), (.ref o31)])
      refine GoH.step (fun t_ k_ => XS.aload X31.here hx rfl (hb hby at_57) rfl rfl k_) ?_
      show GoH _ _ _ _ _ _ _ _ _ _ T31 (mkF m 59 #[.val (.int p1), .val (.int p2), .val (.int p3), .val (.int p4), .val (.int p5), .val (.ref sa1), .val (.ref sa27), .val (.ref o28), .val (.int kd), .unset, .unset] [(.ref sa27), (.ref o31), (.ref o31)])
      obtain ⟨_, _, ⟨T32, L32, k32, n32⟩, -, X32, ⟨Lc32, hQ32, l32, y32, z32⟩, st32⟩ := X31.specialBack hx (y := (⟨"com/example/majority_lease/majoritylease/redis/Resp$ErrorReply", "<init>", "(Ljava/lang/String;)V"⟩ : MethodName)) rfl hown27 (mvT hZ27 (hw _ (List.mem_of_getElem? (i := 40) rfl))) (mvT hZ27 (hw _ (List.mem_of_getElem? (i := 41) rfl))) (mvT hZ27 (hw _ (List.mem_of_getElem? (i := 42) rfl))) (by decide) (backOf (W := 1) (rmEI l Z a0 hw [] o31 sa27 h31 n0 Zs31 ge_o31 f31_10 f31_11) hZ27 (hw _ (List.mem_of_getElem? (i := 42) rfl)) (hw _ (List.mem_of_getElem? (i := 39) rfl)) (by decide) (by decide)) (g := (mkF m 59 #[.val (.int p1), .val (.int p2), .val (.int p3), .val (.int p4), .val (.int p5), .val (.ref sa1), .val (.ref sa27), .val (.ref o28), .val (.int kd), .unset, .unset] [(.ref sa27), (.ref o31), (.ref o31)])) rfl (by rw [hml]; rfl) (Steps.refl _) (a := o31) (argsL := [(.ref sa27)]) (rest := [(.ref o31)]) (lenOf pd_6 rfl) rfl (by show 2 * 0 + _ ≤ _; exact Nat.le_of_eq rfl) (hb hby at_59) (fun _ _ => ⟨rfl, e31, (by decide : 0 + 6 + 6 + 1 + 0 + 1 + 0 ≤ _), (by decide : 0 + 12 + 12 + 1 + 0 + 1 + 0 ≤ _)⟩)
      dsimp only [Pt.U, Pt.locs, Pt.cells, Pt.slots] at X32 l32 y32 z32 st32 hQ32
      subst l32 y32 z32
      obtain ⟨rfl, N32q, Kq32, Eq32, Fq32⟩ := hQ32
      have N32 := Fr.app N29 N32q
      have f32_0 : Exa Z T32.heap sa1 "java/lang/String" := (f31_0.keep Kq32)
      have f32_1 : Fld Z T32.heap sa1 "java/lang/String" "coder" "B" (.int (0 : Int32)) := (f31_1.keep Kq32 (ninS ne_sa1_o31 nin0))
      have f32_2 : Fld Z T32.heap sa1 "java/lang/String" "value" "[B" (.ref st_1) := (f31_2.keep Kq32 (ninS ne_sa1_o31 nin0))
      have f32_3 : Arv Z T32.heap st_1 kb1 .byte (Int32.ofNat (own_draw p1 p2).length) (((own_draw p1 p2).map (fun c => c.toInt8.toInt32)).map Value.int) (.int (0 : Int32)) := (f31_3.keep Kq32 (ninS ne_st_1_o31 nin0))
      have f32_4 : Exa Z T32.heap sa27 "java/lang/String" := (f31_4.keep Kq32)
      have f32_5 : Fld Z T32.heap sa27 "java/lang/String" "coder" "B" (.int (0 : Int32)) := (f31_5.keep Kq32 (ninS ne_sa27_o31 nin0))
      have f32_6 : Fld Z T32.heap sa27 "java/lang/String" "value" "[B" (.ref st_27) := (f31_6.keep Kq32 (ninS ne_sa27_o31 nin0))
      have f32_7 : Arv Z T32.heap st_27 kb27 .byte (Int32.ofNat (own_draw p3 p2).length) (((own_draw p3 p2).map (fun c => c.toInt8.toInt32)).map Value.int) (.int (0 : Int32)) := (f31_7.keep Kq32 (ninS ne_st_27_o31 nin0))
      have f32_8 : Exa Z T32.heap o28 "com/example/majority_lease/majoritylease/redis/Resp$ErrorReply" := (f31_8.keep Kq32)
      have f32_9 : Fld Z T32.heap o28 "com/example/majority_lease/majoritylease/redis/Resp$ErrorReply" "message" "Ljava/lang/String;" (.ref sa1) := (f31_9.keep Kq32 (ninS ne_o28_o31 nin0))
      have f32_10 : Exa Z T32.heap o31 "com/example/majority_lease/majoritylease/redis/Resp$ErrorReply" := Eq32
      have f32_11 : Fld Z T32.heap o31 "com/example/majority_lease/majoritylease/redis/Resp$ErrorReply" "message" "Ljava/lang/String;" (.ref sa27) := Fq32
      have sfk32 : ∀ x ∈ ([o31] : List Addr), Safe Z own_EL T27.vm h31 x := (sfS (Safe.exa hZ27.alike f31_10 (by decide) (by decide)) sf0)
      have hk32 : _ ≤ T32.heap.size := Nat.le_trans hk31 Kq32.1
      have C32 : CHr Z own_EL s.vm h0 T27.vm T32.heap := C31.trans (CHr.keep Kq32 sfk32 C31.1)
      have Zs32 : n0 ≤ T32.heap.size := (Nat.le_trans Zs31 Kq32.1)
      have O32 : Old Z n0 T32.heap := O31.keep Kq32 (allS ge_o31 all0)
      refine GoH.step (fun t_ k_ => st32.trans k_) ?_
      show GoH _ _ _ _ _ _ _ _ _ _ T32 (mkF m 62 #[.val (.int p1), .val (.int p2), .val (.int p3), .val (.int p4), .val (.int p5), .val (.ref sa1), .val (.ref sa27), .val (.ref o28), .val (.int kd), .unset, .unset] [(.ref o31)])
      refine GoH.step (fun t_ k_ => XS.astore X32.here hx rfl (hb hby at_62) rfl rfl (l' := #[.val (.int p1), .val (.int p2), .val (.int p3), .val (.int p4), .val (.int p5), .val (.ref sa1), .val (.ref sa27), .val (.ref o28), .val (.int kd), .val (.ref o31), .unset]) rfl k_) ?_
      show GoH _ _ _ _ _ _ _ _ _ _ T32 (mkF m 64 #[.val (.int p1), .val (.int p2), .val (.int p3), .val (.int p4), .val (.int p5), .val (.ref sa1), .val (.ref sa27), .val (.ref o28), .val (.int kd), .val (.ref o31), .unset] [])
      refine GoH.step (fun t_ k_ => XS.aload X32.here hx rfl (hb hby at_64) rfl rfl k_) ?_
      show GoH _ _ _ _ _ _ _ _ _ _ T32 (mkF m 66 #[.val (.int p1), .val (.int p2), .val (.int p3), .val (.int p4), .val (.int p5), .val (.ref sa1), .val (.ref sa27), .val (.ref o28), .val (.int kd), .val (.ref o31), .unset] [(.ref sa1)])
      refine GoH.step (fun t_ k_ => XS.aload X32.here hx rfl (hb hby at_66) rfl rfl k_) ?_
      show GoH _ _ _ _ _ _ _ _ _ _ T32 (mkF m 68 #[.val (.int p1), .val (.int p2), .val (.int p3), .val (.int p4), .val (.int p5), .val (.ref sa1), .val (.ref sa27), .val (.ref o28), .val (.int kd), .val (.ref o31), .unset] [(.ref sa27), (.ref sa1)])
      obtain ⟨_, _, ⟨T33, L33, k33, n33⟩, -, X33, ⟨Lc33, hQ33, l33, y33, z33⟩, st33⟩ := Jvm.LawKit.callS X32 hx (y := (⟨"com/example/majority_lease/majoritylease/redis/ErrorReplyEqualsPinLaw", "sameText", "(Ljava/lang/String;Ljava/lang/String;)Z"⟩ : MethodName)) hown27 (mvT hZ27 (hw _ (List.mem_of_getElem? (i := 46) rfl))) (mvT hZ27 (hw _ (List.mem_of_getElem? (i := 47) rfl))) (mvT hZ27 (hw _ (List.mem_of_getElem? (i := 2) rfl))) (mvT hZ27 (hw _ (List.mem_of_getElem? (i := 48) rfl))) (by decide) (backOf (W := 0) (rmST l Z a0 hw [] sa1 sa27 G1 G3 st_1 kb1 (own_draw p1 p2) st_27 kb27 (own_draw p3 p2) T32.heap n0 Zs32 O32 S_COMPACT P_COMPACT S_SIOOBE r_SIOOBE f32_0 f32_2 f32_1 f32_3 (own_draw_ok p1 p2) (own_draw_le p1 p2) f32_4 f32_6 f32_5 f32_7 (own_draw_ok p3 p2) (own_draw_le p3 p2)) hZ27 (hw _ (List.mem_of_getElem? (i := 48) rfl)) (hw _ (List.mem_of_getElem? (i := 2) rfl)) (by decide) (by decide)) (g := (mkF m 68 #[.val (.int p1), .val (.int p2), .val (.int p3), .val (.int p4), .val (.int p5), .val (.ref sa1), .val (.ref sa27), .val (.ref o28), .val (.int kd), .val (.ref o31), .unset] [(.ref sa27), (.ref sa1)])) rfl (by rw [hml]; rfl) (argsL := [(.ref sa1), (.ref sa27)]) (rest := []) (lenOf pd_7 rfl) rfl (by show 2 * 0 + _ ≤ _; exact Nat.le_of_eq rfl) (hb hby at_68) (fun _ _ => ⟨rfl, rfl, (by decide : 0 + 6 + 6 + 1 + 0 + 1 + 0 + 0 ≤ _), (by decide : 0 + 12 + 12 + 1 + 0 + 1 + 0 + 0 ≤ _)⟩)
      dsimp only [Pt.U, Pt.locs, Pt.cells, Pt.slots] at X33 l33 y33 z33 st33 hQ33
      subst l33 y33 z33
      obtain ⟨rfl, N33q, e33⟩ := hQ33
      have N33 := Fr.app N32 N33q
      refine GoH.step st33 ?_
      show GoH _ _ _ _ _ _ _ _ _ _ T33 (mkF m 71 #[.val (.int p1), .val (.int p2), .val (.int p3), .val (.int p4), .val (.int p5), .val (.ref sa1), .val (.ref sa27), .val (.ref o28), .val (.int kd), .val (.ref o31), .unset] [(.int (own_same (own_draw p1 p2) (own_draw p3 p2)))])
      refine GoH.step (fun t_ k_ => XS.istore X33.here hx rfl (hb hby at_71) rfl (l' := #[.val (.int p1), .val (.int p2), .val (.int p3), .val (.int p4), .val (.int p5), .val (.ref sa1), .val (.ref sa27), .val (.ref o28), .val (.int kd), .val (.ref o31), .val (.int (own_same (own_draw p1 p2) (own_draw p3 p2)))]) rfl k_) ?_
      show GoH _ _ _ _ _ _ _ _ _ _ T33 (mkF m 73 #[.val (.int p1), .val (.int p2), .val (.int p3), .val (.int p4), .val (.int p5), .val (.ref sa1), .val (.ref sa27), .val (.ref o28), .val (.int kd), .val (.ref o31), .val (.int (own_same (own_draw p1 p2) (own_draw p3 p2)))] [])
      refine GoH.step (fun t_ k_ => XS.aload X33.here hx rfl (hb hby at_73) rfl rfl k_) ?_
      show GoH _ _ _ _ _ _ _ _ _ _ T33 (mkF m 75 #[.val (.int p1), .val (.int p2), .val (.int p3), .val (.int p4), .val (.int p5), .val (.ref sa1), .val (.ref sa27), .val (.ref o28), .val (.int kd), .val (.ref o31), .val (.int (own_same (own_draw p1 p2) (own_draw p3 p2)))] [(.ref o28)])
      refine GoH.step (fun t_ k_ => XS.aload X33.here hx rfl (hb hby at_75) rfl rfl k_) ?_
      show GoH _ _ _ _ _ _ _ _ _ _ T33 (mkF m 77 #[.val (.int p1), .val (.int p2), .val (.int p3), .val (.int p4), .val (.int p5), .val (.ref sa1), .val (.ref sa27), .val (.ref o28), .val (.int kd), .val (.ref o31), .val (.int (own_same (own_draw p1 p2) (own_draw p3 p2)))] [(.ref o31), (.ref o28)])
      obtain ⟨cq34, kq34, qa34, qb34, qc34⟩ := isOf hZ27 (e33) f32_8
      obtain ⟨_, _, ⟨T34, L34, k34, n34⟩, -, X34, ⟨Lc34, hQ34, l34, y34, z34⟩, st34⟩ := X33.virtualBack hx (y := (⟨"com/example/majority_lease/majoritylease/redis/Resp$ErrorReply", "equals", "(Ljava/lang/Object;)Z"⟩ : MethodName)) (z := (⟨"com/example/majority_lease/majoritylease/redis/Resp$ErrorReply", "equals", "(Ljava/lang/Object;)Z"⟩ : MethodName)) hown27 (mvT hZ27 (hw _ (List.mem_of_getElem? (i := 59) rfl))) (mvT hZ27 (hw _ (List.mem_of_getElem? (i := 60) rfl))) (notFace_of_selects (args := #[]) (mvT hZ27 (hw _ (List.mem_of_getElem? (i := 62) rfl)))) (mvT hZ27 (hw _ (List.mem_of_getElem? (i := 62) rfl))) (mvT hZ27 (hw _ (List.mem_of_getElem? (i := 61) rfl))) (by decide) (backOf (W := 0) (rmEQ l Z a0 hw [] o28 o31 sa1 sa27 G1 st_1 kb1 (own_draw p1 p2) st_27 kb27 (own_draw p3 p2) T32.heap n0 Zs32 O32 S_COMPACT P_COMPACT f32_10 f32_9 f32_11 f32_0 f32_2 f32_1 f32_3 (own_draw_ok p1 p2) (own_draw_le p1 p2) f32_4 f32_6 f32_5 f32_7 (own_draw_ok p3 p2) (own_draw_le p3 p2)) hZ27 (hw _ (List.mem_of_getElem? (i := 63) rfl)) (hw _ (List.mem_of_getElem? (i := 39) rfl)) (by decide) (by decide)) qa34 qc34 (g := (mkF m 77 #[.val (.int p1), .val (.int p2), .val (.int p3), .val (.int p4), .val (.int p5), .val (.ref sa1), .val (.ref sa27), .val (.ref o28), .val (.int kd), .val (.ref o31), .val (.int (own_same (own_draw p1 p2) (own_draw p3 p2)))] [(.ref o31), (.ref o28)])) rfl (by rw [hml]; rfl) (Steps.refl _) (argsL := [(.ref o31)]) (rest := []) (lenOf pd_4 rfl) rfl (by show 2 * 0 + _ ≤ _; exact Nat.le_of_eq rfl) (hb hby at_77) (fun _ _ => ⟨rfl, (e33), (by decide : 0 + 6 + 6 + 1 + 0 + 1 + 0 + 0 + 0 ≤ _), (by decide : 0 + 12 + 12 + 1 + 0 + 1 + 0 + 0 + 0 ≤ _)⟩)
      dsimp only [Pt.U, Pt.locs, Pt.cells, Pt.slots] at X34 l34 y34 z34 st34 hQ34
      subst l34 y34 z34
      obtain ⟨rfl, N34q, e34⟩ := hQ34
      have N34 := Fr.app N33 N34q
      refine GoH.step (fun t_ k_ => st34.trans k_) ?_
      show GoH _ _ _ _ _ _ _ _ _ _ T34 (mkF m 80 #[.val (.int p1), .val (.int p2), .val (.int p3), .val (.int p4), .val (.int p5), .val (.ref sa1), .val (.ref sa27), .val (.ref o28), .val (.int kd), .val (.ref o31), .val (.int (own_same (own_draw p1 p2) (own_draw p3 p2)))] [(.int (own_same (own_draw p3 p2) (own_draw p1 p2)))])
      refine GoH.step (fun t_ k_ => XS.iload X34.here hx rfl (hb hby at_80) rfl k_) ?_
      show GoH _ _ _ _ _ _ _ _ _ _ T34 (mkF m 82 #[.val (.int p1), .val (.int p2), .val (.int p3), .val (.int p4), .val (.int p5), .val (.ref sa1), .val (.ref sa27), .val (.ref o28), .val (.int kd), .val (.ref o31), .val (.int (own_same (own_draw p1 p2) (own_draw p3 p2)))] [(.int (own_same (own_draw p1 p2) (own_draw p3 p2))), (.int (own_same (own_draw p3 p2) (own_draw p1 p2)))])
      have hb82_35 : (own_same (own_draw p3 p2) (own_draw p1 p2)) = (own_same (own_draw p1 p2) (own_draw p3 p2)) := by exact own_same_comm _ _
      refine GoH.step (fun t_ k_ => XS.icmpNo X34.here hx rfl (hb hby at_82) rfl (XT.ii_ne_f hb82_35) k_) ?_
      show GoH _ _ _ _ _ _ _ _ _ _ T34 (mkF m 85 #[.val (.int p1), .val (.int p2), .val (.int p3), .val (.int p4), .val (.int p5), .val (.ref sa1), .val (.ref sa27), .val (.ref o28), .val (.int kd), .val (.ref o31), .val (.int (own_same (own_draw p1 p2) (own_draw p3 p2)))] [])
      refine GoH.step (fun t_ k_ => XS.aload X34.here hx rfl (hb hby at_85) rfl rfl k_) ?_
      show GoH _ _ _ _ _ _ _ _ _ _ T34 (mkF m 87 #[.val (.int p1), .val (.int p2), .val (.int p3), .val (.int p4), .val (.int p5), .val (.ref sa1), .val (.ref sa27), .val (.ref o28), .val (.int kd), .val (.ref o31), .val (.int (own_same (own_draw p1 p2) (own_draw p3 p2)))] [(.ref o31)])
      refine GoH.step (fun t_ k_ => XS.aload X34.here hx rfl (hb hby at_87) rfl rfl k_) ?_
      show GoH _ _ _ _ _ _ _ _ _ _ T34 (mkF m 89 #[.val (.int p1), .val (.int p2), .val (.int p3), .val (.int p4), .val (.int p5), .val (.ref sa1), .val (.ref sa27), .val (.ref o28), .val (.int kd), .val (.ref o31), .val (.int (own_same (own_draw p1 p2) (own_draw p3 p2)))] [(.ref o28), (.ref o31)])
      obtain ⟨cq36, kq36, qa36, qb36, qc36⟩ := isOf hZ27 (e34) f32_10
      obtain ⟨_, _, ⟨T36, L36, k36, n36⟩, -, X36, ⟨Lc36, hQ36, l36, y36, z36⟩, st36⟩ := X34.virtualBack hx (y := (⟨"com/example/majority_lease/majoritylease/redis/Resp$ErrorReply", "equals", "(Ljava/lang/Object;)Z"⟩ : MethodName)) (z := (⟨"com/example/majority_lease/majoritylease/redis/Resp$ErrorReply", "equals", "(Ljava/lang/Object;)Z"⟩ : MethodName)) hown27 (mvT hZ27 (hw _ (List.mem_of_getElem? (i := 59) rfl))) (mvT hZ27 (hw _ (List.mem_of_getElem? (i := 60) rfl))) (notFace_of_selects (args := #[]) (mvT hZ27 (hw _ (List.mem_of_getElem? (i := 62) rfl)))) (mvT hZ27 (hw _ (List.mem_of_getElem? (i := 62) rfl))) (mvT hZ27 (hw _ (List.mem_of_getElem? (i := 61) rfl))) (by decide) (backOf (W := 0) (rmEQ l Z a0 hw [] o31 o28 sa27 sa1 G1 st_27 kb27 (own_draw p3 p2) st_1 kb1 (own_draw p1 p2) T32.heap n0 Zs32 O32 S_COMPACT P_COMPACT f32_8 f32_11 f32_9 f32_4 f32_6 f32_5 f32_7 (own_draw_ok p3 p2) (own_draw_le p3 p2) f32_0 f32_2 f32_1 f32_3 (own_draw_ok p1 p2) (own_draw_le p1 p2)) hZ27 (hw _ (List.mem_of_getElem? (i := 63) rfl)) (hw _ (List.mem_of_getElem? (i := 39) rfl)) (by decide) (by decide)) qa36 qc36 (g := (mkF m 89 #[.val (.int p1), .val (.int p2), .val (.int p3), .val (.int p4), .val (.int p5), .val (.ref sa1), .val (.ref sa27), .val (.ref o28), .val (.int kd), .val (.ref o31), .val (.int (own_same (own_draw p1 p2) (own_draw p3 p2)))] [(.ref o28), (.ref o31)])) rfl (by rw [hml]; rfl) (Steps.refl _) (argsL := [(.ref o28)]) (rest := []) (lenOf pd_4 rfl) rfl (by show 2 * 0 + _ ≤ _; exact Nat.le_of_eq rfl) (hb hby at_89) (fun _ _ => ⟨rfl, (e34), (by decide : 0 + 6 + 6 + 1 + 0 + 1 + 0 + 0 + 0 + 0 ≤ _), (by decide : 0 + 12 + 12 + 1 + 0 + 1 + 0 + 0 + 0 + 0 ≤ _)⟩)
      dsimp only [Pt.U, Pt.locs, Pt.cells, Pt.slots] at X36 l36 y36 z36 st36 hQ36
      subst l36 y36 z36
      obtain ⟨rfl, N36q, e36⟩ := hQ36
      have N36 := Fr.app N34 N36q
      refine GoH.step (fun t_ k_ => st36.trans k_) ?_
      show GoH _ _ _ _ _ _ _ _ _ _ T36 (mkF m 92 #[.val (.int p1), .val (.int p2), .val (.int p3), .val (.int p4), .val (.int p5), .val (.ref sa1), .val (.ref sa27), .val (.ref o28), .val (.int kd), .val (.ref o31), .val (.int (own_same (own_draw p1 p2) (own_draw p3 p2)))] [(.int (own_same (own_draw p1 p2) (own_draw p3 p2)))])
      refine GoH.step (fun t_ k_ => XS.iload X36.here hx rfl (hb hby at_92) rfl k_) ?_
      show GoH _ _ _ _ _ _ _ _ _ _ T36 (mkF m 94 #[.val (.int p1), .val (.int p2), .val (.int p3), .val (.int p4), .val (.int p5), .val (.ref sa1), .val (.ref sa27), .val (.ref o28), .val (.int kd), .val (.ref o31), .val (.int (own_same (own_draw p1 p2) (own_draw p3 p2)))] [(.int (own_same (own_draw p1 p2) (own_draw p3 p2))), (.int (own_same (own_draw p1 p2) (own_draw p3 p2)))])
      have hb94_37 : (own_same (own_draw p1 p2) (own_draw p3 p2)) = (own_same (own_draw p1 p2) (own_draw p3 p2)) := by rfl
      refine GoH.step (fun t_ k_ => XS.icmpNo X36.here hx rfl (hb hby at_94) rfl (XT.ii_ne_f hb94_37) k_) ?_
      show GoH _ _ _ _ _ _ _ _ _ _ T36 (mkF m 97 #[.val (.int p1), .val (.int p2), .val (.int p3), .val (.int p4), .val (.int p5), .val (.ref sa1), .val (.ref sa27), .val (.ref o28), .val (.int kd), .val (.ref o31), .val (.int (own_same (own_draw p1 p2) (own_draw p3 p2)))] [])
      refine GoH.step (fun t_ k_ => XS.iconst X36.here hx rfl (hb hby at_97) k_) ?_
      show GoH _ _ _ _ _ _ _ _ _ _ T36 (mkF m 98 #[.val (.int p1), .val (.int p2), .val (.int p3), .val (.int p4), .val (.int p5), .val (.ref sa1), .val (.ref sa27), .val (.ref o28), .val (.int kd), .val (.ref o31), .val (.int (own_same (own_draw p1 p2) (own_draw p3 p2)))] [(.int (1 : Int32))])
      refine GoH.step (fun t_ k_ => XS.goto X36.here hx rfl (pc0 := 98) (pc' := 102) rfl (hb hby at_98) (by decide) (by decide) k_) ?_
      show GoH _ _ _ _ _ _ _ _ _ _ T36 (mkF m 102 #[.val (.int p1), .val (.int p2), .val (.int p3), .val (.int p4), .val (.int p5), .val (.ref sa1), .val (.ref sa27), .val (.ref o28), .val (.int kd), .val (.ref o31), .val (.int (own_same (own_draw p1 p2) (own_draw p3 p2)))] [(.int (1 : Int32))])
      have hkr : T27.heap.size ≤ T36.heap.size := by rw [(e36)]; exact hk32
      have hCr : CHr Z own_EL s.vm h0 T27.vm T36.heap := by rw [(e36)]; exact C32
      refine GoH.ret X36 hx hlk hS27 hkr hZ27 hEL hCr hret rfl (Or.inl ⟨rfl, Or.inr (Or.inl rfl), _, rfl⟩) (hb hby at_102) ?_ (by decide) (by decide)
      show Q0 Z _ _ _ _ _ _ _ _ _ _ T36.heap _
      exact ⟨rfl, N36⟩
    · refine GoH.step (fun t_ k_ => XS.ifYes X29.here hx rfl (pc0 := 50) (pc' := 103) rfl (hb hby at_50) rfl (XT.i0_ne_t hb50_30) (by decide) (by decide) k_) ?_
      show GoH _ _ _ _ _ _ _ _ _ _ T29 (mkF m 103 #[.val (.int p1), .val (.int p2), .val (.int p3), .val (.int p4), .val (.int p5), .val (.ref sa1), .val (.ref sa27), .val (.ref o28), .val (.int kd), .unset, .unset] [])
      refine GoH.step (fun t_ k_ => XS.iload X29.here hx rfl (hb hby at_103) rfl k_) ?_
      show GoH _ _ _ _ _ _ _ _ _ _ T29 (mkF m 105 #[.val (.int p1), .val (.int p2), .val (.int p3), .val (.int p4), .val (.int p5), .val (.ref sa1), .val (.ref sa27), .val (.ref o28), .val (.int kd), .unset, .unset] [(.int kd)])
      refine GoH.step (fun t_ k_ => XS.iconst X29.here hx rfl (hb hby at_105) k_) ?_
      show GoH _ _ _ _ _ _ _ _ _ _ T29 (mkF m 106 #[.val (.int p1), .val (.int p2), .val (.int p3), .val (.int p4), .val (.int p5), .val (.ref sa1), .val (.ref sa27), .val (.ref o28), .val (.int kd), .unset, .unset] [(.int (1 : Int32)), (.int kd)])
      by_cases hb106_38 : kd = (1 : Int32)
      · refine GoH.step (fun t_ k_ => XS.icmpNo X29.here hx rfl (hb hby at_106) rfl (XT.ii_ne_f hb106_38) k_) ?_
        show GoH _ _ _ _ _ _ _ _ _ _ T29 (mkF m 109 #[.val (.int p1), .val (.int p2), .val (.int p3), .val (.int p4), .val (.int p5), .val (.ref sa1), .val (.ref sa27), .val (.ref o28), .val (.int kd), .unset, .unset] [])
        refine GoH.step (fun t_ k_ => XS.aconstNull X29.here hx rfl (hb hby at_109) k_) ?_
        show GoH _ _ _ _ _ _ _ _ _ _ T29 (mkF m 110 #[.val (.int p1), .val (.int p2), .val (.int p3), .val (.int p4), .val (.int p5), .val (.ref sa1), .val (.ref sa27), .val (.ref o28), .val (.int kd), .unset, .unset] [.null])
        refine GoH.step (fun t_ k_ => XS.astore X29.here hx rfl (hb hby at_110) rfl rfl (l' := #[.val (.int p1), .val (.int p2), .val (.int p3), .val (.int p4), .val (.int p5), .val (.ref sa1), .val (.ref sa27), .val (.ref o28), .val (.int kd), .val .null, .unset]) rfl k_) ?_
        show GoH _ _ _ _ _ _ _ _ _ _ T29 (mkF m 112 #[.val (.int p1), .val (.int p2), .val (.int p3), .val (.int p4), .val (.int p5), .val (.ref sa1), .val (.ref sa27), .val (.ref o28), .val (.int kd), .val .null, .unset] [])
        refine GoH.step (fun t_ k_ => XS.aload X29.here hx rfl (hb hby at_112) rfl rfl k_) ?_
        show GoH _ _ _ _ _ _ _ _ _ _ T29 (mkF m 114 #[.val (.int p1), .val (.int p2), .val (.int p3), .val (.int p4), .val (.int p5), .val (.ref sa1), .val (.ref sa27), .val (.ref o28), .val (.int kd), .val .null, .unset] [(.ref o28)])
        refine GoH.step (fun t_ k_ => XS.aload X29.here hx rfl (hb hby at_114) rfl rfl k_) ?_
        show GoH _ _ _ _ _ _ _ _ _ _ T29 (mkF m 116 #[.val (.int p1), .val (.int p2), .val (.int p3), .val (.int p4), .val (.int p5), .val (.ref sa1), .val (.ref sa27), .val (.ref o28), .val (.int kd), .val .null, .unset] [.null, (.ref o28)])
        obtain ⟨cq39, kq39, qa39, qb39, qc39⟩ := isOf hZ27 rfl f29_8
        obtain ⟨_, _, ⟨T39, L39, k39, n39⟩, -, X39, ⟨Lc39, hQ39, l39, y39, z39⟩, st39⟩ := X29.virtualBack hx (y := (⟨"com/example/majority_lease/majoritylease/redis/Resp$ErrorReply", "equals", "(Ljava/lang/Object;)Z"⟩ : MethodName)) (z := (⟨"com/example/majority_lease/majoritylease/redis/Resp$ErrorReply", "equals", "(Ljava/lang/Object;)Z"⟩ : MethodName)) hown27 (mvT hZ27 (hw _ (List.mem_of_getElem? (i := 59) rfl))) (mvT hZ27 (hw _ (List.mem_of_getElem? (i := 60) rfl))) (notFace_of_selects (args := #[]) (mvT hZ27 (hw _ (List.mem_of_getElem? (i := 62) rfl)))) (mvT hZ27 (hw _ (List.mem_of_getElem? (i := 62) rfl))) (mvT hZ27 (hw _ (List.mem_of_getElem? (i := 61) rfl))) (by decide) (backOf (W := 0) (rmEQn l Z a0 hw [] o28 T29.heap n0 Zs29 ) hZ27 (hw _ (List.mem_of_getElem? (i := 63) rfl)) (hw _ (List.mem_of_getElem? (i := 39) rfl)) (by decide) (by decide)) qa39 qc39 (g := (mkF m 116 #[.val (.int p1), .val (.int p2), .val (.int p3), .val (.int p4), .val (.int p5), .val (.ref sa1), .val (.ref sa27), .val (.ref o28), .val (.int kd), .val .null, .unset] [.null, (.ref o28)])) rfl (by rw [hml]; rfl) (Steps.refl _) (argsL := [.null]) (rest := []) (lenOf pd_4 rfl) rfl (by show 2 * 0 + _ ≤ _; exact Nat.le_of_eq rfl) (hb hby at_116) (fun _ _ => ⟨rfl, rfl, (by decide : 0 + 6 + 6 + 1 + 0 + 0 ≤ _), (by decide : 0 + 12 + 12 + 1 + 0 + 0 ≤ _)⟩)
        dsimp only [Pt.U, Pt.locs, Pt.cells, Pt.slots] at X39 l39 y39 z39 st39 hQ39
        subst l39 y39 z39
        obtain ⟨rfl, N39q, e39⟩ := hQ39
        have N39 := Fr.app N29 N39q
        refine GoH.step (fun t_ k_ => st39.trans k_) ?_
        show GoH _ _ _ _ _ _ _ _ _ _ T39 (mkF m 119 #[.val (.int p1), .val (.int p2), .val (.int p3), .val (.int p4), .val (.int p5), .val (.ref sa1), .val (.ref sa27), .val (.ref o28), .val (.int kd), .val .null, .unset] [(.int (0 : Int32))])
        have hb119_40 : (0 : Int32) = (0 : Int32) := by decide
        refine GoH.step (fun t_ k_ => XS.ifNo X39.here hx rfl (hb hby at_119) rfl (XT.i0_ne_f hb119_40) k_) ?_
        show GoH _ _ _ _ _ _ _ _ _ _ T39 (mkF m 122 #[.val (.int p1), .val (.int p2), .val (.int p3), .val (.int p4), .val (.int p5), .val (.ref sa1), .val (.ref sa27), .val (.ref o28), .val (.int kd), .val .null, .unset] [])
        refine GoH.step (fun t_ k_ => XS.iconst X39.here hx rfl (hb hby at_122) k_) ?_
        show GoH _ _ _ _ _ _ _ _ _ _ T39 (mkF m 123 #[.val (.int p1), .val (.int p2), .val (.int p3), .val (.int p4), .val (.int p5), .val (.ref sa1), .val (.ref sa27), .val (.ref o28), .val (.int kd), .val .null, .unset] [(.int (1 : Int32))])
        refine GoH.step (fun t_ k_ => XS.goto X39.here hx rfl (pc0 := 123) (pc' := 127) rfl (hb hby at_123) (by decide) (by decide) k_) ?_
        show GoH _ _ _ _ _ _ _ _ _ _ T39 (mkF m 127 #[.val (.int p1), .val (.int p2), .val (.int p3), .val (.int p4), .val (.int p5), .val (.ref sa1), .val (.ref sa27), .val (.ref o28), .val (.int kd), .val .null, .unset] [(.int (1 : Int32))])
        have hkr : T27.heap.size ≤ T39.heap.size := by rw [(e39)]; exact hk29
        have hCr : CHr Z own_EL s.vm h0 T27.vm T39.heap := by rw [(e39)]; exact C29
        refine GoH.ret X39 hx hlk hS27 hkr hZ27 hEL hCr hret rfl (Or.inl ⟨rfl, Or.inr (Or.inl rfl), _, rfl⟩) (hb hby at_127) ?_ (by decide) (by decide)
        show Q0 Z _ _ _ _ _ _ _ _ _ _ T39.heap _
        exact ⟨rfl, N39⟩
      · refine GoH.step (fun t_ k_ => XS.icmpYes X29.here hx rfl (pc0 := 106) (pc' := 128) rfl (hb hby at_106) rfl (XT.ii_ne_t hb106_38) (by decide) (by decide) k_) ?_
        show GoH _ _ _ _ _ _ _ _ _ _ T29 (mkF m 128 #[.val (.int p1), .val (.int p2), .val (.int p3), .val (.int p4), .val (.int p5), .val (.ref sa1), .val (.ref sa27), .val (.ref o28), .val (.int kd), .unset, .unset] [])
        refine GoH.step (fun t_ k_ => XS.iload X29.here hx rfl (hb hby at_128) rfl k_) ?_
        show GoH _ _ _ _ _ _ _ _ _ _ T29 (mkF m 130 #[.val (.int p1), .val (.int p2), .val (.int p3), .val (.int p4), .val (.int p5), .val (.ref sa1), .val (.ref sa27), .val (.ref o28), .val (.int kd), .unset, .unset] [(.int kd)])
        refine GoH.step (fun t_ k_ => XS.iconst X29.here hx rfl (hb hby at_130) k_) ?_
        show GoH _ _ _ _ _ _ _ _ _ _ T29 (mkF m 131 #[.val (.int p1), .val (.int p2), .val (.int p3), .val (.int p4), .val (.int p5), .val (.ref sa1), .val (.ref sa27), .val (.ref o28), .val (.int kd), .unset, .unset] [(.int (2 : Int32)), (.int kd)])
        by_cases hb131_41 : kd = (2 : Int32)
        · refine GoH.step (fun t_ k_ => XS.icmpNo X29.here hx rfl (hb hby at_131) rfl (XT.ii_ne_f hb131_41) k_) ?_
          show GoH _ _ _ _ _ _ _ _ _ _ T29 (mkF m 134 #[.val (.int p1), .val (.int p2), .val (.int p3), .val (.int p4), .val (.int p5), .val (.ref sa1), .val (.ref sa27), .val (.ref o28), .val (.int kd), .unset, .unset] [])
          refine GoH.step (fun t_ k_ => XS.aload X29.here hx rfl (hb hby at_134) rfl rfl k_) ?_
          show GoH _ _ _ _ _ _ _ _ _ _ T29 (mkF m 136 #[.val (.int p1), .val (.int p2), .val (.int p3), .val (.int p4), .val (.int p5), .val (.ref sa1), .val (.ref sa27), .val (.ref o28), .val (.int kd), .unset, .unset] [(.ref sa1)])
          refine GoH.step (fun t_ k_ => XS.astore X29.here hx rfl (hb hby at_136) rfl rfl (l' := #[.val (.int p1), .val (.int p2), .val (.int p3), .val (.int p4), .val (.int p5), .val (.ref sa1), .val (.ref sa27), .val (.ref o28), .val (.int kd), .val (.ref sa1), .unset]) rfl k_) ?_
          show GoH _ _ _ _ _ _ _ _ _ _ T29 (mkF m 138 #[.val (.int p1), .val (.int p2), .val (.int p3), .val (.int p4), .val (.int p5), .val (.ref sa1), .val (.ref sa27), .val (.ref o28), .val (.int kd), .val (.ref sa1), .unset] [])
          refine GoH.step (fun t_ k_ => XS.aload X29.here hx rfl (hb hby at_138) rfl rfl k_) ?_
          show GoH _ _ _ _ _ _ _ _ _ _ T29 (mkF m 140 #[.val (.int p1), .val (.int p2), .val (.int p3), .val (.int p4), .val (.int p5), .val (.ref sa1), .val (.ref sa27), .val (.ref o28), .val (.int kd), .val (.ref sa1), .unset] [(.ref o28)])
          refine GoH.step (fun t_ k_ => XS.aload X29.here hx rfl (hb hby at_140) rfl rfl k_) ?_
          show GoH _ _ _ _ _ _ _ _ _ _ T29 (mkF m 142 #[.val (.int p1), .val (.int p2), .val (.int p3), .val (.int p4), .val (.int p5), .val (.ref sa1), .val (.ref sa27), .val (.ref o28), .val (.int kd), .val (.ref sa1), .unset] [(.ref sa1), (.ref o28)])
          obtain ⟨cq42, kq42, qa42, qb42, qc42⟩ := isOf hZ27 rfl f29_8
          obtain ⟨_, _, ⟨T42, L42, k42, n42⟩, -, X42, ⟨Lc42, hQ42, l42, y42, z42⟩, st42⟩ := X29.virtualBack hx (y := (⟨"com/example/majority_lease/majoritylease/redis/Resp$ErrorReply", "equals", "(Ljava/lang/Object;)Z"⟩ : MethodName)) (z := (⟨"com/example/majority_lease/majoritylease/redis/Resp$ErrorReply", "equals", "(Ljava/lang/Object;)Z"⟩ : MethodName)) hown27 (mvT hZ27 (hw _ (List.mem_of_getElem? (i := 59) rfl))) (mvT hZ27 (hw _ (List.mem_of_getElem? (i := 60) rfl))) (notFace_of_selects (args := #[]) (mvT hZ27 (hw _ (List.mem_of_getElem? (i := 62) rfl)))) (mvT hZ27 (hw _ (List.mem_of_getElem? (i := 62) rfl))) (mvT hZ27 (hw _ (List.mem_of_getElem? (i := 61) rfl))) (by decide) (backOf (W := 0) (rmEQs l Z a0 hw [] o28 sa1 T29.heap n0 Zs29 f29_0) hZ27 (hw _ (List.mem_of_getElem? (i := 63) rfl)) (hw _ (List.mem_of_getElem? (i := 39) rfl)) (by decide) (by decide)) qa42 qc42 (g := (mkF m 142 #[.val (.int p1), .val (.int p2), .val (.int p3), .val (.int p4), .val (.int p5), .val (.ref sa1), .val (.ref sa27), .val (.ref o28), .val (.int kd), .val (.ref sa1), .unset] [(.ref sa1), (.ref o28)])) rfl (by rw [hml]; rfl) (Steps.refl _) (argsL := [(.ref sa1)]) (rest := []) (lenOf pd_4 rfl) rfl (by show 2 * 0 + _ ≤ _; exact Nat.le_of_eq rfl) (hb hby at_142) (fun _ _ => ⟨rfl, rfl, (by decide : 0 + 6 + 6 + 1 + 0 + 0 ≤ _), (by decide : 0 + 12 + 12 + 1 + 0 + 0 ≤ _)⟩)
          dsimp only [Pt.U, Pt.locs, Pt.cells, Pt.slots] at X42 l42 y42 z42 st42 hQ42
          subst l42 y42 z42
          obtain ⟨rfl, N42q, e42⟩ := hQ42
          have N42 := Fr.app N29 N42q
          refine GoH.step (fun t_ k_ => st42.trans k_) ?_
          show GoH _ _ _ _ _ _ _ _ _ _ T42 (mkF m 145 #[.val (.int p1), .val (.int p2), .val (.int p3), .val (.int p4), .val (.int p5), .val (.ref sa1), .val (.ref sa27), .val (.ref o28), .val (.int kd), .val (.ref sa1), .unset] [(.int (0 : Int32))])
          have hb145_43 : (0 : Int32) = (0 : Int32) := by decide
          refine GoH.step (fun t_ k_ => XS.ifNo X42.here hx rfl (hb hby at_145) rfl (XT.i0_ne_f hb145_43) k_) ?_
          show GoH _ _ _ _ _ _ _ _ _ _ T42 (mkF m 148 #[.val (.int p1), .val (.int p2), .val (.int p3), .val (.int p4), .val (.int p5), .val (.ref sa1), .val (.ref sa27), .val (.ref o28), .val (.int kd), .val (.ref sa1), .unset] [])
          refine GoH.step (fun t_ k_ => XS.iconst X42.here hx rfl (hb hby at_148) k_) ?_
          show GoH _ _ _ _ _ _ _ _ _ _ T42 (mkF m 149 #[.val (.int p1), .val (.int p2), .val (.int p3), .val (.int p4), .val (.int p5), .val (.ref sa1), .val (.ref sa27), .val (.ref o28), .val (.int kd), .val (.ref sa1), .unset] [(.int (1 : Int32))])
          refine GoH.step (fun t_ k_ => XS.goto X42.here hx rfl (pc0 := 149) (pc' := 153) rfl (hb hby at_149) (by decide) (by decide) k_) ?_
          show GoH _ _ _ _ _ _ _ _ _ _ T42 (mkF m 153 #[.val (.int p1), .val (.int p2), .val (.int p3), .val (.int p4), .val (.int p5), .val (.ref sa1), .val (.ref sa27), .val (.ref o28), .val (.int kd), .val (.ref sa1), .unset] [(.int (1 : Int32))])
          have hkr : T27.heap.size ≤ T42.heap.size := by rw [(e42)]; exact hk29
          have hCr : CHr Z own_EL s.vm h0 T27.vm T42.heap := by rw [(e42)]; exact C29
          refine GoH.ret X42 hx hlk hS27 hkr hZ27 hEL hCr hret rfl (Or.inl ⟨rfl, Or.inr (Or.inl rfl), _, rfl⟩) (hb hby at_153) ?_ (by decide) (by decide)
          show Q0 Z _ _ _ _ _ _ _ _ _ _ T42.heap _
          exact ⟨rfl, N42⟩
        · refine GoH.step (fun t_ k_ => XS.icmpYes X29.here hx rfl (pc0 := 131) (pc' := 154) rfl (hb hby at_131) rfl (XT.ii_ne_t hb131_41) (by decide) (by decide) k_) ?_
          show GoH _ _ _ _ _ _ _ _ _ _ T29 (mkF m 154 #[.val (.int p1), .val (.int p2), .val (.int p3), .val (.int p4), .val (.int p5), .val (.ref sa1), .val (.ref sa27), .val (.ref o28), .val (.int kd), .unset, .unset] [])
          obtain ⟨T44, h44, X44, e44, E44, A44, D44, -, st44⟩ := newO X29 hx hZ27 hown27 (hw _ (List.mem_of_getElem? (i := 37) rfl)) (hw _ (List.mem_of_getElem? (i := 38) rfl)) (hw _ (List.mem_of_getElem? (i := 39) rfl)) rfl (g := (mkF m 154 #[.val (.int p1), .val (.int p2), .val (.int p3), .val (.int p4), .val (.int p5), .val (.ref sa1), .val (.ref sa27), .val (.ref o28), .val (.int kd), .unset, .unset] [])) rfl (hb hby at_154) (by decide) (by decide)
          obtain ⟨o44, g44⟩ : ∃ z, z = T29.heap.size := ⟨_, rfl⟩
          rw [← g44] at A44 D44 st44
          have ne_sa1_o44 : sa1 ≠ o44 := Nat.ne_of_lt (Nat.lt_of_lt_of_le f29_0.lt (Nat.le_of_eq g44.symm))
          have ne_st_1_o44 : st_1 ≠ o44 := Nat.ne_of_lt (Nat.lt_of_lt_of_le f29_3.lt (Nat.le_of_eq g44.symm))
          have ne_sa27_o44 : sa27 ≠ o44 := Nat.ne_of_lt (Nat.lt_of_lt_of_le f29_4.lt (Nat.le_of_eq g44.symm))
          have ne_st_27_o44 : st_27 ≠ o44 := Nat.ne_of_lt (Nat.lt_of_lt_of_le f29_7.lt (Nat.le_of_eq g44.symm))
          have ne_o28_o44 : o28 ≠ o44 := Nat.ne_of_lt (Nat.lt_of_lt_of_le f29_8.lt (Nat.le_of_eq g44.symm))
          have ge_o44 : n0 ≤ o44 := Nat.le_trans Zs29 (Nat.le_of_eq g44.symm)
          have f44_0 : Exa Z h44 sa1 "java/lang/String" := (f29_0.ext E44)
          have f44_1 : Fld Z h44 sa1 "java/lang/String" "coder" "B" (.int (0 : Int32)) := (f29_1.ext E44)
          have f44_2 : Fld Z h44 sa1 "java/lang/String" "value" "[B" (.ref st_1) := (f29_2.ext E44)
          have f44_3 : Arv Z h44 st_1 kb1 .byte (Int32.ofNat (own_draw p1 p2).length) (((own_draw p1 p2).map (fun c => c.toInt8.toInt32)).map Value.int) (.int (0 : Int32)) := (f29_3.ext E44)
          have f44_4 : Exa Z h44 sa27 "java/lang/String" := (f29_4.ext E44)
          have f44_5 : Fld Z h44 sa27 "java/lang/String" "coder" "B" (.int (0 : Int32)) := (f29_5.ext E44)
          have f44_6 : Fld Z h44 sa27 "java/lang/String" "value" "[B" (.ref st_27) := (f29_6.ext E44)
          have f44_7 : Arv Z h44 st_27 kb27 .byte (Int32.ofNat (own_draw p3 p2).length) (((own_draw p3 p2).map (fun c => c.toInt8.toInt32)).map Value.int) (.int (0 : Int32)) := (f29_7.ext E44)
          have f44_8 : Exa Z h44 o28 "com/example/majority_lease/majoritylease/redis/Resp$ErrorReply" := (f29_8.ext E44)
          have f44_9 : Fld Z h44 o28 "com/example/majority_lease/majoritylease/redis/Resp$ErrorReply" "message" "Ljava/lang/String;" (.ref sa1) := (f29_9.ext E44)
          have f44_10 : Exa Z h44 o44 "com/example/majority_lease/majoritylease/redis/Resp$ErrorReply" := A44
          have f44_11 : Fld Z h44 o44 "com/example/majority_lease/majoritylease/redis/Resp$ErrorReply" "message" "Ljava/lang/String;" .null := (D44 (Or.inr (hw _ (List.mem_of_getElem? (i := 45) rfl))) (ty := (.object "java/lang/String")) (by decide))
          have hk44 : _ ≤ h44.size := Nat.le_trans hk29 E44.1
          have C44 : CHr Z own_EL s.vm h0 T27.vm h44 := C29.trans (CHr.ext E44 C29.1)
          have Zs44 : n0 ≤ h44.size := (Nat.le_trans Zs29 E44.1)
          have O44 : Old Z n0 h44 := O29.ext E44
          refine GoH.step st44 ?_
          show GoH _ _ _ _ _ _ _ _ _ _ T44 (mkF m 157 #[.val (.int p1), .val (.int p2), .val (.int p3), .val (.int p4), .val (.int p5), .val (.ref sa1), .val (.ref sa27), .val (.ref o28), .val (.int kd), .unset, .unset] [(.ref o44)])
          refine GoH.step (fun t_ k_ => XS.dup X44.here hx rfl (hb hby at_157) rfl rfl k_) ?_
          show GoH _ _ _ _ _ _ _ _ _ _ T44 (mkF m 158 #[.val (.int p1), .val (.int p2), .val (.int p3), .val (.int p4), .val (.int p5), .val (.ref sa1), .val (.ref sa27), .val (.ref o28), .val (.int kd), .unset, .unset] [(.ref o44), (.ref o44)])
          refine GoH.step (fun t_ k_ => XS.iloadN X44.here hx rfl (hb hby at_158) rfl k_) ?_
          show GoH _ _ _ _ _ _ _ _ _ _ T44 (mkF m 159 #[.val (.int p1), .val (.int p2), .val (.int p3), .val (.int p4), .val (.int p5), .val (.ref sa1), .val (.ref sa27), .val (.ref o28), .val (.int kd), .unset, .unset] [(.int p1), (.ref o44), (.ref o44)])
          refine GoH.step (fun t_ k_ => XS.iloadN X44.here hx rfl (hb hby at_159) rfl k_) ?_
          show GoH _ _ _ _ _ _ _ _ _ _ T44 (mkF m 160 #[.val (.int p1), .val (.int p2), .val (.int p3), .val (.int p4), .val (.int p5), .val (.ref sa1), .val (.ref sa27), .val (.ref o28), .val (.int kd), .unset, .unset] [(.int p2), (.int p1), (.ref o44), (.ref o44)])
          obtain ⟨_, _, ⟨T45, L45, k45, n45⟩, -, X45, hSq45, hgr45, ⟨Lc45, hQ45, l45, y45, z45, CHq45⟩, st45⟩ := callSS X44 hx (y := (⟨"com/example/majority_lease/majoritylease/redis/ErrorReplyEqualsPinLaw", "draw", "(II)Ljava/lang/String;"⟩ : MethodName)) hown27 (mvT hZ27 (hw _ (List.mem_of_getElem? (i := 0) rfl))) (mvT hZ27 (hw _ (List.mem_of_getElem? (i := 1) rfl))) (mvT hZ27 (hw _ (List.mem_of_getElem? (i := 2) rfl))) (mvT hZ27 (hw _ (List.mem_of_getElem? (i := 3) rfl))) (by decide) (backOfSH (W := 2) (rmDr l Z a0 hw [] p1 p2 G1 h44 n0 Zs44 O44 S_COMPACT P_COMPACT) hZ27 (hw _ (List.mem_of_getElem? (i := 3) rfl)) (hw _ (List.mem_of_getElem? (i := 2) rfl)) (by decide) (by decide) hEL C44.1) (g := (mkF m 160 #[.val (.int p1), .val (.int p2), .val (.int p3), .val (.int p4), .val (.int p5), .val (.ref sa1), .val (.ref sa27), .val (.ref o28), .val (.int kd), .unset, .unset] [(.int p2), (.int p1), (.ref o44), (.ref o44)])) rfl (by rw [hml]; rfl) (argsL := [(.int p1), (.int p2)]) (rest := [(.ref o44), (.ref o44)]) (lenOf pd_5 rfl) rfl (by show 2 * 0 + _ ≤ _; exact Nat.le_of_eq rfl) (hb hby at_160) (fun _ _ => ⟨rfl, e44, (by decide : 0 + 6 + 6 + 1 + 0 + 1 + 6 ≤ _), (by decide : 0 + 12 + 12 + 1 + 0 + 1 + 12 ≤ _)⟩)
          dsimp only [Pt.U, Pt.locs, Pt.cells, Pt.slots] at X45 hSq45 hgr45 l45 y45 z45 st45 hQ45 CHq45
          subst l45 y45 z45
          have X45 : Stand p l e _ (s.setVm T45.vm) _ _ _ _ _ T45 _ _ _ := X45
          have hS45 : s.Since T45.vm T45.heap.size := State.Since.trans hS27 hSq45 (Nat.le_trans hk44 (by first | exact hgr45 | (rw [← e44]; exact hgr45)))
          have hZ45 : Z.Warmed39 (s.setVm T45.vm).vm := State.Warmed39.trans (t := s.setVm T27.vm) hZ27 hSq45.1
          have hown45 : (s.setVm T45.vm).vm.findClass "com/example/majority_lease/majoritylease/redis/ErrorReplyEqualsPinLaw" = some m.cls := by rw [show (s.setVm T45.vm).vm = T45.vm from rfl, hSq45.1.alike.findClass]; exact hown27
          have hk45 : T45.heap.size ≤ T45.heap.size := Nat.le_refl _
          obtain ⟨sa45, st_45, kb45, rfl, N45q, Kq45, gq45, Eq45, Cq45, Vq45, Aq45⟩ := hQ45
          have N45 := Fr.app N29 N45q
          have ne_sa1_sa45 : sa1 ≠ sa45 := Nat.ne_of_lt (Nat.lt_of_lt_of_le f44_0.lt gq45)
          have ne_st_1_sa45 : st_1 ≠ sa45 := Nat.ne_of_lt (Nat.lt_of_lt_of_le f44_3.lt gq45)
          have ne_sa27_sa45 : sa27 ≠ sa45 := Nat.ne_of_lt (Nat.lt_of_lt_of_le f44_4.lt gq45)
          have ne_st_27_sa45 : st_27 ≠ sa45 := Nat.ne_of_lt (Nat.lt_of_lt_of_le f44_7.lt gq45)
          have ne_o28_sa45 : o28 ≠ sa45 := Nat.ne_of_lt (Nat.lt_of_lt_of_le f44_8.lt gq45)
          have ne_o44_sa45 : o44 ≠ sa45 := Nat.ne_of_lt (Nat.lt_of_lt_of_le f44_10.lt gq45)
          have f45_0 : Exa Z T45.heap sa1 "java/lang/String" := (f44_0.keep Kq45)
          have f45_1 : Fld Z T45.heap sa1 "java/lang/String" "coder" "B" (.int (0 : Int32)) := (f44_1.keep Kq45 nin0)
          have f45_2 : Fld Z T45.heap sa1 "java/lang/String" "value" "[B" (.ref st_1) := (f44_2.keep Kq45 nin0)
          have f45_3 : Arv Z T45.heap st_1 kb1 .byte (Int32.ofNat (own_draw p1 p2).length) (((own_draw p1 p2).map (fun c => c.toInt8.toInt32)).map Value.int) (.int (0 : Int32)) := (f44_3.keep Kq45 nin0)
          have f45_4 : Exa Z T45.heap sa27 "java/lang/String" := (f44_4.keep Kq45)
          have f45_5 : Fld Z T45.heap sa27 "java/lang/String" "coder" "B" (.int (0 : Int32)) := (f44_5.keep Kq45 nin0)
          have f45_6 : Fld Z T45.heap sa27 "java/lang/String" "value" "[B" (.ref st_27) := (f44_6.keep Kq45 nin0)
          have f45_7 : Arv Z T45.heap st_27 kb27 .byte (Int32.ofNat (own_draw p3 p2).length) (((own_draw p3 p2).map (fun c => c.toInt8.toInt32)).map Value.int) (.int (0 : Int32)) := (f44_7.keep Kq45 nin0)
          have f45_8 : Exa Z T45.heap o28 "com/example/majority_lease/majoritylease/redis/Resp$ErrorReply" := (f44_8.keep Kq45)
          have f45_9 : Fld Z T45.heap o28 "com/example/majority_lease/majoritylease/redis/Resp$ErrorReply" "message" "Ljava/lang/String;" (.ref sa1) := (f44_9.keep Kq45 nin0)
          have f45_10 : Exa Z T45.heap o44 "com/example/majority_lease/majoritylease/redis/Resp$ErrorReply" := (f44_10.keep Kq45)
          have f45_11 : Fld Z T45.heap o44 "com/example/majority_lease/majoritylease/redis/Resp$ErrorReply" "message" "Ljava/lang/String;" .null := (f44_11.keep Kq45 nin0)
          have f45_12 : Exa Z T45.heap sa45 "java/lang/String" := Eq45
          have f45_13 : Fld Z T45.heap sa45 "java/lang/String" "coder" "B" (.int (0 : Int32)) := Cq45
          have f45_14 : Fld Z T45.heap sa45 "java/lang/String" "value" "[B" (.ref st_45) := Vq45
          have f45_15 : Arv Z T45.heap st_45 kb45 .byte (Int32.ofNat (own_draw p1 p2).length) (((own_draw p1 p2).map (fun c => c.toInt8.toInt32)).map Value.int) (.int (0 : Int32)) := Aq45
          have Zs45 : n0 ≤ T45.heap.size := (Nat.le_trans Zs44 Kq45.1)
          have O45 : Old Z n0 T45.heap := O44.keep Kq45 all0
          have CC45 : CHr Z own_EL s.vm h0 T45.vm T45.heap := C44.trans CHq45
          refine GoH.step (fun t_ k_ => st45.trans k_) ?_
          show GoH _ _ _ _ _ _ _ _ _ _ T45 (mkF m 163 #[.val (.int p1), .val (.int p2), .val (.int p3), .val (.int p4), .val (.int p5), .val (.ref sa1), .val (.ref sa27), .val (.ref o28), .val (.int kd), .unset, .unset] [(.ref sa45), (.ref o44), (.ref o44)])
          obtain ⟨_, _, ⟨T46, L46, k46, n46⟩, -, X46, ⟨Lc46, hQ46, l46, y46, z46⟩, st46⟩ := X45.specialBack hx (y := (⟨"com/example/majority_lease/majoritylease/redis/Resp$ErrorReply", "<init>", "(Ljava/lang/String;)V"⟩ : MethodName)) rfl hown45 (mvT hZ45 (hw _ (List.mem_of_getElem? (i := 40) rfl))) (mvT hZ45 (hw _ (List.mem_of_getElem? (i := 41) rfl))) (mvT hZ45 (hw _ (List.mem_of_getElem? (i := 42) rfl))) (by decide) (backOf (W := 1) (rmEI l Z a0 hw [] o44 sa45 T45.heap n0 Zs45 ge_o44 f45_10 f45_11) hZ45 (hw _ (List.mem_of_getElem? (i := 42) rfl)) (hw _ (List.mem_of_getElem? (i := 39) rfl)) (by decide) (by decide)) (g := (mkF m 163 #[.val (.int p1), .val (.int p2), .val (.int p3), .val (.int p4), .val (.int p5), .val (.ref sa1), .val (.ref sa27), .val (.ref o28), .val (.int kd), .unset, .unset] [(.ref sa45), (.ref o44), (.ref o44)])) rfl (by rw [hml]; rfl) (Steps.refl _) (a := o44) (argsL := [(.ref sa45)]) (rest := [(.ref o44)]) (lenOf pd_6 rfl) rfl (by show 2 * 0 + _ ≤ _; exact Nat.le_of_eq rfl) (hb hby at_163) (fun _ _ => ⟨rfl, rfl, (by decide : 0 + 6 + 6 + 1 + 0 + 1 + 6 + 0 ≤ _), (by decide : 0 + 12 + 12 + 1 + 0 + 1 + 12 + 0 ≤ _)⟩)
          dsimp only [Pt.U, Pt.locs, Pt.cells, Pt.slots] at X46 l46 y46 z46 st46 hQ46
          subst l46 y46 z46
          obtain ⟨rfl, N46q, Kq46, Eq46, Fq46⟩ := hQ46
          have N46 := Fr.app N45 N46q
          have f46_0 : Exa Z T46.heap sa1 "java/lang/String" := (f45_0.keep Kq46)
          have f46_1 : Fld Z T46.heap sa1 "java/lang/String" "coder" "B" (.int (0 : Int32)) := (f45_1.keep Kq46 (ninS ne_sa1_o44 nin0))
          have f46_2 : Fld Z T46.heap sa1 "java/lang/String" "value" "[B" (.ref st_1) := (f45_2.keep Kq46 (ninS ne_sa1_o44 nin0))
          have f46_3 : Arv Z T46.heap st_1 kb1 .byte (Int32.ofNat (own_draw p1 p2).length) (((own_draw p1 p2).map (fun c => c.toInt8.toInt32)).map Value.int) (.int (0 : Int32)) := (f45_3.keep Kq46 (ninS ne_st_1_o44 nin0))
          have f46_4 : Exa Z T46.heap sa27 "java/lang/String" := (f45_4.keep Kq46)
          have f46_5 : Fld Z T46.heap sa27 "java/lang/String" "coder" "B" (.int (0 : Int32)) := (f45_5.keep Kq46 (ninS ne_sa27_o44 nin0))
          have f46_6 : Fld Z T46.heap sa27 "java/lang/String" "value" "[B" (.ref st_27) := (f45_6.keep Kq46 (ninS ne_sa27_o44 nin0))
          have f46_7 : Arv Z T46.heap st_27 kb27 .byte (Int32.ofNat (own_draw p3 p2).length) (((own_draw p3 p2).map (fun c => c.toInt8.toInt32)).map Value.int) (.int (0 : Int32)) := (f45_7.keep Kq46 (ninS ne_st_27_o44 nin0))
          have f46_8 : Exa Z T46.heap o28 "com/example/majority_lease/majoritylease/redis/Resp$ErrorReply" := (f45_8.keep Kq46)
          have f46_9 : Fld Z T46.heap o28 "com/example/majority_lease/majoritylease/redis/Resp$ErrorReply" "message" "Ljava/lang/String;" (.ref sa1) := (f45_9.keep Kq46 (ninS ne_o28_o44 nin0))
          have f46_10 : Exa Z T46.heap sa45 "java/lang/String" := (f45_12.keep Kq46)
          have f46_11 : Fld Z T46.heap sa45 "java/lang/String" "coder" "B" (.int (0 : Int32)) := (f45_13.keep Kq46 (ninS (Ne.symm ne_o44_sa45) nin0))
          have f46_12 : Fld Z T46.heap sa45 "java/lang/String" "value" "[B" (.ref st_45) := (f45_14.keep Kq46 (ninS (Ne.symm ne_o44_sa45) nin0))
          have f46_13 : Arv Z T46.heap st_45 kb45 .byte (Int32.ofNat (own_draw p1 p2).length) (((own_draw p1 p2).map (fun c => c.toInt8.toInt32)).map Value.int) (.int (0 : Int32)) := (f45_15.keep Kq46 (ninS (Ne.symm (own_ne_arv f45_10 (hw _ (List.mem_of_getElem? (i := 38) rfl)) f45_15)) nin0))
          have f46_14 : Exa Z T46.heap o44 "com/example/majority_lease/majoritylease/redis/Resp$ErrorReply" := Eq46
          have f46_15 : Fld Z T46.heap o44 "com/example/majority_lease/majoritylease/redis/Resp$ErrorReply" "message" "Ljava/lang/String;" (.ref sa45) := Fq46
          have sfk46 : ∀ x ∈ ([o44] : List Addr), Safe Z own_EL T45.vm T45.heap x := (sfS (Safe.exa hZ45.alike f45_10 (by decide) (by decide)) sf0)
          have hk46 : _ ≤ T46.heap.size := Nat.le_trans hk45 Kq46.1
          have C46 : CHr Z own_EL s.vm h0 T45.vm T46.heap := CC45.trans (CHr.keep Kq46 sfk46 CC45.1)
          have Zs46 : n0 ≤ T46.heap.size := (Nat.le_trans Zs45 Kq46.1)
          have O46 : Old Z n0 T46.heap := O45.keep Kq46 (allS ge_o44 all0)
          refine GoH.step (fun t_ k_ => st46.trans k_) ?_
          show GoH _ _ _ _ _ _ _ _ _ _ T46 (mkF m 166 #[.val (.int p1), .val (.int p2), .val (.int p3), .val (.int p4), .val (.int p5), .val (.ref sa1), .val (.ref sa27), .val (.ref o28), .val (.int kd), .unset, .unset] [(.ref o44)])
          refine GoH.step (fun t_ k_ => XS.astore X46.here hx rfl (hb hby at_166) rfl rfl (l' := #[.val (.int p1), .val (.int p2), .val (.int p3), .val (.int p4), .val (.int p5), .val (.ref sa1), .val (.ref sa27), .val (.ref o28), .val (.int kd), .val (.ref o44), .unset]) rfl k_) ?_
          show GoH _ _ _ _ _ _ _ _ _ _ T46 (mkF m 168 #[.val (.int p1), .val (.int p2), .val (.int p3), .val (.int p4), .val (.int p5), .val (.ref sa1), .val (.ref sa27), .val (.ref o28), .val (.int kd), .val (.ref o44), .unset] [])
          refine GoH.step (fun t_ k_ => XS.aload X46.here hx rfl (hb hby at_168) rfl rfl k_) ?_
          show GoH _ _ _ _ _ _ _ _ _ _ T46 (mkF m 170 #[.val (.int p1), .val (.int p2), .val (.int p3), .val (.int p4), .val (.int p5), .val (.ref sa1), .val (.ref sa27), .val (.ref o28), .val (.int kd), .val (.ref o44), .unset] [(.ref o28)])
          refine GoH.step (fun t_ k_ => XS.aload X46.here hx rfl (hb hby at_170) rfl rfl k_) ?_
          show GoH _ _ _ _ _ _ _ _ _ _ T46 (mkF m 172 #[.val (.int p1), .val (.int p2), .val (.int p3), .val (.int p4), .val (.int p5), .val (.ref sa1), .val (.ref sa27), .val (.ref o28), .val (.int kd), .val (.ref o44), .unset] [(.ref o28), (.ref o28)])
          obtain ⟨cq47, kq47, qa47, qb47, qc47⟩ := isOf hZ45 rfl f46_8
          obtain ⟨_, _, ⟨T47, L47, k47, n47⟩, -, X47, ⟨Lc47, hQ47, l47, y47, z47⟩, st47⟩ := X46.virtualBack hx (y := (⟨"com/example/majority_lease/majoritylease/redis/Resp$ErrorReply", "equals", "(Ljava/lang/Object;)Z"⟩ : MethodName)) (z := (⟨"com/example/majority_lease/majoritylease/redis/Resp$ErrorReply", "equals", "(Ljava/lang/Object;)Z"⟩ : MethodName)) hown45 (mvT hZ45 (hw _ (List.mem_of_getElem? (i := 59) rfl))) (mvT hZ45 (hw _ (List.mem_of_getElem? (i := 60) rfl))) (notFace_of_selects (args := #[]) (mvT hZ45 (hw _ (List.mem_of_getElem? (i := 62) rfl)))) (mvT hZ45 (hw _ (List.mem_of_getElem? (i := 62) rfl))) (mvT hZ45 (hw _ (List.mem_of_getElem? (i := 61) rfl))) (by decide) (backOf (W := 0) (rmEQ l Z a0 hw [] o28 o28 sa1 sa1 G1 st_1 kb1 (own_draw p1 p2) st_1 kb1 (own_draw p1 p2) T46.heap n0 Zs46 O46 S_COMPACT P_COMPACT f46_8 f46_9 f46_9 f46_0 f46_2 f46_1 f46_3 (own_draw_ok p1 p2) (own_draw_le p1 p2) f46_0 f46_2 f46_1 f46_3 (own_draw_ok p1 p2) (own_draw_le p1 p2)) hZ45 (hw _ (List.mem_of_getElem? (i := 63) rfl)) (hw _ (List.mem_of_getElem? (i := 39) rfl)) (by decide) (by decide)) qa47 qc47 (g := (mkF m 172 #[.val (.int p1), .val (.int p2), .val (.int p3), .val (.int p4), .val (.int p5), .val (.ref sa1), .val (.ref sa27), .val (.ref o28), .val (.int kd), .val (.ref o44), .unset] [(.ref o28), (.ref o28)])) rfl (by rw [hml]; rfl) (Steps.refl _) (argsL := [(.ref o28)]) (rest := []) (lenOf pd_4 rfl) rfl (by show 2 * 0 + _ ≤ _; exact Nat.le_of_eq rfl) (hb hby at_172) (fun _ _ => ⟨rfl, rfl, (by decide : 0 + 6 + 6 + 1 + 0 + 1 + 6 + 0 + 0 ≤ _), (by decide : 0 + 12 + 12 + 1 + 0 + 1 + 12 + 0 + 0 ≤ _)⟩)
          dsimp only [Pt.U, Pt.locs, Pt.cells, Pt.slots] at X47 l47 y47 z47 st47 hQ47
          subst l47 y47 z47
          obtain ⟨rfl, N47q, e47⟩ := hQ47
          have N47 := Fr.app N46 N47q
          refine GoH.step (fun t_ k_ => st47.trans k_) ?_
          show GoH _ _ _ _ _ _ _ _ _ _ T47 (mkF m 175 #[.val (.int p1), .val (.int p2), .val (.int p3), .val (.int p4), .val (.int p5), .val (.ref sa1), .val (.ref sa27), .val (.ref o28), .val (.int kd), .val (.ref o44), .unset] [(.int (own_same (own_draw p1 p2) (own_draw p1 p2)))])
          have hb175_48 : ¬ ((own_same (own_draw p1 p2) (own_draw p1 p2)) = (0 : Int32)) := by simp [own_same]
          refine GoH.step (fun t_ k_ => XS.ifNo X47.here hx rfl (hb hby at_175) rfl (XT.i0_eq_f hb175_48) k_) ?_
          show GoH _ _ _ _ _ _ _ _ _ _ T47 (mkF m 178 #[.val (.int p1), .val (.int p2), .val (.int p3), .val (.int p4), .val (.int p5), .val (.ref sa1), .val (.ref sa27), .val (.ref o28), .val (.int kd), .val (.ref o44), .unset] [])
          refine GoH.step (fun t_ k_ => XS.aload X47.here hx rfl (hb hby at_178) rfl rfl k_) ?_
          show GoH _ _ _ _ _ _ _ _ _ _ T47 (mkF m 180 #[.val (.int p1), .val (.int p2), .val (.int p3), .val (.int p4), .val (.int p5), .val (.ref sa1), .val (.ref sa27), .val (.ref o28), .val (.int kd), .val (.ref o44), .unset] [(.ref o28)])
          refine GoH.step (fun t_ k_ => XS.aload X47.here hx rfl (hb hby at_180) rfl rfl k_) ?_
          show GoH _ _ _ _ _ _ _ _ _ _ T47 (mkF m 182 #[.val (.int p1), .val (.int p2), .val (.int p3), .val (.int p4), .val (.int p5), .val (.ref sa1), .val (.ref sa27), .val (.ref o28), .val (.int kd), .val (.ref o44), .unset] [(.ref o44), (.ref o28)])
          obtain ⟨cq49, kq49, qa49, qb49, qc49⟩ := isOf hZ45 (e47) f46_8
          obtain ⟨_, _, ⟨T49, L49, k49, n49⟩, -, X49, ⟨Lc49, hQ49, l49, y49, z49⟩, st49⟩ := X47.virtualBack hx (y := (⟨"com/example/majority_lease/majoritylease/redis/Resp$ErrorReply", "equals", "(Ljava/lang/Object;)Z"⟩ : MethodName)) (z := (⟨"com/example/majority_lease/majoritylease/redis/Resp$ErrorReply", "equals", "(Ljava/lang/Object;)Z"⟩ : MethodName)) hown45 (mvT hZ45 (hw _ (List.mem_of_getElem? (i := 59) rfl))) (mvT hZ45 (hw _ (List.mem_of_getElem? (i := 60) rfl))) (notFace_of_selects (args := #[]) (mvT hZ45 (hw _ (List.mem_of_getElem? (i := 62) rfl)))) (mvT hZ45 (hw _ (List.mem_of_getElem? (i := 62) rfl))) (mvT hZ45 (hw _ (List.mem_of_getElem? (i := 61) rfl))) (by decide) (backOf (W := 0) (rmEQ l Z a0 hw [] o28 o44 sa1 sa45 G1 st_1 kb1 (own_draw p1 p2) st_45 kb45 (own_draw p1 p2) T46.heap n0 Zs46 O46 S_COMPACT P_COMPACT f46_14 f46_9 f46_15 f46_0 f46_2 f46_1 f46_3 (own_draw_ok p1 p2) (own_draw_le p1 p2) f46_10 f46_12 f46_11 f46_13 (own_draw_ok p1 p2) (own_draw_le p1 p2)) hZ45 (hw _ (List.mem_of_getElem? (i := 63) rfl)) (hw _ (List.mem_of_getElem? (i := 39) rfl)) (by decide) (by decide)) qa49 qc49 (g := (mkF m 182 #[.val (.int p1), .val (.int p2), .val (.int p3), .val (.int p4), .val (.int p5), .val (.ref sa1), .val (.ref sa27), .val (.ref o28), .val (.int kd), .val (.ref o44), .unset] [(.ref o44), (.ref o28)])) rfl (by rw [hml]; rfl) (Steps.refl _) (argsL := [(.ref o44)]) (rest := []) (lenOf pd_4 rfl) rfl (by show 2 * 0 + _ ≤ _; exact Nat.le_of_eq rfl) (hb hby at_182) (fun _ _ => ⟨rfl, (e47), (by decide : 0 + 6 + 6 + 1 + 0 + 1 + 6 + 0 + 0 + 0 ≤ _), (by decide : 0 + 12 + 12 + 1 + 0 + 1 + 12 + 0 + 0 + 0 ≤ _)⟩)
          dsimp only [Pt.U, Pt.locs, Pt.cells, Pt.slots] at X49 l49 y49 z49 st49 hQ49
          subst l49 y49 z49
          obtain ⟨rfl, N49q, e49⟩ := hQ49
          have N49 := Fr.app N47 N49q
          refine GoH.step (fun t_ k_ => st49.trans k_) ?_
          show GoH _ _ _ _ _ _ _ _ _ _ T49 (mkF m 185 #[.val (.int p1), .val (.int p2), .val (.int p3), .val (.int p4), .val (.int p5), .val (.ref sa1), .val (.ref sa27), .val (.ref o28), .val (.int kd), .val (.ref o44), .unset] [(.int (own_same (own_draw p1 p2) (own_draw p1 p2)))])
          have hb185_50 : ¬ ((own_same (own_draw p1 p2) (own_draw p1 p2)) = (0 : Int32)) := by simp [own_same]
          refine GoH.step (fun t_ k_ => XS.ifNo X49.here hx rfl (hb hby at_185) rfl (XT.i0_eq_f hb185_50) k_) ?_
          show GoH _ _ _ _ _ _ _ _ _ _ T49 (mkF m 188 #[.val (.int p1), .val (.int p2), .val (.int p3), .val (.int p4), .val (.int p5), .val (.ref sa1), .val (.ref sa27), .val (.ref o28), .val (.int kd), .val (.ref o44), .unset] [])
          refine GoH.step (fun t_ k_ => XS.iconst X49.here hx rfl (hb hby at_188) k_) ?_
          show GoH _ _ _ _ _ _ _ _ _ _ T49 (mkF m 189 #[.val (.int p1), .val (.int p2), .val (.int p3), .val (.int p4), .val (.int p5), .val (.ref sa1), .val (.ref sa27), .val (.ref o28), .val (.int kd), .val (.ref o44), .unset] [(.int (1 : Int32))])
          refine GoH.step (fun t_ k_ => XS.goto X49.here hx rfl (pc0 := 189) (pc' := 193) rfl (hb hby at_189) (by decide) (by decide) k_) ?_
          show GoH _ _ _ _ _ _ _ _ _ _ T49 (mkF m 193 #[.val (.int p1), .val (.int p2), .val (.int p3), .val (.int p4), .val (.int p5), .val (.ref sa1), .val (.ref sa27), .val (.ref o28), .val (.int kd), .val (.ref o44), .unset] [(.int (1 : Int32))])
          have hkr : T45.heap.size ≤ T49.heap.size := by rw [(e49)]; exact hk46
          have hCr : CHr Z own_EL s.vm h0 T45.vm T49.heap := by rw [(e49)]; exact C46
          refine GoH.ret X49 hx hlk hS45 hkr hZ45 hEL hCr hret rfl (Or.inl ⟨rfl, Or.inr (Or.inl rfl), _, rfl⟩) (hb hby at_193) ?_ (by decide) (by decide)
          show Q0 Z _ _ _ _ _ _ _ _ _ _ T49.heap _
          exact ⟨rfl, N49⟩
set_option maxRecDepth 65536 in
set_option maxHeartbeats 40000000 in
theorem comes_1 {Post : Tables → Env → Array Value → State → Outcome → State → Prop} (hpost : ∀ tb e args s v u, (limb_1_1.after args s (.returned v) u = true ∧ limb_1_2.after args s (.returned v) u = true ∧ True) → ReturnedEndW s (.returned v) u (Jvm.fieldLocs frame_1_writes args s ++ Jvm.arrayLocs frame_1_arrays args s ++ Jvm.staticLocs frame_1_statics s) 32 1216 → Post tb e args s (.returned v) u) :
    ArmFor flags0 classFile x code maxLocals ret World_1 tables_1 room_1 Calls_1 rest_1 Pre_1 Post := by
  intro l hfl _ _ p e ha hc hk s m args below hf hA hF happ hP
  obtain ⟨hcalls, hrest, hpre⟩ := hP
  obtain ⟨-, -, -, hnamed, -, -, -, hat⟩ := (Spec.applies_iff hf).mp happ
  obtain ⟨hg, hn⟩ := and_e (Cond.before_iff.mp (show (Jvm.Cond.and given_1 narrow_1).before args s = true from hpre))
  obtain ⟨gc, gA0⟩ := and_e hg
  obtain ⟨gi0, gA1⟩ := and_e gA0
  obtain ⟨gi1, gA2⟩ := and_e gA1
  obtain ⟨gi2, gA3⟩ := and_e gA2
  obtain ⟨gi3, gA4⟩ := and_e gA3
  obtain ⟨w0, w1, w2, w3, w4, rfl⟩ : ∃ w0 w1 w2 w3 w4 : Value, args = #[w0, w1, w2, w3, w4] := by
    have hs : args.size = 5 := by simpa [Cond.value, given_1] using gc
    obtain ⟨L⟩ := args
    match L, hs with
    | [w0, w1, w2, w3, w4], _ => exact ⟨w0, w1, w2, w3, w4, rfl⟩
  have hw := fun d (hd : d ∈ tables_1) => atoms_spec (ws := Jvm.Cond.code x code maxLocals ret :: tables_1) hat d (List.mem_cons_of_mem _ hd)
  have hfit : Fit s := fun {y c} hc i hi => by
    obtain ⟨ha, rfl⟩ := Array.getElem?_eq_some_iff.mp hc
    have q := List.all_eq_true.mp ((Array.all_eq_true_iff_forall_mem.mp hF) _ (Array.getElem_mem ha)) i (List.mem_range.mpr hi)
    simpa [Array.getElem?_eq_getElem hi] using q
  obtain ⟨i0, ei0⟩ := is_v gi0
  obtain rfl : w0 = (.int i0) := Option.some.inj ei0
  obtain ⟨i1, ei1⟩ := is_v gi1
  obtain rfl : w1 = (.int i1) := Option.some.inj ei1
  obtain ⟨i2, ei2⟩ := is_v gi2
  obtain rfl : w2 = (.int i2) := Option.some.inj ei2
  obtain ⟨i3, ei3⟩ := is_v gi3
  obtain rfl : w3 = (.int i3) := Option.some.inj ei3
  obtain ⟨i4, ei4⟩ := is_v gA4
  obtain rfl : w4 = (.int i4) := Option.some.inj ei4
  obtain ⟨hsets, hown0⟩ := atoms_of _ (rest_1_c_eq ▸ (show rest_1_c.before _ s = true from hrest))
  have nCS := not_v (Cond.before_iff.mp (hsets _ (List.mem_of_getElem? (i := 2) rfl)))
  have hcompact : Jvm.Lit.compactW.before _ s = true := hsets _ (List.mem_of_getElem? (i := 2) rfl)
  obtain ⟨iCS, eCS⟩ := is_v (Cond.before_iff.mp (hsets _ (List.mem_of_getElem? (i := 1) rfl)))
  have S_COMPACT : Sta s s.heap "java/lang/String" "COMPACT_STRINGS" "Z" (.int iCS) := Sta.start eCS (Or.inl (hsets _ (List.mem_of_getElem? (i := 0) rfl)))
  have P_COMPACT : ¬ (iCS = (0 : Int32)) := gotF (Cond.eq_ints eCS (Term.int_eval (0))) nCS
  obtain ⟨vSF, eSF, rSF⟩ := isR_v (Cond.before_iff.mp (hsets _ (List.mem_of_getElem? (i := 8) rfl)))
  have S_SIOOBE : Sta s s.heap "jdk/internal/util/Preconditions" "SIOOBE_FORMATTER" "Ljava/util/function/BiFunction;" vSF := Sta.start eSF (Or.inl (hsets _ (List.mem_of_getElem? (i := 7) rfl)))
  obtain ⟨n, o, h1, h2, h3, _, L, rfl, ⟨rfl, N⟩, -, hq⟩ := rm0 l s _ hw tables_1 i0 i1 i2 i3 i4 iCS vSF s.heap s.heap.size (Nat.le_refl _) (Old.start s) S_COMPACT P_COMPACT S_SIOOBE rSF p e ha hc hk s m _ below hf ((Spec.applies_iff_loose hf).mp happ).1 ⟨rfl, State.Warmed39.refl s, rfl, (CHv.start (own_EW hw) (fun p hp => hcalls.1 p hp) hcompact (hw _ (List.mem_of_getElem? (i := 19) rfl)) (hw _ (List.mem_of_getElem? (i := 5) rfl)))⟩ trivial
  refine ⟨n, _, h1, h2, h3, hpost _ _ _ _ _ _ ⟨Cond.after_iff.mpr rfl, Cond.after_iff.mpr (eq_i res_at (Term.int_eval (1)) rfl), trivial⟩ ⟨hq.1, hq.2.1, hq.2.2.1, (hq.2.2.2.sift fun y hy => Or.inr (N y hy)).mono (by decide) (by decide)⟩⟩
theorem main_1_1 : Claimed_1_1 := comes_1 fun _ _ _ _ _ _ h hF => ⟨h.1, hF⟩
theorem main_1_2 : Claimed_1_2 := comes_1 fun _ _ _ _ _ _ h hF => ⟨h.2.1, hF⟩
end Jvm.Pilot.@@N@@
namespace Jvm.Pilot.@@N@@
open Jvm Jvm.ClassFile Sem Op Lib Jvm.Free Jvm.Stand Jvm.Pilot.@@N@@.Jvm.D
/-! MADE BY PROGRAM (witnessworld.py) out of the Statement's table words and the real class files: 20 classes; the members and pool entries that the words name. The judged class is class 1, her method 3. -/
namespace start1
open Jvm.ClassFile
def u (s : String) : CpInfo := .utf8 (stringToUtf16 s)
/-- a pool by its gaps: so many unusable entries, then the entry; so many at the end -/
def gap : Nat → List CpInfo → List CpInfo
  | 0, r => r
  | n + 1, r => .unusable :: gap n r
def poolList (es : List (Nat × CpInfo)) (last : Nat) : List CpInfo := es.foldr (fun e r => gap e.1 (e.2 :: r)) (gap last [])
def pool (es : List (Nat × CpInfo)) (last : Nat) : Array CpInfo := ⟨poolList es last⟩
def fileOf (pool : Array CpInfo) (this : Nat) (attrs : Array Attribute := #[]) (ms : Array MethodInfo := #[]) (fl : Nat := 33) (sup : Nat := 0) (ifs : Array Nat := #[]) (fds : Array FieldInfo := #[]) : ClassFile where
  minorVersion := 0
  majorVersion := 65
  constantPool := pool
  accessFlags := fl
  thisClass := this
  superClass := sup
  interfaces := ifs
  fields := fds
  methods := ms
  attributes := attrs
def plain (name : String) (sup : Option ClassId) : Class where
  name := name
  kind := .ordinary
  loader := none
  accessFlags := 33
  super := sup
  interfaces := #[]
  cf := none
  fields := #[]
  methods := #[]
  instanceTypes := #[]
  staticTypes := #[]
  resolved := #[]
  callSites := []
  init := .initialized
  statics := none
  mirror := none

def pool0 : Array CpInfo := pool [(5, u "<init>"), (0, u "()V"), (1, .class_ 10), (1, u "java/lang/Object")] 113

def k0c0 : Code := { maxStack := 0, maxLocals := 1, code := object_method_1_code, exceptionTable := #[], attributes := #[] }
def k0m0 : Method := { name := "<init>", desc := "()V", sig := { parameters := [], returnType := none }, accessFlags := 1, code := some k0c0 }
/-- java/lang/Object -/
def k0 : Class := { plain "java/lang/Object" none with
  accessFlags := 33
  interfaces := #[]
  cf := some (fileOf pool0 8 #[] #[{ accessFlags := 1, nameIndex := 5, descriptorIndex := 6, attributes := #[] }] 33 0 #[] #[])
  fields := #[]
  methods := #[k0m0]
  instanceTypes := #[]
  staticTypes := #[]
  resolved := Array.replicate 124 none
  statics := none }

def pool1 : Array CpInfo := pool [(2, .class_ 4), (1, u "java/lang/Object"), (0, u "<init>"), (0, u "()V"), (0, .class_ 8), (0, u "java/lang/String"), (0, .methodref 7 10), (0, .nameAndType 5 11), (0, u "([C)V"), (0, .methodref 7 13), (0, .nameAndType 14 15), (0, u "length"), (0, u "()I"), (0, .methodref 7 17), (0, .nameAndType 18 19), (0, u "charAt"), (0, u "(I)C"), (0, .methodref 21 22), (0, .class_ 23), (0, .nameAndType 24 25), (0, u "com/example/majority_lease/majoritylease/redis/ErrorReplyEqualsPinLaw"), (0, u "draw"), (0, u "(II)Ljava/lang/String;"), (0, .class_ 27), (0, u "com/example/majority_lease/majoritylease/redis/Resp$ErrorReply"), (0, .methodref 26 29), (0, .nameAndType 5 30), (0, u "(Ljava/lang/String;)V"), (0, .methodref 21 32), (0, .nameAndType 33 34), (0, u "sameText"), (0, u "(Ljava/lang/String;Ljava/lang/String;)Z"), (0, .methodref 26 36), (0, .nameAndType 37 38), (0, u "equals"), (0, u "(Ljava/lang/Object;)Z"), (3, u "law"), (0, u "(IIIII)Z")] 6

def k1m0 : Method := { name := "<init>", desc := "()V", sig := { parameters := [], returnType := none }, accessFlags := 1, code := none }
def k1c1 : Code := { maxStack := 6, maxLocals := 6, code := method_2_code, exceptionTable := #[], attributes := #[] }
def k1m1 : Method := { name := "draw", desc := "(II)Ljava/lang/String;", sig := { parameters := [.int, .int], returnType := some (.object "java/lang/String") }, accessFlags := 10, code := some k1c1 }
def k1c2 : Code := { maxStack := 3, maxLocals := 3, code := method_3_code, exceptionTable := #[], attributes := #[] }
def k1m2 : Method := { name := "sameText", desc := "(Ljava/lang/String;Ljava/lang/String;)Z", sig := { parameters := [(.object "java/lang/String"), (.object "java/lang/String")], returnType := some .boolean }, accessFlags := 10, code := some k1c2 }
def k1c3 : Code := { maxStack := 4, maxLocals := 11, code := code, exceptionTable := #[], attributes := #[] }
def k1m3 : Method := { name := "law", desc := "(IIIII)Z", sig := { parameters := [.int, .int, .int, .int, .int], returnType := some .boolean }, accessFlags := 9, code := some k1c3 }
/-- com/example/majority_lease/majoritylease/redis/ErrorReplyEqualsPinLaw -/
def k1 : Class := { plain "com/example/majority_lease/majoritylease/redis/ErrorReplyEqualsPinLaw" (some 0) with
  accessFlags := 49
  interfaces := #[]
  cf := some (fileOf pool1 21 #[] #[{ accessFlags := 1, nameIndex := 5, descriptorIndex := 6, attributes := #[] }, { accessFlags := 10, nameIndex := 24, descriptorIndex := 25, attributes := #[] }, { accessFlags := 10, nameIndex := 33, descriptorIndex := 34, attributes := #[] }, { accessFlags := 9, nameIndex := 42, descriptorIndex := 43, attributes := #[] }] 49 2 #[] #[])
  fields := #[]
  methods := #[k1m0, k1m1, k1m2, k1m3]
  instanceTypes := #[]
  staticTypes := #[]
  resolved := Array.replicate 50 none
  statics := none }

def pool2 : Array CpInfo := pool [(1, .class_ 2), (0, u "java/io/Serializable"), (0, .class_ 4), (0, u "java/lang/Object")] 2

/-- java/io/Serializable -/
def k2 : Class := { plain "java/io/Serializable" (some 0) with
  accessFlags := 1537
  interfaces := #[]
  cf := some (fileOf pool2 1 #[] #[] 1537 3 #[] #[])
  fields := #[]
  methods := #[]
  instanceTypes := #[]
  staticTypes := #[]
  resolved := Array.replicate 7 none
  statics := none }

def pool3 : Array CpInfo := pool [(1, .class_ 2), (0, u "java/lang/Comparable"), (0, .class_ 4), (0, u "java/lang/Object")] 7

/-- java/lang/Comparable -/
def k3 : Class := { plain "java/lang/Comparable" (some 0) with
  accessFlags := 1537
  interfaces := #[]
  cf := some (fileOf pool3 1 #[] #[] 1537 3 #[] #[])
  fields := #[]
  methods := #[]
  instanceTypes := #[]
  staticTypes := #[]
  resolved := Array.replicate 12 none
  statics := none }

def pool4 : Array CpInfo := pool [(2, .class_ 4), (1, u "java/lang/CharSequence"), (42, .class_ 48), (0, u "java/lang/CharSequence$1CodePointIterator"), (10, .class_ 60), (0, u "java/lang/CharSequence$1CharIterator"), (5, .class_ 67), (0, u "java/lang/Object")] 63

/-- java/lang/CharSequence -/
def k4 : Class := { plain "java/lang/CharSequence" (some 0) with
  accessFlags := 1537
  interfaces := #[]
  cf := some (fileOf pool4 2 #[.nestMembers #[47, 59]] #[] 1537 66 #[] #[])
  fields := #[]
  methods := #[]
  instanceTypes := #[]
  staticTypes := #[]
  resolved := Array.replicate 131 none
  statics := none }

def pool5 : Array CpInfo := pool [(1, .class_ 2), (0, u "java/lang/constant/Constable"), (0, .class_ 4), (0, u "java/lang/Object")] 6

/-- java/lang/constant/Constable -/
def k5 : Class := { plain "java/lang/constant/Constable" (some 0) with
  accessFlags := 1537
  interfaces := #[]
  cf := some (fileOf pool5 1 #[] #[] 1537 3 #[] #[])
  fields := #[]
  methods := #[]
  instanceTypes := #[]
  staticTypes := #[]
  resolved := Array.replicate 11 none
  statics := none }

def pool6 : Array CpInfo := pool [(1, .class_ 2), (0, u "java/lang/constant/ConstantDesc"), (0, .class_ 4), (0, u "java/lang/Object")] 32

/-- java/lang/constant/ConstantDesc -/
def k6 : Class := { plain "java/lang/constant/ConstantDesc" (some 0) with
  accessFlags := 1537
  interfaces := #[]
  cf := some (fileOf pool6 1 #[] #[] 1537 3 #[] #[])
  fields := #[]
  methods := #[]
  instanceTypes := #[]
  staticTypes := #[]
  resolved := Array.replicate 37 none
  statics := none }

def pool7 : Array CpInfo := pool [(1, .methodref 2 3), (0, .class_ 4), (0, .nameAndType 5 6), (0, u "java/lang/Object"), (0, u "<init>"), (0, u "()V"), (0, .string 8), (0, u ""), (0, .fieldref 10 11), (0, .class_ 12), (0, .nameAndType 13 14), (0, u "java/lang/String"), (0, u "value"), (0, u "[B"), (0, .fieldref 10 16), (0, .nameAndType 17 18), (0, u "coder"), (0, u "B"), (2, u "hash"), (0, u "I"), (2, u "hashIsZero"), (0, u "Z"), (0, .methodref 10 28), (0, .nameAndType 5 29), (0, u "([CIILjava/lang/Void;)V"), (8, .fieldref 10 39), (0, .nameAndType 40 26), (0, u "COMPACT_STRINGS"), (1, .class_ 44), (1, u "java/lang/StringUTF16"), (0, u "compress"), (1, .methodref 42 48), (0, .nameAndType 49 50), (0, u "coderFromArrayLen"), (0, u "([BI)B"), (56, .class_ 109), (1, u "java/lang/StringLatin1"), (32, u "()Z"), (34, .methodref 42 178), (0, .nameAndType 45 179), (0, u "([CII)[B"), (154, u "()I"), (0, .methodref 10 336), (0, .nameAndType 17 337), (0, u "()B"), (25, u "([BI)C"), (27, u "(II)V"), (35, u "(I)C"), (64, .methodref 10 493), (0, .nameAndType 494 142), (0, u "isLatin1"), (0, .methodref 107 496), (0, .nameAndType 497 363), (0, u "charAt"), (3, u "checkIndex"), (5, u "length"), (33, .methodref 107 542), (0, .nameAndType 543 544), (0, u "equals"), (0, u "([B[B)Z"), (28, u "(Ljava/lang/Object;)Z"), (1, .class_ 576), (0, u "java/lang/CharSequence"), (22, u "CASE_INSENSITIVE_ORDER"), (0, u "Ljava/util/Comparator;"), (409, u "([C)V"), (42, .fieldref 1054 1055), (0, .class_ 1056), (0, .nameAndType 1057 1058), (0, u "jdk/internal/util/Preconditions"), (0, u "SIOOBE_FORMATTER"), (0, u "Ljava/util/function/BiFunction;"), (0, .methodref 1054 1060), (0, .nameAndType 501 1061), (0, u "(IILjava/util/function/BiFunction;)I"), (39, u "serialPersistentFields"), (0, u "[Ljava/io/ObjectStreamField;"), (0, .class_ 1104), (0, u "java/lang/String$CaseInsensitiveComparator"), (1, .class_ 1107), (0, u "java/io/Serializable"), (0, .class_ 1109), (0, u "java/lang/Comparable"), (0, .class_ 1111), (0, u "java/lang/constant/Constable"), (0, .class_ 1113), (0, u "java/lang/constant/ConstantDesc"), (2, u "serialVersionUID"), (0, u "J"), (3, u "REPL"), (0, u "C"), (2, u "LATIN1"), (1, u "UTF16")] 323

def k7m0 : Method := { name := "<init>", desc := "()V", sig := { parameters := [], returnType := none }, accessFlags := 1, code := none }
def k7c1 : Code := { maxStack := 5, maxLocals := 2, code := jdk_42_method_3_code, exceptionTable := #[], attributes := #[] }
def k7m1 : Method := { name := "<init>", desc := "([C)V", sig := { parameters := [(.array .char)], returnType := none }, accessFlags := 1, code := some k7c1 }
def k7c2 : Code := { maxStack := 2, maxLocals := 1, code := jdk_42_method_54_code, exceptionTable := #[], attributes := #[] }
def k7m2 : Method := { name := "length", desc := "()I", sig := { parameters := [], returnType := some .int }, accessFlags := 1, code := some k7c2 }
def k7c3 : Code := { maxStack := 2, maxLocals := 2, code := jdk_42_method_56_code, exceptionTable := #[], attributes := #[] }
def k7m3 : Method := { name := "charAt", desc := "(I)C", sig := { parameters := [.int], returnType := some .char }, accessFlags := 1, code := some k7c3 }
def k7c4 : Code := { maxStack := 2, maxLocals := 3, code := jdk_42_method_66_code, exceptionTable := #[], attributes := #[] }
def k7m4 : Method := { name := "equals", desc := "(Ljava/lang/Object;)Z", sig := { parameters := [(.object "java/lang/Object")], returnType := some .boolean }, accessFlags := 1, code := some k7c4 }
def k7c5 : Code := { maxStack := 4, maxLocals := 6, code := jdk_42_method_149_code, exceptionTable := #[], attributes := #[] }
def k7m5 : Method := { name := "<init>", desc := "([CIILjava/lang/Void;)V", sig := { parameters := [(.array .char), .int, .int, (.object "java/lang/Void")], returnType := none }, accessFlags := 2, code := some k7c5 }
def k7c6 : Code := { maxStack := 1, maxLocals := 1, code := jdk_42_method_152_code, exceptionTable := #[], attributes := #[] }
def k7m6 : Method := { name := "coder", desc := "()B", sig := { parameters := [], returnType := some .byte }, accessFlags := 0, code := some k7c6 }
def k7c7 : Code := { maxStack := 1, maxLocals := 1, code := jdk_42_method_154_code, exceptionTable := #[], attributes := #[] }
def k7m7 : Method := { name := "isLatin1", desc := "()Z", sig := { parameters := [], returnType := some .boolean }, accessFlags := 0, code := some k7c7 }
def k7c8 : Code := { maxStack := 3, maxLocals := 2, code := jdk_42_method_155_code, exceptionTable := #[], attributes := #[] }
def k7m8 : Method := { name := "checkIndex", desc := "(II)V", sig := { parameters := [.int, .int], returnType := none }, accessFlags := 8, code := some k7c8 }
/-- java/lang/String -/
def k7 : Class := { plain "java/lang/String" (some 0) with
  accessFlags := 49
  interfaces := #[2, 3, 4, 5, 6]
  cf := some (fileOf pool7 10 #[.nestMembers #[1103]] #[{ accessFlags := 1, nameIndex := 5, descriptorIndex := 6, attributes := #[] }, { accessFlags := 1, nameIndex := 5, descriptorIndex := 1010, attributes := #[] }, { accessFlags := 1, nameIndex := 507, descriptorIndex := 334, attributes := #[] }, { accessFlags := 1, nameIndex := 497, descriptorIndex := 427, attributes := #[] }, { accessFlags := 1, nameIndex := 543, descriptorIndex := 573, attributes := #[] }, { accessFlags := 2, nameIndex := 5, descriptorIndex := 29, attributes := #[] }, { accessFlags := 0, nameIndex := 17, descriptorIndex := 337, attributes := #[] }, { accessFlags := 0, nameIndex := 494, descriptorIndex := 142, attributes := #[] }, { accessFlags := 8, nameIndex := 501, descriptorIndex := 391, attributes := #[] }] 49 2 #[1106, 1108, 575, 1110, 1112] #[{ accessFlags := 18, nameIndex := 13, descriptorIndex := 14, attributes := #[] }, { accessFlags := 18, nameIndex := 17, descriptorIndex := 18, attributes := #[] }, { accessFlags := 2, nameIndex := 21, descriptorIndex := 22, attributes := #[] }, { accessFlags := 2, nameIndex := 25, descriptorIndex := 26, attributes := #[] }, { accessFlags := 26, nameIndex := 1116, descriptorIndex := 1117, attributes := #[] }, { accessFlags := 24, nameIndex := 40, descriptorIndex := 26, attributes := #[] }, { accessFlags := 26, nameIndex := 1101, descriptorIndex := 1102, attributes := #[] }, { accessFlags := 26, nameIndex := 1121, descriptorIndex := 1122, attributes := #[] }, { accessFlags := 25, nameIndex := 599, descriptorIndex := 600, attributes := #[] }, { accessFlags := 24, nameIndex := 1125, descriptorIndex := 18, attributes := #[] }, { accessFlags := 24, nameIndex := 1127, descriptorIndex := 18, attributes := #[] }])
  fields := #[{ name := "value", type := (.array .byte), accessFlags := 18, slot := 0, constantValue := 0 }, { name := "coder", type := .byte, accessFlags := 18, slot := 1, constantValue := 0 }, { name := "hash", type := .int, accessFlags := 2, slot := 2, constantValue := 0 }, { name := "hashIsZero", type := .boolean, accessFlags := 2, slot := 3, constantValue := 0 }, { name := "serialVersionUID", type := .long, accessFlags := 26, slot := 0, constantValue := 0 }, { name := "COMPACT_STRINGS", type := .boolean, accessFlags := 24, slot := 1, constantValue := 0 }, { name := "serialPersistentFields", type := (.array (.object "java/io/ObjectStreamField")), accessFlags := 26, slot := 2, constantValue := 0 }, { name := "REPL", type := .char, accessFlags := 26, slot := 3, constantValue := 0 }, { name := "CASE_INSENSITIVE_ORDER", type := (.object "java/util/Comparator"), accessFlags := 25, slot := 4, constantValue := 0 }, { name := "LATIN1", type := .byte, accessFlags := 24, slot := 5, constantValue := 0 }, { name := "UTF16", type := .byte, accessFlags := 24, slot := 6, constantValue := 0 }]
  methods := #[k7m0, k7m1, k7m2, k7m3, k7m4, k7m5, k7m6, k7m7, k7m8]
  instanceTypes := #[(.array .byte), .byte, .int, .boolean]
  staticTypes := #[.long, .boolean, (.array (.object "java/io/ObjectStreamField")), .char, (.object "java/util/Comparator"), .byte, .byte]
  resolved := Array.replicate 1451 none
  statics := some 0 }

def pool8 : Array CpInfo := pool [(6, .class_ 8), (1, u "java/lang/Object"), (0, u "<init>"), (0, u "()V"), (1, .class_ 14), (1, u "java/lang/StringUTF16"), (31, u "$assertionsDisabled"), (0, u "Z"), (13, u "HI_BYTE_SHIFT"), (0, u "I"), (2, u "LO_BYTE_SHIFT"), (49, .methodref 12 116), (0, .nameAndType 117 118), (0, u "compress"), (0, u "([CI[BII)I"), (3, u "([CII)[B"), (138, u "coderFromArrayLen"), (0, u "([BI)B"), (106, .class_ 371), (1, u "java/lang/StringUTF16$LinesSpliterator"), (58, u "MAX_LENGTH"), (196, .class_ 628), (0, u "java/lang/StringUTF16$CodePointsSpliterator"), (0, .class_ 630), (0, u "java/lang/StringUTF16$CharsSpliterator")] 4

def k8m0 : Method := { name := "<init>", desc := "()V", sig := { parameters := [], returnType := none }, accessFlags := 0, code := none }
def k8c1 : Code := { maxStack := 2, maxLocals := 2, code := jdk_52_method_15_code, exceptionTable := #[], attributes := #[] }
def k8m1 : Method := { name := "coderFromArrayLen", desc := "([BI)B", sig := { parameters := [(.array .byte), .int], returnType := some .byte }, accessFlags := 8, code := some k8c1 }
def k8c2 : Code := { maxStack := 5, maxLocals := 6, code := jdk_52_method_16_code, exceptionTable := #[], attributes := #[] }
def k8m2 : Method := { name := "compress", desc := "([CII)[B", sig := { parameters := [(.array .char), .int, .int], returnType := some (.array .byte) }, accessFlags := 9, code := some k8c2 }
def k8c3 : Code := { maxStack := 3, maxLocals := 7, code := jdk_52_method_21_code, exceptionTable := #[], attributes := #[] }
def k8m3 : Method := { name := "compress", desc := "([CI[BII)I", sig := { parameters := [(.array .char), .int, (.array .byte), .int, .int], returnType := some .int }, accessFlags := 9, code := some k8c3 }
/-- java/lang/StringUTF16 -/
def k8 : Class := { plain "java/lang/StringUTF16" (some 0) with
  accessFlags := 48
  interfaces := #[]
  cf := some (fileOf pool8 12 #[.nestMembers #[627, 629, 369]] #[{ accessFlags := 0, nameIndex := 9, descriptorIndex := 10, attributes := #[] }, { accessFlags := 8, nameIndex := 261, descriptorIndex := 262, attributes := #[] }, { accessFlags := 9, nameIndex := 117, descriptorIndex := 122, attributes := #[] }, { accessFlags := 9, nameIndex := 117, descriptorIndex := 118, attributes := #[] }] 48 6 #[] #[{ accessFlags := 26, nameIndex := 61, descriptorIndex := 62, attributes := #[] }, { accessFlags := 26, nameIndex := 65, descriptorIndex := 62, attributes := #[] }, { accessFlags := 24, nameIndex := 430, descriptorIndex := 62, attributes := #[] }, { accessFlags := 4120, nameIndex := 46, descriptorIndex := 47, attributes := #[] }])
  fields := #[{ name := "HI_BYTE_SHIFT", type := .int, accessFlags := 26, slot := 0, constantValue := 0 }, { name := "LO_BYTE_SHIFT", type := .int, accessFlags := 26, slot := 1, constantValue := 0 }, { name := "MAX_LENGTH", type := .int, accessFlags := 24, slot := 2, constantValue := 0 }, { name := "$assertionsDisabled", type := .boolean, accessFlags := 4120, slot := 3, constantValue := 0 }]
  methods := #[k8m0, k8m1, k8m2, k8m3]
  instanceTypes := #[]
  staticTypes := #[.int, .int, .int, .boolean]
  resolved := Array.replicate 635 none
  statics := none }

def pool9 : Array CpInfo := pool [(1, .methodref 2 3), (0, .class_ 4), (0, .nameAndType 5 6), (0, u "java/lang/Object"), (0, u "<init>"), (0, u "()V"), (0, .fieldref 8 9), (0, .class_ 10), (0, .nameAndType 11 12), (0, u "com/example/majority_lease/majoritylease/redis/Resp$ErrorReply"), (0, u "message"), (0, u "Ljava/lang/String;"), (0, .methodref 14 15), (0, .class_ 16), (0, .nameAndType 17 18), (0, u "java/lang/String"), (0, u "equals"), (0, u "(Ljava/lang/Object;)Z"), (8, u "(Ljava/lang/String;)V"), (8, .class_ 37), (0, u "com/example/majority_lease/majoritylease/redis/Resp")] 16

def k9c0 : Code := { maxStack := 2, maxLocals := 2, code := prog_12_method_1_code, exceptionTable := #[], attributes := #[] }
def k9m0 : Method := { name := "<init>", desc := "(Ljava/lang/String;)V", sig := { parameters := [(.object "java/lang/String")], returnType := none }, accessFlags := 0, code := some k9c0 }
def k9c1 : Code := { maxStack := 2, maxLocals := 2, code := prog_12_method_2_code, exceptionTable := #[], attributes := #[] }
def k9m1 : Method := { name := "equals", desc := "(Ljava/lang/Object;)Z", sig := { parameters := [(.object "java/lang/Object")], returnType := some .boolean }, accessFlags := 1, code := some k9c1 }
/-- com/example/majority_lease/majoritylease/redis/Resp$ErrorReply -/
def k9 : Class := { plain "com/example/majority_lease/majoritylease/redis/Resp$ErrorReply" (some 0) with
  accessFlags := 48
  interfaces := #[]
  cf := some (fileOf pool9 8 #[.nestHost 36] #[{ accessFlags := 0, nameIndex := 5, descriptorIndex := 27, attributes := #[] }, { accessFlags := 1, nameIndex := 17, descriptorIndex := 18, attributes := #[] }] 48 2 #[] #[{ accessFlags := 18, nameIndex := 11, descriptorIndex := 12, attributes := #[] }])
  fields := #[{ name := "message", type := (.object "java/lang/String"), accessFlags := 18, slot := 0, constantValue := 0 }]
  methods := #[k9m0, k9m1]
  instanceTypes := #[(.object "java/lang/String")]
  staticTypes := #[]
  resolved := Array.replicate 54 none
  statics := none }

def pool10 : Array CpInfo := pool [(1, .class_ 2), (0, u "java/lang/String"), (1, .class_ 6), (1, u "java/lang/Object"), (0, u "<init>"), (0, u "()V"), (0, .methodref 1 10), (0, .nameAndType 11 12), (0, u "checkIndex"), (0, u "(II)V"), (1, .class_ 16), (1, u "java/lang/StringLatin1"), (36, u "([BI)C"), (67, u "$assertionsDisabled"), (0, u "Z"), (98, .class_ 223), (1, u "java/lang/StringLatin1$LinesSpliterator"), (28, u "charAt"), (28, u "equals"), (0, u "([B[B)Z"), (107, .class_ 391), (0, u "java/lang/StringLatin1$CharsSpliterator")] 3

def k10m0 : Method := { name := "<init>", desc := "()V", sig := { parameters := [], returnType := none }, accessFlags := 0, code := none }
def k10c1 : Code := { maxStack := 2, maxLocals := 2, code := jdk_43_method_2_code, exceptionTable := #[], attributes := #[] }
def k10m1 : Method := { name := "charAt", desc := "([BI)C", sig := { parameters := [(.array .byte), .int], returnType := some .char }, accessFlags := 9, code := some k10c1 }
def k10c2 : Code := { maxStack := 3, maxLocals := 3, code := jdk_43_method_13_code, exceptionTable := #[], attributes := #[] }
def k10m2 : Method := { name := "equals", desc := "([B[B)Z", sig := { parameters := [(.array .byte), (.array .byte)], returnType := some .boolean }, accessFlags := 9, code := some k10c2 }
/-- java/lang/StringLatin1 -/
def k10 : Class := { plain "java/lang/StringLatin1" (some 0) with
  accessFlags := 48
  interfaces := #[]
  cf := some (fileOf pool10 14 #[.nestMembers #[390, 221]] #[{ accessFlags := 0, nameIndex := 7, descriptorIndex := 8, attributes := #[] }, { accessFlags := 9, nameIndex := 252, descriptorIndex := 53, attributes := #[] }, { accessFlags := 9, nameIndex := 281, descriptorIndex := 282, attributes := #[] }] 48 4 #[] #[{ accessFlags := 4120, nameIndex := 121, descriptorIndex := 122, attributes := #[] }])
  fields := #[{ name := "$assertionsDisabled", type := .boolean, accessFlags := 4120, slot := 0, constantValue := 0 }]
  methods := #[k10m0, k10m1, k10m2]
  instanceTypes := #[]
  staticTypes := #[.boolean]
  resolved := Array.replicate 395 none
  statics := none }

def pool11 : Array CpInfo := pool [(2, .class_ 4), (1, u "java/lang/Object"), (0, u "<init>"), (0, u "()V"), (17, .class_ 26), (1, u "jdk/internal/util/Preconditions"), (6, u "checkIndex"), (21, .class_ 56), (0, u "jdk/internal/util/Preconditions$4"), (57, .class_ 115), (0, u "jdk/internal/util/Preconditions$1"), (7, u "SIOOBE_FORMATTER"), (0, u "Ljava/util/function/BiFunction;"), (0, .class_ 126), (0, u "jdk/internal/util/Preconditions$2"), (3, u "AIOOBE_FORMATTER"), (0, .class_ 132), (0, u "jdk/internal/util/Preconditions$3"), (3, u "IOOBE_FORMATTER"), (41, u "(IILjava/util/function/BiFunction;)I")] 15

def k11m0 : Method := { name := "<init>", desc := "()V", sig := { parameters := [], returnType := none }, accessFlags := 1, code := none }
def k11c1 : Code := { maxStack := 3, maxLocals := 3, code := jdk_41_method_11_code, exceptionTable := #[], attributes := #[] }
def k11m1 : Method := { name := "checkIndex", desc := "(IILjava/util/function/BiFunction;)I", sig := { parameters := [.int, .int, (.object "java/util/function/BiFunction")], returnType := some .int }, accessFlags := 9, code := some k11c1 }
/-- jdk/internal/util/Preconditions -/
def k11 : Class := { plain "jdk/internal/util/Preconditions" (some 0) with
  accessFlags := 33
  interfaces := #[]
  cf := some (fileOf pool11 24 #[.nestMembers #[55, 131, 125, 114]] #[{ accessFlags := 1, nameIndex := 5, descriptorIndex := 6, attributes := #[] }, { accessFlags := 9, nameIndex := 33, descriptorIndex := 178, attributes := #[] }] 33 2 #[] #[{ accessFlags := 25, nameIndex := 123, descriptorIndex := 124, attributes := #[] }, { accessFlags := 25, nameIndex := 130, descriptorIndex := 124, attributes := #[] }, { accessFlags := 25, nameIndex := 136, descriptorIndex := 124, attributes := #[] }])
  fields := #[{ name := "SIOOBE_FORMATTER", type := (.object "java/util/function/BiFunction"), accessFlags := 25, slot := 0, constantValue := 0 }, { name := "AIOOBE_FORMATTER", type := (.object "java/util/function/BiFunction"), accessFlags := 25, slot := 1, constantValue := 0 }, { name := "IOOBE_FORMATTER", type := (.object "java/util/function/BiFunction"), accessFlags := 25, slot := 2, constantValue := 0 }]
  methods := #[k11m0, k11m1]
  instanceTypes := #[]
  staticTypes := #[(.object "java/util/function/BiFunction"), (.object "java/util/function/BiFunction"), (.object "java/util/function/BiFunction")]
  resolved := Array.replicate 194 none
  statics := some 1 }

def pool12 : Array CpInfo := pool [(9, u "<init>"), (6, .class_ 18), (1, u "java/lang/Object"), (0, u "()V"), (1, .class_ 23), (1, u "jdk/internal/util/ArraysSupport"), (0, u "LOG2_ARRAY_LONG_INDEX_SCALE"), (0, u "I"), (2, u "U"), (0, u "Ljdk/internal/misc/Unsafe;"), (8, u "BIG_ENDIAN"), (0, u "Z"), (8, u "LOG2_BYTE_BIT_SIZE"), (4, u "LOG2_ARRAY_INT_INDEX_SCALE"), (54, u "JLA"), (0, u "Ljdk/internal/access/JavaLangAccess;"), (11, u "LOG2_ARRAY_BOOLEAN_INDEX_SCALE"), (9, u "LOG2_ARRAY_BYTE_INDEX_SCALE"), (5, u "LOG2_ARRAY_CHAR_INDEX_SCALE"), (5, u "LOG2_ARRAY_SHORT_INDEX_SCALE"), (18, u "LOG2_ARRAY_FLOAT_INDEX_SCALE"), (24, u "LOG2_ARRAY_DOUBLE_INDEX_SCALE"), (89, u "T_BOOLEAN"), (2, u "T_CHAR"), (1, u "T_FLOAT"), (1, u "T_DOUBLE"), (1, u "T_BYTE"), (1, u "T_SHORT"), (1, u "T_INT"), (1, u "T_LONG"), (1, u "SOFT_MAX_ARRAY_LENGTH")] 83

def k12m0 : Method := { name := "<init>", desc := "()V", sig := { parameters := [], returnType := none }, accessFlags := 2, code := none }
/-- jdk/internal/util/ArraysSupport -/
def k12 : Class := { plain "jdk/internal/util/ArraysSupport" (some 0) with
  accessFlags := 33
  interfaces := #[]
  cf := some (fileOf pool12 21 #[] #[{ accessFlags := 2, nameIndex := 9, descriptorIndex := 19, attributes := #[] }] 33 16 #[] #[{ accessFlags := 24, nameIndex := 28, descriptorIndex := 29, attributes := #[] }, { accessFlags := 26, nameIndex := 38, descriptorIndex := 39, attributes := #[] }, { accessFlags := 25, nameIndex := 121, descriptorIndex := 25, attributes := #[] }, { accessFlags := 25, nameIndex := 131, descriptorIndex := 25, attributes := #[] }, { accessFlags := 25, nameIndex := 137, descriptorIndex := 25, attributes := #[] }, { accessFlags := 25, nameIndex := 143, descriptorIndex := 25, attributes := #[] }, { accessFlags := 25, nameIndex := 53, descriptorIndex := 25, attributes := #[] }, { accessFlags := 25, nameIndex := 24, descriptorIndex := 25, attributes := #[] }, { accessFlags := 25, nameIndex := 162, descriptorIndex := 25, attributes := #[] }, { accessFlags := 25, nameIndex := 187, descriptorIndex := 25, attributes := #[] }, { accessFlags := 26, nameIndex := 48, descriptorIndex := 25, attributes := #[] }, { accessFlags := 25, nameIndex := 277, descriptorIndex := 25, attributes := #[] }, { accessFlags := 25, nameIndex := 280, descriptorIndex := 25, attributes := #[] }, { accessFlags := 25, nameIndex := 282, descriptorIndex := 25, attributes := #[] }, { accessFlags := 25, nameIndex := 284, descriptorIndex := 25, attributes := #[] }, { accessFlags := 25, nameIndex := 286, descriptorIndex := 25, attributes := #[] }, { accessFlags := 25, nameIndex := 288, descriptorIndex := 25, attributes := #[] }, { accessFlags := 25, nameIndex := 290, descriptorIndex := 25, attributes := #[] }, { accessFlags := 25, nameIndex := 292, descriptorIndex := 25, attributes := #[] }, { accessFlags := 26, nameIndex := 108, descriptorIndex := 109, attributes := #[] }, { accessFlags := 25, nameIndex := 294, descriptorIndex := 25, attributes := #[] }])
  fields := #[{ name := "U", type := (.object "jdk/internal/misc/Unsafe"), accessFlags := 24, slot := 0, constantValue := 0 }, { name := "BIG_ENDIAN", type := .boolean, accessFlags := 26, slot := 1, constantValue := 0 }, { name := "LOG2_ARRAY_BOOLEAN_INDEX_SCALE", type := .int, accessFlags := 25, slot := 2, constantValue := 0 }, { name := "LOG2_ARRAY_BYTE_INDEX_SCALE", type := .int, accessFlags := 25, slot := 3, constantValue := 0 }, { name := "LOG2_ARRAY_CHAR_INDEX_SCALE", type := .int, accessFlags := 25, slot := 4, constantValue := 0 }, { name := "LOG2_ARRAY_SHORT_INDEX_SCALE", type := .int, accessFlags := 25, slot := 5, constantValue := 0 }, { name := "LOG2_ARRAY_INT_INDEX_SCALE", type := .int, accessFlags := 25, slot := 6, constantValue := 0 }, { name := "LOG2_ARRAY_LONG_INDEX_SCALE", type := .int, accessFlags := 25, slot := 7, constantValue := 0 }, { name := "LOG2_ARRAY_FLOAT_INDEX_SCALE", type := .int, accessFlags := 25, slot := 8, constantValue := 0 }, { name := "LOG2_ARRAY_DOUBLE_INDEX_SCALE", type := .int, accessFlags := 25, slot := 9, constantValue := 0 }, { name := "LOG2_BYTE_BIT_SIZE", type := .int, accessFlags := 26, slot := 10, constantValue := 0 }, { name := "T_BOOLEAN", type := .int, accessFlags := 25, slot := 11, constantValue := 0 }, { name := "T_CHAR", type := .int, accessFlags := 25, slot := 12, constantValue := 0 }, { name := "T_FLOAT", type := .int, accessFlags := 25, slot := 13, constantValue := 0 }, { name := "T_DOUBLE", type := .int, accessFlags := 25, slot := 14, constantValue := 0 }, { name := "T_BYTE", type := .int, accessFlags := 25, slot := 15, constantValue := 0 }, { name := "T_SHORT", type := .int, accessFlags := 25, slot := 16, constantValue := 0 }, { name := "T_INT", type := .int, accessFlags := 25, slot := 17, constantValue := 0 }, { name := "T_LONG", type := .int, accessFlags := 25, slot := 18, constantValue := 0 }, { name := "JLA", type := (.object "jdk/internal/access/JavaLangAccess"), accessFlags := 26, slot := 19, constantValue := 0 }, { name := "SOFT_MAX_ARRAY_LENGTH", type := .int, accessFlags := 25, slot := 20, constantValue := 0 }]
  methods := #[k12m0]
  instanceTypes := #[]
  staticTypes := #[(.object "jdk/internal/misc/Unsafe"), .boolean, .int, .int, .int, .int, .int, .int, .int, .int, .int, .int, .int, .int, .int, .int, .int, .int, .int, (.object "jdk/internal/access/JavaLangAccess"), .int]
  resolved := Array.replicate 378 none
  statics := none }

def pool13 : Array CpInfo := pool [(1, u "java/lang/Cloneable"), (0, .class_ 1), (0, u "java/lang/Object"), (0, .class_ 3)] 3

/-- java/lang/Cloneable -/
def k13 : Class := { plain "java/lang/Cloneable" (some 0) with
  accessFlags := 1537
  interfaces := #[]
  cf := some (fileOf pool13 2 #[] #[] 1537 4 #[] #[])
  fields := #[]
  methods := #[]
  instanceTypes := #[]
  staticTypes := #[]
  resolved := Array.replicate 8 none
  statics := none }

/-- the primitive byte -/
def k14 : Class := { plain "byte" none with kind := .primitive 'B', accessFlags := 0x411 }
/-- [B -/
def k15 : Class := { plain "[B" (some 0) with kind := .array 14 .byte, interfaces := #[13, 2], accessFlags := 1041 }

/-- the primitive char -/
def k16 : Class := { plain "char" none with kind := .primitive 'C', accessFlags := 0x411 }
/-- [C -/
def k17 : Class := { plain "[C" (some 0) with kind := .array 16 .char, interfaces := #[13, 2], accessFlags := 1041 }

/-- the primitive int -/
def k18 : Class := { plain "int" none with kind := .primitive 'I', accessFlags := 0x411 }
/-- [I -/
def k19 : Class := { plain "[I" (some 0) with kind := .array 18 .int, interfaces := #[13, 2], accessFlags := 1041 }

def heap : Heap := #[{ cls := 7, slots := #[.long 0, .int 1, .null, .int 0, .null, .int 0, .int 0], vm := .statics 7 },
  { cls := 11, slots := #[.null, .null, .null], vm := .statics 11 }]
def classes : Array Class := #[k0, k1, k2, k3, k4, k5, k6, k7, k8, k9, k10, k11, k12, k13, k14, k15, k16, k17, k18, k19]
def interned : List (Array UInt16 × Addr) := []
def slotsUsed : Nat := 10
def theMethod : MethodId := ⟨1, 3⟩
def args0 : Array Value := #[.int 1, .int 66, .int 2, .int 70, .int 1]
def aboutOver (below : List Frame) : State where
  vm := { classes := classes, interned := interned.toArray }
  heap := heap
  slotsUsed := slotsUsed
  threads := #[{ frames := .invoking theMethod args0 :: below }]
def below0 : List Frame := [.native { method := ⟨0, 0⟩, args := #[] }]
def about1 : State := aboutOver below0
def p0 : Program := .bare "" "" ""
def e0 : Env := launch0.env 0 0 0
theorem w_frames : about1.frames = Frame.invoking theMethod args0 :: below0 := rfl
set_option maxRecDepth 65536 in
theorem w_args : argsFit about1.vm theMethod args0 = true := by decide +kernel
set_option maxRecDepth 65536 in
theorem w_heap : heapFits about1 = true := by decide +kernel
set_option maxRecDepth 65536 in
theorem w_runnable : about1.curStatus? = some .runnable := by decide +kernel
set_option maxRecDepth 65536 in
theorem w_alone : about1.alone = true := by decide +kernel
set_option maxRecDepth 65536 in
theorem w_named : about1.methodNamed? x = some theMethod := by decide +kernel
set_option maxRecDepth 65536 in
theorem w_hears : about1.hears theMethod below0 = true := by decide +kernel
set_option maxRecDepth 65536 in
theorem w_ripe : about1.ripe theMethod args0 below0 = true := by decide +kernel
theorem w_running : about1.status = .running := rfl
set_option maxRecDepth 65536 in
theorem w_room : about1.hasRoom e0.platform room_1 = true :=
  launch0.hasRoom_least _ room_1 (by decide +kernel) (by decide +kernel) (by decide +kernel) (by decide +kernel) (by decide +kernel) (by decide +kernel)
theorem allAtoms_all (ts : List Jvm.Cond) (a : Array Jvm.Value) (st : Jvm.State) : (allAtoms ts).before a st = ts.all (fun c => c.before a st) := by
  induction ts with
  | nil => rfl
  | cons c t ih =>
    show (Jvm.Cond.and c (allAtoms t)).before a st = _
    rw [Jvm.Cond.before_and, ih, List.all_cons]
def words1 : List Jvm.Cond := Jvm.Cond.code x code maxLocals ret :: tables_1
/-- a 'code' word, met by the world's own term for the bytes: nothing is compared byte by byte -/
theorem code_word {y : MethodName} {bytes : ByteArray} {mx : Nat} {rt : Option FieldType} {a : Array Value} {s : State} {m : MethodId} {meth : Method} {c : Code} (h1 : s.methodNamed? y = some m) (h2 : s.vm.method? m = some meth) (h3 : meth.code = some c) (h4 : c.code = bytes)
    (h5 : (c.maxLocals == mx && c.exceptionTable.isEmpty && decide (c.maxStack ≤ mostOperands) && decide (meth.sig.returnType = rt) && !meth.locks && decide (parseMethodDescriptor y.desc = some meth.sig)) = true) : (Jvm.Cond.code y bytes mx rt).before a s = true := by
  simp only [Bool.and_eq_true, beq_iff_eq, Bool.not_eq_true', decide_eq_true_eq] at h5
  obtain ⟨⟨⟨⟨⟨g1, g2⟩, g3⟩, g4⟩, g5⟩, g6⟩ := h5
  simp [Cond.before, Cond.holds, Cond.value, h1, h2, h3, h4, g1, g2, g3, g4, g5, g6]
def isCode : Jvm.Cond → Bool
  | .code _ _ _ _ => true
  | _ => false
theorem all_split {L : List Jvm.Cond} {P : Jvm.Cond → Bool} (h1 : L.all (fun c => isCode c || P c) = true) (h2 : ∀ c ∈ L.filter isCode, P c = true) : L.all P = true := by
  refine List.all_eq_true.mpr fun c hc => ?_
  have h := List.all_eq_true.mp h1 c hc
  rcases Bool.eq_false_or_eq_true (isCode c) with hi | hi
  · exact h2 c (List.mem_filter.mpr ⟨hc, hi⟩)
  · simpa [hi] using h
set_option maxRecDepth 65536 in
theorem w_c0 : (Jvm.Cond.code x code maxLocals ret).before args0 about1 = true := code_word (m := ⟨1, 3⟩) (meth := k1m3) (c := k1c3) (by decide +kernel) rfl rfl rfl (by decide +kernel)
set_option maxRecDepth 65536 in
theorem w_c1 : (Jvm.Cond.code ({ cls := "com/example/majority_lease/majoritylease/redis/ErrorReplyEqualsPinLaw", name := "draw", desc := "(II)Ljava/lang/String;" } : Jvm.MethodName) method_2_code (6 : Nat) (Option.some (Jvm.ClassFile.FieldType.object "java/lang/String"))).before args0 about1 = true := code_word (m := ⟨1, 1⟩) (meth := k1m1) (c := k1c1) (by decide +kernel) rfl rfl rfl (by decide +kernel)
set_option maxRecDepth 65536 in
theorem w_c2 : (Jvm.Cond.code ({ cls := "java/lang/String", name := "<init>", desc := "([C)V" } : Jvm.MethodName) jdk_42_method_3_code (2 : Nat) (Option.none : Option Jvm.ClassFile.FieldType)).before args0 about1 = true := code_word (m := ⟨7, 1⟩) (meth := k7m1) (c := k7c1) (by decide +kernel) rfl rfl rfl (by decide +kernel)
set_option maxRecDepth 65536 in
theorem w_c3 : (Jvm.Cond.code ({ cls := "java/lang/String", name := "<init>", desc := "([CIILjava/lang/Void;)V" } : Jvm.MethodName) jdk_42_method_149_code (6 : Nat) (Option.none : Option Jvm.ClassFile.FieldType)).before args0 about1 = true := code_word (m := ⟨7, 5⟩) (meth := k7m5) (c := k7c5) (by decide +kernel) rfl rfl rfl (by decide +kernel)
set_option maxRecDepth 65536 in
theorem w_c4 : (Jvm.Cond.code ({ cls := "java/lang/Object", name := "<init>", desc := "()V" } : Jvm.MethodName) object_method_1_code (1 : Nat) (Option.none : Option Jvm.ClassFile.FieldType)).before args0 about1 = true := code_word (m := ⟨0, 0⟩) (meth := k0m0) (c := k0c0) (by decide +kernel) rfl rfl rfl (by decide +kernel)
set_option maxRecDepth 65536 in
theorem w_c5 : (Jvm.Cond.code ({ cls := "java/lang/StringUTF16", name := "compress", desc := "([CII)[B" } : Jvm.MethodName) jdk_52_method_16_code (6 : Nat) (Option.some (Jvm.ClassFile.FieldType.array Jvm.ClassFile.FieldType.byte))).before args0 about1 = true := code_word (m := ⟨8, 2⟩) (meth := k8m2) (c := k8c2) (by decide +kernel) rfl rfl rfl (by decide +kernel)
set_option maxRecDepth 65536 in
theorem w_c6 : (Jvm.Cond.code ({ cls := "java/lang/StringUTF16", name := "compress", desc := "([CI[BII)I" } : Jvm.MethodName) jdk_52_method_21_code (7 : Nat) (Option.some Jvm.ClassFile.FieldType.int)).before args0 about1 = true := code_word (m := ⟨8, 3⟩) (meth := k8m3) (c := k8c3) (by decide +kernel) rfl rfl rfl (by decide +kernel)
set_option maxRecDepth 65536 in
theorem w_c7 : (Jvm.Cond.code ({ cls := "java/lang/StringUTF16", name := "coderFromArrayLen", desc := "([BI)B" } : Jvm.MethodName) jdk_52_method_15_code (2 : Nat) (Option.some Jvm.ClassFile.FieldType.byte)).before args0 about1 = true := code_word (m := ⟨8, 1⟩) (meth := k8m1) (c := k8c1) (by decide +kernel) rfl rfl rfl (by decide +kernel)
set_option maxRecDepth 65536 in
theorem w_c8 : (Jvm.Cond.code ({ cls := "com/example/majority_lease/majoritylease/redis/Resp$ErrorReply", name := "<init>", desc := "(Ljava/lang/String;)V" } : Jvm.MethodName) prog_12_method_1_code (2 : Nat) (Option.none : Option Jvm.ClassFile.FieldType)).before args0 about1 = true := code_word (m := ⟨9, 0⟩) (meth := k9m0) (c := k9c0) (by decide +kernel) rfl rfl rfl (by decide +kernel)
set_option maxRecDepth 65536 in
theorem w_c9 : (Jvm.Cond.code ({ cls := "com/example/majority_lease/majoritylease/redis/ErrorReplyEqualsPinLaw", name := "sameText", desc := "(Ljava/lang/String;Ljava/lang/String;)Z" } : Jvm.MethodName) method_3_code (3 : Nat) (Option.some Jvm.ClassFile.FieldType.boolean)).before args0 about1 = true := code_word (m := ⟨1, 2⟩) (meth := k1m2) (c := k1c2) (by decide +kernel) rfl rfl rfl (by decide +kernel)
set_option maxRecDepth 65536 in
theorem w_c10 : (Jvm.Cond.code ({ cls := "java/lang/String", name := "length", desc := "()I" } : Jvm.MethodName) jdk_42_method_54_code (1 : Nat) (Option.some Jvm.ClassFile.FieldType.int)).before args0 about1 = true := code_word (m := ⟨7, 2⟩) (meth := k7m2) (c := k7c2) (by decide +kernel) rfl rfl rfl (by decide +kernel)
set_option maxRecDepth 65536 in
theorem w_c11 : (Jvm.Cond.code ({ cls := "java/lang/String", name := "coder", desc := "()B" } : Jvm.MethodName) jdk_42_method_152_code (1 : Nat) (Option.some Jvm.ClassFile.FieldType.byte)).before args0 about1 = true := code_word (m := ⟨7, 6⟩) (meth := k7m6) (c := k7c6) (by decide +kernel) rfl rfl rfl (by decide +kernel)
set_option maxRecDepth 65536 in
theorem w_c12 : (Jvm.Cond.code ({ cls := "com/example/majority_lease/majoritylease/redis/Resp$ErrorReply", name := "equals", desc := "(Ljava/lang/Object;)Z" } : Jvm.MethodName) prog_12_method_2_code (2 : Nat) (Option.some Jvm.ClassFile.FieldType.boolean)).before args0 about1 = true := code_word (m := ⟨9, 1⟩) (meth := k9m1) (c := k9c1) (by decide +kernel) rfl rfl rfl (by decide +kernel)
set_option maxRecDepth 65536 in
theorem w_c13 : (Jvm.Cond.code ({ cls := "java/lang/String", name := "equals", desc := "(Ljava/lang/Object;)Z" } : Jvm.MethodName) jdk_42_method_66_code (3 : Nat) (Option.some Jvm.ClassFile.FieldType.boolean)).before args0 about1 = true := code_word (m := ⟨7, 4⟩) (meth := k7m4) (c := k7c4) (by decide +kernel) rfl rfl rfl (by decide +kernel)
set_option maxRecDepth 65536 in
theorem w_c14 : (Jvm.Cond.code ({ cls := "java/lang/StringLatin1", name := "equals", desc := "([B[B)Z" } : Jvm.MethodName) jdk_43_method_13_code (3 : Nat) (Option.some Jvm.ClassFile.FieldType.boolean)).before args0 about1 = true := code_word (m := ⟨10, 2⟩) (meth := k10m2) (c := k10c2) (by decide +kernel) rfl rfl rfl (by decide +kernel)
set_option maxRecDepth 65536 in
theorem w_c15 : (Jvm.Cond.code ({ cls := "java/lang/String", name := "charAt", desc := "(I)C" } : Jvm.MethodName) jdk_42_method_56_code (2 : Nat) (Option.some Jvm.ClassFile.FieldType.char)).before args0 about1 = true := code_word (m := ⟨7, 3⟩) (meth := k7m3) (c := k7c3) (by decide +kernel) rfl rfl rfl (by decide +kernel)
set_option maxRecDepth 65536 in
theorem w_c16 : (Jvm.Cond.code ({ cls := "java/lang/String", name := "isLatin1", desc := "()Z" } : Jvm.MethodName) jdk_42_method_154_code (1 : Nat) (Option.some Jvm.ClassFile.FieldType.boolean)).before args0 about1 = true := code_word (m := ⟨7, 7⟩) (meth := k7m7) (c := k7c7) (by decide +kernel) rfl rfl rfl (by decide +kernel)
set_option maxRecDepth 65536 in
theorem w_c17 : (Jvm.Cond.code ({ cls := "java/lang/StringLatin1", name := "charAt", desc := "([BI)C" } : Jvm.MethodName) jdk_43_method_2_code (2 : Nat) (Option.some Jvm.ClassFile.FieldType.char)).before args0 about1 = true := code_word (m := ⟨10, 1⟩) (meth := k10m1) (c := k10c1) (by decide +kernel) rfl rfl rfl (by decide +kernel)
set_option maxRecDepth 65536 in
theorem w_c18 : (Jvm.Cond.code ({ cls := "java/lang/String", name := "checkIndex", desc := "(II)V" } : Jvm.MethodName) jdk_42_method_155_code (2 : Nat) (Option.none : Option Jvm.ClassFile.FieldType)).before args0 about1 = true := code_word (m := ⟨7, 8⟩) (meth := k7m8) (c := k7c8) (by decide +kernel) rfl rfl rfl (by decide +kernel)
set_option maxRecDepth 65536 in
theorem w_c19 : (Jvm.Cond.code ({ cls := "jdk/internal/util/Preconditions", name := "checkIndex", desc := "(IILjava/util/function/BiFunction;)I" } : Jvm.MethodName) jdk_41_method_11_code (3 : Nat) (Option.some Jvm.ClassFile.FieldType.int)).before args0 about1 = true := code_word (m := ⟨11, 1⟩) (meth := k11m1) (c := k11c1) (by decide +kernel) rfl rfl rfl (by decide +kernel)
def codes1 : List Jvm.Cond := [Jvm.Cond.code x code maxLocals ret, Jvm.Cond.code ({ cls := "com/example/majority_lease/majoritylease/redis/ErrorReplyEqualsPinLaw", name := "draw", desc := "(II)Ljava/lang/String;" } : Jvm.MethodName) method_2_code (6 : Nat) (Option.some (Jvm.ClassFile.FieldType.object "java/lang/String")), Jvm.Cond.code ({ cls := "java/lang/String", name := "<init>", desc := "([C)V" } : Jvm.MethodName) jdk_42_method_3_code (2 : Nat) (Option.none : Option Jvm.ClassFile.FieldType), Jvm.Cond.code ({ cls := "java/lang/String", name := "<init>", desc := "([CIILjava/lang/Void;)V" } : Jvm.MethodName) jdk_42_method_149_code (6 : Nat) (Option.none : Option Jvm.ClassFile.FieldType), Jvm.Cond.code ({ cls := "java/lang/Object", name := "<init>", desc := "()V" } : Jvm.MethodName) object_method_1_code (1 : Nat) (Option.none : Option Jvm.ClassFile.FieldType), Jvm.Cond.code ({ cls := "java/lang/StringUTF16", name := "compress", desc := "([CII)[B" } : Jvm.MethodName) jdk_52_method_16_code (6 : Nat) (Option.some (Jvm.ClassFile.FieldType.array Jvm.ClassFile.FieldType.byte)), Jvm.Cond.code ({ cls := "java/lang/StringUTF16", name := "compress", desc := "([CI[BII)I" } : Jvm.MethodName) jdk_52_method_21_code (7 : Nat) (Option.some Jvm.ClassFile.FieldType.int), Jvm.Cond.code ({ cls := "java/lang/StringUTF16", name := "coderFromArrayLen", desc := "([BI)B" } : Jvm.MethodName) jdk_52_method_15_code (2 : Nat) (Option.some Jvm.ClassFile.FieldType.byte), Jvm.Cond.code ({ cls := "com/example/majority_lease/majoritylease/redis/Resp$ErrorReply", name := "<init>", desc := "(Ljava/lang/String;)V" } : Jvm.MethodName) prog_12_method_1_code (2 : Nat) (Option.none : Option Jvm.ClassFile.FieldType), Jvm.Cond.code ({ cls := "com/example/majority_lease/majoritylease/redis/ErrorReplyEqualsPinLaw", name := "sameText", desc := "(Ljava/lang/String;Ljava/lang/String;)Z" } : Jvm.MethodName) method_3_code (3 : Nat) (Option.some Jvm.ClassFile.FieldType.boolean), Jvm.Cond.code ({ cls := "java/lang/String", name := "length", desc := "()I" } : Jvm.MethodName) jdk_42_method_54_code (1 : Nat) (Option.some Jvm.ClassFile.FieldType.int), Jvm.Cond.code ({ cls := "java/lang/String", name := "coder", desc := "()B" } : Jvm.MethodName) jdk_42_method_152_code (1 : Nat) (Option.some Jvm.ClassFile.FieldType.byte), Jvm.Cond.code ({ cls := "com/example/majority_lease/majoritylease/redis/Resp$ErrorReply", name := "equals", desc := "(Ljava/lang/Object;)Z" } : Jvm.MethodName) prog_12_method_2_code (2 : Nat) (Option.some Jvm.ClassFile.FieldType.boolean), Jvm.Cond.code ({ cls := "java/lang/String", name := "equals", desc := "(Ljava/lang/Object;)Z" } : Jvm.MethodName) jdk_42_method_66_code (3 : Nat) (Option.some Jvm.ClassFile.FieldType.boolean), Jvm.Cond.code ({ cls := "java/lang/StringLatin1", name := "equals", desc := "([B[B)Z" } : Jvm.MethodName) jdk_43_method_13_code (3 : Nat) (Option.some Jvm.ClassFile.FieldType.boolean), Jvm.Cond.code ({ cls := "java/lang/String", name := "charAt", desc := "(I)C" } : Jvm.MethodName) jdk_42_method_56_code (2 : Nat) (Option.some Jvm.ClassFile.FieldType.char), Jvm.Cond.code ({ cls := "java/lang/String", name := "isLatin1", desc := "()Z" } : Jvm.MethodName) jdk_42_method_154_code (1 : Nat) (Option.some Jvm.ClassFile.FieldType.boolean), Jvm.Cond.code ({ cls := "java/lang/StringLatin1", name := "charAt", desc := "([BI)C" } : Jvm.MethodName) jdk_43_method_2_code (2 : Nat) (Option.some Jvm.ClassFile.FieldType.char), Jvm.Cond.code ({ cls := "java/lang/String", name := "checkIndex", desc := "(II)V" } : Jvm.MethodName) jdk_42_method_155_code (2 : Nat) (Option.none : Option Jvm.ClassFile.FieldType), Jvm.Cond.code ({ cls := "jdk/internal/util/Preconditions", name := "checkIndex", desc := "(IILjava/util/function/BiFunction;)I" } : Jvm.MethodName) jdk_41_method_11_code (3 : Nat) (Option.some Jvm.ClassFile.FieldType.int)]
set_option maxRecDepth 65536 in
theorem codes_eq : words1.filter isCode = codes1 := rfl
theorem w_codes : ∀ c ∈ words1.filter isCode, c.before args0 about1 = true := by
  rw [codes_eq]
  intro c hc
  simp only [codes1, List.mem_cons, List.not_mem_nil, or_false] at hc
  rcases hc with rfl | rfl | rfl | rfl | rfl | rfl | rfl | rfl | rfl | rfl | rfl | rfl | rfl | rfl | rfl | rfl | rfl | rfl | rfl | rfl
  · exact w_c0
  · exact w_c1
  · exact w_c2
  · exact w_c3
  · exact w_c4
  · exact w_c5
  · exact w_c6
  · exact w_c7
  · exact w_c8
  · exact w_c9
  · exact w_c10
  · exact w_c11
  · exact w_c12
  · exact w_c13
  · exact w_c14
  · exact w_c15
  · exact w_c16
  · exact w_c17
  · exact w_c18
  · exact w_c19
set_option maxRecDepth 65536 in
theorem w_t1 : (words1.take 24).all (fun c => isCode c || c.before args0 about1) = true := by decide +kernel
set_option maxRecDepth 65536 in
theorem w_t2 : ((words1.drop 24).take 24).all (fun c => isCode c || c.before args0 about1) = true := by decide +kernel
set_option maxRecDepth 65536 in
theorem w_t3 : (((words1.drop 24).drop 24).take 24).all (fun c => isCode c || c.before args0 about1) = true := by decide +kernel
set_option maxRecDepth 65536 in
theorem w_t4 : ((((words1.drop 24).drop 24).drop 24).take 24).all (fun c => isCode c || c.before args0 about1) = true := by decide +kernel
set_option maxRecDepth 65536 in
theorem w_t5 : ((((words1.drop 24).drop 24).drop 24).drop 24).all (fun c => isCode c || c.before args0 about1) = true := by decide +kernel
theorem w_tables : (allAtoms (Jvm.Cond.code x code maxLocals ret :: tables_1)).before args0 about1 = true := by
  rw [allAtoms_all]
  show words1.all (fun c => c.before args0 about1) = true
  refine all_split ?_ w_codes
  rw [← List.take_append_drop 24 words1, List.all_append, w_t1, ← List.take_append_drop 24 (words1.drop 24), List.all_append, w_t2, ← List.take_append_drop 24 ((words1.drop 24).drop 24), List.all_append, w_t3, ← List.take_append_drop 24 (((words1.drop 24).drop 24).drop 24), List.all_append, w_t4, w_t5]
  rfl
set_option maxRecDepth 65536 in
theorem w_rest : rest_1_c.before args0 about1 = true := by decide +kernel
set_option maxRecDepth 65536 in
theorem w_case : (Jvm.Cond.and given_1 narrow_1).before args0 about1 = true := by decide +kernel
set_option maxRecDepth 65536 in
theorem w_consts : constsHeld consts_1 about1 := Jvm.Lit.constsHeldB_iff.mp (by decide +kernel)
theorem w_applies : (headSpec (Jvm.Cond.code x code maxLocals ret :: tables_1) room_1).applies x e0.platform about1 = true :=
  (Spec.applies_iff w_frames).mpr ⟨w_running, w_runnable, w_alone, w_named, w_hears, w_ripe, w_room, w_tables⟩
theorem atStart : AtStart classFile x code maxLocals ret World_1 tables_1 room_1 Calls_1 rest_1 Pre_1 launch0 p0 e0 about1 theMethod args0 below0 :=
  ⟨lists_1, trivial, launch0.admits_env _ _ _, launch0.least_env, fairChoices_fair.cas, fairChoices_fair.clock, w_frames, w_args, w_heap, w_applies, ⟨w_consts, trivial⟩, w_rest, w_case⟩
end start1
theorem witness_1 : WitnessClaimed_1 := ⟨start1.p0, start1.e0, start1.about1, start1.theMethod, start1.args0, start1.below0, start1.atStart⟩
end Jvm.Pilot.@@N@@
