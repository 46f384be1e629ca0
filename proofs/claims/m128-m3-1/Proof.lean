import JvmDerived
import JvmDerived.Pilot.@@N@@Statement
import JvmDerived.Pilot.@@N@@Code
set_option linter.unusedVariables false
set_option linter.unusedSimpArgs false
/- laws to paste: Road.backV (cut by pick.py; bodies as the Statement names them) -/
namespace Jvm.Pilot.@@N@@
namespace StrChars
open Jvm Sem ClassFile Op Lib Jvm.Stand Jvm.Free.XT Jvm.Free.ALB Jvm.Free.JM Jvm.Free
open Jvm.Lib.Cold (StaticIs)
/-- a char array whose places are chars -/
def Ch (a : Addr) (A : Cell) (U : State) : Prop := Arr .char a A U ∧ Typed .char A
theorem Ch.mv {a : Addr} {A : Cell} {U U' : State} (h : Ch a A U) (hal : U.vm.Alike U'.vm) (hh : U'.heap = U.heap) : Ch a A U' := ⟨h.1.mv hal hh, h.2⟩
theorem Ch.keep {a : Addr} {A : Cell} {U U' : State} (h : Ch a A U) (hal : U.vm.Alike U'.vm) (hk : U'.heap[a]? = some A) : Ch a A U' := ⟨h.1.keep hal hk, h.2⟩
/-- what place i of a char[]'s cell holds -/
def cv (A : Cell) (i : Nat) : Int32 := match A.slots[i]? with | some (.int x) => x | _ => 0
theorem Ch.get {a : Addr} {A : Cell} {U : State} (h : Ch a A U) {i : Nat} (hi : i < A.slots.size) : A.slots[i]? = some (.int (cv A i)) := by
  have e := Array.getElem?_eq_getElem hi
  have f := h.2 i _ e
  unfold cv; rw [e]
  generalize A.slots[i] = v at f
  cases v <;> simp [fits] at f ⊢
/-- the byte that i2b leaves of a char -/
def lo8 (x : Int32) : Int32 := x.toInt8.toInt32
theorem fits_lo8 (y : Int32) : fits .byte (.int (lo8 y)) = true := by
  have h1 := y.toInt8.le_toInt
  have h2 := y.toInt8.toInt_lt
  simp only [lo8, fits, Bool.and_eq_true, decide_eq_true_eq, Int32.le_iff_toInt_le, Int8.toInt_toInt32, show (-128 : Int32).toInt = -128 from by decide, show (127 : Int32).toInt = 127 from by decide]
  omega
/-- A' is A but that each place j of lo .. hi - 1 holds f j -/
def Laid (A A' : Cell) (lo hi : Nat) (f : Nat → Value) : Prop := A'.cls = A.cls ∧ A'.vm = A.vm ∧ A'.slots.size = A.slots.size ∧ ∀ i, A'.slots[i]? = if lo ≤ i ∧ i < hi then some (f i) else A.slots[i]?
theorem Laid.zero (A : Cell) (lo : Nat) (f : Nat → Value) : Laid A A lo (lo + 0) f := ⟨rfl, rfl, rfl, fun i => by rw [if_neg (by omega)]⟩
theorem Laid.step {A Ak : Cell} {lo k : Nat} {f : Nat → Value} {v : Value} (h : Laid A Ak lo k f) (hlo : lo ≤ k) (hk : k < Ak.slots.size) (hv : v = f k) : Laid A (Ak.setSlot k v) lo (k + 1) f := by
  refine ⟨h.1, h.2.1, by simpa [Cell.setSlot] using h.2.2.1, fun i => ?_⟩
  by_cases e : k = i
  · subst e; rw [Cell.slots_setSlot_self v hk, if_pos (by omega), hv]
  · rw [Cell.slots_setSlot_ne v e, h.2.2.2 i]
    by_cases q : lo ≤ i ∧ i < k
    · rw [if_pos q, if_pos (by omega)]
    · rw [if_neg q, if_neg (by omega)]
def U16 : String := "java/lang/StringUTF16"
namespace Cmp5
def yN : MethodName := ⟨"java/lang/StringUTF16", "compress", "([CI[BII)I"⟩
abbrev yB : ByteArray := jdk_52_method_21_code
theorem d0 : decode yB 0 = .ok (.iconst 0, 1) := by decide +kernel
theorem d1 : decode yB 1 = .ok (.istore 5, 2) := by decide +kernel
theorem d3 : decode yB 3 = .ok (.iload 5, 2) := by decide +kernel
theorem d5 : decode yB 5 = .ok (.iload 4, 2) := by decide +kernel
theorem d7 : decode yB 7 = .ok (.if_icmp (.ge) 37, 3) := by decide +kernel
theorem d10 : decode yB 10 = .ok (.aload_n 0, 1) := by decide +kernel
theorem d11 : decode yB 11 = .ok (.iload_n 1, 1) := by decide +kernel
theorem d12 : decode yB 12 = .ok (.caload, 1) := by decide +kernel
theorem d13 : decode yB 13 = .ok (.istore 6, 2) := by decide +kernel
theorem d15 : decode yB 15 = .ok (.iload 6, 2) := by decide +kernel
theorem d17 : decode yB 17 = .ok (.sipush 255, 3) := by decide +kernel
theorem d20 : decode yB 20 = .ok (.if_icmp (.le) 6, 3) := by decide +kernel
theorem d26 : decode yB 26 = .ok (.aload_n 2, 1) := by decide +kernel
theorem d27 : decode yB 27 = .ok (.iload_n 3, 1) := by decide +kernel
theorem d28 : decode yB 28 = .ok (.iload 6, 2) := by decide +kernel
theorem d30 : decode yB 30 = .ok (.i2b, 1) := by decide +kernel
theorem d31 : decode yB 31 = .ok (.bastore, 1) := by decide +kernel
theorem d32 : decode yB 32 = .ok (.iinc 1 1, 3) := by decide +kernel
theorem d35 : decode yB 35 = .ok (.iinc 3 1, 3) := by decide +kernel
theorem d38 : decode yB 38 = .ok (.iinc 5 1, 3) := by decide +kernel
theorem d41 : decode yB 41 = .ok (.goto (-38), 3) := by decide +kernel
theorem d44 : decode yB 44 = .ok (.iload 4, 2) := by decide +kernel
theorem d46 : decode yB 46 = .ok (.ireturn, 1) := by decide +kernel
def site : List Cond := []
def tab : Cond := tabOf yN yB 7 (some .int) site
def P (b : Addr) (A : Cell) (d : Addr) (B : Cell) (o q len : Nat) (args : Array Value) (s : State) : Prop := args = #[.ref b, .int (Int32.ofNat o), .ref d, .int (Int32.ofNat q), .int (Int32.ofNat len)] ∧ Ch b A s ∧ Arr .byte d B s ∧ b ≠ d ∧ o + len ≤ A.slots.size ∧ q + len ≤ B.slots.size ∧ ∀ i, i < len → ¬ 255 < cv A (o + i)
def E (b : Addr) (A : Cell) (d : Addr) (B : Cell) (o q len : Nat) (r : Option Value) (s u : State) : Prop := r = some (.int (Int32.ofNat len)) ∧ ∃ B', Put d B' s u ∧ Laid B B' q (q + len) (fun j => Value.int (lo8 (cv A (o + (j - q)))))
/-- no char of the range above 255: len; the places written hold each char's low byte -/
theorem law (l : Launch) (b : Addr) (A : Cell) (d : Addr) (B : Cell) (o q len : Nat) : Law l yN 5 5 0 0 yB 7 (some .int) site (P b A d B o q len) (E b A d B o q len) (copyLocs d q len) 0 0 := by
  refine Law.of_walk (plainFor_of_name (by decide +kernel)) (by decide +kernel) (by decide +kernel) (by decide) (fun _ _ h => by rw [h.1]; rfl) (fun _ U U' hal hh h => ⟨h.1, h.2.1.mv hal hh, h.2.2.1.mv hal hh, h.2.2.2⟩) (fun r U U' V V' h1 hal h2 h => ⟨h.1, h.2.elim fun B' q => ⟨B', q.1.mv h1 h2, q.2⟩⟩) ?_
  intro p e s m args below meth c s₁ X0 hexec hbytes hml hret hlk hnm hown hh0 W hP
  obtain ⟨rfl, hA, hB, hne, l1, l2, hp⟩ := hP
  have c1 : Steps p.tables e below (s₁.setTop (entryFrame m #[.ref b, .int (Int32.ofNat o), .ref d, .int (Int32.ofNat q), .int (Int32.ofNat len)] 7)) (s₁.setTop (mkF m 0 #[.val (.ref b), .val (.int (Int32.ofNat o)), .val (.ref d), .val (.int (Int32.ofNat q)), .val (.int (Int32.ofNat len)), .unset, .unset] [])) := entry rfl
  have hA0 := hA.1.mv X0.warmed.alike hh0
  have hB0 := hB.mv X0.warmed.alike hh0
  have a31 := hA.1.2.2.2
  have c2 : Steps p.tables e below (s₁.setTop (entryFrame m #[.ref b, .int (Int32.ofNat o), .ref d, .int (Int32.ofNat q), .int (Int32.ofNat len)] 7)) (s₁.setTop (mkF m 3 #[.val (.ref b), .val (.int (Int32.ofNat o)), .val (.ref d), .val (.int (Int32.ofNat q)), .val (.int (Int32.ofNat len)), .val (.int 0), .unset] [])) := c1.trans (by
    refine iconstV X0.here hexec rfl 0 (hb hbytes d0) (by decide) ?_
    refine XS.istore X0.here hexec rfl (hb hbytes d1) rfl rfl ?_
    exact Steps.refl _)
  have loop : ∀ (r i : Nat), i + r = len → ∀ (z : Slot), (z = .unset ∨ ∃ w, z = .val w ∧ w.category = 1) → ∀ (Tl : State) (Bk : Cell), Stand p l e { frames := 0, locals := 0, cells := 0, slots := 0 } s m #[.ref b, .int (Int32.ofNat o), .ref d, .int (Int32.ofNat q), .int (Int32.ofNat len)] below meth c Tl ([] ++ copyLocs d q i) 0 0 → Put d Bk s₁ Tl → Laid B Bk q (q + i) (fun j => Value.int (lo8 (cv A (o + (j - q))))) →
      Steps p.tables e below (s₁.setTop (entryFrame m #[.ref b, .int (Int32.ofNat o), .ref d, .int (Int32.ofNat q), .int (Int32.ofNat len)] 7)) (Tl.setTop (mkF m 3 #[.val (.ref b), .val (.int (Int32.ofNat (o + i))), .val (.ref d), .val (.int (Int32.ofNat (q + i))), .val (.int (Int32.ofNat len)), .val (.int (Int32.ofNat i)), z] [])) → ∃ (T' : State) (B' : Cell) (z' : Slot), Stand p l e { frames := 0, locals := 0, cells := 0, slots := 0 } s m #[.ref b, .int (Int32.ofNat o), .ref d, .int (Int32.ofNat q), .int (Int32.ofNat len)] below meth c T' ([] ++ copyLocs d q len) 0 0 ∧ Put d B' s₁ T' ∧ Laid B B' q (q + len) (fun j => Value.int (lo8 (cv A (o + (j - q))))) ∧
      Steps p.tables e below (s₁.setTop (entryFrame m #[.ref b, .int (Int32.ofNat o), .ref d, .int (Int32.ofNat q), .int (Int32.ofNat len)] 7)) (T'.setTop (mkF m 3 #[.val (.ref b), .val (.int (Int32.ofNat (o + len))), .val (.ref d), .val (.int (Int32.ofNat (q + len))), .val (.int (Int32.ofNat len)), .val (.int (Int32.ofNat len)), z'] [])) := by
    intro r
    induction r with
    | zero =>
      intro i hi z hz Tl Bk Xl pl fl cl
      have hil : i = len := by omega
      rw [hil] at Xl fl cl
      exact ⟨Tl, Bk, z, Xl, pl, fl, cl⟩
    | succ r ih =>
      intro i hi z hz Tl Bk Xl pl fl cl
      have all := X0.warmed.alike.symm.trans Xl.warmed.alike
      have hAl := hA0.keep all (pl.other hne hA0.1)
      have hBk := hB0.like all pl.1 fl.1 fl.2.1 fl.2.2.1
      have hlt : q + i < Bk.slots.size := by rw [fl.2.2.1]; omega
      have c3 : Steps p.tables e below (s₁.setTop (entryFrame m #[.ref b, .int (Int32.ofNat o), .ref d, .int (Int32.ofNat q), .int (Int32.ofNat len)] 7)) (Tl.setTop (mkF m 12 #[.val (.ref b), .val (.int (Int32.ofNat (o + i))), .val (.ref d), .val (.int (Int32.ofNat (q + i))), .val (.int (Int32.ofNat len)), .val (.int (Int32.ofNat i)), z] [.int (Int32.ofNat (o + i)), .ref b])) := cl.trans (by
        refine XS.iload Xl.here hexec rfl (hb hbytes d3) rfl ?_
        refine XS.iload Xl.here hexec rfl (hb hbytes d5) rfl ?_
        refine XS.icmpNo Xl.here hexec rfl (hb hbytes d7) rfl (ii_ge_f (lt32 (by omega) (by omega))) ?_
        refine XS.aloadN Xl.here hexec rfl (hb hbytes d10) rfl rfl ?_
        refine XS.iloadN Xl.here hexec rfl (hb hbytes d11) rfl ?_
        exact Steps.refl _)
      have c4 : Steps p.tables e below (s₁.setTop (entryFrame m #[.ref b, .int (Int32.ofNat o), .ref d, .int (Int32.ofNat q), .int (Int32.ofNat len)] 7)) (Tl.setTop (mkF m 13 #[.val (.ref b), .val (.int (Int32.ofNat (o + i))), .val (.ref d), .val (.int (Int32.ofNat (q + i))), .val (.int (Int32.ofNat len)), .val (.int (Int32.ofNat i)), z] [.int (cv A (o + i))])) := c3.trans (by
        refine Xl.aget hexec hAl rfl (hA.get (i := o + i) (by omega)) rfl rfl (hb hbytes d12) ?_
        exact Steps.refl _)
      have c5 : Steps p.tables e below (s₁.setTop (entryFrame m #[.ref b, .int (Int32.ofNat o), .ref d, .int (Int32.ofNat q), .int (Int32.ofNat len)] 7)) (Tl.setTop (mkF m 15 #[.val (.ref b), .val (.int (Int32.ofNat (o + i))), .val (.ref d), .val (.int (Int32.ofNat (q + i))), .val (.int (Int32.ofNat len)), .val (.int (Int32.ofNat i)), .val (.int (cv A (o + i)))] [])) := c4.trans (by
        refine XS.istoreS Xl.here hexec rfl (hb hbytes d13) rfl rfl hz ?_
        exact Steps.refl _)
      have c6 : Steps p.tables e below (s₁.setTop (entryFrame m #[.ref b, .int (Int32.ofNat o), .ref d, .int (Int32.ofNat q), .int (Int32.ofNat len)] 7)) (Tl.setTop (mkF m 31 #[.val (.ref b), .val (.int (Int32.ofNat (o + i))), .val (.ref d), .val (.int (Int32.ofNat (q + i))), .val (.int (Int32.ofNat len)), .val (.int (Int32.ofNat i)), .val (.int (cv A (o + i)))] [.int (lo8 (cv A (o + i))), .int (Int32.ofNat (q + i)), .ref d])) := c5.trans (by
        refine XS.iload Xl.here hexec rfl (hb hbytes d15) rfl ?_
        refine sipushV Xl.here hexec rfl 255 (hb hbytes d17) (by decide) ?_
        refine XS.icmpYes Xl.here hexec rfl (pc0 := 20) rfl (hb hbytes d20) rfl (ii_le_t (hp i (by omega))) (by decide) rfl ?_
        refine XS.aloadN Xl.here hexec rfl (hb hbytes d26) rfl rfl ?_
        refine XS.iloadN Xl.here hexec rfl (hb hbytes d27) rfl ?_
        refine XS.iload Xl.here hexec rfl (hb hbytes d28) rfl ?_
        refine i2b Xl.here hexec rfl (hb hbytes d30) rfl ?_
        exact Steps.refl _)
      obtain ⟨T7, X7, p7, st7⟩ := Xl.aput hexec hBk rfl hlt rfl (fits_lo8 (cv A (o + i))) (g := (mkF m 31 #[.val (.ref b), .val (.int (Int32.ofNat (o + i))), .val (.ref d), .val (.int (Int32.ofNat (q + i))), .val (.int (Int32.ofNat len)), .val (.int (Int32.ofNat i)), .val (.int (cv A (o + i)))] [.int (lo8 (cv A (o + i))), .int (Int32.ofNat (q + i)), .ref d])) rfl (rest := []) rfl (hb hbytes d31)
      have c8 : Steps p.tables e below (s₁.setTop (entryFrame m #[.ref b, .int (Int32.ofNat o), .ref d, .int (Int32.ofNat q), .int (Int32.ofNat len)] 7)) (T7.setTop (mkF m 32 #[.val (.ref b), .val (.int (Int32.ofNat (o + i))), .val (.ref d), .val (.int (Int32.ofNat (q + i))), .val (.int (Int32.ofNat len)), .val (.int (Int32.ofNat i)), .val (.int (cv A (o + i)))] [])) := c6.trans (st7 _ (Steps.refl _))
      have c9 : Steps p.tables e below (s₁.setTop (entryFrame m #[.ref b, .int (Int32.ofNat o), .ref d, .int (Int32.ofNat q), .int (Int32.ofNat len)] 7)) (T7.setTop (mkF m 3 #[.val (.ref b), .val (.int (Int32.ofNat (o + i) + 1)), .val (.ref d), .val (.int (Int32.ofNat (q + i) + 1)), .val (.int (Int32.ofNat len)), .val (.int (Int32.ofNat i + 1)), .val (.int (cv A (o + i)))] [])) := c8.trans (by
        refine iincV X7.here hexec rfl 1 (hb hbytes d32) (by decide) rfl rfl ?_
        refine iincV X7.here hexec rfl 1 (hb hbytes d35) (by decide) rfl rfl ?_
        refine iincV X7.here hexec rfl 1 (hb hbytes d38) (by decide) rfl rfl ?_
        refine XS.goto X7.here hexec rfl (pc0 := 41) rfl (hb hbytes d41) (by decide) rfl ?_
        exact Steps.refl _)
      have c10 : Steps p.tables e below (s₁.setTop (entryFrame m #[.ref b, .int (Int32.ofNat o), .ref d, .int (Int32.ofNat q), .int (Int32.ofNat len)] 7)) (T7.setTop (mkF m 3 #[.val (.ref b), .val (.int (Int32.ofNat (o + (i + 1)))), .val (.ref d), .val (.int (Int32.ofNat (q + (i + 1)))), .val (.int (Int32.ofNat len)), .val (.int (Int32.ofNat (i + 1))), .val (.int (cv A (o + i)))] [])) := by
        have := c9
        rw [succ32, succ32, succ32] at this
        exact this
      exact ih (i + 1) (by omega) _ (Or.inr ⟨_, rfl, rfl⟩) T7 _ (by rw [copyLocs_step, ← List.append_assoc]; exact X7) (pl.trans p7) (fl.step (by omega) hlt (by simp)) c10
  obtain ⟨T9, B9, z9, X9, p9, f9, g9⟩ := loop len 0 (by omega) .unset (Or.inl rfl) s₁ B (by simpa [copyLocs] using X0) ⟨hB0.1, fun _ _ => rfl, rfl⟩ (Laid.zero _ _ _) c2
  have c11 : Steps p.tables e below (s₁.setTop (entryFrame m #[.ref b, .int (Int32.ofNat o), .ref d, .int (Int32.ofNat q), .int (Int32.ofNat len)] 7)) (T9.setTop (mkF m 46 #[.val (.ref b), .val (.int (Int32.ofNat (o + len))), .val (.ref d), .val (.int (Int32.ofNat (q + len))), .val (.int (Int32.ofNat len)), .val (.int (Int32.ofNat len)), z9] [.int (Int32.ofNat len)])) := g9.trans (by
    refine XS.iload X9.here hexec rfl (hb hbytes d3) rfl ?_
    refine XS.iload X9.here hexec rfl (hb hbytes d5) rfl ?_
    refine XS.icmpYes X9.here hexec rfl (pc0 := 7) rfl (hb hbytes d7) rfl (ii_ge_t (nlt32 (by omega) (Nat.le_refl _))) (by decide) rfl ?_
    refine XS.iload X9.here hexec rfl (hb hbytes d44) rfl ?_
    exact Steps.refl _)
  exact ⟨T9, some (.int (Int32.ofNat len)), _, _, _, X9, by simp, rfl, rfl, (fun h => by cases h), ⟨rfl, B9, p9.from hh0, f9⟩, fun fs hl => c11.trans (X9.ireturnOut hexec hret rfl (Or.inl rfl) (hb hbytes d46) hl)⟩
end Cmp5
namespace Cmp3
def yN : MethodName := ⟨"java/lang/StringUTF16", "compress", "([CII)[B"⟩
abbrev yB : ByteArray := jdk_52_method_16_code
theorem d0 : decode yB 0 = .ok (.iload_n 2, 1) := by decide +kernel
theorem d1 : decode yB 1 = .ok (.newarray .byte, 2) := by decide +kernel
theorem d3 : decode yB 3 = .ok (.astore_n 3, 1) := by decide +kernel
theorem d4 : decode yB 4 = .ok (.aload_n 0, 1) := by decide +kernel
theorem d5 : decode yB 5 = .ok (.iload_n 1, 1) := by decide +kernel
theorem d6 : decode yB 6 = .ok (.aload_n 3, 1) := by decide +kernel
theorem d7 : decode yB 7 = .ok (.iconst 0, 1) := by decide +kernel
theorem d8 : decode yB 8 = .ok (.iload_n 2, 1) := by decide +kernel
theorem d9 : decode yB 9 = .ok (.invokestatic 115, 3) := by decide +kernel
theorem d12 : decode yB 12 = .ok (.istore 4, 2) := by decide +kernel
theorem d14 : decode yB 14 = .ok (.iload 4, 2) := by decide +kernel
theorem d16 : decode yB 16 = .ok (.iload_n 2, 1) := by decide +kernel
theorem d17 : decode yB 17 = .ok (.if_icmp (.eq) 40, 3) := by decide +kernel
theorem d57 : decode yB 57 = .ok (.aload_n 3, 1) := by decide +kernel
theorem d58 : decode yB 58 = .ok (.areturn, 1) := by decide +kernel
def site : List Cond := [.arrayClass .byte, Cmp5.tab] ++ staticW U16 115 Cmp5.yN
def tab : Cond := tabOf yN yB 6 (some (.array .byte)) site
def P (b : Addr) (A : Cell) (o len : Nat) (args : Array Value) (s : State) : Prop := args = #[.ref b, .int (Int32.ofNat o), .int (Int32.ofNat len)] ∧ Ch b A s ∧ o + len ≤ A.slots.size ∧ len ≤ 536870912 ∧ ∀ i, i < len → ¬ 255 < cv A (o + i)
def E (b : Addr) (A : Cell) (o len : Nat) (r : Option Value) (s u : State) : Prop := NewArr .byte "[B" len (fun j => .int (lo8 (cv A (o + j)))) r s u ∧ u.heap.size = s.heap.size + 1
/-- no char of the range above 255: a new byte[] of their low bytes -/
theorem law (l : Launch) (b : Addr) (A : Cell) (o len : Nat) : Law l yN 3 3 1 18 yB 6 (some (.array .byte)) site (P b A o len) (E b A o len) [] 1 len := by
  refine Law.of_walk (plainFor_of_name (by decide +kernel)) (by decide +kernel) (by decide +kernel) (by decide) (fun _ _ h => by rw [h.1]; rfl) (fun _ U U' hal hh h => ⟨h.1, h.2.1.mv hal hh, h.2.2⟩) (fun r U U' V V' h1 hal h2 h => ⟨NewArr.mv r U U' V V' h1 hal h2 h.1, by rw [h1, h2]; exact h.2⟩) ?_
  intro p e s m args below meth c s₁ X0 hexec hbytes hml hret hlk hnm hown hh0 W hP
  obtain ⟨rfl, hA, l1, l2, hp⟩ := hP
  have a31 := hA.1.2.2.2
  have c1 : Steps p.tables e below (s₁.setTop (entryFrame m #[.ref b, .int (Int32.ofNat o), .int (Int32.ofNat len)] 6)) (s₁.setTop (mkF m 0 #[.val (.ref b), .val (.int (Int32.ofNat o)), .val (.int (Int32.ofNat len)), .unset, .unset, .unset] [])) := entry rfl
  have c2 : Steps p.tables e below (s₁.setTop (entryFrame m #[.ref b, .int (Int32.ofNat o), .int (Int32.ofNat len)] 6)) (s₁.setTop (mkF m 1 #[.val (.ref b), .val (.int (Int32.ofNat o)), .val (.int (Int32.ofNat len)), .unset, .unset, .unset] [.int (Int32.ofNat len)])) := c1.trans (by
    refine XS.iloadN X0.here hexec rfl (hb hbytes d0) rfl ?_
    exact Steps.refl _)
  obtain ⟨T3, B3, X3, ba3, bs3, bv3, bh3, bf3, st3⟩ := X0.anew hexec (atype := .byte) (wk W (.arrayClass .byte)) rfl (by show len * 1 ≤ _; omega) (by omega) (g := (mkF m 1 #[.val (.ref b), .val (.int (Int32.ofNat o)), .val (.int (Int32.ofNat len)), .unset, .unset, .unset] [.int (Int32.ofNat len)])) rfl (hb hbytes d1) (rest := []) rfl (Nat.le_refl _) (by show 0 + len ≤ len; omega)
  rw [hh0] at ba3 st3
  have kp3 : XT.Kept s T3 := (XT.Kept.of_eq hh0).push bh3
  have hA3 := hA.keep X3.warmed.alike (kp3 _ _ hA.1.1)
  have hne : b ≠ s.heap.size := hA.1.ne
  have c4 : Steps p.tables e below (s₁.setTop (entryFrame m #[.ref b, .int (Int32.ofNat o), .int (Int32.ofNat len)] 6)) (T3.setTop (mkF m 3 #[.val (.ref b), .val (.int (Int32.ofNat o)), .val (.int (Int32.ofNat len)), .unset, .unset, .unset] [.ref s.heap.size])) := c2.trans (st3 _ (Steps.refl _))
  have c5 : Steps p.tables e below (s₁.setTop (entryFrame m #[.ref b, .int (Int32.ofNat o), .int (Int32.ofNat len)] 6)) (T3.setTop (mkF m 9 #[.val (.ref b), .val (.int (Int32.ofNat o)), .val (.int (Int32.ofNat len)), .val (.ref s.heap.size), .unset, .unset] [.int (Int32.ofNat len), .int 0, .ref s.heap.size, .int (Int32.ofNat o), .ref b])) := c4.trans (by
    refine XS.astoreN X3.here hexec rfl (hb hbytes d3) rfl rfl rfl ?_
    refine XS.aloadN X3.here hexec rfl (hb hbytes d4) rfl rfl ?_
    refine XS.iloadN X3.here hexec rfl (hb hbytes d5) rfl ?_
    refine XS.aloadN X3.here hexec rfl (hb hbytes d6) rfl rfl ?_
    refine iconstV X3.here hexec rfl 0 (hb hbytes d7) (by decide) ?_
    refine XS.iloadN X3.here hexec rfl (hb hbytes d8) rfl ?_
    exact Steps.refl _)
  obtain ⟨v6, T6, X6, E6, g6⟩ := X3.callS hexec (Cmp5.law l b A s.heap.size B3 o 0 len) hown (wks W (staticW U16 115 Cmp5.yN)) (wk W Cmp5.tab) (W := 0) (Nat.le_of_ble_eq_true rfl) (Nat.le_of_ble_eq_true rfl) (Nat.le_refl _) (by show 0 + len + 0 ≤ len; omega) (g := (mkF m 9 #[.val (.ref b), .val (.int (Int32.ofNat o)), .val (.int (Int32.ofNat len)), .val (.ref s.heap.size), .unset, .unset] [.int (Int32.ofNat len), .int (Int32.ofNat 0), .ref s.heap.size, .int (Int32.ofNat o), .ref b])) rfl (by rw [hml]; rfl) c5 (argsL := [.ref b, .int (Int32.ofNat o), .ref s.heap.size, .int (Int32.ofNat 0), .int (Int32.ofNat len)]) (rest := []) rfl rfl (by show 2 * 0 + 0 ≤ _; decide) (hb hbytes d9) (⟨rfl, hA3, ba3, hne, l1, by rw [bs3]; simp, hp⟩)
  obtain ⟨rfl, B6, p6, f6⟩ := E6
  have c7 : Steps p.tables e below (s₁.setTop (entryFrame m #[.ref b, .int (Int32.ofNat o), .int (Int32.ofNat len)] 6)) (T6.setTop (mkF m 12 #[.val (.ref b), .val (.int (Int32.ofNat o)), .val (.int (Int32.ofNat len)), .val (.ref s.heap.size), .unset, .unset] [.int (Int32.ofNat len)])) := g6
  have c8 : Steps p.tables e below (s₁.setTop (entryFrame m #[.ref b, .int (Int32.ofNat o), .int (Int32.ofNat len)] 6)) (T6.setTop (mkF m 58 #[.val (.ref b), .val (.int (Int32.ofNat o)), .val (.int (Int32.ofNat len)), .val (.ref s.heap.size), .val (.int (Int32.ofNat len)), .unset] [.ref s.heap.size])) := c7.trans (by
    refine XS.istore X6.here hexec rfl (hb hbytes d12) rfl rfl ?_
    refine XS.iload X6.here hexec rfl (hb hbytes d14) rfl ?_
    refine XS.iloadN X6.here hexec rfl (hb hbytes d16) rfl ?_
    refine XS.icmpYes X6.here hexec rfl (pc0 := 17) rfl (hb hbytes d17) rfl (ii_eq_t rfl) (by decide) rfl ?_
    refine XS.aloadN X6.here hexec rfl (hb hbytes d57) rfl rfl ?_
    exact Steps.refl _)
  have X8 := X6.wide (L' := []) (cells' := 1) (slots' := len) (fun x hx hlt => by
    simp only [List.nil_append, copyLocs, List.mem_map, List.mem_range] at hx
    obtain ⟨i, -, rfl⟩ := hx
    exact absurd hlt (Nat.lt_irrefl _)) (Nat.le_refl _) (by omega)
  exact ⟨T6, some (.ref s.heap.size), _, _, _, X8, rfl, rfl, rfl, (fun h => by cases h), ⟨⟨rfl, B6, ba3.like (X3.warmed.alike.symm.trans X6.warmed.alike) p6.1 f6.1 f6.2.1 f6.2.2.1, f6.2.1.trans bv3, by rw [X6.warmed.alike.findClass, f6.1]; exact bf3, by rw [f6.2.2.1, bs3]; simp, fun j hj => by rw [f6.2.2.2 j, if_pos (by omega)]; rfl, kp3.put p6 (Nat.le_refl _)⟩, by rw [p6.2.2, bh3, hh0]; simp⟩, fun fs hl => c8.trans (X8.areturnOut hexec rfl hret rfl (hb hbytes d58) hl)⟩
end Cmp3
namespace CodL
def yN : MethodName := ⟨"java/lang/StringUTF16", "coderFromArrayLen", "([BI)B"⟩
abbrev yB : ByteArray := jdk_52_method_15_code
theorem d0 : decode yB 0 = .ok (.iload_n 1, 1) := by decide +kernel
theorem d1 : decode yB 1 = .ok (.aload_n 0, 1) := by decide +kernel
theorem d2 : decode yB 2 = .ok (.arraylength, 1) := by decide +kernel
theorem d3 : decode yB 3 = .ok (.isub, 1) := by decide +kernel
theorem d4 : decode yB 4 = .ok (.bipush 31, 2) := by decide +kernel
theorem d6 : decode yB 6 = .ok (.iushr, 1) := by decide +kernel
theorem d7 : decode yB 7 = .ok (.i2b, 1) := by decide +kernel
theorem d8 : decode yB 8 = .ok (.ireturn, 1) := by decide +kernel
def site : List Cond := []
def tab : Cond := tabOf yN yB 2 (some .byte) site
def P (d : Addr) (B : Cell) (args : Array Value) (s : State) : Prop := args = #[.ref d, .int (Int32.ofNat B.slots.size)] ∧ Arr .byte d B s
def E (r : Option Value) (s u : State) : Prop := XT.PureE (some (.int 0)) r s u
/-- an array as long as the number of chars: LATIN1 -/
theorem law (l : Launch) (d : Addr) (B : Cell) : Law l yN 2 2 0 0 yB 2 (some .byte) site (P d B) E [] 0 0 := by
  refine Law.of_walk (plainFor_of_name (by decide +kernel)) (by decide +kernel) (by decide +kernel) (by decide) (fun _ _ h => by rw [h.1]; rfl) (fun _ U U' hal hh h => ⟨h.1, h.2.mv hal hh⟩) (fun r U U' V V' h1 hal h2 h => XT.PureE.mv r U U' V V' h1 hal h2 h) ?_
  intro p e s m args below meth c s₁ X0 hexec hbytes hml hret hlk hnm hown hh0 W hP
  obtain ⟨rfl, hB⟩ := hP
  have hB0 := hB.mv X0.warmed.alike hh0
  have c1 : Steps p.tables e below (s₁.setTop (entryFrame m #[.ref d, .int (Int32.ofNat B.slots.size)] 2)) (s₁.setTop (mkF m 0 #[.val (.ref d), .val (.int (Int32.ofNat B.slots.size))] [])) := entry rfl
  have c2 : Steps p.tables e below (s₁.setTop (entryFrame m #[.ref d, .int (Int32.ofNat B.slots.size)] 2)) (s₁.setTop (mkF m 2 #[.val (.ref d), .val (.int (Int32.ofNat B.slots.size))] [.ref d, .int (Int32.ofNat B.slots.size)])) := c1.trans (by
    refine XS.iloadN X0.here hexec rfl (hb hbytes d0) rfl ?_
    refine XS.aloadN X0.here hexec rfl (hb hbytes d1) rfl rfl ?_
    exact Steps.refl _)
  have c3 : Steps p.tables e below (s₁.setTop (entryFrame m #[.ref d, .int (Int32.ofNat B.slots.size)] 2)) (s₁.setTop (mkF m 8 #[.val (.ref d), .val (.int (Int32.ofNat B.slots.size))] [.int (lo8 (ushr (Int32.ofNat B.slots.size - Int32.ofNat B.slots.size) 31))])) := c2.trans (by
    refine X0.alen hexec hB0 rfl rfl (hb hbytes d2) ?_
    refine XS.isub X0.here hexec rfl (hb hbytes d3) rfl ?_
    refine bipushV X0.here hexec rfl 31 (hb hbytes d4) (by decide) ?_
    refine iushr X0.here hexec rfl (hb hbytes d6) rfl ?_
    refine i2b X0.here hexec rfl (hb hbytes d7) rfl ?_
    exact Steps.refl _)
  have e0 : lo8 (ushr (Int32.ofNat B.slots.size - Int32.ofNat B.slots.size) 31) = 0 := by rw [Int32.sub_self]; decide
  rw [e0] at c3
  exact ⟨s₁, some (.int 0), _, _, _, X0, rfl, rfl, rfl, (fun h => by cases h), ⟨rfl, hh0⟩, fun fs hl => c3.trans (X0.ireturnOut hexec hret rfl (Or.inr (Or.inr (Or.inl rfl))) (hb hbytes d8) hl)⟩
end CodL
/-- the String at a is Latin-1 over a new byte[] (the heap's one new cell): the low bytes of the len chars of A from o on; every cell but a is kept -/
def Got (a : Addr) (D : Cell) (fV fC : Field) (A : Cell) (o len : Nat) (r : Option Value) (s u : State) : Prop := r = none ∧ ∃ D' V : Cell, Blank "java/lang/String" a D' u ∧ Same D D' [fV.slot, fC.slot] ∧ D'.slots[fV.slot]? = some (.ref s.heap.size) ∧ D'.slots[fC.slot]? = some (.int 0) ∧ Arr .byte s.heap.size V u ∧ V.vm = .none ∧ u.vm.findClass "[B" = some V.cls ∧ V.slots.size = len ∧ (∀ j, j < len → V.slots[j]? = some (.int (lo8 (cv A (o + j))))) ∧ (∀ (y : Addr) (c : Cell), y ≠ a → s.heap[y]? = some c → u.heap[y]? = some c) ∧ u.heap.size = s.heap.size + 1
theorem Got.mv {a : Addr} {D A : Cell} {fV fC : Field} {o len : Nat} : ∀ r (U U' V V' : State), U'.heap = U.heap → V.vm.Alike V'.vm → V'.heap = V.heap → Got a D fV fC A o len r U V → Got a D fV fC A o len r U' V' :=
  fun r U U' V V' h1 hal h2 ⟨e0, D', X, a1, a2, a3, a4, a5, a6, a7, a8, a9, a10, a11⟩ => ⟨e0, D', X, a1.mv hal h2, a2, by rw [h1]; exact a3, a4, by rw [h1]; exact a5.mv hal h2, a6, by rw [hal.findClass]; exact a7, a8, a9, by rw [h1, h2]; exact a10, by rw [h1, h2]; exact a11⟩
namespace New4
def yN : MethodName := ⟨"java/lang/String", "<init>", "([CIILjava/lang/Void;)V"⟩
abbrev yB : ByteArray := jdk_42_method_149_code
theorem d0 : decode yB 0 = .ok (.aload_n 0, 1) := by decide +kernel
theorem d1 : decode yB 1 = .ok (.invokespecial 1, 3) := by decide +kernel
theorem d4 : decode yB 4 = .ok (.iload_n 3, 1) := by decide +kernel
theorem d5 : decode yB 5 = .ok (.ifCond (.ne) 22, 3) := by decide +kernel
theorem d27 : decode yB 27 = .ok (.getstatic 38, 3) := by decide +kernel
theorem d30 : decode yB 30 = .ok (.ifCond (.eq) 28, 3) := by decide +kernel
theorem d33 : decode yB 33 = .ok (.aload_n 1, 1) := by decide +kernel
theorem d34 : decode yB 34 = .ok (.iload_n 2, 1) := by decide +kernel
theorem d35 : decode yB 35 = .ok (.iload_n 3, 1) := by decide +kernel
theorem d36 : decode yB 36 = .ok (.invokestatic 177, 3) := by decide +kernel
theorem d39 : decode yB 39 = .ok (.astore 5, 2) := by decide +kernel
theorem d41 : decode yB 41 = .ok (.aload_n 0, 1) := by decide +kernel
theorem d42 : decode yB 42 = .ok (.aload 5, 2) := by decide +kernel
theorem d44 : decode yB 44 = .ok (.iload_n 3, 1) := by decide +kernel
theorem d45 : decode yB 45 = .ok (.invokestatic 47, 3) := by decide +kernel
theorem d48 : decode yB 48 = .ok (.putfield 15, 3) := by decide +kernel
theorem d51 : decode yB 51 = .ok (.aload_n 0, 1) := by decide +kernel
theorem d52 : decode yB 52 = .ok (.aload 5, 2) := by decide +kernel
theorem d54 : decode yB 54 = .ok (.putfield 9, 3) := by decide +kernel
theorem d57 : decode yB 57 = .ok (.return_, 1) := by decide +kernel
def site : List Cond := [.fieldLink "java/lang/String" 38 "java/lang/String" "COMPACT_STRINGS" "Z", Cmp3.tab, CodL.tab, .laysFinal "java/lang/String" "java/lang/String" "value" "[B", .fieldLink "java/lang/String" 9 "java/lang/String" "value" "[B", .laysFinal "java/lang/String" "java/lang/String" "coder" "B", .fieldLink "java/lang/String" 15 "java/lang/String" "coder" "B"] ++ objW "java/lang/String" 1 ++ staticW "java/lang/String" 177 Cmp3.yN ++ staticW "java/lang/String" 47 CodL.yN
def tab : Cond := tabOf yN yB 6 none site
def P (a : Addr) (D : Cell) (fV fC : Field) (b : Addr) (A : Cell) (z : Int32) (o len : Nat) (args : Array Value) (s : State) : Prop := args = #[.ref a, .ref b, .int (Int32.ofNat o), .int (Int32.ofNat len), .null] ∧ Blank "java/lang/String" a D s ∧ Found "java/lang/String" "value" "[B" fV s ∧ Found "java/lang/String" "coder" "B" fC s ∧ Ch b A s ∧ StaticIs s "java/lang/String" "COMPACT_STRINGS" "Z" (.int z) ∧ ¬ z = 0 ∧ 0 < len ∧ o + len ≤ A.slots.size ∧ len ≤ 536870912 ∧ ∀ i, i < len → ¬ 255 < cv A (o + i)
def E (a : Addr) (D : Cell) (fV fC : Field) (A : Cell) (o len : Nat) (r : Option Value) (s u : State) : Prop := Got a D fV fC A o len r s u
/-- len > 0, no char of the range above 255: a Latin-1 String of their low bytes -/
theorem law (l : Launch) (a : Addr) (D : Cell) (fV fC : Field) (b : Addr) (A : Cell) (z : Int32) (o len : Nat) : Law l yN 5 4 2 35 yB 6 none site (P a D fV fC b A z o len) (E a D fV fC A o len) [⟨a, fC.slot⟩, ⟨a, fV.slot⟩] 1 len := by
  refine Law.of_walk (plainFor_of_name (by decide +kernel)) (by decide +kernel) (by decide +kernel) (by decide) (fun _ _ h => by rw [h.1]; rfl) (fun _ U U' hal hh h => ⟨h.1, h.2.1.mv hal hh, h.2.2.1.al hal, h.2.2.2.1.al hal, h.2.2.2.2.1.mv hal hh, h.2.2.2.2.2.1.there hal hh, h.2.2.2.2.2.2⟩) (fun r U U' V V' h1 hal h2 h => Got.mv r U U' V V' h1 hal h2 h) ?_
  intro p e s m args below meth c s₁ X0 hexec hbytes hml hret hlk hnm hown hh0 W hP
  obtain ⟨rfl, hB, f1, f2, hA, s1, hz, l0, l1, l2, hp⟩ := hP
  have a31 := hA.1.2.2.2
  have c1 : Steps p.tables e below (s₁.setTop (entryFrame m #[.ref a, .ref b, .int (Int32.ofNat o), .int (Int32.ofNat len), .null] 6)) (s₁.setTop (mkF m 0 #[.val (.ref a), .val (.ref b), .val (.int (Int32.ofNat o)), .val (.int (Int32.ofNat len)), .val .null, .unset] [])) := entry rfl
  have c2 : Steps p.tables e below (s₁.setTop (entryFrame m #[.ref a, .ref b, .int (Int32.ofNat o), .int (Int32.ofNat len), .null] 6)) (s₁.setTop (mkF m 1 #[.val (.ref a), .val (.ref b), .val (.int (Int32.ofNat o)), .val (.int (Int32.ofNat len)), .val .null, .unset] [.ref a])) := c1.trans (by
    refine XS.aloadN X0.here hexec rfl (hb hbytes d0) rfl rfl ?_
    exact Steps.refl _)
  obtain ⟨T3, X3, q3, st3⟩ := X0.oinit hexec hown (wks W (objW "java/lang/String" 1)) (g := (mkF m 1 #[.val (.ref a), .val (.ref b), .val (.int (Int32.ofNat o)), .val (.int (Int32.ofNat len)), .val .null, .unset] [.ref a])) rfl (by rw [hml]; rfl) (rest := []) rfl (hb hbytes d1) (W := 0) (by show 2 * 0 + 0 ≤ _; decide) (Nat.le_of_ble_eq_true rfl) (Nat.le_of_ble_eq_true rfl)
  have hh3 := q3.trans hh0
  have c4 : Steps p.tables e below (s₁.setTop (entryFrame m #[.ref a, .ref b, .int (Int32.ofNat o), .int (Int32.ofNat len), .null] 6)) (T3.setTop (mkF m 27 #[.val (.ref a), .val (.ref b), .val (.int (Int32.ofNat o)), .val (.int (Int32.ofNat len)), .val .null, .unset] [])) := (c2.trans (st3 _ (Steps.refl _))).trans (by
    refine XS.iloadN X3.here hexec rfl (hb hbytes d4) rfl ?_
    refine XS.ifYes X3.here hexec rfl (pc0 := 5) rfl (hb hbytes d5) rfl (i0_ne_t (nz32 (by omega) l0)) (by decide) rfl ?_
    exact Steps.refl _)
  obtain ⟨T5, X5, q5, st5⟩ := X3.sget hexec hown (wk W (.fieldLink "java/lang/String" 38 "java/lang/String" "COMPACT_STRINGS" "Z")) s1 (fun _ _ h => by rw [hh3]; exact h) (g := (mkF m 27 #[.val (.ref a), .val (.ref b), .val (.int (Int32.ofNat o)), .val (.int (Int32.ofNat len)), .val .null, .unset] [])) rfl (hb hbytes d27)
  have hh5 := q5.trans hh3
  have c6 : Steps p.tables e below (s₁.setTop (entryFrame m #[.ref a, .ref b, .int (Int32.ofNat o), .int (Int32.ofNat len), .null] 6)) (T5.setTop (mkF m 30 #[.val (.ref a), .val (.ref b), .val (.int (Int32.ofNat o)), .val (.int (Int32.ofNat len)), .val .null, .unset] [.int z])) := c4.trans (st5 _ (Steps.refl _))
  have c7 : Steps p.tables e below (s₁.setTop (entryFrame m #[.ref a, .ref b, .int (Int32.ofNat o), .int (Int32.ofNat len), .null] 6)) (T5.setTop (mkF m 36 #[.val (.ref a), .val (.ref b), .val (.int (Int32.ofNat o)), .val (.int (Int32.ofNat len)), .val .null, .unset] [.int (Int32.ofNat len), .int (Int32.ofNat o), .ref b])) := c6.trans (by
    refine XS.ifNo X5.here hexec rfl (hb hbytes d30) rfl (i0_eq_f hz) ?_
    refine XS.aloadN X5.here hexec rfl (hb hbytes d33) rfl rfl ?_
    refine XS.iloadN X5.here hexec rfl (hb hbytes d34) rfl ?_
    refine XS.iloadN X5.here hexec rfl (hb hbytes d35) rfl ?_
    exact Steps.refl _)
  obtain ⟨v8, T8, X8, E8, g8⟩ := X5.callS hexec (Cmp3.law l b A o len) hown (wks W (staticW "java/lang/String" 177 Cmp3.yN)) (wk W Cmp3.tab) (W := 0) (Nat.le_of_ble_eq_true rfl) (Nat.le_of_ble_eq_true rfl) (Nat.le_refl _) (by show 0 + len ≤ len; omega) (g := (mkF m 36 #[.val (.ref a), .val (.ref b), .val (.int (Int32.ofNat o)), .val (.int (Int32.ofNat len)), .val .null, .unset] [.int (Int32.ofNat len), .int (Int32.ofNat o), .ref b])) rfl (by rw [hml]; rfl) c7 (argsL := [.ref b, .int (Int32.ofNat o), .int (Int32.ofNat len)]) (rest := []) rfl rfl (by show 2 * 0 + 0 ≤ _; decide) (hb hbytes d36) (⟨rfl, hA.mv X5.warmed.alike hh5, l1, l2, hp⟩)
  obtain ⟨e8, z8⟩ := E8
  obtain ⟨rfl, N, n1, n2, n3, n4, n5, n6⟩ := NewArr.mv _ T5 s _ _ hh5.symm (Vm.Alike.refl _) rfl e8
  rw [hh5] at z8
  have hB1 := hB.keep X8.warmed.alike (n6 _ _ hB.1)
  have hne : s.heap.size ≠ a := (Nat.ne_of_lt (Array.getElem?_eq_some_iff.mp hB.1).1).symm
  have c9 : Steps p.tables e below (s₁.setTop (entryFrame m #[.ref a, .ref b, .int (Int32.ofNat o), .int (Int32.ofNat len), .null] 6)) (T8.setTop (mkF m 39 #[.val (.ref a), .val (.ref b), .val (.int (Int32.ofNat o)), .val (.int (Int32.ofNat len)), .val .null, .unset] [.ref s.heap.size])) := g8
  have c10 : Steps p.tables e below (s₁.setTop (entryFrame m #[.ref a, .ref b, .int (Int32.ofNat o), .int (Int32.ofNat len), .null] 6)) (T8.setTop (mkF m 45 #[.val (.ref a), .val (.ref b), .val (.int (Int32.ofNat o)), .val (.int (Int32.ofNat len)), .val .null, .val (.ref s.heap.size)] [.int (Int32.ofNat N.slots.size), .ref s.heap.size, .ref a])) := by
    have hc : Steps p.tables e below (s₁.setTop (entryFrame m #[.ref a, .ref b, .int (Int32.ofNat o), .int (Int32.ofNat len), .null] 6)) (T8.setTop (mkF m 45 #[.val (.ref a), .val (.ref b), .val (.int (Int32.ofNat o)), .val (.int (Int32.ofNat len)), .val .null, .val (.ref s.heap.size)] [.int (Int32.ofNat len), .ref s.heap.size, .ref a])) := c9.trans (by
      refine XS.astore X8.here hexec rfl (hb hbytes d39) rfl rfl rfl ?_
      refine XS.aloadN X8.here hexec rfl (hb hbytes d41) rfl rfl ?_
      refine XS.aload X8.here hexec rfl (hb hbytes d42) rfl rfl ?_
      refine XS.iloadN X8.here hexec rfl (hb hbytes d44) rfl ?_
      exact Steps.refl _)
    rw [n4]; exact hc
  obtain ⟨v11, T11, X11, E11, g11⟩ := X8.callS hexec (CodL.law l s.heap.size N) hown (wks W (staticW "java/lang/String" 47 CodL.yN)) (wk W CodL.tab) (W := 1) (Nat.le_of_ble_eq_true rfl) (Nat.le_of_ble_eq_true rfl) (Nat.le_refl _) (by show 0 + len + 0 ≤ len; omega) (g := (mkF m 45 #[.val (.ref a), .val (.ref b), .val (.int (Int32.ofNat o)), .val (.int (Int32.ofNat len)), .val .null, .val (.ref s.heap.size)] [.int (Int32.ofNat N.slots.size), .ref s.heap.size, .ref a])) rfl (by rw [hml]; rfl) c10 (argsL := [.ref s.heap.size, .int (Int32.ofNat N.slots.size)]) (rest := [.ref a]) rfl rfl (by show 2 * 0 + (1 + 0) ≤ _; decide) (hb hbytes d45) (⟨rfl, n1⟩)
  obtain ⟨rfl, q11⟩ := E11
  have hB11 := hB1.mv (X8.warmed.alike.symm.trans X11.warmed.alike) q11
  have c12 : Steps p.tables e below (s₁.setTop (entryFrame m #[.ref a, .ref b, .int (Int32.ofNat o), .int (Int32.ofNat len), .null] 6)) (T11.setTop (mkF m 48 #[.val (.ref a), .val (.ref b), .val (.int (Int32.ofNat o)), .val (.int (Int32.ofNat len)), .val .null, .val (.ref s.heap.size)] [.int 0, .ref a])) := g11
  obtain ⟨T13, X13, p13, bl13, sl13, st13⟩ := X11.finit hexec hown (wk W (.fieldLink "java/lang/String" 15 "java/lang/String" "coder" "B")) (Or.inr ⟨_, (wk W (.laysFinal "java/lang/String" "java/lang/String" "coder" "B"))⟩) (Or.inl ⟨rfl, hnm⟩) f2 (Or.inl rfl) hB11 (t := .byte) (by decide +kernel) rfl (g := (mkF m 48 #[.val (.ref a), .val (.ref b), .val (.int (Int32.ofNat o)), .val (.int (Int32.ofNat len)), .val .null, .val (.ref s.heap.size)] [.int 0, .ref a])) rfl (rest := []) rfl (hb hbytes d48)
  have c14 : Steps p.tables e below (s₁.setTop (entryFrame m #[.ref a, .ref b, .int (Int32.ofNat o), .int (Int32.ofNat len), .null] 6)) (T13.setTop (mkF m 54 #[.val (.ref a), .val (.ref b), .val (.int (Int32.ofNat o)), .val (.int (Int32.ofNat len)), .val .null, .val (.ref s.heap.size)] [.ref s.heap.size, .ref a])) := (c12.trans (st13 _ (Steps.refl _))).trans (by
    refine XS.aloadN X13.here hexec rfl (hb hbytes d51) rfl rfl ?_
    refine XS.aload X13.here hexec rfl (hb hbytes d52) rfl rfl ?_
    exact Steps.refl _)
  obtain ⟨T15, X15, p15, bl15, sl15, st15⟩ := X13.finit hexec hown (wk W (.fieldLink "java/lang/String" 9 "java/lang/String" "value" "[B")) (Or.inr ⟨_, (wk W (.laysFinal "java/lang/String" "java/lang/String" "value" "[B"))⟩) (Or.inl ⟨rfl, hnm⟩) f1 (Or.inl rfl) bl13 (t := (.array .byte)) (by decide +kernel) rfl (g := (mkF m 54 #[.val (.ref a), .val (.ref b), .val (.int (Int32.ofNat o)), .val (.int (Int32.ofNat len)), .val .null, .val (.ref s.heap.size)] [.ref s.heap.size, .ref a])) rfl (rest := []) rfl (hb hbytes d54)
  have c16 : Steps p.tables e below (s₁.setTop (entryFrame m #[.ref a, .ref b, .int (Int32.ofNat o), .int (Int32.ofNat len), .null] 6)) (T15.setTop (mkF m 57 #[.val (.ref a), .val (.ref b), .val (.int (Int32.ofNat o)), .val (.int (Int32.ofNat len)), .val .null, .val (.ref s.heap.size)] [])) := c14.trans (st15 _ (Steps.refl _))
  have ap := apart (Or.inr ⟨_, (wk W (.laysFinal "java/lang/String" "java/lang/String" "value" "[B"))⟩) (Or.inr ⟨_, (wk W (.laysFinal "java/lang/String" "java/lang/String" "coder" "B"))⟩) f1 f2 (t₁ := .array .byte) (t₂ := .byte) (by decide +kernel) (by decide +kernel) (by decide)
  have al := X8.warmed.alike.symm.trans X15.warmed.alike
  have n7 : T11.heap[s.heap.size]? = some N := by rw [q11]; exact n1.1
  exact ⟨T15, none, _, _, _, X15, by simp, rfl, by omega, (fun _ => rfl), ⟨rfl, _, N, bl15, ((Same.refl D _).set _ (by simp)).set _ (by simp), sl15, (Cell.slots_setSlot_ne _ ap).trans sl13, n1.keep al (p15.other hne (p13.other hne n7)), n2, by rw [al.findClass]; exact n3, n4, n5, fun y c h1 h2 => p15.other h1 (p13.other h1 (by rw [q11]; exact n6 y c h2)), by rw [p15.2.2, p13.2.2, q11]; exact z8⟩, fun fs hl => c16.trans (X15.returnOut hexec hret (hb hbytes d57) hl)⟩
end New4
namespace New1
def yN : MethodName := ⟨"java/lang/String", "<init>", "([C)V"⟩
abbrev yB : ByteArray := jdk_42_method_3_code
theorem d0 : decode yB 0 = .ok (.aload_n 0, 1) := by decide +kernel
theorem d1 : decode yB 1 = .ok (.aload_n 1, 1) := by decide +kernel
theorem d2 : decode yB 2 = .ok (.iconst 0, 1) := by decide +kernel
theorem d3 : decode yB 3 = .ok (.aload_n 1, 1) := by decide +kernel
theorem d4 : decode yB 4 = .ok (.arraylength, 1) := by decide +kernel
theorem d5 : decode yB 5 = .ok (.aconst_null, 1) := by decide +kernel
theorem d6 : decode yB 6 = .ok (.invokespecial 27, 3) := by decide +kernel
theorem d9 : decode yB 9 = .ok (.return_, 1) := by decide +kernel
def site : List Cond := [New4.tab] ++ initW "java/lang/String" 27 New4.yN
def tab : Cond := tabOf yN yB 2 none site
def P (a : Addr) (D : Cell) (fV fC : Field) (b : Addr) (A : Cell) (z : Int32) (args : Array Value) (s : State) : Prop := args = #[.ref a, .ref b] ∧ Blank "java/lang/String" a D s ∧ Found "java/lang/String" "value" "[B" fV s ∧ Found "java/lang/String" "coder" "B" fC s ∧ Ch b A s ∧ StaticIs s "java/lang/String" "COMPACT_STRINGS" "Z" (.int z) ∧ ¬ z = 0 ∧ 0 < A.slots.size ∧ A.slots.size ≤ 536870912 ∧ ∀ i, i < A.slots.size → ¬ 255 < cv A i
def E (a : Addr) (D : Cell) (fV fC : Field) (A : Cell) (r : Option Value) (s u : State) : Prop := Got a D fV fC A 0 A.slots.size r s u
/-- new String(chars), not empty, no char above 255: a Latin-1 String of their low bytes -/
theorem law (l : Launch) (a : Addr) (D : Cell) (fV fC : Field) (b : Addr) (A : Cell) (z : Int32) : Law l yN 2 1 3 52 yB 2 none site (P a D fV fC b A z) (E a D fV fC A) [⟨a, fC.slot⟩, ⟨a, fV.slot⟩] 1 A.slots.size := by
  refine Law.of_walk (plainFor_of_name (by decide +kernel)) (by decide +kernel) (by decide +kernel) (by decide) (fun _ _ h => by rw [h.1]; rfl) (fun _ U U' hal hh h => ⟨h.1, h.2.1.mv hal hh, h.2.2.1.al hal, h.2.2.2.1.al hal, h.2.2.2.2.1.mv hal hh, h.2.2.2.2.2.1.there hal hh, h.2.2.2.2.2.2⟩) (fun r U U' V V' h1 hal h2 h => Got.mv r U U' V V' h1 hal h2 h) ?_
  intro p e s m args below meth c s₁ X0 hexec hbytes hml hret hlk hnm hown hh0 W hP
  obtain ⟨rfl, hB, f1, f2, hA, s1, hz, l0, l2, hp⟩ := hP
  have c1 : Steps p.tables e below (s₁.setTop (entryFrame m #[.ref a, .ref b] 2)) (s₁.setTop (mkF m 0 #[.val (.ref a), .val (.ref b)] [])) := entry rfl
  have c2 : Steps p.tables e below (s₁.setTop (entryFrame m #[.ref a, .ref b] 2)) (s₁.setTop (mkF m 6 #[.val (.ref a), .val (.ref b)] [.null, .int (Int32.ofNat A.slots.size), .int 0, .ref b, .ref a])) := c1.trans (by
    refine XS.aloadN X0.here hexec rfl (hb hbytes d0) rfl rfl ?_
    refine XS.aloadN X0.here hexec rfl (hb hbytes d1) rfl rfl ?_
    refine iconstV X0.here hexec rfl 0 (hb hbytes d2) (by decide) ?_
    refine XS.aloadN X0.here hexec rfl (hb hbytes d3) rfl rfl ?_
    refine X0.alen hexec (hA.1.mv X0.warmed.alike hh0) rfl rfl (hb hbytes d4) ?_
    refine XS.aconstNull X0.here hexec rfl (hb hbytes d5) ?_
    exact Steps.refl _)
  obtain ⟨v3, T3, X3, E3, g3⟩ := X0.callN hexec (New4.law l a D fV fC b A z 0 A.slots.size) rfl hown (wks W (initW "java/lang/String" 27 New4.yN)) (W New4.tab (by simp only [site, List.mem_cons, List.mem_append, true_or, or_true])) (W := 0) (Nat.le_of_ble_eq_true rfl) (Nat.le_of_ble_eq_true rfl) (Nat.le_refl _) (by show 0 + A.slots.size ≤ A.slots.size; omega) (g := (mkF m 6 #[.val (.ref a), .val (.ref b)] [.null, .int (Int32.ofNat A.slots.size), .int (Int32.ofNat 0), .ref b, .ref a])) rfl (by rw [hml]; rfl) c2 (argsL := [.ref b, .int (Int32.ofNat 0), .int (Int32.ofNat A.slots.size), .null]) (rest := []) rfl rfl (by show 2 * 0 + 0 ≤ _; decide) (hb hbytes d6) (⟨rfl, hB.mv X0.warmed.alike hh0, f1.al X0.warmed.alike, f2.al X0.warmed.alike, hA.mv X0.warmed.alike hh0, s1.there X0.warmed.alike hh0, hz, l0, by omega, l2, fun i hi => by rw [Nat.zero_add]; exact hp i hi⟩)
  have e0 := Got.mv _ s₁ s _ _ hh0.symm (Vm.Alike.refl _) rfl E3
  obtain rfl := e0.1
  have c4 : Steps p.tables e below (s₁.setTop (entryFrame m #[.ref a, .ref b] 2)) (T3.setTop (mkF m 9 #[.val (.ref a), .val (.ref b)] [])) := g3
  exact ⟨T3, none, _, _, _, X3, by simp, rfl, by omega, (fun _ => rfl), e0, fun fs hl => c4.trans (X3.returnOut hexec hret (hb hbytes d9) hl)⟩
theorem pays {l : Launch} {R : Room} {p : Program} {e : Env} {below : List Frame} {s : State} {sargs : Array Value} {len W : Nat} (a : Addr) (D : Cell) (fV fC : Field) (b : Addr) (A : Cell) (z : Int32) (htab : tab.before sargs s = true) (hfr : 4 ≤ R.frames) (hlo : W + 65 ≤ R.locals) :
    Back l R p e below s sargs yN len W (fun A₁ a₁ => A₁.cells + 1 ≤ R.cells ∧ A₁.slots + A.slots.size ≤ R.slots ∧ P a D fV fC b A z a₁ A₁.U) (fun A₁ _ v₁ B₁ => E a D fV fC A v₁ A₁.U B₁.U ∧ B₁.locs = A₁.locs ++ [⟨a, fC.slot⟩, ⟨a, fV.slot⟩] ∧ B₁.cells = A₁.cells + 1 ∧ B₁.slots = A₁.slots + A.slots.size) :=
  (law l a D fV fC b A z).pays htab hfr (by omega)
end New1
end StrChars
namespace StrChars.Road
open Jvm Sem ClassFile Op Lib Jvm.Stand Jvm.Free Jvm.Free.XT
open Jvm.Lib.Cold (StaticIs)
abbrev ST : String := "java/lang/String"
/-- every table word that New1's law asks, flat -/
abbrev words : List Jvm.Cond := [.code New1.yN New1.yB 2 none, .initialized ST, .methodLink ST 27 New4.yN, .instanceMethod New4.yN,
  .code New4.yN New4.yB 6 none, .fieldLink ST 38 ST "COMPACT_STRINGS" "Z", .laysFinal ST ST "value" "[B", .fieldLink ST 9 ST "value" "[B", .laysFinal ST ST "coder" "B", .fieldLink ST 15 ST "coder" "B",
  .methodLink ST 1 Lib.objectInit, .instanceMethod Lib.objectInit, .code Lib.objectInit ⟨#[0xb1]⟩ 1 none, .methodLink ST 177 Cmp3.yN, .static Cmp3.yN, .methodLink ST 47 CodL.yN, .static CodL.yN,
  .code Cmp3.yN Cmp3.yB 6 (some (.array .byte)), .initialized U16, .arrayClass .byte, .methodLink U16 115 Cmp5.yN, .static Cmp5.yN, .code Cmp5.yN Cmp5.yB 7 (some .int), .code CodL.yN CodL.yB 2 (some .byte)]
theorem tab_of {a : Array Value} {s : State} (h : ∀ w ∈ words, w.before a s = true) : New1.tab.before a s = true := by
  have h5 : Cmp5.tab.before a s = true := unparts (wk h (.code Cmp5.yN Cmp5.yB 7 (some .int))) (wks h (.initialized Cmp5.yN.cls :: Cmp5.site))
  have hc : CodL.tab.before a s = true := unparts (wk h (.code CodL.yN CodL.yB 2 (some .byte))) (wks h (.initialized CodL.yN.cls :: CodL.site))
  have q5 : ∀ w ∈ Cmp5.tab :: words, w.before a s = true := fun w hw => (List.mem_cons.mp hw).elim (fun e => e ▸ h5) (h w)
  have h3 : Cmp3.tab.before a s = true := unparts (wk q5 (.code Cmp3.yN Cmp3.yB 6 (some (.array .byte)))) (wks q5 (.initialized Cmp3.yN.cls :: Cmp3.site))
  have q3 : ∀ w ∈ Cmp3.tab :: CodL.tab :: words, w.before a s = true := fun w hw => (List.mem_cons.mp hw).elim (fun e => e ▸ h3) fun hw => (List.mem_cons.mp hw).elim (fun e => e ▸ hc) (h w)
  have h4 : New4.tab.before a s = true := unparts (wk q3 (.code New4.yN New4.yB 6 none)) (wks q3 (.initialized New4.yN.cls :: New4.site))
  have q4 : ∀ w ∈ New4.tab :: words, w.before a s = true := fun w hw => (List.mem_cons.mp hw).elim (fun e => e ▸ h4) (h w)
  exact unparts (wk q4 (.code New1.yN New1.yB 2 none)) (wks q4 (.initialized New1.yN.cls :: New1.site))
/-- the words ride from the start Z to the walk's own state -/
theorem moved {Z s : State} {a0 args : Array Value} (hZ : Z.Warmed39 s.vm) (hw : ∀ d ∈ words, d.before a0 Z = true) : ∀ d ∈ words, d.before args s = true := fun d hd => by
  have q := hw d hd
  have t : ∀ d ∈ words, d = .arrayClass .byte ∨ (d.onTables && d.keepsFace) = true := by decide +kernel
  rcases t d hd with rfl | t
  · exact RoadKit.mvA hZ q
  · exact RoadKit.mv hZ q t
/-- WHAT COMES BACK, over the tables of the start Z: h the heap at the call, h' behind it -/
def Q (Z : State) (x : Addr) (A : Cell) (h : Heap) (v : Option Value) (h' : Heap) (L : List Loc) : Prop := v = none ∧ (∀ y ∈ L, y.base = x) ∧ RoadKit.Keep h h' [x] ∧ h'.size = h.size + 1 ∧ RoadKit.Exa Z h' x ST ∧ RoadKit.Fld Z h' x ST "value" "[B" (.ref h.size) ∧ RoadKit.Fld Z h' x ST "coder" "B" (.int 0) ∧
  (∃ V : Cell, RoadKit.Arr Z h' h.size V .byte ∧ V.vm = .none ∧ Z.vm.findClass "[B" = some V.cls ∧ V.slots.size = A.slots.size ∧ ∀ j, j < A.slots.size → V.slots[j]? = some (.int (lo8 (cv A j)))) ∧
  ∀ (O n d : String) (w : Value), RoadKit.Fld Z h x O n d w → RoadKit.slotOf Z O n d ≠ RoadKit.slotOf Z ST "value" "[B" → RoadKit.slotOf Z O n d ≠ RoadKit.slotOf Z ST "coder" "B" → RoadKit.Fld Z h' x O n d w
/-- **new String(chars) AT A CALL, IN THE ROAD'S FORM**: for specialBack behind newO: x the fresh String, b the char[] with the cell A -/
theorem back {p : Program} {l : Launch} {e : Env} {R : Room} {s : State} {args : Array Value} {below : List Frame} {len W : Nat} {Z : State} {a0 : Array Value} {h : Heap} (hZ : Z.Warmed39 s.vm) (hw : ∀ d ∈ words, d.before a0 Z = true) {kI : Nat} (wi : (Jvm.Cond.instantiable ST kI).before a0 Z = true)
    {x b : Addr} {A : Cell} {z : Int32} {v0 c0 : Value} (E : RoadKit.Exa Z h x ST) (V : RoadKit.Fld Z h x ST "value" "[B" v0) (C : RoadKit.Fld Z h x ST "coder" "B" c0) (K : RoadKit.Arr Z h b A .char) (hty : Typed .char A) (S : RoadKit.Sta Z h ST "COMPACT_STRINGS" "Z" (.int z)) (hz : ¬ z = 0)
    (l0 : 0 < A.slots.size) (l2 : A.slots.size ≤ 536870912) (hp : ∀ i, i < A.slots.size → ¬ 255 < cv A i) (hfr : 4 ≤ R.frames) (hlo : W + 65 ≤ R.locals) :
    Back l R p e below s args New1.yN len W (fun P a => a = #[.ref x, .ref b] ∧ P.U.heap = h ∧ P.cells + 1 ≤ R.cells ∧ P.slots + A.slots.size ≤ R.slots)
      (fun P _ v B => ∃ L, Q Z x A h v B.U.heap L ∧ B.locs = P.locs ++ L ∧ B.cells = P.cells + 1 ∧ B.slots = P.slots + A.slots.size) := by
  intro m meth c P g ig mk a X hg hsize hdg hW hn hp'
  obtain ⟨rfl, rfl, r1, r2⟩ := hp'
  have al : Z.vm.Alike P.U.vm := hZ.alike.trans X.warmed.alike
  obtain ⟨D, cfV, kV, iV, fV, hD, gV, stV, knV, obV, asV, slV⟩ := id V
  obtain ⟨D', cfC, kC, iC, fC, hD', gC, stC, -, -, asC, slC⟩ := id C
  cases hD.symm.trans hD'
  obtain ⟨D2, kD, e1, e2, e3, e4, e5⟩ := id E
  cases hD.symm.trans e1
  obtain ⟨c2, k2, i1, i2, i3, -⟩ := Cond.instantiable_spec wi
  cases e2.symm.trans i1
  cases e3.symm.trans i2
  obtain ⟨kU, u1, u2⟩ := al.2.2 _ _ e3
  have hB : Blank ST x D P.U := ⟨hD, ⟨knV, fun q hq => by rw [hq] at obV; cases obV⟩, by rw [al.findClass]; exact e2, kU, u1, by rw [u2]; exact i3, by rw [u2]; exact e5 i3⟩
  have F1 : Found ST "value" "[B" fV P.U := ⟨SBG.found_only al ⟨cfV, kV, iV, gV⟩, stV⟩
  have F2 : Found ST "coder" "B" fC P.U := ⟨SBG.found_only al ⟨cfC, kC, iC, gC⟩, stC⟩
  have hA : Ch b A P.U := ⟨⟨K.1, State.isArrayOf_alike al K.2.1, K.2.2, by omega⟩, hty⟩
  have hS : StaticIs P.U ST "COMPACT_STRINGS" "Z" (.int z) := by
    obtain ⟨cfS, iS, kS, fS, st, cS, t1, t2, t3, t4, t5, t6, t7⟩ := S
    exact StaticIs.there (s := { Z with heap := P.U.heap }) ⟨cfS, iS, kS, fS, st, cS, t1, t2, t3, t4, t5, (fun q => by rw [q] at t6; cases t6), t7⟩ al rfl
  obtain ⟨v, B, X', ⟨⟨hv, E', V', q1, q2, q3, q4, q5, q6, q7, q8, q9, q10, q11⟩, hl, hc, hs⟩, st⟩ := New1.pays x D fV fC b A z (tab_of (moved hZ hw)) hfr hlo m meth c P g ig mk _ X hg hsize hdg hW hn ⟨r1, r2, rfl, hB, F1, F2, hA, hS, hz, l0, l2, hp⟩
  have al' : Z.vm.Alike B.U.vm := hZ.alike.trans X'.warmed.alike
  have hsz : E'.slots.size = D.slots.size := by
    obtain ⟨-, -, -, kB, w1, w2, w3⟩ := q1
    obtain ⟨kB', y1, y2⟩ := al'.2.2 _ _ e3
    rw [q2.2.1] at w1
    cases w1.symm.trans y1
    rw [w3, e5 i3, y2]
  refine ⟨v, B, X', ⟨_, ⟨hv, ?_, ⟨by omega, fun y cy hy hn' => q10 y cy (by simpa using hn') hy, fun y cy hy => ?_⟩, q11, ⟨E', _, q1.1, by rw [q2.2.1]; exact e2, by rw [q2.2.1]; exact e3, by rw [q2.1]; exact obV, fun _ => by rw [hsz]; exact e5 i3⟩,
    ⟨E', cfV, kV, iV, fV, q1.1, gV, stV, by rw [q2.1]; exact knV, by rw [q2.1]; exact obV, by rw [q2.2.1]; exact asV, q3⟩, ⟨E', cfC, kC, iC, fC, q1.1, gC, stC, by rw [q2.1]; exact knV, by rw [q2.1]; exact obV, by rw [q2.2.1]; exact asC, q4⟩,
    ⟨V', ⟨q5.1, State.isArrayOf_alike al'.symm q5.2.1, q5.2.2.1⟩, q6, by rw [← al'.findClass]; exact q7, q8, fun j hj => by have := q9 j hj; rwa [Nat.zero_add] at this⟩, fun O n d w F n1 n2 => ?_⟩, hl, hc, hs⟩, st⟩
  · intro y hy
    simp only [List.mem_cons, List.not_mem_nil, or_false] at hy
    rcases hy with rfl | rfl <;> rfl
  · by_cases q : y = x
    · subst q
      cases hD.symm.trans hy
      exact ⟨E', q1.1, q2.2.1, q2.1, hsz⟩
    · exact ⟨cy, q10 y cy q hy, rfl, rfl, rfl⟩
  · obtain ⟨D3, cf, k, i, f, g1, g2, g3, g4, g5, g6, g7⟩ := F
    cases hD.symm.trans g1
    simp only [RoadKit.slotOf, g2, gV, gC, Option.map_some, Option.getD_some] at n1 n2
    exact ⟨E', cf, k, i, f, q1.1, g2, g3, by rw [q2.1]; exact g4, by rw [q2.1]; exact g5, by rw [q2.2.1]; exact g6, by rw [q2.2.2 f.slot (by simp [n1, n2])]; exact g7⟩
end StrChars.Road
namespace StrChars.Road
open Jvm Sem ClassFile Op Lib Jvm.Stand Jvm.Free Jvm.Free.XT
/-- WHAT COMES BACK, the byte[] as a list of values -/
def QA (Z : State) (x : Addr) (zn : Int32) (cs : List Int32) (h : Heap) (v : Option Value) (h' : Heap) (L : List Loc) : Prop := v = none ∧ (∀ y ∈ L, y.base = x) ∧ RoadKit.Keep h h' [x] ∧ h'.size = h.size + 1 ∧ RoadKit.Exa Z h' x ST ∧ RoadKit.Fld Z h' x ST "value" "[B" (.ref h.size) ∧ RoadKit.Fld Z h' x ST "coder" "B" (.int 0) ∧
  (∃ kb, Z.vm.findClass "[B" = some kb ∧ RoadKit.Arv Z h' h.size kb .byte zn (cs.map fun c => .int (lo8 c)) (.int 0)) ∧
  ∀ (O n d : String) (w : Value), RoadKit.Fld Z h x O n d w → RoadKit.slotOf Z O n d ≠ RoadKit.slotOf Z ST "value" "[B" → RoadKit.slotOf Z O n d ≠ RoadKit.slotOf Z ST "coder" "B" → RoadKit.Fld Z h' x O n d w
/-- **new String(chars) AT A CALL, THE ARRAYS AS LISTS**: the char[] at b holds cs, not empty, no char above 255 -/
theorem backArv {p : Program} {l : Launch} {e : Env} {R : Room} {s : State} {args : Array Value} {below : List Frame} {len W : Nat} {Z : State} {a0 : Array Value} {h : Heap} (hZ : Z.Warmed39 s.vm) (hw : ∀ d ∈ words, d.before a0 Z = true) {kI : Nat} (wi : (Jvm.Cond.instantiable ST kI).before a0 Z = true)
    {x b : Addr} {k : ClassId} {zn z : Int32} {cs : List Int32} {dv v0 c0 : Value} (E : RoadKit.Exa Z h x ST) (V : RoadKit.Fld Z h x ST "value" "[B" v0) (C : RoadKit.Fld Z h x ST "coder" "B" c0) (K : RoadKit.Arv Z h b k .char zn (cs.map Value.int) dv) (S : RoadKit.Sta Z h ST "COMPACT_STRINGS" "Z" (.int z)) (hz : ¬ z = 0)
    (hlen : zn.toNatClampNeg = cs.length) (h0 : 0 < cs.length) (hbig : cs.length ≤ 536870912) (hall : ∀ c ∈ cs, ¬ 255 < c) (hfr : 4 ≤ R.frames) (hlo : W + 65 ≤ R.locals) :
    Back l R p e below s args New1.yN len W (fun P a => a = #[.ref x, .ref b] ∧ P.U.heap = h ∧ P.cells + 1 ≤ R.cells ∧ P.slots + cs.length ≤ R.slots)
      (fun P _ v B => ∃ L, QA Z x zn cs h v B.U.heap L ∧ B.locs = P.locs ++ L ∧ B.cells = P.cells + 1 ∧ B.slots = P.slots + cs.length) := by
  obtain ⟨A, K1, K2, K3, K4, K5, K6⟩ := K
  have e : A.slots.size = cs.length := K3.trans hlen
  have hat : ∀ (i : Nat) (hi : i < cs.length), A.slots[i]? = some (.int cs[i]) := fun i hi => by rw [K5 i (by omega)]; simp [List.getD_eq_getElem?_getD, hi]
  have hcv : ∀ (i : Nat) (hi : i < cs.length), cv A i = cs[i] := fun i hi => by unfold cv; rw [hat i hi]
  have hty : Typed .char A := fun i v hv => by
    have hi : i < A.slots.size := (Array.getElem?_eq_some_iff.mp hv).1
    have q := K5 i hi
    rw [hv] at q
    rw [Option.some.inj q]
    exact K6 i hi
  refine Back.mono (back hZ hw wi E V C K1 hty S hz (by omega) (by omega) (fun i hi => by rw [hcv i (by omega)]; exact hall _ (List.getElem_mem _)) hfr hlo) (fun P a hp => ⟨hp.1, hp.2.1, hp.2.2.1, by rw [e]; exact hp.2.2.2⟩) (fun P a v B hp hq => ?_)
  obtain ⟨L, ⟨q1, q2, q3, q4, q5, q6, q7, ⟨V', v1, v2, v3, v4, v5⟩, q9⟩, hl, hc, hs⟩ := hq
  refine ⟨L, ⟨q1, q2, q3, q4, q5, q6, q7, ⟨V'.cls, v3, V', v1, rfl, by rw [v4, e, hlen], K4, fun i hi => ?_, fun i hi => ?_⟩, q9⟩, hl, hc, by rw [hs, e]⟩
  · have hi' : i < cs.length := by omega
    rw [v5 i (by omega), hcv i hi']; simp [List.getD_eq_getElem?_getD, hi']
  · have hi' : i < cs.length := by omega
    simp only [List.getD_eq_getElem?_getD, List.getElem?_map, List.getElem?_eq_getElem hi', Option.map_some, Option.getD_some]
    exact fits_lo8 _
end StrChars.Road
namespace StrChars.Road
open Jvm Sem ClassFile Op Lib Jvm.Stand Jvm.Free Jvm.Free.XT
/-- WHAT COMES BACK, in the writer's own shape -/
def QV (Z : State) (x : Addr) (N : Int32) (bs : List Int32) (h : Heap) (n0 : Nat) (v : Option Value) (h' : Heap) (L : List Loc) : Prop := v = none ∧ RoadKit.Fr n0 L ∧ RoadKit.Keep h h' [x] ∧ RoadKit.Exa Z h' x ST ∧ RoadKit.Fld Z h' x ST "coder" "B" (.int 0) ∧
  ∃ (t : Addr) (kb : ClassId), n0 ≤ t ∧ h.size ≤ t ∧ ¬ t = x ∧ RoadKit.Fld Z h' x ST "value" "[B" (.ref t) ∧ RoadKit.Arv Z h' t kb .byte N (bs.map Value.int) (.int 0)
/-- **new String(chars) AT A CALL, FOR THE WRITER**: a char[] of n known ints, each 0 to 255 -/
theorem backV {p : Program} {l : Launch} {e : Env} {R : Room} {s : State} {args : Array Value} {below : List Frame} {len W : Nat} {Z : State} {a0 : Array Value} {h : Heap} (hZ : Z.Warmed39 s.vm) (hw : ∀ d ∈ words, d.before a0 Z = true) {kI : Nat} (wi : (Jvm.Cond.instantiable ST kI).before a0 Z = true)
    {x b : Addr} {kC : ClassId} {cs bs : List Int32} {d v0 c0 : Value} {z N : Int32} {n n0 : Nat} (hx0 : n0 ≤ x) (hh0 : n0 ≤ h.size) (E : RoadKit.Exa Z h x ST) (V : RoadKit.Fld Z h x ST "value" "[B" v0) (C : RoadKit.Fld Z h x ST "coder" "B" c0) (K : RoadKit.Arv Z h b kC .char N (cs.map Value.int) d) (S : RoadKit.Sta Z h ST "COMPACT_STRINGS" "Z" (.int z)) (hz : ¬ z = 0)
    (hn : cs.length = n) (hN : N = Int32.ofNat n) (l0 : 0 < n) (l2 : n ≤ 4000) (hp : ∀ c ∈ cs, ¬ c < 0 ∧ ¬ (255 : Int32) < c) (hb : bs = cs.map (fun c => c.toInt8.toInt32)) (hfr : 4 ≤ R.frames) (hlo : W + 65 ≤ R.locals) :
    Back l R p e below s args (⟨"java/lang/String", "<init>", "([C)V"⟩ : MethodName) len W (fun P a => a = #[.ref x, .ref b] ∧ P.U.heap = h ∧ P.cells + 1 ≤ R.cells ∧ P.slots + n ≤ R.slots)
      (fun P _ v B => ∃ L, QV Z x N bs h n0 v B.U.heap L ∧ B.locs = P.locs ++ L ∧ B.cells = P.cells + 1 ∧ B.slots = P.slots + n) := by
  subst hn hN hb
  refine Back.mono (backArv hZ hw wi E V C K S hz (n32 (by omega)) l0 (by omega) (fun c hc => (hp c hc).2) hfr hlo) (fun P a hp => hp) (fun P a v B hp hq => ?_)
  obtain ⟨L, ⟨q1, q2, q3, q4, q5, q6, q7, ⟨kb, v1, v2⟩, q9⟩, hl, hc, hs⟩ := hq
  exact ⟨L, ⟨q1, fun y hy => by rw [q2 y hy]; exact hx0, q3, q5, q7, h.size, kb, hh0, Nat.le_refl _, Nat.ne_of_gt E.lt, q6, by rw [List.map_map]; exact v2⟩, hl, hc, hs⟩
end StrChars.Road
end Jvm.Pilot.@@N@@
namespace Jvm.OwnWp
open Sem ClassFile Op Lib Jvm.Stand Jvm.Free Jvm.LawKit Jvm.RoadKit
section Own
variable {p : Program} {l : Launch} {e : Env} {R : Room} {s : State} {m : MethodId} {args : Array Value} {below : List Frame} {meth : Method} {c : Code} {T T' : State} {locs : List Loc} {cells slots : Nat} {kc ks : Nat} {Q : Option Value → Heap → List Loc → Prop} {g g' : JFrame}
/-- from T with the frame g on top the invocation returns, and Q holds of what it leaves -/
def Go (p : Program) (e : Env) (below : List Frame) (s : State) (kc ks : Nat) (Q : Option Value → Heap → List Loc → Prop) (T : State) (g : JFrame) : Prop :=
  ∃ s₂ o, Steps p.tables e below (T.setTop g) s₂ ∧ s₂.status = .running ∧ Ended s₂ below o ∧ ∃ v L, o = .returned v ∧ Q v s₂.heap L ∧ FrameEnd s o s₂ L kc ks
theorem Go.step (st : ∀ t, Steps p.tables e below (T'.setTop g') t → Steps p.tables e below (T.setTop g) t) (k : Go p e below s kc ks Q T' g') : Go p e below s kc ks Q T g := by
  obtain ⟨s₂, o, h, r⟩ := k
  exact ⟨s₂, o, st _ h, r⟩
theorem Go.cast (q : g = g') (k : Go p e below s kc ks Q T g') : Go p e below s kc ks Q T g := q ▸ k
theorem Go.weak {Q' : Option Value → Heap → List Loc → Prop} (k : Go p e below s kc ks Q' T g) (h : ∀ v hp L, Q' v hp L → Q v hp L) : Go p e below s kc ks Q T g := by
  obtain ⟨s₂, o, a, b, c, v, L, d, q, f⟩ := k
  exact ⟨s₂, o, a, b, c, v, L, d, h _ _ _ q, f⟩
theorem Go.ret (X : Stand p l e R s m args below meth c T locs cells slots) (hx : p.tables.exec = Jvm.exec) (hlk : meth.locks = false) {pc : Nat} {Ls : Array Slot} {w : Value} {t : FieldType} {i : Instr} {rest : List Value} (hret : meth.sig.returnType = some t) (hn : narrow t w = w)
    (hi : (i = .ireturn ∧ (t = .int ∨ t = .boolean ∨ t = .byte ∨ t = .char ∨ t = .short) ∧ ∃ z, w = .int z) ∨ (i = .lreturn ∧ t = .long ∧ ∃ z, w = .long z) ∨ (i = .dreturn ∧ t = .double ∧ ∃ z, w = .double z) ∨ (i = .freturn ∧ t = .float ∧ ∃ z, w = .float z) ∨ (i = .areturn ∧ t.isReference = true ∧ w.isRef = true))
    (hd : decode c.code pc = .ok (i, 1)) (hq : Q (some w) T.heap locs) (hc : cells ≤ kc) (hs : slots ≤ ks) : Go p e below s kc ks Q T (mkF m pc Ls (w :: rest)) := by
  obtain ⟨fs, hr, hrun, hended, hW, hsame⟩ := X.leave (v := some w) (fun h => by rw [hret] at h; cases h) hlk
  exact ⟨_, _, retOut X hx hret hn hi hd hr, hrun, hended, _, _, rfl, hq, ⟨_, rfl⟩, hW, hsame.mono hc hs⟩
theorem Go.retV (X : Stand p l e R s m args below meth c T locs cells slots) (hx : p.tables.exec = Jvm.exec) (hlk : meth.locks = false) {pc : Nat} {Ls : Array Slot} (hret : meth.sig.returnType = none)
    (hd : decode c.code pc = .ok (.return_, 1)) (hq : Q none T.heap locs) (hc : cells ≤ kc) (hs : slots ≤ ks) : Go p e below s kc ks Q T (mkF m pc Ls []) := by
  obtain ⟨fs, hr, hrun, hended, hW, hsame⟩ := X.leave (v := none) (fun _ => rfl) hlk
  exact ⟨_, _, X.returnOut hx hret hd hr, hrun, hended, _, _, rfl, hq, ⟨_, rfl⟩, hW, hsame.mono hc hs⟩
/-- the wide end: a String constant may have been resolved or interned; the booked constants of EL stand -/
def GoH (p : Program) (e : Env) (below : List Frame) (s : State) (kc ks : Nat) (Z : State) (EL : List (String × Nat)) (h0 : Heap) (Q : Option Value → Heap → List Loc → Prop) (T : State) (g : JFrame) : Prop :=
  ∃ s₂ o, Steps p.tables e below (T.setTop g) s₂ ∧ s₂.status = .running ∧ Ended s₂ below o ∧ ∃ v L, o = .returned v ∧ Q v s₂.heap L ∧ CHr Z EL s.vm h0 s₂.vm s₂.heap ∧ ReturnedEndW s o s₂ L kc ks
variable {Z : State} {EL : List (String × Nat)} {h0 : Heap} {a0 : Array Value} {vm0 : Vm} {k0 : Nat}
theorem GoH.step (st : ∀ t, Steps p.tables e below (T'.setTop g') t → Steps p.tables e below (T.setTop g) t) (k : GoH p e below s kc ks Z EL h0 Q T' g') : GoH p e below s kc ks Z EL h0 Q T g := by
  obtain ⟨s₂, o, h, r⟩ := k
  exact ⟨s₂, o, st _ h, r⟩
theorem GoH.cast (q : g = g') (k : GoH p e below s kc ks Z EL h0 Q T g') : GoH p e below s kc ks Z EL h0 Q T g := q ▸ k
theorem retEndW_mono {t : State} {o : Outcome} {L : List Loc} {k n k' n' : Nat} (h : ReturnedEndW s o t L k n) (h1 : k ≤ k') (h2 : n ≤ n') : ReturnedEndW s o t L k' n' := ⟨h.1, h.2.1, h.2.2.1, h.2.2.2.mono h1 h2⟩
theorem GoH.ret (X : Stand p l e R (s.setVm vm0) m args below meth c T locs cells slots) (hx : p.tables.exec = Jvm.exec) (hlk : meth.locks = false) (hS : s.Since vm0 k0) (hk : k0 ≤ T.heap.size) (hZ : Z.Warmed39 vm0) (hEL : EW Z a0 EL) (hC : CHr Z EL s.vm h0 vm0 T.heap)
    {pc : Nat} {Ls : Array Slot} {w : Value} {t : FieldType} {i : Instr} {rest : List Value} (hret : meth.sig.returnType = some t) (hn : narrow t w = w)
    (hi : (i = .ireturn ∧ (t = .int ∨ t = .boolean ∨ t = .byte ∨ t = .char ∨ t = .short) ∧ ∃ z, w = .int z) ∨ (i = .lreturn ∧ t = .long ∧ ∃ z, w = .long z) ∨ (i = .dreturn ∧ t = .double ∧ ∃ z, w = .double z) ∨ (i = .freturn ∧ t = .float ∧ ∃ z, w = .float z) ∨ (i = .areturn ∧ t.isReference = true ∧ w.isRef = true))
    (hd : decode c.code pc = .ok (i, 1)) (hq : Q (some w) T.heap locs) (hc : cells ≤ kc) (hs : slots ≤ ks) : GoH p e below s kc ks Z EL h0 Q T (mkF m pc Ls (w :: rest)) := by
  have hC' : CHr Z EL s.vm h0 T.vm T.heap := hC.trans (CHv.at X hZ hEL hC.1)
  obtain ⟨fs, hr, hrun, hended, hW⟩ := X.leaveW hS hk (v := some w) (fun h => by rw [hret] at h; cases h) hlk
  exact ⟨_, _, retOut X hx hret hn hi hd hr, hrun, hended, _, _, rfl, hq, hC', retEndW_mono hW hc hs⟩
theorem GoH.retV (X : Stand p l e R (s.setVm vm0) m args below meth c T locs cells slots) (hx : p.tables.exec = Jvm.exec) (hlk : meth.locks = false) (hS : s.Since vm0 k0) (hk : k0 ≤ T.heap.size) (hZ : Z.Warmed39 vm0) (hEL : EW Z a0 EL) (hC : CHr Z EL s.vm h0 vm0 T.heap)
    {pc : Nat} {Ls : Array Slot} (hret : meth.sig.returnType = none) (hd : decode c.code pc = .ok (.return_, 1)) (hq : Q none T.heap locs) (hc : cells ≤ kc) (hs : slots ≤ ks) : GoH p e below s kc ks Z EL h0 Q T (mkF m pc Ls []) := by
  have hC' : CHr Z EL s.vm h0 T.vm T.heap := hC.trans (CHv.at X hZ hEL hC.1)
  obtain ⟨fs, hr, hrun, hended, hW⟩ := X.leaveW hS hk (v := none) (fun _ => rfl) hlk
  exact ⟨_, _, X.returnOut hx hret hd hr, hrun, hended, _, _, rfl, hq, hC', retEndW_mono hW hc hs⟩
theorem nEW : EW Z a0 [] := EW.nil
theorem nCH : CHv Z [] vm0 h0 := fun p hp => nomatch hp
theorem nar01 {x : Int32} (h : x = 0 ∨ x = 1) : narrow .boolean (.int x) = .int x := by rcases h with rfl | rfl <;> rfl
end Own
end Jvm.OwnWp
namespace Jvm.Pilot.@@N@@
open Jvm Jvm.ClassFile Sem Op Lib Jvm.Free Jvm.Stand Jvm.LawKit Jvm.RoadKit Jvm.OwnWp Bundle Jvm.Pilot.@@N@@.Jvm.D
theorem own_c255 (x : Int32) : (¬ ((x &&& (255 : Int32)).toUInt32.toUInt16.toUInt32.toInt32) < 0 ∧ ¬ (255 : Int32) < ((x &&& (255 : Int32)).toUInt32.toUInt16.toUInt32.toInt32)) ∧ nar .char ((x &&& (255 : Int32)).toUInt32.toUInt16.toUInt32.toInt32) = ((x &&& (255 : Int32)).toUInt32.toUInt16.toUInt32.toInt32) := by
  have t : ∀ k : Fin 256, (¬ ((Int32.ofNat k.val).toUInt32.toUInt16.toUInt32.toInt32) < 0 ∧ ¬ (255 : Int32) < ((Int32.ofNat k.val).toUInt32.toUInt16.toUInt32.toInt32)) ∧ nar .char ((Int32.ofNat k.val).toUInt32.toUInt16.toUInt32.toInt32) = ((Int32.ofNat k.val).toUInt32.toUInt16.toUInt32.toInt32) := by decide +kernel
  have h : (x &&& 255).toBitVec.toNat < 256 := by
    simp only [Int32.toBitVec_and, BitVec.toNat_and]
    exact Nat.lt_succ_of_le Nat.and_le_right
  have e : (x &&& 255) = Int32.ofNat (x &&& 255).toBitVec.toNat := by
    apply Int32.toBitVec_inj.mp
    show _ = BitVec.ofNat 32 _
    rw [BitVec.ofNat_toNat]; simp
  rw [e]
  exact t ⟨_, h⟩
theorem own_up (cs : List Int32) (h : ∀ c ∈ cs, ¬ c < 0 ∧ ¬ (255 : Int32) < c) : ∀ c ∈ cs, ¬ c < 0 ∧ ¬ (65535 : Int32) < c := fun c hc => ⟨(h c hc).1, fun q => (h c hc).2 (by rw [Int32.lt_iff_toInt_lt] at q ⊢; have e1 : (65535 : Int32).toInt = 65535 := rfl; have e2 : (255 : Int32).toInt = 255 := rfl; omega)⟩
theorem own_SA {Z : State} {a0 : Array Value} (hw : ∀ d ∈ tables_1, d.before a0 Z = true) : ∀ d ∈ Bundle.stringAtoms, d.before a0 Z = true := fun d hd => hw d ((by decide +kernel : ∀ d ∈ Bundle.stringAtoms, d ∈ tables_1) d hd)
abbrev own_EL : List (String × Nat) := [("java/lang/String", 7)]
theorem own_EW {Z : State} {a0 : Array Value} (hw : ∀ d ∈ tables_1, d.before a0 Z = true) : EW Z a0 own_EL := (EW.cons (hw _ (List.mem_of_getElem? (i := 63) rfl)) (by decide) EW.nil)
theorem own_words {Z : State} {a0 : Array Value} (hw : ∀ d ∈ tables_1, d.before a0 Z = true) : ∀ d ∈ StrChars.Road.words, d.before a0 Z = true := fun d hd => hw d ((by decide +kernel : ∀ d ∈ StrChars.Road.words, d ∈ tables_1) d hd)
theorem own_k3 (v k : Int32) (hk : (v &&& (3 : Int32)) = k) (h1 : ¬ k = 1) (h2 : ¬ k = 2) (h3 : ¬ k = 3) : k = 0 := by
  have h := c_and v 3 (by decide)
  rw [hk] at h
  have e3 : (3 : Int32).toInt = 3 := by decide
  rw [e3] at h
  have t : ∀ n : Int, n = k.toInt → (n = 0 ∨ n = 1 ∨ n = 2 ∨ n = 3) → k = 0 := fun n hn hc => by
    rcases hc with rfl | rfl | rfl | rfl
    · exact Int32.toInt_inj.mp (by rw [← hn]; decide)
    · exact absurd (Int32.toInt_inj.mp (by rw [← hn]; decide)) h1
    · exact absurd (Int32.toInt_inj.mp (by rw [← hn]; decide)) h2
    · exact absurd (Int32.toInt_inj.mp (by rw [← hn]; decide)) h3
  exact t _ rfl (by omega)
theorem own_safe_null {Z : State} {EL : List (String × Nat)} {vm : Vm} {h : Heap} {x : Addr} (hal : Z.vm.Alike vm) (E : Exa Z h x "java/lang/String") (F : Fld Z h x "java/lang/String" "value" "[B" .null) : Safe Z EL vm h x := fun B => by
  obtain ⟨cell, k, e1, e2, e3, -, -⟩ := E
  have nm : ∀ {n : String} {c : ClassId}, vm.findClass n = some c → c = cell.cls → n = "java/lang/String" := fun {n c} f e => by
    subst e
    rw [hal.findClass] at f
    obtain ⟨k1, q1, q2⟩ := Vm.findClass_spec f
    obtain ⟨k2, q3, q4⟩ := Vm.findClass_spec e2
    cases q1.symm.trans q3
    exact q2.symm.trans q4
  obtain ⟨p, -, u, a, -, q, -, G, rfl | rfl⟩ := B
  · obtain ⟨cf, cc, kk, i, f, f1, f2, f3, f4, f5, f6, f7⟩ := F
    cases (show h[q.sa]? = some q.sC from G.ha).symm.trans f1
    obtain ⟨cS, ⟨⟨-, -, -, ⟨c1, k1, i1, g1, -⟩, -, -, -, v1, -⟩, -⟩, -⟩ := G
    obtain ⟨k3, e3', -⟩ := State.fieldFound?_setVm (s := Z) (vm' := vm) hal f2
    have e4 : (Wst Z vm h).fieldFound? "java/lang/String" "value" "[B" = some (cc, k3, i, f) := e3'
    have q1 := g1.symm.trans e4
    cases q1
    rw [f7] at v1
    cases v1
  · cases (show h[q.sd]? = some q.SA from G.hd).symm.trans e1
    obtain ⟨cS, -, -, f, -⟩ := G
    exact absurd (nm f rfl) (by decide)
theorem pn_0 : plainName "java/lang/String" = true := by first | (simp [plainName, overriddenIn]; done) | decide +kernel
theorem ef_rmSI (m : MethodId) (a1 : Addr) (a2 : Addr) : entryFrame m #[(.ref a1), (.ref a2), (.int (0 : Int32)), (.int (0 : Int32)), .null] 6 = mkF m 0 #[.val (.ref a1), .val (.ref a2), .val (.int (0 : Int32)), .val (.int (0 : Int32)), .val .null, .unset] [] := by first | (simp [entryFrame, mkF, argsToLocals, Value.category]; done) | rfl
def QSI (Z : State) (a1 : Addr) (a2 : Addr) (h0 : Heap) (n0 : Nat) (v : Option Value) (h : Heap) (L : List Loc) : Prop := v = none ∧ Fr n0 L ∧ Keep h0 h [a1] ∧ Exa Z h a1 "java/lang/String" ∧ Fld Z h a1 "java/lang/String" "coder" "B" (.int (0 : Int32)) ∧ ∃ (t : Addr) (kb : ClassId), a1 ≠ t ∧ Fld Z h a1 "java/lang/String" "value" "[B" (.ref t) ∧ Arv Z h t kb .byte (0 : Int32) [] (.int (0 : Int32))
theorem d2_0 : decode jdk_42_method_149_code 0 = .ok (.aload_n 0, 1) := by decide +kernel
theorem d2_1 : decode jdk_42_method_149_code 1 = .ok (.invokespecial 1, 3) := by decide +kernel
theorem d2_4 : decode jdk_42_method_149_code 4 = .ok (.iload_n 3, 1) := by decide +kernel
theorem d2_5 : decode jdk_42_method_149_code 5 = .ok (.ifCond .ne 22, 3) := by decide +kernel
theorem d2_8 : decode jdk_42_method_149_code 8 = .ok (.aload_n 0, 1) := by decide +kernel
theorem d2_9 : decode jdk_42_method_149_code 9 = .ok (.ldc 7, 2) := by decide +kernel
theorem d2_11 : decode jdk_42_method_149_code 11 = .ok (.getfield 9, 3) := by decide +kernel
theorem d2_14 : decode jdk_42_method_149_code 14 = .ok (.putfield 9, 3) := by decide +kernel
theorem d2_17 : decode jdk_42_method_149_code 17 = .ok (.aload_n 0, 1) := by decide +kernel
theorem d2_18 : decode jdk_42_method_149_code 18 = .ok (.ldc 7, 2) := by decide +kernel
theorem d2_20 : decode jdk_42_method_149_code 20 = .ok (.getfield 15, 3) := by decide +kernel
theorem d2_23 : decode jdk_42_method_149_code 23 = .ok (.putfield 15, 3) := by decide +kernel
theorem d2_26 : decode jdk_42_method_149_code 26 = .ok (.return_, 1) := by decide +kernel
set_option maxRecDepth 65536 in
set_option maxHeartbeats 40000000 in
theorem rmSI (l : Launch) (Z : State) (a0 : Array Value) (hw : ∀ d ∈ tables_1, d.before a0 Z = true) (ws : List Jvm.Cond) (a1 : Addr) (a2 : Addr) (h0 : Heap) (n0 : Nat) (Z0 : n0 ≤ h0.size) (g1 : n0 ≤ a1) (E1 : Exa Z h0 a1 "java/lang/String") (F1 : Fld Z h0 a1 "java/lang/String" "value" "[B" .null) (F2 : Fld Z h0 a1 "java/lang/String" "coder" "B" (.int (0 : Int32))) :
    MetFree l (⟨"java/lang/String", "<init>", "([CIILjava/lang/Void;)V"⟩ : MethodName) (head1 (Jvm.Cond.code (⟨"java/lang/String", "<init>", "([CIILjava/lang/Void;)V"⟩ : MethodName) jdk_42_method_149_code 6 none :: ws) ({ frames := 1, cells := 4, slots := 8, locals := 12 } : Room)) (fun a U => a = #[(.ref a1), (.ref a2), (.int (0 : Int32)), (.int (0 : Int32)), .null] ∧ Z.Warmed39 U.vm ∧ U.heap = h0 ∧ CHv Z own_EL U.vm h0) (fun _ _ _ _ _ => True) (fun _ U o U' => ∃ v L, o = .returned v ∧ QSI Z a1 a2  h0 n0 v U'.heap L ∧ CHr Z own_EL U.vm U.heap U'.vm U'.heap ∧ ReturnedEndW U o U' L ({ frames := 1, cells := 4, slots := 8, locals := 12 } : Room).cells ({ frames := 1, cells := 4, slots := 8, locals := 12 } : Room).slots) := by
  refine MetFree.of_bodySF (plainFor_of_name pn_0) hisR ?_
  intro p e s m args below meth c s₁ Bd hml0 hP hK
  obtain ⟨rfl, hZ0, hh, hCH⟩ := hP
  have hx := Bd.exec
  have hby := Bd.bytes
  have hlk := BodyLoose.notSynchronized Bd
  have hml : c.maxLocals = 6 := hml0
  have hret := Bd.returns
  have hown0 : (s.setVm s.vm).vm.findClass "java/lang/String" = some m.cls := findClass_of_methodNamed Bd.named
  have hnm := (name_of_methodNamed Bd.named Bd.method).1
  have X0 : Stand p l e ({ frames := 1, cells := 4, slots := 8, locals := 12 } : Room) (s.setVm s.vm) m #[(.ref a1), (.ref a2), (.int (0 : Int32)), (.int (0 : Int32)), .null] below meth c s₁ [] 0 0 := Stand.of_body Bd
  have hZ0 : Z.Warmed39 (s.setVm s.vm).vm := hZ0
  have hEL : EW Z a0 own_EL := own_EW hw
  have hS0 : s.Since s.vm h0.size := (State.WarmedH.refl s).since _
  have hk0 : h0.size ≤ h0.size := Nat.le_refl _
  have C0 : CHr Z own_EL s.vm h0 s.vm h0 := CHr.refl hCH
  have e0 : s₁.heap = h0 := by rw [← hh, Bd.state]; rfl
  have N0 := Fr.nil n0
  show GoH p e below s ({ frames := 1, cells := 4, slots := 8, locals := 12 } : Room).cells ({ frames := 1, cells := 4, slots := 8, locals := 12 } : Room).slots Z own_EL s.heap (QSI Z a1 a2  h0 n0) s₁ (entryFrame m #[(.ref a1), (.ref a2), (.int (0 : Int32)), (.int (0 : Int32)), .null] 6)
  rw [hh]
  refine GoH.cast (ef_rmSI m a1 a2) ?_
  have sf0_a1 : Safe Z own_EL s.vm h0 a1 := own_safe_null hZ0.alike E1 F1
  have K0 : Keep h0 h0 [a1] := Keep.refl _ _
  show GoH _ _ _ _ _ _ _ _ _ _ s₁ (mkF m 0 #[.val (.ref a1), .val (.ref a2), .val (.int (0 : Int32)), .val (.int (0 : Int32)), .val .null, .unset] [])
  refine GoH.step (fun t k => XS.aloadN X0.here hx rfl (hb hby d2_0) rfl rfl k) ?_
  show GoH _ _ _ _ _ _ _ _ _ _ s₁ (mkF m 1 #[.val (.ref a1), .val (.ref a2), .val (.int (0 : Int32)), .val (.int (0 : Int32)), .val .null, .unset] [(.ref a1)])
  obtain ⟨T1, X1, e1, st1⟩ := initO X0 hx hZ0 hown0 (hw _ (List.mem_of_getElem? (i := 11) rfl)) (hw _ (List.mem_of_getElem? (i := 12) rfl)) (hw _ (List.mem_of_getElem? (i := 13) rfl)) e0 (g := (mkF m 1 #[.val (.ref a1), .val (.ref a2), .val (.int (0 : Int32)), .val (.int (0 : Int32)), .val .null, .unset] [(.ref a1)])) rfl (by rw [hml]; rfl) rfl (hb hby d2_1) (by decide) (W := 0) (by show 2 * 0 + _ ≤ _; exact Nat.le_of_eq rfl) (by decide)
  refine GoH.step st1 ?_
  show GoH _ _ _ _ _ _ _ _ _ _ T1 (mkF m 4 #[.val (.ref a1), .val (.ref a2), .val (.int (0 : Int32)), .val (.int (0 : Int32)), .val .null, .unset] [])
  refine GoH.step (fun t k => XS.iloadN X1.here hx rfl (hb hby d2_4) rfl k) ?_
  show GoH _ _ _ _ _ _ _ _ _ _ T1 (mkF m 5 #[.val (.ref a1), .val (.ref a2), .val (.int (0 : Int32)), .val (.int (0 : Int32)), .val .null, .unset] [(.int (0 : Int32))])
  have hb5_2 : (0 : Int32) = (0 : Int32) := by decide
  refine GoH.step (fun t k => XS.ifNo X1.here hx rfl (hb hby d2_5) rfl (XT.i0_ne_f hb5_2) k) ?_
  show GoH _ _ _ _ _ _ _ _ _ _ T1 (mkF m 8 #[.val (.ref a1), .val (.ref a2), .val (.int (0 : Int32)), .val (.int (0 : Int32)), .val .null, .unset] [])
  refine GoH.step (fun t k => XS.aloadN X1.here hx rfl (hb hby d2_8) rfl rfl k) ?_
  show GoH _ _ _ _ _ _ _ _ _ _ T1 (mkF m 9 #[.val (.ref a1), .val (.ref a2), .val (.int (0 : Int32)), .val (.int (0 : Int32)), .val .null, .unset] [(.ref a1)])
  obtain ⟨lt3, T3, h3, kk3, lb3, kb3, X3, e3, E3, hS3, hk3, hZ3, hown3, fE3, fC3, fV3, fA3, la3, lb_3, CHq3, -, hsn3, st3⟩ := ldcCH X1 hx hZ0 hown0 (hw _ (List.mem_of_getElem? (i := 63) rfl)) (own_SA hw) e1 hS0 hk0 hEL (by decide) C0.1 (vs := []) (z := (0 : Int32)) ⟨(by decide), (by decide)⟩ (by decide) (by decide) (g := (mkF m 9 #[.val (.ref a1), .val (.ref a2), .val (.int (0 : Int32)), .val (.int (0 : Int32)), .val .null, .unset] [(.ref a1)])) rfl (hb hby d2_9) (n := 0) (by decide) (by decide) (by decide) (by decide)
  have f3_0 : Exa Z h3 a1 "java/lang/String" := (E1.ext E3)
  have f3_1 : Fld Z h3 a1 "java/lang/String" "value" "[B" .null := (F1.ext E3)
  have f3_2 : Fld Z h3 a1 "java/lang/String" "coder" "B" (.int (0 : Int32)) := (F2.ext E3)
  have f3_3 : Exa Z h3 lt3 "java/lang/String" := fE3
  have f3_4 : Fld Z h3 lt3 "java/lang/String" "coder" "B" (.int (0 : Int32)) := fC3
  have f3_5 : Fld Z h3 lt3 "java/lang/String" "value" "[B" (.ref lb3) := fV3
  have f3_6 : Arv Z h3 lb3 kb3 .byte (0 : Int32) [] (.int (0 : Int32)) := fA3
  have sf3_a1 : Safe Z own_EL T3.vm h3 a1 := CHr.safe CHq3 E1.lt sf0_a1
  have CC3 : CHr Z own_EL s.vm h0 T3.vm h3 := C0.trans CHq3
  have ne_a1_lt3 := (hsn3 _ sf3_a1).1
  have ne_a1_lb3 := (hsn3 _ sf3_a1).2
  have Zs3 : n0 ≤ h3.size := (Nat.le_trans Z0 E3.1)
  have K3 : Keep h0 h3 [a1] := K0.ext E3
  refine GoH.step st3 ?_
  show GoH _ _ _ _ _ _ _ _ _ _ T3 (mkF m 11 #[.val (.ref a1), .val (.ref a2), .val (.int (0 : Int32)), .val (.int (0 : Int32)), .val .null, .unset] [(.ref lt3), (.ref a1)])
  obtain ⟨T4, X4, e4, st4⟩ := getF X3 hx hZ3 hown3 (host := "") (Or.inl (hw _ (List.mem_of_getElem? (i := 28) rfl))) Via.refl e3 f3_5 (g := (mkF m 11 #[.val (.ref a1), .val (.ref a2), .val (.int (0 : Int32)), .val (.int (0 : Int32)), .val .null, .unset] [(.ref lt3), (.ref a1)])) rfl rfl (hb hby d2_11)
  refine GoH.step st4 ?_
  show GoH _ _ _ _ _ _ _ _ _ _ T4 (mkF m 14 #[.val (.ref a1), .val (.ref a2), .val (.int (0 : Int32)), .val (.int (0 : Int32)), .val .null, .unset] [(.ref lb3), (.ref a1)])
  obtain ⟨T5, h5, X5, e5, W5, st5⟩ := putF X4 hx hZ3 hown3 (host := "") (Or.inl (hw _ (List.mem_of_getElem? (i := 28) rfl))) Via.refl e4 f3_1 f3_0 (Or.inr ⟨(hw _ (List.mem_of_getElem? (i := 29) rfl)), rfl, hnm⟩) (hw _ (List.mem_of_getElem? (i := 2) rfl)) (ty := (.array .byte)) (by decide) rfl rfl (g := (mkF m 14 #[.val (.ref a1), .val (.ref a2), .val (.int (0 : Int32)), .val (.int (0 : Int32)), .val .null, .unset] [(.ref lb3), (.ref a1)])) rfl rfl (hb hby d2_14)
  have N5 := Fr.snoc X5 N0 g1
  refine GoH.step st5 ?_
  have f5_0 : Exa Z h5 a1 "java/lang/String" := (f3_0.wr W5)
  have f5_1 : Fld Z h5 a1 "java/lang/String" "value" "[B" (.ref lb3) := (f3_1.same W5)
  have f5_2 : Fld Z h5 a1 "java/lang/String" "coder" "B" (.int (0 : Int32)) := (f3_2.other W5 (Or.inr (slot_ne (Or.inr (hw _ (List.mem_of_getElem? (i := 27) rfl))) (Or.inr (hw _ (List.mem_of_getElem? (i := 29) rfl))) (by decide) (t := .byte) (t' := (.array .byte)) (by decide) (by decide))))
  have f5_3 : Exa Z h5 lt3 "java/lang/String" := (f3_3.wr W5)
  have f5_4 : Fld Z h5 lt3 "java/lang/String" "coder" "B" (.int (0 : Int32)) := (f3_4.other W5 (Or.inl (Ne.symm ne_a1_lt3)))
  have f5_5 : Fld Z h5 lt3 "java/lang/String" "value" "[B" (.ref lb3) := (f3_5.other W5 (Or.inl (Ne.symm ne_a1_lt3)))
  have f5_6 : Arv Z h5 lb3 kb3 .byte (0 : Int32) [] (.int (0 : Int32)) := (f3_6.other W5 (Ne.symm ne_a1_lb3))
  have sfw5 : Safe Z own_EL T3.vm _ a1 := sf3_a1
  have sf5_a1 : Safe Z own_EL T3.vm h5 a1 := Safe.wr W5 sfw5 CC3.1 sf3_a1
  have hk5 : _ ≤ h5.size := Nat.le_trans hk3 (Keep.of_wr W5).1
  have C5 : CHr Z own_EL s.vm h0 T3.vm h5 := CC3.trans (CHr.wr W5 sfw5 CC3.1)
  have Zs5 : n0 ≤ h5.size := (Nat.le_trans Zs3 (Keep.of_wr W5).1)
  have K5 : Keep h0 h5 [a1] := K3.wr W5 (Or.inl (List.mem_of_getElem? (i := 0) rfl))
  show GoH _ _ _ _ _ _ _ _ _ _ T5 (mkF m 17 #[.val (.ref a1), .val (.ref a2), .val (.int (0 : Int32)), .val (.int (0 : Int32)), .val .null, .unset] [])
  refine GoH.step (fun t k => XS.aloadN X5.here hx rfl (hb hby d2_17) rfl rfl k) ?_
  show GoH _ _ _ _ _ _ _ _ _ _ T5 (mkF m 18 #[.val (.ref a1), .val (.ref a2), .val (.int (0 : Int32)), .val (.int (0 : Int32)), .val .null, .unset] [(.ref a1)])
  obtain ⟨lt6, T6, h6, kk6, lb6, kb6, X6, e6, E6, hS6, hk6, hZ6, hown6, fE6, fC6, fV6, fA6, la6, lb_6, CHq6, -, hsn6, st6⟩ := ldcCH X5 hx hZ3 hown3 (hw _ (List.mem_of_getElem? (i := 63) rfl)) (own_SA hw) e5 hS3 hk5 hEL (by decide) C5.1 (vs := []) (z := (0 : Int32)) ⟨(by decide), (by decide)⟩ (by decide) (by decide) (g := (mkF m 18 #[.val (.ref a1), .val (.ref a2), .val (.int (0 : Int32)), .val (.int (0 : Int32)), .val .null, .unset] [(.ref a1)])) rfl (hb hby d2_18) (n := 0) (by decide) (by decide) (by decide) (by decide)
  have f6_0 : Exa Z h6 a1 "java/lang/String" := (f5_0.ext E6)
  have f6_1 : Fld Z h6 a1 "java/lang/String" "value" "[B" (.ref lb3) := (f5_1.ext E6)
  have f6_2 : Fld Z h6 a1 "java/lang/String" "coder" "B" (.int (0 : Int32)) := (f5_2.ext E6)
  have f6_3 : Exa Z h6 lt3 "java/lang/String" := (f5_3.ext E6)
  have f6_4 : Fld Z h6 lt3 "java/lang/String" "coder" "B" (.int (0 : Int32)) := (f5_4.ext E6)
  have f6_5 : Fld Z h6 lt3 "java/lang/String" "value" "[B" (.ref lb3) := (f5_5.ext E6)
  have f6_6 : Arv Z h6 lb3 kb3 .byte (0 : Int32) [] (.int (0 : Int32)) := (f5_6.ext E6)
  have f6_7 : Exa Z h6 lt6 "java/lang/String" := fE6
  have f6_8 : Fld Z h6 lt6 "java/lang/String" "coder" "B" (.int (0 : Int32)) := fC6
  have f6_9 : Fld Z h6 lt6 "java/lang/String" "value" "[B" (.ref lb6) := fV6
  have f6_10 : Arv Z h6 lb6 kb6 .byte (0 : Int32) [] (.int (0 : Int32)) := fA6
  have sf6_a1 : Safe Z own_EL T6.vm h6 a1 := CHr.safe CHq6 f5_0.lt sf5_a1
  have CC6 : CHr Z own_EL s.vm h0 T6.vm h6 := C5.trans CHq6
  have ne_a1_lt6 := (hsn6 _ sf6_a1).1
  have ne_a1_lb6 := (hsn6 _ sf6_a1).2
  have Zs6 : n0 ≤ h6.size := (Nat.le_trans Zs5 E6.1)
  have K6 : Keep h0 h6 [a1] := K5.ext E6
  refine GoH.step st6 ?_
  show GoH _ _ _ _ _ _ _ _ _ _ T6 (mkF m 20 #[.val (.ref a1), .val (.ref a2), .val (.int (0 : Int32)), .val (.int (0 : Int32)), .val .null, .unset] [(.ref lt6), (.ref a1)])
  obtain ⟨T7, X7, e7, st7⟩ := getF X6 hx hZ6 hown6 (host := "") (Or.inl (hw _ (List.mem_of_getElem? (i := 26) rfl))) Via.refl e6 f6_8 (g := (mkF m 20 #[.val (.ref a1), .val (.ref a2), .val (.int (0 : Int32)), .val (.int (0 : Int32)), .val .null, .unset] [(.ref lt6), (.ref a1)])) rfl rfl (hb hby d2_20)
  refine GoH.step st7 ?_
  show GoH _ _ _ _ _ _ _ _ _ _ T7 (mkF m 23 #[.val (.ref a1), .val (.ref a2), .val (.int (0 : Int32)), .val (.int (0 : Int32)), .val .null, .unset] [(.int (0 : Int32)), (.ref a1)])
  obtain ⟨T8, h8, X8, e8, W8, st8⟩ := putF X7 hx hZ6 hown6 (host := "") (Or.inl (hw _ (List.mem_of_getElem? (i := 26) rfl))) Via.refl e7 f6_2 f6_0 (Or.inr ⟨(hw _ (List.mem_of_getElem? (i := 27) rfl)), rfl, hnm⟩) (hw _ (List.mem_of_getElem? (i := 2) rfl)) (ty := .byte) (by decide) rfl rfl (g := (mkF m 23 #[.val (.ref a1), .val (.ref a2), .val (.int (0 : Int32)), .val (.int (0 : Int32)), .val .null, .unset] [(.int (0 : Int32)), (.ref a1)])) rfl rfl (hb hby d2_23)
  have N8 := Fr.snoc X8 N5 g1
  refine GoH.step st8 ?_
  have f8_0 : Exa Z h8 a1 "java/lang/String" := (f6_0.wr W8)
  have f8_1 : Fld Z h8 a1 "java/lang/String" "value" "[B" (.ref lb3) := (f6_1.other W8 (Or.inr (slot_ne (Or.inr (hw _ (List.mem_of_getElem? (i := 29) rfl))) (Or.inr (hw _ (List.mem_of_getElem? (i := 27) rfl))) (by decide) (t := (.array .byte)) (t' := .byte) (by decide) (by decide))))
  have f8_2 : Fld Z h8 a1 "java/lang/String" "coder" "B" (.int (0 : Int32)) := (f6_2.same W8)
  have f8_3 : Exa Z h8 lt3 "java/lang/String" := (f6_3.wr W8)
  have f8_4 : Fld Z h8 lt3 "java/lang/String" "coder" "B" (.int (0 : Int32)) := (f6_4.other W8 (Or.inl (Ne.symm ne_a1_lt3)))
  have f8_5 : Fld Z h8 lt3 "java/lang/String" "value" "[B" (.ref lb3) := (f6_5.other W8 (Or.inl (Ne.symm ne_a1_lt3)))
  have f8_6 : Arv Z h8 lb3 kb3 .byte (0 : Int32) [] (.int (0 : Int32)) := (f6_6.other W8 (Ne.symm ne_a1_lb3))
  have f8_7 : Exa Z h8 lt6 "java/lang/String" := (f6_7.wr W8)
  have f8_8 : Fld Z h8 lt6 "java/lang/String" "coder" "B" (.int (0 : Int32)) := (f6_8.other W8 (Or.inl (Ne.symm ne_a1_lt6)))
  have f8_9 : Fld Z h8 lt6 "java/lang/String" "value" "[B" (.ref lb6) := (f6_9.other W8 (Or.inl (Ne.symm ne_a1_lt6)))
  have f8_10 : Arv Z h8 lb6 kb6 .byte (0 : Int32) [] (.int (0 : Int32)) := (f6_10.other W8 (Ne.symm ne_a1_lb6))
  have sfw8 : Safe Z own_EL T6.vm _ a1 := sf6_a1
  have sf8_a1 : Safe Z own_EL T6.vm h8 a1 := Safe.wr W8 sfw8 CC6.1 sf6_a1
  have hk8 : _ ≤ h8.size := Nat.le_trans hk6 (Keep.of_wr W8).1
  have C8 : CHr Z own_EL s.vm h0 T6.vm h8 := CC6.trans (CHr.wr W8 sfw8 CC6.1)
  have Zs8 : n0 ≤ h8.size := (Nat.le_trans Zs6 (Keep.of_wr W8).1)
  have K8 : Keep h0 h8 [a1] := K6.wr W8 (Or.inl (List.mem_of_getElem? (i := 0) rfl))
  show GoH _ _ _ _ _ _ _ _ _ _ T8 (mkF m 26 #[.val (.ref a1), .val (.ref a2), .val (.int (0 : Int32)), .val (.int (0 : Int32)), .val .null, .unset] [])
  have hkr : kk6 ≤ T8.heap.size := by rw [e8]; exact hk8
  have hCr : CHr Z own_EL s.vm h0 T6.vm T8.heap := by rw [e8]; exact C8
  refine GoH.retV X8 hx hlk hS6 hkr hZ6 hEL hCr hret (hb hby d2_26) ?_ (by decide) (by decide)
  show QSI Z _ _ _ _ _ T8.heap _
  rw [e8]
  exact ⟨rfl, N8, K8, f8_0, f8_2, lb3, kb3, ne_a1_lb3, f8_1, f8_6⟩
theorem ef_rmSO (m : MethodId) (a1 : Addr) (a2 : Addr) : entryFrame m #[(.ref a1), (.ref a2)] 2 = mkF m 0 #[.val (.ref a1), .val (.ref a2)] [] := by first | (simp [entryFrame, mkF, argsToLocals, Value.category]; done) | rfl
def QSO (Z : State) (a1 : Addr) (a2 : Addr) (kc : ClassId) (h0 : Heap) (n0 : Nat) (v : Option Value) (h : Heap) (L : List Loc) : Prop := v = none ∧ Fr n0 L ∧ Keep h0 h [a1] ∧ Exa Z h a1 "java/lang/String" ∧ Fld Z h a1 "java/lang/String" "coder" "B" (.int (0 : Int32)) ∧ ∃ (t : Addr) (kb : ClassId), a1 ≠ t ∧ Fld Z h a1 "java/lang/String" "value" "[B" (.ref t) ∧ Arv Z h t kb .byte (0 : Int32) [] (.int (0 : Int32))
theorem d1_0 : decode jdk_42_method_3_code 0 = .ok (.aload_n 0, 1) := by decide +kernel
theorem d1_1 : decode jdk_42_method_3_code 1 = .ok (.aload_n 1, 1) := by decide +kernel
theorem d1_2 : decode jdk_42_method_3_code 2 = .ok (.iconst 0, 1) := by decide +kernel
theorem d1_3 : decode jdk_42_method_3_code 3 = .ok (.aload_n 1, 1) := by decide +kernel
theorem d1_4 : decode jdk_42_method_3_code 4 = .ok (.arraylength, 1) := by decide +kernel
theorem d1_5 : decode jdk_42_method_3_code 5 = .ok (.aconst_null, 1) := by decide +kernel
theorem pd_0 : parseMethodDescriptor "([CIILjava/lang/Void;)V" = some ⟨[(.array .char), .int, .int, (.object "java/lang/Void")], none⟩ := by decide +kernel
theorem d1_6 : decode jdk_42_method_3_code 6 = .ok (.invokespecial 27, 3) := by decide +kernel
theorem d1_9 : decode jdk_42_method_3_code 9 = .ok (.return_, 1) := by decide +kernel
set_option maxRecDepth 65536 in
set_option maxHeartbeats 40000000 in
theorem rmSO (l : Launch) (Z : State) (a0 : Array Value) (hw : ∀ d ∈ tables_1, d.before a0 Z = true) (ws : List Jvm.Cond) (a1 : Addr) (a2 : Addr) (kc : ClassId) (h0 : Heap) (n0 : Nat) (Z0 : n0 ≤ h0.size) (g1 : n0 ≤ a1) (E1 : Exa Z h0 a1 "java/lang/String") (F1 : Fld Z h0 a1 "java/lang/String" "value" "[B" .null) (F2 : Fld Z h0 a1 "java/lang/String" "coder" "B" (.int (0 : Int32))) (A2 : Arv Z h0 a2 kc .char (0 : Int32) [] (.int (0 : Int32))) :
    MetFree l (⟨"java/lang/String", "<init>", "([C)V"⟩ : MethodName) (head1 (Jvm.Cond.code (⟨"java/lang/String", "<init>", "([C)V"⟩ : MethodName) jdk_42_method_3_code 2 none :: ws) ({ frames := 2, cells := 4, slots := 8, locals := 29 } : Room)) (fun a U => a = #[(.ref a1), (.ref a2)] ∧ Z.Warmed39 U.vm ∧ U.heap = h0 ∧ CHv Z own_EL U.vm h0) (fun _ _ _ _ _ => True) (fun _ U o U' => ∃ v L, o = .returned v ∧ QSO Z a1 a2 kc h0 n0 v U'.heap L ∧ CHr Z own_EL U.vm U.heap U'.vm U'.heap ∧ ReturnedEndW U o U' L ({ frames := 2, cells := 4, slots := 8, locals := 29 } : Room).cells ({ frames := 2, cells := 4, slots := 8, locals := 29 } : Room).slots) := by
  refine MetFree.of_bodySF (plainFor_of_name pn_0) hisR ?_
  intro p e s m args below meth c s₁ Bd hml0 hP hK
  obtain ⟨rfl, hZ0, hh, hCH⟩ := hP
  have hx := Bd.exec
  have hby := Bd.bytes
  have hlk := BodyLoose.notSynchronized Bd
  have hml : c.maxLocals = 2 := hml0
  have hret := Bd.returns
  have hown0 : (s.setVm s.vm).vm.findClass "java/lang/String" = some m.cls := findClass_of_methodNamed Bd.named
  have hnm := (name_of_methodNamed Bd.named Bd.method).1
  have X0 : Stand p l e ({ frames := 2, cells := 4, slots := 8, locals := 29 } : Room) (s.setVm s.vm) m #[(.ref a1), (.ref a2)] below meth c s₁ [] 0 0 := Stand.of_body Bd
  have hZ0 : Z.Warmed39 (s.setVm s.vm).vm := hZ0
  have hEL : EW Z a0 own_EL := own_EW hw
  have hS0 : s.Since s.vm h0.size := (State.WarmedH.refl s).since _
  have hk0 : h0.size ≤ h0.size := Nat.le_refl _
  have C0 : CHr Z own_EL s.vm h0 s.vm h0 := CHr.refl hCH
  have e0 : s₁.heap = h0 := by rw [← hh, Bd.state]; rfl
  have N0 := Fr.nil n0
  show GoH p e below s ({ frames := 2, cells := 4, slots := 8, locals := 29 } : Room).cells ({ frames := 2, cells := 4, slots := 8, locals := 29 } : Room).slots Z own_EL s.heap (QSO Z a1 a2 kc h0 n0) s₁ (entryFrame m #[(.ref a1), (.ref a2)] 2)
  rw [hh]
  refine GoH.cast (ef_rmSO m a1 a2) ?_
  have sf0_a1 : Safe Z own_EL s.vm h0 a1 := own_safe_null hZ0.alike E1 F1
  have K0 : Keep h0 h0 [a1] := Keep.refl _ _
  show GoH _ _ _ _ _ _ _ _ _ _ s₁ (mkF m 0 #[.val (.ref a1), .val (.ref a2)] [])
  refine GoH.step (fun t k => XS.aloadN X0.here hx rfl (hb hby d1_0) rfl rfl k) ?_
  show GoH _ _ _ _ _ _ _ _ _ _ s₁ (mkF m 1 #[.val (.ref a1), .val (.ref a2)] [(.ref a1)])
  refine GoH.step (fun t k => XS.aloadN X0.here hx rfl (hb hby d1_1) rfl rfl k) ?_
  show GoH _ _ _ _ _ _ _ _ _ _ s₁ (mkF m 2 #[.val (.ref a1), .val (.ref a2)] [(.ref a2), (.ref a1)])
  refine GoH.step (fun t k => XS.iconst X0.here hx rfl (hb hby d1_2) k) ?_
  show GoH _ _ _ _ _ _ _ _ _ _ s₁ (mkF m 3 #[.val (.ref a1), .val (.ref a2)] [(.int (0 : Int32)), (.ref a2), (.ref a1)])
  refine GoH.step (fun t k => XS.aloadN X0.here hx rfl (hb hby d1_3) rfl rfl k) ?_
  show GoH _ _ _ _ _ _ _ _ _ _ s₁ (mkF m 4 #[.val (.ref a1), .val (.ref a2)] [(.ref a2), (.int (0 : Int32)), (.ref a2), (.ref a1)])
  obtain ⟨c1, Ar1, q1, S1, M1, H1, U1⟩ := id A2
  refine GoH.step (fun t k => X0.arraylength hx (by rw [e0]; exact Ar1.1) (State.isArrayOf_alike hZ0.alike Ar1.2.1) (g := (mkF m 4 #[.val (.ref a1), .val (.ref a2)] [(.ref a2), (.int (0 : Int32)), (.ref a2), (.ref a1)])) rfl rfl (hb hby d1_4) _ k) ?_
  rw [len_of S1 M1]
  show GoH _ _ _ _ _ _ _ _ _ _ s₁ (mkF m 5 #[.val (.ref a1), .val (.ref a2)] [(.int (0 : Int32)), (.int (0 : Int32)), (.ref a2), (.ref a1)])
  refine GoH.step (fun t k => XS.aconstNull X0.here hx rfl (hb hby d1_5) k) ?_
  show GoH _ _ _ _ _ _ _ _ _ _ s₁ (mkF m 6 #[.val (.ref a1), .val (.ref a2)] [.null, (.int (0 : Int32)), (.int (0 : Int32)), (.ref a2), (.ref a1)])
  obtain ⟨_, _, ⟨T2, L2, k2, n2⟩, -, X2, hSq2, hgr2, ⟨Lc2, hQ2, l2, y2, z2, CHq2⟩, st2⟩ := X0.specialBackS hx (y := (⟨"java/lang/String", "<init>", "([CIILjava/lang/Void;)V"⟩ : MethodName)) rfl hown0 (mvT hZ0 (hw _ (List.mem_of_getElem? (i := 7) rfl))) (mvT hZ0 (hw _ (List.mem_of_getElem? (i := 8) rfl))) (mvT hZ0 (hw _ (List.mem_of_getElem? (i := 10) rfl))) (by decide) (backOfSH (W := 0) (rmSI l Z a0 hw [] a1 a2 h0 n0 Z0 g1 E1 F1 F2) hZ0 (hw _ (List.mem_of_getElem? (i := 10) rfl)) (hw _ (List.mem_of_getElem? (i := 3) rfl)) (by decide) (by decide) hEL C0.1) (g := (mkF m 6 #[.val (.ref a1), .val (.ref a2)] [.null, (.int (0 : Int32)), (.int (0 : Int32)), (.ref a2), (.ref a1)])) rfl (by rw [hml]; rfl) (Steps.refl _) (a := a1) (argsL := [(.ref a2), (.int (0 : Int32)), (.int (0 : Int32)), .null]) (rest := []) (lenOf pd_0 rfl) rfl (by show 2 * 0 + _ ≤ _; exact Nat.le_of_eq rfl) (hb hby d1_6) (fun _ _ => ⟨rfl, e0, (by decide : 0 + 4 ≤ _), (by decide : 0 + 8 ≤ _)⟩)
  dsimp only [Pt.U, Pt.locs, Pt.cells, Pt.slots] at X2 hSq2 hgr2 l2 y2 z2 st2 hQ2 CHq2
  subst l2 y2 z2
  have hS2 : s.Since T2.vm T2.heap.size := State.Since.trans hS0 hSq2 (Nat.le_trans hk0 (by first | exact hgr2 | (rw [← e0]; exact hgr2)))
  have hZ2 : Z.Warmed39 (s.setVm T2.vm).vm := State.Warmed39.trans (t := s.setVm s.vm) hZ0 hSq2.1
  have hown2 : (s.setVm T2.vm).vm.findClass "java/lang/String" = some m.cls := by rw [show (s.setVm T2.vm).vm = T2.vm from rfl, hSq2.1.alike.findClass]; exact hown0
  have hk2 : T2.heap.size ≤ T2.heap.size := Nat.le_refl _
  obtain ⟨rfl, N2q, Kq2, Eq2, Cq2, tb2, kb2, nt2, Vq2, Aq2⟩ := hQ2
  have N2 := Fr.app N0 N2q
  have f2_0 : Exa Z T2.heap a1 "java/lang/String" := Eq2
  have f2_1 : Fld Z T2.heap a1 "java/lang/String" "coder" "B" (.int (0 : Int32)) := Cq2
  have f2_2 : Fld Z T2.heap a1 "java/lang/String" "value" "[B" (.ref tb2) := Vq2
  have f2_3 : Arv Z T2.heap tb2 kb2 .byte (0 : Int32) [] (.int (0 : Int32)) := Aq2
  have Zs2 : n0 ≤ T2.heap.size := (Nat.le_trans Z0 Kq2.1)
  have K2 : Keep h0 T2.heap [a1] := K0.trans Kq2 (allS (Or.inl (List.mem_of_getElem? (i := 0) rfl)) all0)
  have sf2_a1 : Safe Z own_EL T2.vm T2.heap a1 := CHr.safe CHq2 E1.lt sf0_a1
  have CC2 : CHr Z own_EL s.vm h0 T2.vm T2.heap := C0.trans CHq2
  refine GoH.step (fun t k => st2.trans k) ?_
  show GoH _ _ _ _ _ _ _ _ _ _ T2 (mkF m 9 #[.val (.ref a1), .val (.ref a2)] [])
  have hkr := hk2
  have hCr := CC2
  refine GoH.retV X2 hx hlk hS2 hkr hZ2 hEL hCr hret (hb hby d1_9) ?_ (by decide) (by decide)
  show QSO Z _ _ _ _ _ _ T2.heap _
  exact ⟨rfl, N2, K2, f2_0, f2_1, tb2, kb2, nt2, f2_2, f2_3⟩
theorem pn_1 : plainName "java/lang/Record" = true := by first | (simp [plainName, overriddenIn]; done) | decide +kernel
theorem ef_rmRec (m : MethodId) (a1 : Addr) : entryFrame m #[(.ref a1)] 1 = mkF m 0 #[.val (.ref a1)] [] := by first | (simp [entryFrame, mkF, argsToLocals, Value.category]; done) | rfl
def QRec (Z : State) (a1 : Addr) (h0 : Heap) (n0 : Nat) (v : Option Value) (h : Heap) (L : List Loc) : Prop := v = none ∧ Fr n0 L ∧ h = h0
theorem d8_0 : decode jdk_30_method_1_code 0 = .ok (.aload_n 0, 1) := by decide +kernel
theorem d8_1 : decode jdk_30_method_1_code 1 = .ok (.invokespecial 1, 3) := by decide +kernel
theorem d8_4 : decode jdk_30_method_1_code 4 = .ok (.return_, 1) := by decide +kernel
set_option maxRecDepth 65536 in
set_option maxHeartbeats 40000000 in
theorem rmRec (l : Launch) (Z : State) (a0 : Array Value) (hw : ∀ d ∈ tables_1, d.before a0 Z = true) (ws : List Jvm.Cond) (a1 : Addr) (h0 : Heap) (n0 : Nat) (Z0 : n0 ≤ h0.size) :
    MetFree l (⟨"java/lang/Record", "<init>", "()V"⟩ : MethodName) (head1 (Jvm.Cond.code (⟨"java/lang/Record", "<init>", "()V"⟩ : MethodName) jdk_30_method_1_code 1 none :: ws) ({ frames := 1, cells := 0, slots := 0, locals := 12 } : Room)) (fun a U => a = #[(.ref a1)] ∧ Z.Warmed39 U.vm ∧ U.heap = h0) (fun _ _ _ _ _ => True) (fun _ U o U' => ∃ v L, o = .returned v ∧ QRec Z a1  h0 n0 v U'.heap L ∧ FrameEnd U o U' L ({ frames := 1, cells := 0, slots := 0, locals := 12 } : Room).cells ({ frames := 1, cells := 0, slots := 0, locals := 12 } : Room).slots) := by
  refine MetFree.of_bodySF (plainFor_of_name pn_1) hisR ?_
  intro p e s m args below meth c s₁ Bd hml0 hP hK
  obtain ⟨rfl, hZ, hh⟩ := hP
  have hx := Bd.exec
  have hby := Bd.bytes
  have hlk := BodyLoose.notSynchronized Bd
  have hml : c.maxLocals = 1 := hml0
  have hret := Bd.returns
  have hown : s.vm.findClass "java/lang/Record" = some m.cls := findClass_of_methodNamed Bd.named
  have hnm := (name_of_methodNamed Bd.named Bd.method).1
  have X0 : Stand p l e ({ frames := 1, cells := 0, slots := 0, locals := 12 } : Room) s m #[(.ref a1)] below meth c s₁ [] 0 0 := Stand.of_body Bd
  have e0 : s₁.heap = h0 := by rw [← hh, Bd.state]; rfl
  have N0 := Fr.nil n0
  show Go p e below s ({ frames := 1, cells := 0, slots := 0, locals := 12 } : Room).cells ({ frames := 1, cells := 0, slots := 0, locals := 12 } : Room).slots (QRec Z a1  h0 n0) s₁ (entryFrame m #[(.ref a1)] 1)
  refine Go.cast (ef_rmRec m a1) ?_
  show Go _ _ _ _ _ _ _ s₁ (mkF m 0 #[.val (.ref a1)] [])
  refine Go.step (fun t k => XS.aloadN X0.here hx rfl (hb hby d8_0) rfl rfl k) ?_
  show Go _ _ _ _ _ _ _ s₁ (mkF m 1 #[.val (.ref a1)] [(.ref a1)])
  obtain ⟨T1, X1, e1, st1⟩ := initO X0 hx hZ hown (hw _ (List.mem_of_getElem? (i := 41) rfl)) (hw _ (List.mem_of_getElem? (i := 12) rfl)) (hw _ (List.mem_of_getElem? (i := 13) rfl)) e0 (g := (mkF m 1 #[.val (.ref a1)] [(.ref a1)])) rfl (by rw [hml]; rfl) rfl (hb hby d8_1) (by decide) (W := 0) (by show 2 * 0 + _ ≤ _; exact Nat.le_of_eq rfl) (by decide)
  refine Go.step st1 ?_
  show Go _ _ _ _ _ _ _ T1 (mkF m 4 #[.val (.ref a1)] [])
  refine Go.retV X1 hx hlk hret (hb hby d8_4) ?_ (by decide) (by decide)
  show QRec Z _ _ _ _ T1.heap _
  exact ⟨rfl, N0, e1⟩
theorem pn_2 : plainName "com/example/grab1/grab1/cli/Command$Option" = true := by first | (simp [plainName, overriddenIn]; done) | decide +kernel
theorem ef_rmOInn (m : MethodId) (a1 : Addr) (a2 : Addr) (p5 : Int32) : entryFrame m #[(.ref a1), (.ref a2), .null, .null, (.int p5)] 5 = mkF m 0 #[.val (.ref a1), .val (.ref a2), .val .null, .val .null, .val (.int p5)] [] := by first | (simp [entryFrame, mkF, argsToLocals, Value.category]; done) | rfl
def QOInn (Z : State) (a1 : Addr) (a2 : Addr) (p5 : Int32) (h0 : Heap) (n0 : Nat) (v : Option Value) (h : Heap) (L : List Loc) : Prop := v = none ∧ Fr n0 L ∧ Keep h0 h [a1] ∧ Exa Z h a1 "com/example/grab1/grab1/cli/Command$Option" ∧ Fld Z h a1 "com/example/grab1/grab1/cli/Command$Option" "value" "Ljava/lang/String;" .null
theorem d7_0 : decode prog_17_method_2_code 0 = .ok (.aload_n 0, 1) := by decide +kernel
theorem pd_1 : parseMethodDescriptor "()V" = some ⟨[], none⟩ := by decide +kernel
theorem d7_1 : decode prog_17_method_2_code 1 = .ok (.invokespecial 1, 3) := by decide +kernel
theorem d7_4 : decode prog_17_method_2_code 4 = .ok (.aload_n 0, 1) := by decide +kernel
theorem d7_5 : decode prog_17_method_2_code 5 = .ok (.aload_n 1, 1) := by decide +kernel
theorem d7_6 : decode prog_17_method_2_code 6 = .ok (.putfield 7, 3) := by decide +kernel
theorem d7_9 : decode prog_17_method_2_code 9 = .ok (.aload_n 0, 1) := by decide +kernel
theorem d7_10 : decode prog_17_method_2_code 10 = .ok (.aload_n 2, 1) := by decide +kernel
theorem d7_11 : decode prog_17_method_2_code 11 = .ok (.putfield 13, 3) := by decide +kernel
theorem d7_14 : decode prog_17_method_2_code 14 = .ok (.aload_n 0, 1) := by decide +kernel
theorem d7_15 : decode prog_17_method_2_code 15 = .ok (.aload_n 3, 1) := by decide +kernel
theorem d7_16 : decode prog_17_method_2_code 16 = .ok (.putfield 16, 3) := by decide +kernel
theorem d7_19 : decode prog_17_method_2_code 19 = .ok (.aload_n 0, 1) := by decide +kernel
theorem d7_20 : decode prog_17_method_2_code 20 = .ok (.iload 4, 2) := by decide +kernel
theorem d7_22 : decode prog_17_method_2_code 22 = .ok (.putfield 19, 3) := by decide +kernel
theorem d7_25 : decode prog_17_method_2_code 25 = .ok (.return_, 1) := by decide +kernel
set_option maxRecDepth 65536 in
set_option maxHeartbeats 40000000 in
theorem rmOInn (l : Launch) (Z : State) (a0 : Array Value) (hw : ∀ d ∈ tables_1, d.before a0 Z = true) (ws : List Jvm.Cond) (a1 : Addr) (a2 : Addr) (p5 : Int32) (h0 : Heap) (n0 : Nat) (Z0 : n0 ≤ h0.size) (g1 : n0 ≤ a1) (E1 : Exa Z h0 a1 "com/example/grab1/grab1/cli/Command$Option") (F_name : Fld Z h0 a1 "com/example/grab1/grab1/cli/Command$Option" "name" "Ljava/lang/String;" .null) (F_value : Fld Z h0 a1 "com/example/grab1/grab1/cli/Command$Option" "value" "Ljava/lang/String;" .null) (F_fallback : Fld Z h0 a1 "com/example/grab1/grab1/cli/Command$Option" "fallback" "Ljava/lang/String;" .null) (F_required : Fld Z h0 a1 "com/example/grab1/grab1/cli/Command$Option" "required" "Z" (.int (0 : Int32))) (hn4 : narrow .boolean (.int p5) = .int p5) (hf4 : fits .boolean (.int p5) = true) :
    MetFree l (⟨"com/example/grab1/grab1/cli/Command$Option", "<init>", "(Ljava/lang/String;Ljava/lang/String;Ljava/lang/String;Z)V"⟩ : MethodName) (head1 (Jvm.Cond.code (⟨"com/example/grab1/grab1/cli/Command$Option", "<init>", "(Ljava/lang/String;Ljava/lang/String;Ljava/lang/String;Z)V"⟩ : MethodName) prog_17_method_2_code 5 none :: ws) ({ frames := 2, cells := 0, slots := 0, locals := 24 } : Room)) (fun a U => a = #[(.ref a1), (.ref a2), .null, .null, (.int p5)] ∧ Z.Warmed39 U.vm ∧ U.heap = h0) (fun _ _ _ _ _ => True) (fun _ U o U' => ∃ v L, o = .returned v ∧ QOInn Z a1 a2 p5  h0 n0 v U'.heap L ∧ FrameEnd U o U' L ({ frames := 2, cells := 0, slots := 0, locals := 24 } : Room).cells ({ frames := 2, cells := 0, slots := 0, locals := 24 } : Room).slots) := by
  refine MetFree.of_bodySF (plainFor_of_name pn_2) hisR ?_
  intro p e s m args below meth c s₁ Bd hml0 hP hK
  obtain ⟨rfl, hZ, hh⟩ := hP
  have hx := Bd.exec
  have hby := Bd.bytes
  have hlk := BodyLoose.notSynchronized Bd
  have hml : c.maxLocals = 5 := hml0
  have hret := Bd.returns
  have hown : s.vm.findClass "com/example/grab1/grab1/cli/Command$Option" = some m.cls := findClass_of_methodNamed Bd.named
  have hnm := (name_of_methodNamed Bd.named Bd.method).1
  have X0 : Stand p l e ({ frames := 2, cells := 0, slots := 0, locals := 24 } : Room) s m #[(.ref a1), (.ref a2), .null, .null, (.int p5)] below meth c s₁ [] 0 0 := Stand.of_body Bd
  have e0 : s₁.heap = h0 := by rw [← hh, Bd.state]; rfl
  have N0 := Fr.nil n0
  show Go p e below s ({ frames := 2, cells := 0, slots := 0, locals := 24 } : Room).cells ({ frames := 2, cells := 0, slots := 0, locals := 24 } : Room).slots (QOInn Z a1 a2 p5  h0 n0) s₁ (entryFrame m #[(.ref a1), (.ref a2), .null, .null, (.int p5)] 5)
  refine Go.cast (ef_rmOInn m a1 a2 p5) ?_
  have K0 : Keep h0 h0 [a1] := Keep.refl _ _
  show Go _ _ _ _ _ _ _ s₁ (mkF m 0 #[.val (.ref a1), .val (.ref a2), .val .null, .val .null, .val (.int p5)] [])
  refine Go.step (fun t k => XS.aloadN X0.here hx rfl (hb hby d7_0) rfl rfl k) ?_
  show Go _ _ _ _ _ _ _ s₁ (mkF m 1 #[.val (.ref a1), .val (.ref a2), .val .null, .val .null, .val (.int p5)] [(.ref a1)])
  obtain ⟨_, _, ⟨T1, L1, k1, n1⟩, -, X1, ⟨Lc1, hQ1, l1, y1, z1⟩, st1⟩ := X0.specialBack hx (y := (⟨"java/lang/Record", "<init>", "()V"⟩ : MethodName)) rfl hown (mvT hZ (hw _ (List.mem_of_getElem? (i := 36) rfl))) (mvT hZ (hw _ (List.mem_of_getElem? (i := 37) rfl))) (mvT hZ (hw _ (List.mem_of_getElem? (i := 40) rfl))) (by decide) (backOf (W := 0) (rmRec l Z a0 hw [] a1 h0 n0 Z0 ) hZ (hw _ (List.mem_of_getElem? (i := 40) rfl)) (hw _ (List.mem_of_getElem? (i := 39) rfl)) (by decide) (by decide)) (g := (mkF m 1 #[.val (.ref a1), .val (.ref a2), .val .null, .val .null, .val (.int p5)] [(.ref a1)])) rfl (by rw [hml]; rfl) (Steps.refl _) (a := a1) (argsL := []) (rest := []) (lenOf pd_1 rfl) rfl (by show 2 * 0 + _ ≤ _; exact Nat.le_of_eq rfl) (hb hby d7_1) (fun _ _ => ⟨rfl, e0, (by decide : 0 + 0 ≤ _), (by decide : 0 + 0 ≤ _)⟩)
  dsimp only [Pt.U, Pt.locs, Pt.cells, Pt.slots] at X1 l1 y1 z1 st1 hQ1
  subst l1 y1 z1
  obtain ⟨rfl, N1q, e1⟩ := hQ1
  have N1 := Fr.app N0 N1q
  refine Go.step (fun t k => st1.trans k) ?_
  show Go _ _ _ _ _ _ _ T1 (mkF m 4 #[.val (.ref a1), .val (.ref a2), .val .null, .val .null, .val (.int p5)] [])
  refine Go.step (fun t k => XS.aloadN X1.here hx rfl (hb hby d7_4) rfl rfl k) ?_
  show Go _ _ _ _ _ _ _ T1 (mkF m 5 #[.val (.ref a1), .val (.ref a2), .val .null, .val .null, .val (.int p5)] [(.ref a1)])
  refine Go.step (fun t k => XS.aloadN X1.here hx rfl (hb hby d7_5) rfl rfl k) ?_
  show Go _ _ _ _ _ _ _ T1 (mkF m 6 #[.val (.ref a1), .val (.ref a2), .val .null, .val .null, .val (.int p5)] [(.ref a2), (.ref a1)])
  obtain ⟨T2, h2, X2, e2, W2, st2⟩ := putF X1 hx hZ hown (host := "") (Or.inl (hw _ (List.mem_of_getElem? (i := 42) rfl))) Via.refl (e1) F_name E1 (Or.inr ⟨(hw _ (List.mem_of_getElem? (i := 43) rfl)), rfl, hnm⟩) (hw _ (List.mem_of_getElem? (i := 31) rfl)) (ty := (.object "java/lang/String")) (by decide) rfl rfl (g := (mkF m 6 #[.val (.ref a1), .val (.ref a2), .val .null, .val .null, .val (.int p5)] [(.ref a2), (.ref a1)])) rfl rfl (hb hby d7_6)
  have N2 := Fr.snoc X2 N1 g1
  refine Go.step st2 ?_
  have f2_0 : Exa Z h2 a1 "com/example/grab1/grab1/cli/Command$Option" := (E1.wr W2)
  have f2_1 : Fld Z h2 a1 "com/example/grab1/grab1/cli/Command$Option" "name" "Ljava/lang/String;" (.ref a2) := (F_name.same W2)
  have f2_2 : Fld Z h2 a1 "com/example/grab1/grab1/cli/Command$Option" "value" "Ljava/lang/String;" .null := (F_value.other W2 (Or.inr (slot_ne (Or.inr (hw _ (List.mem_of_getElem? (i := 45) rfl))) (Or.inr (hw _ (List.mem_of_getElem? (i := 43) rfl))) (by decide) (t := (.object "java/lang/String")) (t' := (.object "java/lang/String")) (by decide) (by decide))))
  have f2_3 : Fld Z h2 a1 "com/example/grab1/grab1/cli/Command$Option" "fallback" "Ljava/lang/String;" .null := (F_fallback.other W2 (Or.inr (slot_ne (Or.inr (hw _ (List.mem_of_getElem? (i := 47) rfl))) (Or.inr (hw _ (List.mem_of_getElem? (i := 43) rfl))) (by decide) (t := (.object "java/lang/String")) (t' := (.object "java/lang/String")) (by decide) (by decide))))
  have f2_4 : Fld Z h2 a1 "com/example/grab1/grab1/cli/Command$Option" "required" "Z" (.int (0 : Int32)) := (F_required.other W2 (Or.inr (slot_ne (Or.inr (hw _ (List.mem_of_getElem? (i := 49) rfl))) (Or.inr (hw _ (List.mem_of_getElem? (i := 43) rfl))) (by decide) (t := .boolean) (t' := (.object "java/lang/String")) (by decide) (by decide))))
  have Zs2 : n0 ≤ h2.size := (Nat.le_trans Z0 (Keep.of_wr W2).1)
  have K2 : Keep h0 h2 [a1] := K0.wr W2 (Or.inl (List.mem_of_getElem? (i := 0) rfl))
  show Go _ _ _ _ _ _ _ T2 (mkF m 9 #[.val (.ref a1), .val (.ref a2), .val .null, .val .null, .val (.int p5)] [])
  refine Go.step (fun t k => XS.aloadN X2.here hx rfl (hb hby d7_9) rfl rfl k) ?_
  show Go _ _ _ _ _ _ _ T2 (mkF m 10 #[.val (.ref a1), .val (.ref a2), .val .null, .val .null, .val (.int p5)] [(.ref a1)])
  refine Go.step (fun t k => XS.aloadN X2.here hx rfl (hb hby d7_10) rfl rfl k) ?_
  show Go _ _ _ _ _ _ _ T2 (mkF m 11 #[.val (.ref a1), .val (.ref a2), .val .null, .val .null, .val (.int p5)] [.null, (.ref a1)])
  obtain ⟨T3, h3, X3, e3, W3, st3⟩ := putF X2 hx hZ hown (host := "") (Or.inl (hw _ (List.mem_of_getElem? (i := 44) rfl))) Via.refl e2 f2_2 f2_0 (Or.inr ⟨(hw _ (List.mem_of_getElem? (i := 45) rfl)), rfl, hnm⟩) (hw _ (List.mem_of_getElem? (i := 31) rfl)) (ty := (.object "java/lang/String")) (by decide) rfl rfl (g := (mkF m 11 #[.val (.ref a1), .val (.ref a2), .val .null, .val .null, .val (.int p5)] [.null, (.ref a1)])) rfl rfl (hb hby d7_11)
  have N3 := Fr.snoc X3 N2 g1
  refine Go.step st3 ?_
  have f3_0 : Exa Z h3 a1 "com/example/grab1/grab1/cli/Command$Option" := (f2_0.wr W3)
  have f3_1 : Fld Z h3 a1 "com/example/grab1/grab1/cli/Command$Option" "name" "Ljava/lang/String;" (.ref a2) := (f2_1.other W3 (Or.inr (slot_ne (Or.inr (hw _ (List.mem_of_getElem? (i := 43) rfl))) (Or.inr (hw _ (List.mem_of_getElem? (i := 45) rfl))) (by decide) (t := (.object "java/lang/String")) (t' := (.object "java/lang/String")) (by decide) (by decide))))
  have f3_2 : Fld Z h3 a1 "com/example/grab1/grab1/cli/Command$Option" "value" "Ljava/lang/String;" .null := (f2_2.same W3)
  have f3_3 : Fld Z h3 a1 "com/example/grab1/grab1/cli/Command$Option" "fallback" "Ljava/lang/String;" .null := (f2_3.other W3 (Or.inr (slot_ne (Or.inr (hw _ (List.mem_of_getElem? (i := 47) rfl))) (Or.inr (hw _ (List.mem_of_getElem? (i := 45) rfl))) (by decide) (t := (.object "java/lang/String")) (t' := (.object "java/lang/String")) (by decide) (by decide))))
  have f3_4 : Fld Z h3 a1 "com/example/grab1/grab1/cli/Command$Option" "required" "Z" (.int (0 : Int32)) := (f2_4.other W3 (Or.inr (slot_ne (Or.inr (hw _ (List.mem_of_getElem? (i := 49) rfl))) (Or.inr (hw _ (List.mem_of_getElem? (i := 45) rfl))) (by decide) (t := .boolean) (t' := (.object "java/lang/String")) (by decide) (by decide))))
  have Zs3 : n0 ≤ h3.size := (Nat.le_trans Zs2 (Keep.of_wr W3).1)
  have K3 : Keep h0 h3 [a1] := K2.wr W3 (Or.inl (List.mem_of_getElem? (i := 0) rfl))
  show Go _ _ _ _ _ _ _ T3 (mkF m 14 #[.val (.ref a1), .val (.ref a2), .val .null, .val .null, .val (.int p5)] [])
  refine Go.step (fun t k => XS.aloadN X3.here hx rfl (hb hby d7_14) rfl rfl k) ?_
  show Go _ _ _ _ _ _ _ T3 (mkF m 15 #[.val (.ref a1), .val (.ref a2), .val .null, .val .null, .val (.int p5)] [(.ref a1)])
  refine Go.step (fun t k => XS.aloadN X3.here hx rfl (hb hby d7_15) rfl rfl k) ?_
  show Go _ _ _ _ _ _ _ T3 (mkF m 16 #[.val (.ref a1), .val (.ref a2), .val .null, .val .null, .val (.int p5)] [.null, (.ref a1)])
  obtain ⟨T4, h4, X4, e4, W4, st4⟩ := putF X3 hx hZ hown (host := "") (Or.inl (hw _ (List.mem_of_getElem? (i := 46) rfl))) Via.refl e3 f3_3 f3_0 (Or.inr ⟨(hw _ (List.mem_of_getElem? (i := 47) rfl)), rfl, hnm⟩) (hw _ (List.mem_of_getElem? (i := 31) rfl)) (ty := (.object "java/lang/String")) (by decide) rfl rfl (g := (mkF m 16 #[.val (.ref a1), .val (.ref a2), .val .null, .val .null, .val (.int p5)] [.null, (.ref a1)])) rfl rfl (hb hby d7_16)
  have N4 := Fr.snoc X4 N3 g1
  refine Go.step st4 ?_
  have f4_0 : Exa Z h4 a1 "com/example/grab1/grab1/cli/Command$Option" := (f3_0.wr W4)
  have f4_1 : Fld Z h4 a1 "com/example/grab1/grab1/cli/Command$Option" "name" "Ljava/lang/String;" (.ref a2) := (f3_1.other W4 (Or.inr (slot_ne (Or.inr (hw _ (List.mem_of_getElem? (i := 43) rfl))) (Or.inr (hw _ (List.mem_of_getElem? (i := 47) rfl))) (by decide) (t := (.object "java/lang/String")) (t' := (.object "java/lang/String")) (by decide) (by decide))))
  have f4_2 : Fld Z h4 a1 "com/example/grab1/grab1/cli/Command$Option" "value" "Ljava/lang/String;" .null := (f3_2.other W4 (Or.inr (slot_ne (Or.inr (hw _ (List.mem_of_getElem? (i := 45) rfl))) (Or.inr (hw _ (List.mem_of_getElem? (i := 47) rfl))) (by decide) (t := (.object "java/lang/String")) (t' := (.object "java/lang/String")) (by decide) (by decide))))
  have f4_3 : Fld Z h4 a1 "com/example/grab1/grab1/cli/Command$Option" "fallback" "Ljava/lang/String;" .null := (f3_3.same W4)
  have f4_4 : Fld Z h4 a1 "com/example/grab1/grab1/cli/Command$Option" "required" "Z" (.int (0 : Int32)) := (f3_4.other W4 (Or.inr (slot_ne (Or.inr (hw _ (List.mem_of_getElem? (i := 49) rfl))) (Or.inr (hw _ (List.mem_of_getElem? (i := 47) rfl))) (by decide) (t := .boolean) (t' := (.object "java/lang/String")) (by decide) (by decide))))
  have Zs4 : n0 ≤ h4.size := (Nat.le_trans Zs3 (Keep.of_wr W4).1)
  have K4 : Keep h0 h4 [a1] := K3.wr W4 (Or.inl (List.mem_of_getElem? (i := 0) rfl))
  show Go _ _ _ _ _ _ _ T4 (mkF m 19 #[.val (.ref a1), .val (.ref a2), .val .null, .val .null, .val (.int p5)] [])
  refine Go.step (fun t k => XS.aloadN X4.here hx rfl (hb hby d7_19) rfl rfl k) ?_
  show Go _ _ _ _ _ _ _ T4 (mkF m 20 #[.val (.ref a1), .val (.ref a2), .val .null, .val .null, .val (.int p5)] [(.ref a1)])
  refine Go.step (fun t k => XS.iload X4.here hx rfl (hb hby d7_20) rfl k) ?_
  show Go _ _ _ _ _ _ _ T4 (mkF m 22 #[.val (.ref a1), .val (.ref a2), .val .null, .val .null, .val (.int p5)] [(.int p5), (.ref a1)])
  obtain ⟨T5, h5, X5, e5, W5, st5⟩ := putF X4 hx hZ hown (host := "") (Or.inl (hw _ (List.mem_of_getElem? (i := 48) rfl))) Via.refl e4 f4_4 f4_0 (Or.inr ⟨(hw _ (List.mem_of_getElem? (i := 49) rfl)), rfl, hnm⟩) (hw _ (List.mem_of_getElem? (i := 31) rfl)) (ty := .boolean) (by decide) hn4 hf4 (g := (mkF m 22 #[.val (.ref a1), .val (.ref a2), .val .null, .val .null, .val (.int p5)] [(.int p5), (.ref a1)])) rfl rfl (hb hby d7_22)
  have N5 := Fr.snoc X5 N4 g1
  refine Go.step st5 ?_
  have f5_0 : Exa Z h5 a1 "com/example/grab1/grab1/cli/Command$Option" := (f4_0.wr W5)
  have f5_1 : Fld Z h5 a1 "com/example/grab1/grab1/cli/Command$Option" "name" "Ljava/lang/String;" (.ref a2) := (f4_1.other W5 (Or.inr (slot_ne (Or.inr (hw _ (List.mem_of_getElem? (i := 43) rfl))) (Or.inr (hw _ (List.mem_of_getElem? (i := 49) rfl))) (by decide) (t := (.object "java/lang/String")) (t' := .boolean) (by decide) (by decide))))
  have f5_2 : Fld Z h5 a1 "com/example/grab1/grab1/cli/Command$Option" "value" "Ljava/lang/String;" .null := (f4_2.other W5 (Or.inr (slot_ne (Or.inr (hw _ (List.mem_of_getElem? (i := 45) rfl))) (Or.inr (hw _ (List.mem_of_getElem? (i := 49) rfl))) (by decide) (t := (.object "java/lang/String")) (t' := .boolean) (by decide) (by decide))))
  have f5_3 : Fld Z h5 a1 "com/example/grab1/grab1/cli/Command$Option" "fallback" "Ljava/lang/String;" .null := (f4_3.other W5 (Or.inr (slot_ne (Or.inr (hw _ (List.mem_of_getElem? (i := 47) rfl))) (Or.inr (hw _ (List.mem_of_getElem? (i := 49) rfl))) (by decide) (t := (.object "java/lang/String")) (t' := .boolean) (by decide) (by decide))))
  have f5_4 : Fld Z h5 a1 "com/example/grab1/grab1/cli/Command$Option" "required" "Z" (.int p5) := (f4_4.same W5)
  have Zs5 : n0 ≤ h5.size := (Nat.le_trans Zs4 (Keep.of_wr W5).1)
  have K5 : Keep h0 h5 [a1] := K4.wr W5 (Or.inl (List.mem_of_getElem? (i := 0) rfl))
  show Go _ _ _ _ _ _ _ T5 (mkF m 25 #[.val (.ref a1), .val (.ref a2), .val .null, .val .null, .val (.int p5)] [])
  refine Go.retV X5 hx hlk hret (hb hby d7_25) ?_ (by decide) (by decide)
  show QOInn Z _ _ _ _ _ _ T5.heap _
  rw [e5]
  exact ⟨rfl, N5, K5, f5_0, f5_2⟩
theorem ef_rmOInr (m : MethodId) (a1 : Addr) (a2 : Addr) (a4 : Addr) (p5 : Int32) : entryFrame m #[(.ref a1), (.ref a2), .null, (.ref a4), (.int p5)] 5 = mkF m 0 #[.val (.ref a1), .val (.ref a2), .val .null, .val (.ref a4), .val (.int p5)] [] := by first | (simp [entryFrame, mkF, argsToLocals, Value.category]; done) | rfl
def QOInr (Z : State) (a1 : Addr) (a2 : Addr) (a4 : Addr) (p5 : Int32) (h0 : Heap) (n0 : Nat) (v : Option Value) (h : Heap) (L : List Loc) : Prop := v = none ∧ Fr n0 L ∧ Keep h0 h [a1] ∧ Exa Z h a1 "com/example/grab1/grab1/cli/Command$Option" ∧ Fld Z h a1 "com/example/grab1/grab1/cli/Command$Option" "value" "Ljava/lang/String;" .null
set_option maxRecDepth 65536 in
set_option maxHeartbeats 40000000 in
theorem rmOInr (l : Launch) (Z : State) (a0 : Array Value) (hw : ∀ d ∈ tables_1, d.before a0 Z = true) (ws : List Jvm.Cond) (a1 : Addr) (a2 : Addr) (a4 : Addr) (p5 : Int32) (h0 : Heap) (n0 : Nat) (Z0 : n0 ≤ h0.size) (g1 : n0 ≤ a1) (E1 : Exa Z h0 a1 "com/example/grab1/grab1/cli/Command$Option") (F_name : Fld Z h0 a1 "com/example/grab1/grab1/cli/Command$Option" "name" "Ljava/lang/String;" .null) (F_value : Fld Z h0 a1 "com/example/grab1/grab1/cli/Command$Option" "value" "Ljava/lang/String;" .null) (F_fallback : Fld Z h0 a1 "com/example/grab1/grab1/cli/Command$Option" "fallback" "Ljava/lang/String;" .null) (F_required : Fld Z h0 a1 "com/example/grab1/grab1/cli/Command$Option" "required" "Z" (.int (0 : Int32))) (hn4 : narrow .boolean (.int p5) = .int p5) (hf4 : fits .boolean (.int p5) = true) :
    MetFree l (⟨"com/example/grab1/grab1/cli/Command$Option", "<init>", "(Ljava/lang/String;Ljava/lang/String;Ljava/lang/String;Z)V"⟩ : MethodName) (head1 (Jvm.Cond.code (⟨"com/example/grab1/grab1/cli/Command$Option", "<init>", "(Ljava/lang/String;Ljava/lang/String;Ljava/lang/String;Z)V"⟩ : MethodName) prog_17_method_2_code 5 none :: ws) ({ frames := 2, cells := 0, slots := 0, locals := 24 } : Room)) (fun a U => a = #[(.ref a1), (.ref a2), .null, (.ref a4), (.int p5)] ∧ Z.Warmed39 U.vm ∧ U.heap = h0) (fun _ _ _ _ _ => True) (fun _ U o U' => ∃ v L, o = .returned v ∧ QOInr Z a1 a2 a4 p5  h0 n0 v U'.heap L ∧ FrameEnd U o U' L ({ frames := 2, cells := 0, slots := 0, locals := 24 } : Room).cells ({ frames := 2, cells := 0, slots := 0, locals := 24 } : Room).slots) := by
  refine MetFree.of_bodySF (plainFor_of_name pn_2) hisR ?_
  intro p e s m args below meth c s₁ Bd hml0 hP hK
  obtain ⟨rfl, hZ, hh⟩ := hP
  have hx := Bd.exec
  have hby := Bd.bytes
  have hlk := BodyLoose.notSynchronized Bd
  have hml : c.maxLocals = 5 := hml0
  have hret := Bd.returns
  have hown : s.vm.findClass "com/example/grab1/grab1/cli/Command$Option" = some m.cls := findClass_of_methodNamed Bd.named
  have hnm := (name_of_methodNamed Bd.named Bd.method).1
  have X0 : Stand p l e ({ frames := 2, cells := 0, slots := 0, locals := 24 } : Room) s m #[(.ref a1), (.ref a2), .null, (.ref a4), (.int p5)] below meth c s₁ [] 0 0 := Stand.of_body Bd
  have e0 : s₁.heap = h0 := by rw [← hh, Bd.state]; rfl
  have N0 := Fr.nil n0
  show Go p e below s ({ frames := 2, cells := 0, slots := 0, locals := 24 } : Room).cells ({ frames := 2, cells := 0, slots := 0, locals := 24 } : Room).slots (QOInr Z a1 a2 a4 p5  h0 n0) s₁ (entryFrame m #[(.ref a1), (.ref a2), .null, (.ref a4), (.int p5)] 5)
  refine Go.cast (ef_rmOInr m a1 a2 a4 p5) ?_
  have K0 : Keep h0 h0 [a1] := Keep.refl _ _
  show Go _ _ _ _ _ _ _ s₁ (mkF m 0 #[.val (.ref a1), .val (.ref a2), .val .null, .val (.ref a4), .val (.int p5)] [])
  refine Go.step (fun t k => XS.aloadN X0.here hx rfl (hb hby d7_0) rfl rfl k) ?_
  show Go _ _ _ _ _ _ _ s₁ (mkF m 1 #[.val (.ref a1), .val (.ref a2), .val .null, .val (.ref a4), .val (.int p5)] [(.ref a1)])
  obtain ⟨_, _, ⟨T1, L1, k1, n1⟩, -, X1, ⟨Lc1, hQ1, l1, y1, z1⟩, st1⟩ := X0.specialBack hx (y := (⟨"java/lang/Record", "<init>", "()V"⟩ : MethodName)) rfl hown (mvT hZ (hw _ (List.mem_of_getElem? (i := 36) rfl))) (mvT hZ (hw _ (List.mem_of_getElem? (i := 37) rfl))) (mvT hZ (hw _ (List.mem_of_getElem? (i := 40) rfl))) (by decide) (backOf (W := 0) (rmRec l Z a0 hw [] a1 h0 n0 Z0 ) hZ (hw _ (List.mem_of_getElem? (i := 40) rfl)) (hw _ (List.mem_of_getElem? (i := 39) rfl)) (by decide) (by decide)) (g := (mkF m 1 #[.val (.ref a1), .val (.ref a2), .val .null, .val (.ref a4), .val (.int p5)] [(.ref a1)])) rfl (by rw [hml]; rfl) (Steps.refl _) (a := a1) (argsL := []) (rest := []) (lenOf pd_1 rfl) rfl (by show 2 * 0 + _ ≤ _; exact Nat.le_of_eq rfl) (hb hby d7_1) (fun _ _ => ⟨rfl, e0, (by decide : 0 + 0 ≤ _), (by decide : 0 + 0 ≤ _)⟩)
  dsimp only [Pt.U, Pt.locs, Pt.cells, Pt.slots] at X1 l1 y1 z1 st1 hQ1
  subst l1 y1 z1
  obtain ⟨rfl, N1q, e1⟩ := hQ1
  have N1 := Fr.app N0 N1q
  refine Go.step (fun t k => st1.trans k) ?_
  show Go _ _ _ _ _ _ _ T1 (mkF m 4 #[.val (.ref a1), .val (.ref a2), .val .null, .val (.ref a4), .val (.int p5)] [])
  refine Go.step (fun t k => XS.aloadN X1.here hx rfl (hb hby d7_4) rfl rfl k) ?_
  show Go _ _ _ _ _ _ _ T1 (mkF m 5 #[.val (.ref a1), .val (.ref a2), .val .null, .val (.ref a4), .val (.int p5)] [(.ref a1)])
  refine Go.step (fun t k => XS.aloadN X1.here hx rfl (hb hby d7_5) rfl rfl k) ?_
  show Go _ _ _ _ _ _ _ T1 (mkF m 6 #[.val (.ref a1), .val (.ref a2), .val .null, .val (.ref a4), .val (.int p5)] [(.ref a2), (.ref a1)])
  obtain ⟨T2, h2, X2, e2, W2, st2⟩ := putF X1 hx hZ hown (host := "") (Or.inl (hw _ (List.mem_of_getElem? (i := 42) rfl))) Via.refl (e1) F_name E1 (Or.inr ⟨(hw _ (List.mem_of_getElem? (i := 43) rfl)), rfl, hnm⟩) (hw _ (List.mem_of_getElem? (i := 31) rfl)) (ty := (.object "java/lang/String")) (by decide) rfl rfl (g := (mkF m 6 #[.val (.ref a1), .val (.ref a2), .val .null, .val (.ref a4), .val (.int p5)] [(.ref a2), (.ref a1)])) rfl rfl (hb hby d7_6)
  have N2 := Fr.snoc X2 N1 g1
  refine Go.step st2 ?_
  have f2_0 : Exa Z h2 a1 "com/example/grab1/grab1/cli/Command$Option" := (E1.wr W2)
  have f2_1 : Fld Z h2 a1 "com/example/grab1/grab1/cli/Command$Option" "name" "Ljava/lang/String;" (.ref a2) := (F_name.same W2)
  have f2_2 : Fld Z h2 a1 "com/example/grab1/grab1/cli/Command$Option" "value" "Ljava/lang/String;" .null := (F_value.other W2 (Or.inr (slot_ne (Or.inr (hw _ (List.mem_of_getElem? (i := 45) rfl))) (Or.inr (hw _ (List.mem_of_getElem? (i := 43) rfl))) (by decide) (t := (.object "java/lang/String")) (t' := (.object "java/lang/String")) (by decide) (by decide))))
  have f2_3 : Fld Z h2 a1 "com/example/grab1/grab1/cli/Command$Option" "fallback" "Ljava/lang/String;" .null := (F_fallback.other W2 (Or.inr (slot_ne (Or.inr (hw _ (List.mem_of_getElem? (i := 47) rfl))) (Or.inr (hw _ (List.mem_of_getElem? (i := 43) rfl))) (by decide) (t := (.object "java/lang/String")) (t' := (.object "java/lang/String")) (by decide) (by decide))))
  have f2_4 : Fld Z h2 a1 "com/example/grab1/grab1/cli/Command$Option" "required" "Z" (.int (0 : Int32)) := (F_required.other W2 (Or.inr (slot_ne (Or.inr (hw _ (List.mem_of_getElem? (i := 49) rfl))) (Or.inr (hw _ (List.mem_of_getElem? (i := 43) rfl))) (by decide) (t := .boolean) (t' := (.object "java/lang/String")) (by decide) (by decide))))
  have Zs2 : n0 ≤ h2.size := (Nat.le_trans Z0 (Keep.of_wr W2).1)
  have K2 : Keep h0 h2 [a1] := K0.wr W2 (Or.inl (List.mem_of_getElem? (i := 0) rfl))
  show Go _ _ _ _ _ _ _ T2 (mkF m 9 #[.val (.ref a1), .val (.ref a2), .val .null, .val (.ref a4), .val (.int p5)] [])
  refine Go.step (fun t k => XS.aloadN X2.here hx rfl (hb hby d7_9) rfl rfl k) ?_
  show Go _ _ _ _ _ _ _ T2 (mkF m 10 #[.val (.ref a1), .val (.ref a2), .val .null, .val (.ref a4), .val (.int p5)] [(.ref a1)])
  refine Go.step (fun t k => XS.aloadN X2.here hx rfl (hb hby d7_10) rfl rfl k) ?_
  show Go _ _ _ _ _ _ _ T2 (mkF m 11 #[.val (.ref a1), .val (.ref a2), .val .null, .val (.ref a4), .val (.int p5)] [.null, (.ref a1)])
  obtain ⟨T3, h3, X3, e3, W3, st3⟩ := putF X2 hx hZ hown (host := "") (Or.inl (hw _ (List.mem_of_getElem? (i := 44) rfl))) Via.refl e2 f2_2 f2_0 (Or.inr ⟨(hw _ (List.mem_of_getElem? (i := 45) rfl)), rfl, hnm⟩) (hw _ (List.mem_of_getElem? (i := 31) rfl)) (ty := (.object "java/lang/String")) (by decide) rfl rfl (g := (mkF m 11 #[.val (.ref a1), .val (.ref a2), .val .null, .val (.ref a4), .val (.int p5)] [.null, (.ref a1)])) rfl rfl (hb hby d7_11)
  have N3 := Fr.snoc X3 N2 g1
  refine Go.step st3 ?_
  have f3_0 : Exa Z h3 a1 "com/example/grab1/grab1/cli/Command$Option" := (f2_0.wr W3)
  have f3_1 : Fld Z h3 a1 "com/example/grab1/grab1/cli/Command$Option" "name" "Ljava/lang/String;" (.ref a2) := (f2_1.other W3 (Or.inr (slot_ne (Or.inr (hw _ (List.mem_of_getElem? (i := 43) rfl))) (Or.inr (hw _ (List.mem_of_getElem? (i := 45) rfl))) (by decide) (t := (.object "java/lang/String")) (t' := (.object "java/lang/String")) (by decide) (by decide))))
  have f3_2 : Fld Z h3 a1 "com/example/grab1/grab1/cli/Command$Option" "value" "Ljava/lang/String;" .null := (f2_2.same W3)
  have f3_3 : Fld Z h3 a1 "com/example/grab1/grab1/cli/Command$Option" "fallback" "Ljava/lang/String;" .null := (f2_3.other W3 (Or.inr (slot_ne (Or.inr (hw _ (List.mem_of_getElem? (i := 47) rfl))) (Or.inr (hw _ (List.mem_of_getElem? (i := 45) rfl))) (by decide) (t := (.object "java/lang/String")) (t' := (.object "java/lang/String")) (by decide) (by decide))))
  have f3_4 : Fld Z h3 a1 "com/example/grab1/grab1/cli/Command$Option" "required" "Z" (.int (0 : Int32)) := (f2_4.other W3 (Or.inr (slot_ne (Or.inr (hw _ (List.mem_of_getElem? (i := 49) rfl))) (Or.inr (hw _ (List.mem_of_getElem? (i := 45) rfl))) (by decide) (t := .boolean) (t' := (.object "java/lang/String")) (by decide) (by decide))))
  have Zs3 : n0 ≤ h3.size := (Nat.le_trans Zs2 (Keep.of_wr W3).1)
  have K3 : Keep h0 h3 [a1] := K2.wr W3 (Or.inl (List.mem_of_getElem? (i := 0) rfl))
  show Go _ _ _ _ _ _ _ T3 (mkF m 14 #[.val (.ref a1), .val (.ref a2), .val .null, .val (.ref a4), .val (.int p5)] [])
  refine Go.step (fun t k => XS.aloadN X3.here hx rfl (hb hby d7_14) rfl rfl k) ?_
  show Go _ _ _ _ _ _ _ T3 (mkF m 15 #[.val (.ref a1), .val (.ref a2), .val .null, .val (.ref a4), .val (.int p5)] [(.ref a1)])
  refine Go.step (fun t k => XS.aloadN X3.here hx rfl (hb hby d7_15) rfl rfl k) ?_
  show Go _ _ _ _ _ _ _ T3 (mkF m 16 #[.val (.ref a1), .val (.ref a2), .val .null, .val (.ref a4), .val (.int p5)] [(.ref a4), (.ref a1)])
  obtain ⟨T4, h4, X4, e4, W4, st4⟩ := putF X3 hx hZ hown (host := "") (Or.inl (hw _ (List.mem_of_getElem? (i := 46) rfl))) Via.refl e3 f3_3 f3_0 (Or.inr ⟨(hw _ (List.mem_of_getElem? (i := 47) rfl)), rfl, hnm⟩) (hw _ (List.mem_of_getElem? (i := 31) rfl)) (ty := (.object "java/lang/String")) (by decide) rfl rfl (g := (mkF m 16 #[.val (.ref a1), .val (.ref a2), .val .null, .val (.ref a4), .val (.int p5)] [(.ref a4), (.ref a1)])) rfl rfl (hb hby d7_16)
  have N4 := Fr.snoc X4 N3 g1
  refine Go.step st4 ?_
  have f4_0 : Exa Z h4 a1 "com/example/grab1/grab1/cli/Command$Option" := (f3_0.wr W4)
  have f4_1 : Fld Z h4 a1 "com/example/grab1/grab1/cli/Command$Option" "name" "Ljava/lang/String;" (.ref a2) := (f3_1.other W4 (Or.inr (slot_ne (Or.inr (hw _ (List.mem_of_getElem? (i := 43) rfl))) (Or.inr (hw _ (List.mem_of_getElem? (i := 47) rfl))) (by decide) (t := (.object "java/lang/String")) (t' := (.object "java/lang/String")) (by decide) (by decide))))
  have f4_2 : Fld Z h4 a1 "com/example/grab1/grab1/cli/Command$Option" "value" "Ljava/lang/String;" .null := (f3_2.other W4 (Or.inr (slot_ne (Or.inr (hw _ (List.mem_of_getElem? (i := 45) rfl))) (Or.inr (hw _ (List.mem_of_getElem? (i := 47) rfl))) (by decide) (t := (.object "java/lang/String")) (t' := (.object "java/lang/String")) (by decide) (by decide))))
  have f4_3 : Fld Z h4 a1 "com/example/grab1/grab1/cli/Command$Option" "fallback" "Ljava/lang/String;" (.ref a4) := (f3_3.same W4)
  have f4_4 : Fld Z h4 a1 "com/example/grab1/grab1/cli/Command$Option" "required" "Z" (.int (0 : Int32)) := (f3_4.other W4 (Or.inr (slot_ne (Or.inr (hw _ (List.mem_of_getElem? (i := 49) rfl))) (Or.inr (hw _ (List.mem_of_getElem? (i := 47) rfl))) (by decide) (t := .boolean) (t' := (.object "java/lang/String")) (by decide) (by decide))))
  have Zs4 : n0 ≤ h4.size := (Nat.le_trans Zs3 (Keep.of_wr W4).1)
  have K4 : Keep h0 h4 [a1] := K3.wr W4 (Or.inl (List.mem_of_getElem? (i := 0) rfl))
  show Go _ _ _ _ _ _ _ T4 (mkF m 19 #[.val (.ref a1), .val (.ref a2), .val .null, .val (.ref a4), .val (.int p5)] [])
  refine Go.step (fun t k => XS.aloadN X4.here hx rfl (hb hby d7_19) rfl rfl k) ?_
  show Go _ _ _ _ _ _ _ T4 (mkF m 20 #[.val (.ref a1), .val (.ref a2), .val .null, .val (.ref a4), .val (.int p5)] [(.ref a1)])
  refine Go.step (fun t k => XS.iload X4.here hx rfl (hb hby d7_20) rfl k) ?_
  show Go _ _ _ _ _ _ _ T4 (mkF m 22 #[.val (.ref a1), .val (.ref a2), .val .null, .val (.ref a4), .val (.int p5)] [(.int p5), (.ref a1)])
  obtain ⟨T5, h5, X5, e5, W5, st5⟩ := putF X4 hx hZ hown (host := "") (Or.inl (hw _ (List.mem_of_getElem? (i := 48) rfl))) Via.refl e4 f4_4 f4_0 (Or.inr ⟨(hw _ (List.mem_of_getElem? (i := 49) rfl)), rfl, hnm⟩) (hw _ (List.mem_of_getElem? (i := 31) rfl)) (ty := .boolean) (by decide) hn4 hf4 (g := (mkF m 22 #[.val (.ref a1), .val (.ref a2), .val .null, .val (.ref a4), .val (.int p5)] [(.int p5), (.ref a1)])) rfl rfl (hb hby d7_22)
  have N5 := Fr.snoc X5 N4 g1
  refine Go.step st5 ?_
  have f5_0 : Exa Z h5 a1 "com/example/grab1/grab1/cli/Command$Option" := (f4_0.wr W5)
  have f5_1 : Fld Z h5 a1 "com/example/grab1/grab1/cli/Command$Option" "name" "Ljava/lang/String;" (.ref a2) := (f4_1.other W5 (Or.inr (slot_ne (Or.inr (hw _ (List.mem_of_getElem? (i := 43) rfl))) (Or.inr (hw _ (List.mem_of_getElem? (i := 49) rfl))) (by decide) (t := (.object "java/lang/String")) (t' := .boolean) (by decide) (by decide))))
  have f5_2 : Fld Z h5 a1 "com/example/grab1/grab1/cli/Command$Option" "value" "Ljava/lang/String;" .null := (f4_2.other W5 (Or.inr (slot_ne (Or.inr (hw _ (List.mem_of_getElem? (i := 45) rfl))) (Or.inr (hw _ (List.mem_of_getElem? (i := 49) rfl))) (by decide) (t := (.object "java/lang/String")) (t' := .boolean) (by decide) (by decide))))
  have f5_3 : Fld Z h5 a1 "com/example/grab1/grab1/cli/Command$Option" "fallback" "Ljava/lang/String;" (.ref a4) := (f4_3.other W5 (Or.inr (slot_ne (Or.inr (hw _ (List.mem_of_getElem? (i := 47) rfl))) (Or.inr (hw _ (List.mem_of_getElem? (i := 49) rfl))) (by decide) (t := (.object "java/lang/String")) (t' := .boolean) (by decide) (by decide))))
  have f5_4 : Fld Z h5 a1 "com/example/grab1/grab1/cli/Command$Option" "required" "Z" (.int p5) := (f4_4.same W5)
  have Zs5 : n0 ≤ h5.size := (Nat.le_trans Zs4 (Keep.of_wr W5).1)
  have K5 : Keep h0 h5 [a1] := K4.wr W5 (Or.inl (List.mem_of_getElem? (i := 0) rfl))
  show Go _ _ _ _ _ _ _ T5 (mkF m 25 #[.val (.ref a1), .val (.ref a2), .val .null, .val (.ref a4), .val (.int p5)] [])
  refine Go.retV X5 hx hlk hret (hb hby d7_25) ?_ (by decide) (by decide)
  show QOInr Z _ _ _ _ _ _ _ T5.heap _
  rw [e5]
  exact ⟨rfl, N5, K5, f5_0, f5_2⟩
theorem ef_rmIFn (m : MethodId) (a1 : Addr) : entryFrame m #[(.ref a1)] 1 = mkF m 0 #[.val (.ref a1)] [] := by first | (simp [entryFrame, mkF, argsToLocals, Value.category]; done) | rfl
def QIFn (Z : State) (a1 : Addr) (h0 : Heap) (n0 : Nat) (v : Option Value) (h : Heap) (L : List Loc) : Prop := v = some (.int (1 : Int32)) ∧ Fr n0 L ∧ h = h0
theorem d9_0 : decode prog_17_method_6_code 0 = .ok (.aload_n 0, 1) := by decide +kernel
theorem d9_1 : decode prog_17_method_6_code 1 = .ok (.getfield 13, 3) := by decide +kernel
theorem d9_4 : decode prog_17_method_6_code 4 = .ok (.ifnonnull 7, 3) := by decide +kernel
theorem d9_7 : decode prog_17_method_6_code 7 = .ok (.iconst 1, 1) := by decide +kernel
theorem d9_8 : decode prog_17_method_6_code 8 = .ok (.goto 4, 3) := by decide +kernel
theorem d9_12 : decode prog_17_method_6_code 12 = .ok (.ireturn, 1) := by decide +kernel
set_option maxRecDepth 65536 in
set_option maxHeartbeats 40000000 in
theorem rmIFn (l : Launch) (Z : State) (a0 : Array Value) (hw : ∀ d ∈ tables_1, d.before a0 Z = true) (ws : List Jvm.Cond) (a1 : Addr) (h0 : Heap) (n0 : Nat) (Z0 : n0 ≤ h0.size) (F1 : Fld Z h0 a1 "com/example/grab1/grab1/cli/Command$Option" "value" "Ljava/lang/String;" .null) :
    MetFree l (⟨"com/example/grab1/grab1/cli/Command$Option", "isFlag", "()Z"⟩ : MethodName) (head1 (Jvm.Cond.code (⟨"com/example/grab1/grab1/cli/Command$Option", "isFlag", "()Z"⟩ : MethodName) prog_17_method_6_code 1 (some .boolean) :: ws) ({ frames := 0, cells := 0, slots := 0, locals := 0 } : Room)) (fun a U => a = #[(.ref a1)] ∧ Z.Warmed39 U.vm ∧ U.heap = h0) (fun _ _ _ _ _ => True) (fun _ U o U' => ∃ v L, o = .returned v ∧ QIFn Z a1  h0 n0 v U'.heap L ∧ FrameEnd U o U' L ({ frames := 0, cells := 0, slots := 0, locals := 0 } : Room).cells ({ frames := 0, cells := 0, slots := 0, locals := 0 } : Room).slots) := by
  refine MetFree.of_bodySF (plainFor_of_name pn_2) hisR ?_
  intro p e s m args below meth c s₁ Bd hml0 hP hK
  obtain ⟨rfl, hZ, hh⟩ := hP
  have hx := Bd.exec
  have hby := Bd.bytes
  have hlk := BodyLoose.notSynchronized Bd
  have hml : c.maxLocals = 1 := hml0
  have hret := Bd.returns
  have hown : s.vm.findClass "com/example/grab1/grab1/cli/Command$Option" = some m.cls := findClass_of_methodNamed Bd.named
  have hnm := (name_of_methodNamed Bd.named Bd.method).1
  have X0 : Stand p l e ({ frames := 0, cells := 0, slots := 0, locals := 0 } : Room) s m #[(.ref a1)] below meth c s₁ [] 0 0 := Stand.of_body Bd
  have e0 : s₁.heap = h0 := by rw [← hh, Bd.state]; rfl
  have N0 := Fr.nil n0
  show Go p e below s ({ frames := 0, cells := 0, slots := 0, locals := 0 } : Room).cells ({ frames := 0, cells := 0, slots := 0, locals := 0 } : Room).slots (QIFn Z a1  h0 n0) s₁ (entryFrame m #[(.ref a1)] 1)
  refine Go.cast (ef_rmIFn m a1) ?_
  show Go _ _ _ _ _ _ _ s₁ (mkF m 0 #[.val (.ref a1)] [])
  refine Go.step (fun t k => XS.aloadN X0.here hx rfl (hb hby d9_0) rfl rfl k) ?_
  show Go _ _ _ _ _ _ _ s₁ (mkF m 1 #[.val (.ref a1)] [(.ref a1)])
  obtain ⟨T1, X1, e1, st1⟩ := getF X0 hx hZ hown (host := "") (Or.inl (hw _ (List.mem_of_getElem? (i := 44) rfl))) Via.refl e0 F1 (g := (mkF m 1 #[.val (.ref a1)] [(.ref a1)])) rfl rfl (hb hby d9_1)
  refine Go.step st1 ?_
  show Go _ _ _ _ _ _ _ T1 (mkF m 4 #[.val (.ref a1)] [.null])
  refine Go.step (fun t k => XT.ifnonnullNo X1.here hx rfl (hb hby d9_4) rfl k) ?_
  show Go _ _ _ _ _ _ _ T1 (mkF m 7 #[.val (.ref a1)] [])
  refine Go.step (fun t k => XS.iconst X1.here hx rfl (hb hby d9_7) k) ?_
  show Go _ _ _ _ _ _ _ T1 (mkF m 8 #[.val (.ref a1)] [(.int (1 : Int32))])
  refine Go.step (fun t k => XS.goto X1.here hx rfl (pc0 := 8) (pc' := 12) rfl (hb hby d9_8) (by decide) (by decide) k) ?_
  show Go _ _ _ _ _ _ _ T1 (mkF m 12 #[.val (.ref a1)] [(.int (1 : Int32))])
  refine Go.ret X1 hx hlk hret rfl (Or.inl ⟨rfl, Or.inr (Or.inl rfl), _, rfl⟩) (hb hby d9_12) ?_ (by decide) (by decide)
  show QIFn Z _ _ _ _ T1.heap _
  exact ⟨rfl, N0, e1⟩
theorem ef_rmOIrn (m : MethodId) (a1 : Addr) (a2 : Addr) (a3 : Addr) (p5 : Int32) : entryFrame m #[(.ref a1), (.ref a2), (.ref a3), .null, (.int p5)] 5 = mkF m 0 #[.val (.ref a1), .val (.ref a2), .val (.ref a3), .val .null, .val (.int p5)] [] := by first | (simp [entryFrame, mkF, argsToLocals, Value.category]; done) | rfl
def QOIrn (Z : State) (a1 : Addr) (a2 : Addr) (a3 : Addr) (p5 : Int32) (h0 : Heap) (n0 : Nat) (v : Option Value) (h : Heap) (L : List Loc) : Prop := v = none ∧ Fr n0 L ∧ Keep h0 h [a1] ∧ Exa Z h a1 "com/example/grab1/grab1/cli/Command$Option" ∧ Fld Z h a1 "com/example/grab1/grab1/cli/Command$Option" "value" "Ljava/lang/String;" (.ref a3)
set_option maxRecDepth 65536 in
set_option maxHeartbeats 40000000 in
theorem rmOIrn (l : Launch) (Z : State) (a0 : Array Value) (hw : ∀ d ∈ tables_1, d.before a0 Z = true) (ws : List Jvm.Cond) (a1 : Addr) (a2 : Addr) (a3 : Addr) (p5 : Int32) (h0 : Heap) (n0 : Nat) (Z0 : n0 ≤ h0.size) (g1 : n0 ≤ a1) (E1 : Exa Z h0 a1 "com/example/grab1/grab1/cli/Command$Option") (F_name : Fld Z h0 a1 "com/example/grab1/grab1/cli/Command$Option" "name" "Ljava/lang/String;" .null) (F_value : Fld Z h0 a1 "com/example/grab1/grab1/cli/Command$Option" "value" "Ljava/lang/String;" .null) (F_fallback : Fld Z h0 a1 "com/example/grab1/grab1/cli/Command$Option" "fallback" "Ljava/lang/String;" .null) (F_required : Fld Z h0 a1 "com/example/grab1/grab1/cli/Command$Option" "required" "Z" (.int (0 : Int32))) (hn4 : narrow .boolean (.int p5) = .int p5) (hf4 : fits .boolean (.int p5) = true) :
    MetFree l (⟨"com/example/grab1/grab1/cli/Command$Option", "<init>", "(Ljava/lang/String;Ljava/lang/String;Ljava/lang/String;Z)V"⟩ : MethodName) (head1 (Jvm.Cond.code (⟨"com/example/grab1/grab1/cli/Command$Option", "<init>", "(Ljava/lang/String;Ljava/lang/String;Ljava/lang/String;Z)V"⟩ : MethodName) prog_17_method_2_code 5 none :: ws) ({ frames := 2, cells := 0, slots := 0, locals := 24 } : Room)) (fun a U => a = #[(.ref a1), (.ref a2), (.ref a3), .null, (.int p5)] ∧ Z.Warmed39 U.vm ∧ U.heap = h0) (fun _ _ _ _ _ => True) (fun _ U o U' => ∃ v L, o = .returned v ∧ QOIrn Z a1 a2 a3 p5  h0 n0 v U'.heap L ∧ FrameEnd U o U' L ({ frames := 2, cells := 0, slots := 0, locals := 24 } : Room).cells ({ frames := 2, cells := 0, slots := 0, locals := 24 } : Room).slots) := by
  refine MetFree.of_bodySF (plainFor_of_name pn_2) hisR ?_
  intro p e s m args below meth c s₁ Bd hml0 hP hK
  obtain ⟨rfl, hZ, hh⟩ := hP
  have hx := Bd.exec
  have hby := Bd.bytes
  have hlk := BodyLoose.notSynchronized Bd
  have hml : c.maxLocals = 5 := hml0
  have hret := Bd.returns
  have hown : s.vm.findClass "com/example/grab1/grab1/cli/Command$Option" = some m.cls := findClass_of_methodNamed Bd.named
  have hnm := (name_of_methodNamed Bd.named Bd.method).1
  have X0 : Stand p l e ({ frames := 2, cells := 0, slots := 0, locals := 24 } : Room) s m #[(.ref a1), (.ref a2), (.ref a3), .null, (.int p5)] below meth c s₁ [] 0 0 := Stand.of_body Bd
  have e0 : s₁.heap = h0 := by rw [← hh, Bd.state]; rfl
  have N0 := Fr.nil n0
  show Go p e below s ({ frames := 2, cells := 0, slots := 0, locals := 24 } : Room).cells ({ frames := 2, cells := 0, slots := 0, locals := 24 } : Room).slots (QOIrn Z a1 a2 a3 p5  h0 n0) s₁ (entryFrame m #[(.ref a1), (.ref a2), (.ref a3), .null, (.int p5)] 5)
  refine Go.cast (ef_rmOIrn m a1 a2 a3 p5) ?_
  have K0 : Keep h0 h0 [a1] := Keep.refl _ _
  show Go _ _ _ _ _ _ _ s₁ (mkF m 0 #[.val (.ref a1), .val (.ref a2), .val (.ref a3), .val .null, .val (.int p5)] [])
  refine Go.step (fun t k => XS.aloadN X0.here hx rfl (hb hby d7_0) rfl rfl k) ?_
  show Go _ _ _ _ _ _ _ s₁ (mkF m 1 #[.val (.ref a1), .val (.ref a2), .val (.ref a3), .val .null, .val (.int p5)] [(.ref a1)])
  obtain ⟨_, _, ⟨T1, L1, k1, n1⟩, -, X1, ⟨Lc1, hQ1, l1, y1, z1⟩, st1⟩ := X0.specialBack hx (y := (⟨"java/lang/Record", "<init>", "()V"⟩ : MethodName)) rfl hown (mvT hZ (hw _ (List.mem_of_getElem? (i := 36) rfl))) (mvT hZ (hw _ (List.mem_of_getElem? (i := 37) rfl))) (mvT hZ (hw _ (List.mem_of_getElem? (i := 40) rfl))) (by decide) (backOf (W := 0) (rmRec l Z a0 hw [] a1 h0 n0 Z0 ) hZ (hw _ (List.mem_of_getElem? (i := 40) rfl)) (hw _ (List.mem_of_getElem? (i := 39) rfl)) (by decide) (by decide)) (g := (mkF m 1 #[.val (.ref a1), .val (.ref a2), .val (.ref a3), .val .null, .val (.int p5)] [(.ref a1)])) rfl (by rw [hml]; rfl) (Steps.refl _) (a := a1) (argsL := []) (rest := []) (lenOf pd_1 rfl) rfl (by show 2 * 0 + _ ≤ _; exact Nat.le_of_eq rfl) (hb hby d7_1) (fun _ _ => ⟨rfl, e0, (by decide : 0 + 0 ≤ _), (by decide : 0 + 0 ≤ _)⟩)
  dsimp only [Pt.U, Pt.locs, Pt.cells, Pt.slots] at X1 l1 y1 z1 st1 hQ1
  subst l1 y1 z1
  obtain ⟨rfl, N1q, e1⟩ := hQ1
  have N1 := Fr.app N0 N1q
  refine Go.step (fun t k => st1.trans k) ?_
  show Go _ _ _ _ _ _ _ T1 (mkF m 4 #[.val (.ref a1), .val (.ref a2), .val (.ref a3), .val .null, .val (.int p5)] [])
  refine Go.step (fun t k => XS.aloadN X1.here hx rfl (hb hby d7_4) rfl rfl k) ?_
  show Go _ _ _ _ _ _ _ T1 (mkF m 5 #[.val (.ref a1), .val (.ref a2), .val (.ref a3), .val .null, .val (.int p5)] [(.ref a1)])
  refine Go.step (fun t k => XS.aloadN X1.here hx rfl (hb hby d7_5) rfl rfl k) ?_
  show Go _ _ _ _ _ _ _ T1 (mkF m 6 #[.val (.ref a1), .val (.ref a2), .val (.ref a3), .val .null, .val (.int p5)] [(.ref a2), (.ref a1)])
  obtain ⟨T2, h2, X2, e2, W2, st2⟩ := putF X1 hx hZ hown (host := "") (Or.inl (hw _ (List.mem_of_getElem? (i := 42) rfl))) Via.refl (e1) F_name E1 (Or.inr ⟨(hw _ (List.mem_of_getElem? (i := 43) rfl)), rfl, hnm⟩) (hw _ (List.mem_of_getElem? (i := 31) rfl)) (ty := (.object "java/lang/String")) (by decide) rfl rfl (g := (mkF m 6 #[.val (.ref a1), .val (.ref a2), .val (.ref a3), .val .null, .val (.int p5)] [(.ref a2), (.ref a1)])) rfl rfl (hb hby d7_6)
  have N2 := Fr.snoc X2 N1 g1
  refine Go.step st2 ?_
  have f2_0 : Exa Z h2 a1 "com/example/grab1/grab1/cli/Command$Option" := (E1.wr W2)
  have f2_1 : Fld Z h2 a1 "com/example/grab1/grab1/cli/Command$Option" "name" "Ljava/lang/String;" (.ref a2) := (F_name.same W2)
  have f2_2 : Fld Z h2 a1 "com/example/grab1/grab1/cli/Command$Option" "value" "Ljava/lang/String;" .null := (F_value.other W2 (Or.inr (slot_ne (Or.inr (hw _ (List.mem_of_getElem? (i := 45) rfl))) (Or.inr (hw _ (List.mem_of_getElem? (i := 43) rfl))) (by decide) (t := (.object "java/lang/String")) (t' := (.object "java/lang/String")) (by decide) (by decide))))
  have f2_3 : Fld Z h2 a1 "com/example/grab1/grab1/cli/Command$Option" "fallback" "Ljava/lang/String;" .null := (F_fallback.other W2 (Or.inr (slot_ne (Or.inr (hw _ (List.mem_of_getElem? (i := 47) rfl))) (Or.inr (hw _ (List.mem_of_getElem? (i := 43) rfl))) (by decide) (t := (.object "java/lang/String")) (t' := (.object "java/lang/String")) (by decide) (by decide))))
  have f2_4 : Fld Z h2 a1 "com/example/grab1/grab1/cli/Command$Option" "required" "Z" (.int (0 : Int32)) := (F_required.other W2 (Or.inr (slot_ne (Or.inr (hw _ (List.mem_of_getElem? (i := 49) rfl))) (Or.inr (hw _ (List.mem_of_getElem? (i := 43) rfl))) (by decide) (t := .boolean) (t' := (.object "java/lang/String")) (by decide) (by decide))))
  have Zs2 : n0 ≤ h2.size := (Nat.le_trans Z0 (Keep.of_wr W2).1)
  have K2 : Keep h0 h2 [a1] := K0.wr W2 (Or.inl (List.mem_of_getElem? (i := 0) rfl))
  show Go _ _ _ _ _ _ _ T2 (mkF m 9 #[.val (.ref a1), .val (.ref a2), .val (.ref a3), .val .null, .val (.int p5)] [])
  refine Go.step (fun t k => XS.aloadN X2.here hx rfl (hb hby d7_9) rfl rfl k) ?_
  show Go _ _ _ _ _ _ _ T2 (mkF m 10 #[.val (.ref a1), .val (.ref a2), .val (.ref a3), .val .null, .val (.int p5)] [(.ref a1)])
  refine Go.step (fun t k => XS.aloadN X2.here hx rfl (hb hby d7_10) rfl rfl k) ?_
  show Go _ _ _ _ _ _ _ T2 (mkF m 11 #[.val (.ref a1), .val (.ref a2), .val (.ref a3), .val .null, .val (.int p5)] [(.ref a3), (.ref a1)])
  obtain ⟨T3, h3, X3, e3, W3, st3⟩ := putF X2 hx hZ hown (host := "") (Or.inl (hw _ (List.mem_of_getElem? (i := 44) rfl))) Via.refl e2 f2_2 f2_0 (Or.inr ⟨(hw _ (List.mem_of_getElem? (i := 45) rfl)), rfl, hnm⟩) (hw _ (List.mem_of_getElem? (i := 31) rfl)) (ty := (.object "java/lang/String")) (by decide) rfl rfl (g := (mkF m 11 #[.val (.ref a1), .val (.ref a2), .val (.ref a3), .val .null, .val (.int p5)] [(.ref a3), (.ref a1)])) rfl rfl (hb hby d7_11)
  have N3 := Fr.snoc X3 N2 g1
  refine Go.step st3 ?_
  have f3_0 : Exa Z h3 a1 "com/example/grab1/grab1/cli/Command$Option" := (f2_0.wr W3)
  have f3_1 : Fld Z h3 a1 "com/example/grab1/grab1/cli/Command$Option" "name" "Ljava/lang/String;" (.ref a2) := (f2_1.other W3 (Or.inr (slot_ne (Or.inr (hw _ (List.mem_of_getElem? (i := 43) rfl))) (Or.inr (hw _ (List.mem_of_getElem? (i := 45) rfl))) (by decide) (t := (.object "java/lang/String")) (t' := (.object "java/lang/String")) (by decide) (by decide))))
  have f3_2 : Fld Z h3 a1 "com/example/grab1/grab1/cli/Command$Option" "value" "Ljava/lang/String;" (.ref a3) := (f2_2.same W3)
  have f3_3 : Fld Z h3 a1 "com/example/grab1/grab1/cli/Command$Option" "fallback" "Ljava/lang/String;" .null := (f2_3.other W3 (Or.inr (slot_ne (Or.inr (hw _ (List.mem_of_getElem? (i := 47) rfl))) (Or.inr (hw _ (List.mem_of_getElem? (i := 45) rfl))) (by decide) (t := (.object "java/lang/String")) (t' := (.object "java/lang/String")) (by decide) (by decide))))
  have f3_4 : Fld Z h3 a1 "com/example/grab1/grab1/cli/Command$Option" "required" "Z" (.int (0 : Int32)) := (f2_4.other W3 (Or.inr (slot_ne (Or.inr (hw _ (List.mem_of_getElem? (i := 49) rfl))) (Or.inr (hw _ (List.mem_of_getElem? (i := 45) rfl))) (by decide) (t := .boolean) (t' := (.object "java/lang/String")) (by decide) (by decide))))
  have Zs3 : n0 ≤ h3.size := (Nat.le_trans Zs2 (Keep.of_wr W3).1)
  have K3 : Keep h0 h3 [a1] := K2.wr W3 (Or.inl (List.mem_of_getElem? (i := 0) rfl))
  show Go _ _ _ _ _ _ _ T3 (mkF m 14 #[.val (.ref a1), .val (.ref a2), .val (.ref a3), .val .null, .val (.int p5)] [])
  refine Go.step (fun t k => XS.aloadN X3.here hx rfl (hb hby d7_14) rfl rfl k) ?_
  show Go _ _ _ _ _ _ _ T3 (mkF m 15 #[.val (.ref a1), .val (.ref a2), .val (.ref a3), .val .null, .val (.int p5)] [(.ref a1)])
  refine Go.step (fun t k => XS.aloadN X3.here hx rfl (hb hby d7_15) rfl rfl k) ?_
  show Go _ _ _ _ _ _ _ T3 (mkF m 16 #[.val (.ref a1), .val (.ref a2), .val (.ref a3), .val .null, .val (.int p5)] [.null, (.ref a1)])
  obtain ⟨T4, h4, X4, e4, W4, st4⟩ := putF X3 hx hZ hown (host := "") (Or.inl (hw _ (List.mem_of_getElem? (i := 46) rfl))) Via.refl e3 f3_3 f3_0 (Or.inr ⟨(hw _ (List.mem_of_getElem? (i := 47) rfl)), rfl, hnm⟩) (hw _ (List.mem_of_getElem? (i := 31) rfl)) (ty := (.object "java/lang/String")) (by decide) rfl rfl (g := (mkF m 16 #[.val (.ref a1), .val (.ref a2), .val (.ref a3), .val .null, .val (.int p5)] [.null, (.ref a1)])) rfl rfl (hb hby d7_16)
  have N4 := Fr.snoc X4 N3 g1
  refine Go.step st4 ?_
  have f4_0 : Exa Z h4 a1 "com/example/grab1/grab1/cli/Command$Option" := (f3_0.wr W4)
  have f4_1 : Fld Z h4 a1 "com/example/grab1/grab1/cli/Command$Option" "name" "Ljava/lang/String;" (.ref a2) := (f3_1.other W4 (Or.inr (slot_ne (Or.inr (hw _ (List.mem_of_getElem? (i := 43) rfl))) (Or.inr (hw _ (List.mem_of_getElem? (i := 47) rfl))) (by decide) (t := (.object "java/lang/String")) (t' := (.object "java/lang/String")) (by decide) (by decide))))
  have f4_2 : Fld Z h4 a1 "com/example/grab1/grab1/cli/Command$Option" "value" "Ljava/lang/String;" (.ref a3) := (f3_2.other W4 (Or.inr (slot_ne (Or.inr (hw _ (List.mem_of_getElem? (i := 45) rfl))) (Or.inr (hw _ (List.mem_of_getElem? (i := 47) rfl))) (by decide) (t := (.object "java/lang/String")) (t' := (.object "java/lang/String")) (by decide) (by decide))))
  have f4_3 : Fld Z h4 a1 "com/example/grab1/grab1/cli/Command$Option" "fallback" "Ljava/lang/String;" .null := (f3_3.same W4)
  have f4_4 : Fld Z h4 a1 "com/example/grab1/grab1/cli/Command$Option" "required" "Z" (.int (0 : Int32)) := (f3_4.other W4 (Or.inr (slot_ne (Or.inr (hw _ (List.mem_of_getElem? (i := 49) rfl))) (Or.inr (hw _ (List.mem_of_getElem? (i := 47) rfl))) (by decide) (t := .boolean) (t' := (.object "java/lang/String")) (by decide) (by decide))))
  have Zs4 : n0 ≤ h4.size := (Nat.le_trans Zs3 (Keep.of_wr W4).1)
  have K4 : Keep h0 h4 [a1] := K3.wr W4 (Or.inl (List.mem_of_getElem? (i := 0) rfl))
  show Go _ _ _ _ _ _ _ T4 (mkF m 19 #[.val (.ref a1), .val (.ref a2), .val (.ref a3), .val .null, .val (.int p5)] [])
  refine Go.step (fun t k => XS.aloadN X4.here hx rfl (hb hby d7_19) rfl rfl k) ?_
  show Go _ _ _ _ _ _ _ T4 (mkF m 20 #[.val (.ref a1), .val (.ref a2), .val (.ref a3), .val .null, .val (.int p5)] [(.ref a1)])
  refine Go.step (fun t k => XS.iload X4.here hx rfl (hb hby d7_20) rfl k) ?_
  show Go _ _ _ _ _ _ _ T4 (mkF m 22 #[.val (.ref a1), .val (.ref a2), .val (.ref a3), .val .null, .val (.int p5)] [(.int p5), (.ref a1)])
  obtain ⟨T5, h5, X5, e5, W5, st5⟩ := putF X4 hx hZ hown (host := "") (Or.inl (hw _ (List.mem_of_getElem? (i := 48) rfl))) Via.refl e4 f4_4 f4_0 (Or.inr ⟨(hw _ (List.mem_of_getElem? (i := 49) rfl)), rfl, hnm⟩) (hw _ (List.mem_of_getElem? (i := 31) rfl)) (ty := .boolean) (by decide) hn4 hf4 (g := (mkF m 22 #[.val (.ref a1), .val (.ref a2), .val (.ref a3), .val .null, .val (.int p5)] [(.int p5), (.ref a1)])) rfl rfl (hb hby d7_22)
  have N5 := Fr.snoc X5 N4 g1
  refine Go.step st5 ?_
  have f5_0 : Exa Z h5 a1 "com/example/grab1/grab1/cli/Command$Option" := (f4_0.wr W5)
  have f5_1 : Fld Z h5 a1 "com/example/grab1/grab1/cli/Command$Option" "name" "Ljava/lang/String;" (.ref a2) := (f4_1.other W5 (Or.inr (slot_ne (Or.inr (hw _ (List.mem_of_getElem? (i := 43) rfl))) (Or.inr (hw _ (List.mem_of_getElem? (i := 49) rfl))) (by decide) (t := (.object "java/lang/String")) (t' := .boolean) (by decide) (by decide))))
  have f5_2 : Fld Z h5 a1 "com/example/grab1/grab1/cli/Command$Option" "value" "Ljava/lang/String;" (.ref a3) := (f4_2.other W5 (Or.inr (slot_ne (Or.inr (hw _ (List.mem_of_getElem? (i := 45) rfl))) (Or.inr (hw _ (List.mem_of_getElem? (i := 49) rfl))) (by decide) (t := (.object "java/lang/String")) (t' := .boolean) (by decide) (by decide))))
  have f5_3 : Fld Z h5 a1 "com/example/grab1/grab1/cli/Command$Option" "fallback" "Ljava/lang/String;" .null := (f4_3.other W5 (Or.inr (slot_ne (Or.inr (hw _ (List.mem_of_getElem? (i := 47) rfl))) (Or.inr (hw _ (List.mem_of_getElem? (i := 49) rfl))) (by decide) (t := (.object "java/lang/String")) (t' := .boolean) (by decide) (by decide))))
  have f5_4 : Fld Z h5 a1 "com/example/grab1/grab1/cli/Command$Option" "required" "Z" (.int p5) := (f4_4.same W5)
  have Zs5 : n0 ≤ h5.size := (Nat.le_trans Zs4 (Keep.of_wr W5).1)
  have K5 : Keep h0 h5 [a1] := K4.wr W5 (Or.inl (List.mem_of_getElem? (i := 0) rfl))
  show Go _ _ _ _ _ _ _ T5 (mkF m 25 #[.val (.ref a1), .val (.ref a2), .val (.ref a3), .val .null, .val (.int p5)] [])
  refine Go.retV X5 hx hlk hret (hb hby d7_25) ?_ (by decide) (by decide)
  show QOIrn Z _ _ _ _ _ _ _ T5.heap _
  rw [e5]
  exact ⟨rfl, N5, K5, f5_0, f5_2⟩
theorem ef_rmOIrr (m : MethodId) (a1 : Addr) (a2 : Addr) (a3 : Addr) (a4 : Addr) (p5 : Int32) : entryFrame m #[(.ref a1), (.ref a2), (.ref a3), (.ref a4), (.int p5)] 5 = mkF m 0 #[.val (.ref a1), .val (.ref a2), .val (.ref a3), .val (.ref a4), .val (.int p5)] [] := by first | (simp [entryFrame, mkF, argsToLocals, Value.category]; done) | rfl
def QOIrr (Z : State) (a1 : Addr) (a2 : Addr) (a3 : Addr) (a4 : Addr) (p5 : Int32) (h0 : Heap) (n0 : Nat) (v : Option Value) (h : Heap) (L : List Loc) : Prop := v = none ∧ Fr n0 L ∧ Keep h0 h [a1] ∧ Exa Z h a1 "com/example/grab1/grab1/cli/Command$Option" ∧ Fld Z h a1 "com/example/grab1/grab1/cli/Command$Option" "value" "Ljava/lang/String;" (.ref a3)
set_option maxRecDepth 65536 in
set_option maxHeartbeats 40000000 in
theorem rmOIrr (l : Launch) (Z : State) (a0 : Array Value) (hw : ∀ d ∈ tables_1, d.before a0 Z = true) (ws : List Jvm.Cond) (a1 : Addr) (a2 : Addr) (a3 : Addr) (a4 : Addr) (p5 : Int32) (h0 : Heap) (n0 : Nat) (Z0 : n0 ≤ h0.size) (g1 : n0 ≤ a1) (E1 : Exa Z h0 a1 "com/example/grab1/grab1/cli/Command$Option") (F_name : Fld Z h0 a1 "com/example/grab1/grab1/cli/Command$Option" "name" "Ljava/lang/String;" .null) (F_value : Fld Z h0 a1 "com/example/grab1/grab1/cli/Command$Option" "value" "Ljava/lang/String;" .null) (F_fallback : Fld Z h0 a1 "com/example/grab1/grab1/cli/Command$Option" "fallback" "Ljava/lang/String;" .null) (F_required : Fld Z h0 a1 "com/example/grab1/grab1/cli/Command$Option" "required" "Z" (.int (0 : Int32))) (hn4 : narrow .boolean (.int p5) = .int p5) (hf4 : fits .boolean (.int p5) = true) :
    MetFree l (⟨"com/example/grab1/grab1/cli/Command$Option", "<init>", "(Ljava/lang/String;Ljava/lang/String;Ljava/lang/String;Z)V"⟩ : MethodName) (head1 (Jvm.Cond.code (⟨"com/example/grab1/grab1/cli/Command$Option", "<init>", "(Ljava/lang/String;Ljava/lang/String;Ljava/lang/String;Z)V"⟩ : MethodName) prog_17_method_2_code 5 none :: ws) ({ frames := 2, cells := 0, slots := 0, locals := 24 } : Room)) (fun a U => a = #[(.ref a1), (.ref a2), (.ref a3), (.ref a4), (.int p5)] ∧ Z.Warmed39 U.vm ∧ U.heap = h0) (fun _ _ _ _ _ => True) (fun _ U o U' => ∃ v L, o = .returned v ∧ QOIrr Z a1 a2 a3 a4 p5  h0 n0 v U'.heap L ∧ FrameEnd U o U' L ({ frames := 2, cells := 0, slots := 0, locals := 24 } : Room).cells ({ frames := 2, cells := 0, slots := 0, locals := 24 } : Room).slots) := by
  refine MetFree.of_bodySF (plainFor_of_name pn_2) hisR ?_
  intro p e s m args below meth c s₁ Bd hml0 hP hK
  obtain ⟨rfl, hZ, hh⟩ := hP
  have hx := Bd.exec
  have hby := Bd.bytes
  have hlk := BodyLoose.notSynchronized Bd
  have hml : c.maxLocals = 5 := hml0
  have hret := Bd.returns
  have hown : s.vm.findClass "com/example/grab1/grab1/cli/Command$Option" = some m.cls := findClass_of_methodNamed Bd.named
  have hnm := (name_of_methodNamed Bd.named Bd.method).1
  have X0 : Stand p l e ({ frames := 2, cells := 0, slots := 0, locals := 24 } : Room) s m #[(.ref a1), (.ref a2), (.ref a3), (.ref a4), (.int p5)] below meth c s₁ [] 0 0 := Stand.of_body Bd
  have e0 : s₁.heap = h0 := by rw [← hh, Bd.state]; rfl
  have N0 := Fr.nil n0
  show Go p e below s ({ frames := 2, cells := 0, slots := 0, locals := 24 } : Room).cells ({ frames := 2, cells := 0, slots := 0, locals := 24 } : Room).slots (QOIrr Z a1 a2 a3 a4 p5  h0 n0) s₁ (entryFrame m #[(.ref a1), (.ref a2), (.ref a3), (.ref a4), (.int p5)] 5)
  refine Go.cast (ef_rmOIrr m a1 a2 a3 a4 p5) ?_
  have K0 : Keep h0 h0 [a1] := Keep.refl _ _
  show Go _ _ _ _ _ _ _ s₁ (mkF m 0 #[.val (.ref a1), .val (.ref a2), .val (.ref a3), .val (.ref a4), .val (.int p5)] [])
  refine Go.step (fun t k => XS.aloadN X0.here hx rfl (hb hby d7_0) rfl rfl k) ?_
  show Go _ _ _ _ _ _ _ s₁ (mkF m 1 #[.val (.ref a1), .val (.ref a2), .val (.ref a3), .val (.ref a4), .val (.int p5)] [(.ref a1)])
  obtain ⟨_, _, ⟨T1, L1, k1, n1⟩, -, X1, ⟨Lc1, hQ1, l1, y1, z1⟩, st1⟩ := X0.specialBack hx (y := (⟨"java/lang/Record", "<init>", "()V"⟩ : MethodName)) rfl hown (mvT hZ (hw _ (List.mem_of_getElem? (i := 36) rfl))) (mvT hZ (hw _ (List.mem_of_getElem? (i := 37) rfl))) (mvT hZ (hw _ (List.mem_of_getElem? (i := 40) rfl))) (by decide) (backOf (W := 0) (rmRec l Z a0 hw [] a1 h0 n0 Z0 ) hZ (hw _ (List.mem_of_getElem? (i := 40) rfl)) (hw _ (List.mem_of_getElem? (i := 39) rfl)) (by decide) (by decide)) (g := (mkF m 1 #[.val (.ref a1), .val (.ref a2), .val (.ref a3), .val (.ref a4), .val (.int p5)] [(.ref a1)])) rfl (by rw [hml]; rfl) (Steps.refl _) (a := a1) (argsL := []) (rest := []) (lenOf pd_1 rfl) rfl (by show 2 * 0 + _ ≤ _; exact Nat.le_of_eq rfl) (hb hby d7_1) (fun _ _ => ⟨rfl, e0, (by decide : 0 + 0 ≤ _), (by decide : 0 + 0 ≤ _)⟩)
  dsimp only [Pt.U, Pt.locs, Pt.cells, Pt.slots] at X1 l1 y1 z1 st1 hQ1
  subst l1 y1 z1
  obtain ⟨rfl, N1q, e1⟩ := hQ1
  have N1 := Fr.app N0 N1q
  refine Go.step (fun t k => st1.trans k) ?_
  show Go _ _ _ _ _ _ _ T1 (mkF m 4 #[.val (.ref a1), .val (.ref a2), .val (.ref a3), .val (.ref a4), .val (.int p5)] [])
  refine Go.step (fun t k => XS.aloadN X1.here hx rfl (hb hby d7_4) rfl rfl k) ?_
  show Go _ _ _ _ _ _ _ T1 (mkF m 5 #[.val (.ref a1), .val (.ref a2), .val (.ref a3), .val (.ref a4), .val (.int p5)] [(.ref a1)])
  refine Go.step (fun t k => XS.aloadN X1.here hx rfl (hb hby d7_5) rfl rfl k) ?_
  show Go _ _ _ _ _ _ _ T1 (mkF m 6 #[.val (.ref a1), .val (.ref a2), .val (.ref a3), .val (.ref a4), .val (.int p5)] [(.ref a2), (.ref a1)])
  obtain ⟨T2, h2, X2, e2, W2, st2⟩ := putF X1 hx hZ hown (host := "") (Or.inl (hw _ (List.mem_of_getElem? (i := 42) rfl))) Via.refl (e1) F_name E1 (Or.inr ⟨(hw _ (List.mem_of_getElem? (i := 43) rfl)), rfl, hnm⟩) (hw _ (List.mem_of_getElem? (i := 31) rfl)) (ty := (.object "java/lang/String")) (by decide) rfl rfl (g := (mkF m 6 #[.val (.ref a1), .val (.ref a2), .val (.ref a3), .val (.ref a4), .val (.int p5)] [(.ref a2), (.ref a1)])) rfl rfl (hb hby d7_6)
  have N2 := Fr.snoc X2 N1 g1
  refine Go.step st2 ?_
  have f2_0 : Exa Z h2 a1 "com/example/grab1/grab1/cli/Command$Option" := (E1.wr W2)
  have f2_1 : Fld Z h2 a1 "com/example/grab1/grab1/cli/Command$Option" "name" "Ljava/lang/String;" (.ref a2) := (F_name.same W2)
  have f2_2 : Fld Z h2 a1 "com/example/grab1/grab1/cli/Command$Option" "value" "Ljava/lang/String;" .null := (F_value.other W2 (Or.inr (slot_ne (Or.inr (hw _ (List.mem_of_getElem? (i := 45) rfl))) (Or.inr (hw _ (List.mem_of_getElem? (i := 43) rfl))) (by decide) (t := (.object "java/lang/String")) (t' := (.object "java/lang/String")) (by decide) (by decide))))
  have f2_3 : Fld Z h2 a1 "com/example/grab1/grab1/cli/Command$Option" "fallback" "Ljava/lang/String;" .null := (F_fallback.other W2 (Or.inr (slot_ne (Or.inr (hw _ (List.mem_of_getElem? (i := 47) rfl))) (Or.inr (hw _ (List.mem_of_getElem? (i := 43) rfl))) (by decide) (t := (.object "java/lang/String")) (t' := (.object "java/lang/String")) (by decide) (by decide))))
  have f2_4 : Fld Z h2 a1 "com/example/grab1/grab1/cli/Command$Option" "required" "Z" (.int (0 : Int32)) := (F_required.other W2 (Or.inr (slot_ne (Or.inr (hw _ (List.mem_of_getElem? (i := 49) rfl))) (Or.inr (hw _ (List.mem_of_getElem? (i := 43) rfl))) (by decide) (t := .boolean) (t' := (.object "java/lang/String")) (by decide) (by decide))))
  have Zs2 : n0 ≤ h2.size := (Nat.le_trans Z0 (Keep.of_wr W2).1)
  have K2 : Keep h0 h2 [a1] := K0.wr W2 (Or.inl (List.mem_of_getElem? (i := 0) rfl))
  show Go _ _ _ _ _ _ _ T2 (mkF m 9 #[.val (.ref a1), .val (.ref a2), .val (.ref a3), .val (.ref a4), .val (.int p5)] [])
  refine Go.step (fun t k => XS.aloadN X2.here hx rfl (hb hby d7_9) rfl rfl k) ?_
  show Go _ _ _ _ _ _ _ T2 (mkF m 10 #[.val (.ref a1), .val (.ref a2), .val (.ref a3), .val (.ref a4), .val (.int p5)] [(.ref a1)])
  refine Go.step (fun t k => XS.aloadN X2.here hx rfl (hb hby d7_10) rfl rfl k) ?_
  show Go _ _ _ _ _ _ _ T2 (mkF m 11 #[.val (.ref a1), .val (.ref a2), .val (.ref a3), .val (.ref a4), .val (.int p5)] [(.ref a3), (.ref a1)])
  obtain ⟨T3, h3, X3, e3, W3, st3⟩ := putF X2 hx hZ hown (host := "") (Or.inl (hw _ (List.mem_of_getElem? (i := 44) rfl))) Via.refl e2 f2_2 f2_0 (Or.inr ⟨(hw _ (List.mem_of_getElem? (i := 45) rfl)), rfl, hnm⟩) (hw _ (List.mem_of_getElem? (i := 31) rfl)) (ty := (.object "java/lang/String")) (by decide) rfl rfl (g := (mkF m 11 #[.val (.ref a1), .val (.ref a2), .val (.ref a3), .val (.ref a4), .val (.int p5)] [(.ref a3), (.ref a1)])) rfl rfl (hb hby d7_11)
  have N3 := Fr.snoc X3 N2 g1
  refine Go.step st3 ?_
  have f3_0 : Exa Z h3 a1 "com/example/grab1/grab1/cli/Command$Option" := (f2_0.wr W3)
  have f3_1 : Fld Z h3 a1 "com/example/grab1/grab1/cli/Command$Option" "name" "Ljava/lang/String;" (.ref a2) := (f2_1.other W3 (Or.inr (slot_ne (Or.inr (hw _ (List.mem_of_getElem? (i := 43) rfl))) (Or.inr (hw _ (List.mem_of_getElem? (i := 45) rfl))) (by decide) (t := (.object "java/lang/String")) (t' := (.object "java/lang/String")) (by decide) (by decide))))
  have f3_2 : Fld Z h3 a1 "com/example/grab1/grab1/cli/Command$Option" "value" "Ljava/lang/String;" (.ref a3) := (f2_2.same W3)
  have f3_3 : Fld Z h3 a1 "com/example/grab1/grab1/cli/Command$Option" "fallback" "Ljava/lang/String;" .null := (f2_3.other W3 (Or.inr (slot_ne (Or.inr (hw _ (List.mem_of_getElem? (i := 47) rfl))) (Or.inr (hw _ (List.mem_of_getElem? (i := 45) rfl))) (by decide) (t := (.object "java/lang/String")) (t' := (.object "java/lang/String")) (by decide) (by decide))))
  have f3_4 : Fld Z h3 a1 "com/example/grab1/grab1/cli/Command$Option" "required" "Z" (.int (0 : Int32)) := (f2_4.other W3 (Or.inr (slot_ne (Or.inr (hw _ (List.mem_of_getElem? (i := 49) rfl))) (Or.inr (hw _ (List.mem_of_getElem? (i := 45) rfl))) (by decide) (t := .boolean) (t' := (.object "java/lang/String")) (by decide) (by decide))))
  have Zs3 : n0 ≤ h3.size := (Nat.le_trans Zs2 (Keep.of_wr W3).1)
  have K3 : Keep h0 h3 [a1] := K2.wr W3 (Or.inl (List.mem_of_getElem? (i := 0) rfl))
  show Go _ _ _ _ _ _ _ T3 (mkF m 14 #[.val (.ref a1), .val (.ref a2), .val (.ref a3), .val (.ref a4), .val (.int p5)] [])
  refine Go.step (fun t k => XS.aloadN X3.here hx rfl (hb hby d7_14) rfl rfl k) ?_
  show Go _ _ _ _ _ _ _ T3 (mkF m 15 #[.val (.ref a1), .val (.ref a2), .val (.ref a3), .val (.ref a4), .val (.int p5)] [(.ref a1)])
  refine Go.step (fun t k => XS.aloadN X3.here hx rfl (hb hby d7_15) rfl rfl k) ?_
  show Go _ _ _ _ _ _ _ T3 (mkF m 16 #[.val (.ref a1), .val (.ref a2), .val (.ref a3), .val (.ref a4), .val (.int p5)] [(.ref a4), (.ref a1)])
  obtain ⟨T4, h4, X4, e4, W4, st4⟩ := putF X3 hx hZ hown (host := "") (Or.inl (hw _ (List.mem_of_getElem? (i := 46) rfl))) Via.refl e3 f3_3 f3_0 (Or.inr ⟨(hw _ (List.mem_of_getElem? (i := 47) rfl)), rfl, hnm⟩) (hw _ (List.mem_of_getElem? (i := 31) rfl)) (ty := (.object "java/lang/String")) (by decide) rfl rfl (g := (mkF m 16 #[.val (.ref a1), .val (.ref a2), .val (.ref a3), .val (.ref a4), .val (.int p5)] [(.ref a4), (.ref a1)])) rfl rfl (hb hby d7_16)
  have N4 := Fr.snoc X4 N3 g1
  refine Go.step st4 ?_
  have f4_0 : Exa Z h4 a1 "com/example/grab1/grab1/cli/Command$Option" := (f3_0.wr W4)
  have f4_1 : Fld Z h4 a1 "com/example/grab1/grab1/cli/Command$Option" "name" "Ljava/lang/String;" (.ref a2) := (f3_1.other W4 (Or.inr (slot_ne (Or.inr (hw _ (List.mem_of_getElem? (i := 43) rfl))) (Or.inr (hw _ (List.mem_of_getElem? (i := 47) rfl))) (by decide) (t := (.object "java/lang/String")) (t' := (.object "java/lang/String")) (by decide) (by decide))))
  have f4_2 : Fld Z h4 a1 "com/example/grab1/grab1/cli/Command$Option" "value" "Ljava/lang/String;" (.ref a3) := (f3_2.other W4 (Or.inr (slot_ne (Or.inr (hw _ (List.mem_of_getElem? (i := 45) rfl))) (Or.inr (hw _ (List.mem_of_getElem? (i := 47) rfl))) (by decide) (t := (.object "java/lang/String")) (t' := (.object "java/lang/String")) (by decide) (by decide))))
  have f4_3 : Fld Z h4 a1 "com/example/grab1/grab1/cli/Command$Option" "fallback" "Ljava/lang/String;" (.ref a4) := (f3_3.same W4)
  have f4_4 : Fld Z h4 a1 "com/example/grab1/grab1/cli/Command$Option" "required" "Z" (.int (0 : Int32)) := (f3_4.other W4 (Or.inr (slot_ne (Or.inr (hw _ (List.mem_of_getElem? (i := 49) rfl))) (Or.inr (hw _ (List.mem_of_getElem? (i := 47) rfl))) (by decide) (t := .boolean) (t' := (.object "java/lang/String")) (by decide) (by decide))))
  have Zs4 : n0 ≤ h4.size := (Nat.le_trans Zs3 (Keep.of_wr W4).1)
  have K4 : Keep h0 h4 [a1] := K3.wr W4 (Or.inl (List.mem_of_getElem? (i := 0) rfl))
  show Go _ _ _ _ _ _ _ T4 (mkF m 19 #[.val (.ref a1), .val (.ref a2), .val (.ref a3), .val (.ref a4), .val (.int p5)] [])
  refine Go.step (fun t k => XS.aloadN X4.here hx rfl (hb hby d7_19) rfl rfl k) ?_
  show Go _ _ _ _ _ _ _ T4 (mkF m 20 #[.val (.ref a1), .val (.ref a2), .val (.ref a3), .val (.ref a4), .val (.int p5)] [(.ref a1)])
  refine Go.step (fun t k => XS.iload X4.here hx rfl (hb hby d7_20) rfl k) ?_
  show Go _ _ _ _ _ _ _ T4 (mkF m 22 #[.val (.ref a1), .val (.ref a2), .val (.ref a3), .val (.ref a4), .val (.int p5)] [(.int p5), (.ref a1)])
  obtain ⟨T5, h5, X5, e5, W5, st5⟩ := putF X4 hx hZ hown (host := "") (Or.inl (hw _ (List.mem_of_getElem? (i := 48) rfl))) Via.refl e4 f4_4 f4_0 (Or.inr ⟨(hw _ (List.mem_of_getElem? (i := 49) rfl)), rfl, hnm⟩) (hw _ (List.mem_of_getElem? (i := 31) rfl)) (ty := .boolean) (by decide) hn4 hf4 (g := (mkF m 22 #[.val (.ref a1), .val (.ref a2), .val (.ref a3), .val (.ref a4), .val (.int p5)] [(.int p5), (.ref a1)])) rfl rfl (hb hby d7_22)
  have N5 := Fr.snoc X5 N4 g1
  refine Go.step st5 ?_
  have f5_0 : Exa Z h5 a1 "com/example/grab1/grab1/cli/Command$Option" := (f4_0.wr W5)
  have f5_1 : Fld Z h5 a1 "com/example/grab1/grab1/cli/Command$Option" "name" "Ljava/lang/String;" (.ref a2) := (f4_1.other W5 (Or.inr (slot_ne (Or.inr (hw _ (List.mem_of_getElem? (i := 43) rfl))) (Or.inr (hw _ (List.mem_of_getElem? (i := 49) rfl))) (by decide) (t := (.object "java/lang/String")) (t' := .boolean) (by decide) (by decide))))
  have f5_2 : Fld Z h5 a1 "com/example/grab1/grab1/cli/Command$Option" "value" "Ljava/lang/String;" (.ref a3) := (f4_2.other W5 (Or.inr (slot_ne (Or.inr (hw _ (List.mem_of_getElem? (i := 45) rfl))) (Or.inr (hw _ (List.mem_of_getElem? (i := 49) rfl))) (by decide) (t := (.object "java/lang/String")) (t' := .boolean) (by decide) (by decide))))
  have f5_3 : Fld Z h5 a1 "com/example/grab1/grab1/cli/Command$Option" "fallback" "Ljava/lang/String;" (.ref a4) := (f4_3.other W5 (Or.inr (slot_ne (Or.inr (hw _ (List.mem_of_getElem? (i := 47) rfl))) (Or.inr (hw _ (List.mem_of_getElem? (i := 49) rfl))) (by decide) (t := (.object "java/lang/String")) (t' := .boolean) (by decide) (by decide))))
  have f5_4 : Fld Z h5 a1 "com/example/grab1/grab1/cli/Command$Option" "required" "Z" (.int p5) := (f4_4.same W5)
  have Zs5 : n0 ≤ h5.size := (Nat.le_trans Zs4 (Keep.of_wr W5).1)
  have K5 : Keep h0 h5 [a1] := K4.wr W5 (Or.inl (List.mem_of_getElem? (i := 0) rfl))
  show Go _ _ _ _ _ _ _ T5 (mkF m 25 #[.val (.ref a1), .val (.ref a2), .val (.ref a3), .val (.ref a4), .val (.int p5)] [])
  refine Go.retV X5 hx hlk hret (hb hby d7_25) ?_ (by decide) (by decide)
  show QOIrr Z _ _ _ _ _ _ _ _ T5.heap _
  rw [e5]
  exact ⟨rfl, N5, K5, f5_0, f5_2⟩
theorem ef_rmIFr (m : MethodId) (a1 : Addr) : entryFrame m #[(.ref a1)] 1 = mkF m 0 #[.val (.ref a1)] [] := by first | (simp [entryFrame, mkF, argsToLocals, Value.category]; done) | rfl
def QIFr (Z : State) (a1 : Addr) (a3 : Addr) (h0 : Heap) (n0 : Nat) (v : Option Value) (h : Heap) (L : List Loc) : Prop := v = some (.int (0 : Int32)) ∧ Fr n0 L ∧ h = h0
theorem d9_11 : decode prog_17_method_6_code 11 = .ok (.iconst 0, 1) := by decide +kernel
set_option maxRecDepth 65536 in
set_option maxHeartbeats 40000000 in
theorem rmIFr (l : Launch) (Z : State) (a0 : Array Value) (hw : ∀ d ∈ tables_1, d.before a0 Z = true) (ws : List Jvm.Cond) (a1 : Addr) (a3 : Addr) (h0 : Heap) (n0 : Nat) (Z0 : n0 ≤ h0.size) (F1 : Fld Z h0 a1 "com/example/grab1/grab1/cli/Command$Option" "value" "Ljava/lang/String;" (.ref a3)) :
    MetFree l (⟨"com/example/grab1/grab1/cli/Command$Option", "isFlag", "()Z"⟩ : MethodName) (head1 (Jvm.Cond.code (⟨"com/example/grab1/grab1/cli/Command$Option", "isFlag", "()Z"⟩ : MethodName) prog_17_method_6_code 1 (some .boolean) :: ws) ({ frames := 0, cells := 0, slots := 0, locals := 0 } : Room)) (fun a U => a = #[(.ref a1)] ∧ Z.Warmed39 U.vm ∧ U.heap = h0) (fun _ _ _ _ _ => True) (fun _ U o U' => ∃ v L, o = .returned v ∧ QIFr Z a1 a3 h0 n0 v U'.heap L ∧ FrameEnd U o U' L ({ frames := 0, cells := 0, slots := 0, locals := 0 } : Room).cells ({ frames := 0, cells := 0, slots := 0, locals := 0 } : Room).slots) := by
  refine MetFree.of_bodySF (plainFor_of_name pn_2) hisR ?_
  intro p e s m args below meth c s₁ Bd hml0 hP hK
  obtain ⟨rfl, hZ, hh⟩ := hP
  have hx := Bd.exec
  have hby := Bd.bytes
  have hlk := BodyLoose.notSynchronized Bd
  have hml : c.maxLocals = 1 := hml0
  have hret := Bd.returns
  have hown : s.vm.findClass "com/example/grab1/grab1/cli/Command$Option" = some m.cls := findClass_of_methodNamed Bd.named
  have hnm := (name_of_methodNamed Bd.named Bd.method).1
  have X0 : Stand p l e ({ frames := 0, cells := 0, slots := 0, locals := 0 } : Room) s m #[(.ref a1)] below meth c s₁ [] 0 0 := Stand.of_body Bd
  have e0 : s₁.heap = h0 := by rw [← hh, Bd.state]; rfl
  have N0 := Fr.nil n0
  show Go p e below s ({ frames := 0, cells := 0, slots := 0, locals := 0 } : Room).cells ({ frames := 0, cells := 0, slots := 0, locals := 0 } : Room).slots (QIFr Z a1 a3 h0 n0) s₁ (entryFrame m #[(.ref a1)] 1)
  refine Go.cast (ef_rmIFr m a1) ?_
  show Go _ _ _ _ _ _ _ s₁ (mkF m 0 #[.val (.ref a1)] [])
  refine Go.step (fun t k => XS.aloadN X0.here hx rfl (hb hby d9_0) rfl rfl k) ?_
  show Go _ _ _ _ _ _ _ s₁ (mkF m 1 #[.val (.ref a1)] [(.ref a1)])
  obtain ⟨T1, X1, e1, st1⟩ := getF X0 hx hZ hown (host := "") (Or.inl (hw _ (List.mem_of_getElem? (i := 44) rfl))) Via.refl e0 F1 (g := (mkF m 1 #[.val (.ref a1)] [(.ref a1)])) rfl rfl (hb hby d9_1)
  refine Go.step st1 ?_
  show Go _ _ _ _ _ _ _ T1 (mkF m 4 #[.val (.ref a1)] [(.ref a3)])
  refine Go.step (fun t k => XT.ifnonnullYes X1.here hx rfl (pc0 := 4) (pc' := 11) rfl (hb hby d9_4) rfl (by decide) (by decide) k) ?_
  show Go _ _ _ _ _ _ _ T1 (mkF m 11 #[.val (.ref a1)] [])
  refine Go.step (fun t k => XS.iconst X1.here hx rfl (hb hby d9_11) k) ?_
  show Go _ _ _ _ _ _ _ T1 (mkF m 12 #[.val (.ref a1)] [(.int (0 : Int32))])
  refine Go.ret X1 hx hlk hret rfl (Or.inl ⟨rfl, Or.inr (Or.inl rfl), _, rfl⟩) (hb hby d9_12) ?_ (by decide) (by decide)
  show QIFr Z _ _ _ _ _ T1.heap _
  exact ⟨rfl, N0, e1⟩
theorem own_fit01 {x : Int32} (h : narrow .boolean (.int x) = .int x) : fits .boolean (.int x) = true := by
  have h2 : x &&& 1 = x := by injection h
  have h3 := fits_nar_bool x
  rw [show nar .boolean x = x &&& 1 from rfl, h2] at h3
  exact h3
theorem ef_rmFl (m : MethodId) (a1 : Addr) : entryFrame m #[(.ref a1)] 1 = mkF m 0 #[.val (.ref a1)] [] := by first | (simp [entryFrame, mkF, argsToLocals, Value.category]; done) | rfl
def QrmFl (Z : State) (a1 : Addr) (h0 : Heap) (n0 : Nat) (v : Option Value) (h : Heap) (L : List Loc) : Prop := ∃ a : Addr, v = some (.ref a) ∧ Fr n0 L ∧ Keep h0 h [] ∧ h0.size ≤ a ∧ Exa Z h a "com/example/grab1/grab1/cli/Command$Option" ∧ Fld Z h a "com/example/grab1/grab1/cli/Command$Option" "value" "Ljava/lang/String;" .null
theorem d10_0 : decode prog_17_method_5_code 0 = .ok (.new 8, 3) := by decide +kernel
theorem d10_3 : decode prog_17_method_5_code 3 = .ok (.dup, 1) := by decide +kernel
theorem d10_4 : decode prog_17_method_5_code 4 = .ok (.aload_n 0, 1) := by decide +kernel
theorem d10_5 : decode prog_17_method_5_code 5 = .ok (.aconst_null, 1) := by decide +kernel
theorem d10_6 : decode prog_17_method_5_code 6 = .ok (.aconst_null, 1) := by decide +kernel
theorem d10_7 : decode prog_17_method_5_code 7 = .ok (.iconst 0, 1) := by decide +kernel
theorem pd_2 : parseMethodDescriptor "(Ljava/lang/String;Ljava/lang/String;Ljava/lang/String;Z)V" = some ⟨[(.object "java/lang/String"), (.object "java/lang/String"), (.object "java/lang/String"), .boolean], none⟩ := by decide +kernel
theorem d10_8 : decode prog_17_method_5_code 8 = .ok (.invokespecial 23, 3) := by decide +kernel
theorem d10_11 : decode prog_17_method_5_code 11 = .ok (.areturn, 1) := by decide +kernel
set_option maxRecDepth 65536 in
set_option maxHeartbeats 40000000 in
theorem rmFl (l : Launch) (Z : State) (a0 : Array Value) (hw : ∀ d ∈ tables_1, d.before a0 Z = true) (ws : List Jvm.Cond) (a1 : Addr) (h0 : Heap) (n0 : Nat) (Z0 : n0 ≤ h0.size) :
    MetFree l (⟨"com/example/grab1/grab1/cli/Command$Option", "flag", "(Ljava/lang/String;)Lcom/example/grab1/grab1/cli/Command$Option;"⟩ : MethodName) (head1 (Jvm.Cond.code (⟨"com/example/grab1/grab1/cli/Command$Option", "flag", "(Ljava/lang/String;)Lcom/example/grab1/grab1/cli/Command$Option;"⟩ : MethodName) prog_17_method_5_code 1 (some (.object "com/example/grab1/grab1/cli/Command$Option")) :: ws) ({ frames := 3, cells := 1, slots := 4, locals := 41 } : Room)) (fun a U => a = #[(.ref a1)] ∧ Z.Warmed39 U.vm ∧ U.heap = h0) (fun _ _ _ _ _ => True) (fun _ U o U' => ∃ v L, o = .returned v ∧ QrmFl Z a1  h0 n0 v U'.heap L ∧ FrameEnd U o U' L ({ frames := 3, cells := 1, slots := 4, locals := 41 } : Room).cells ({ frames := 3, cells := 1, slots := 4, locals := 41 } : Room).slots) := by
  refine MetFree.of_bodySF (plainFor_of_name pn_2) hisR ?_
  intro p e s m args below meth c s₁ Bd hml0 hP hK
  obtain ⟨rfl, hZ, hh⟩ := hP
  have hx := Bd.exec
  have hby := Bd.bytes
  have hlk := BodyLoose.notSynchronized Bd
  have hml : c.maxLocals = 1 := hml0
  have hret := Bd.returns
  have hown : s.vm.findClass "com/example/grab1/grab1/cli/Command$Option" = some m.cls := findClass_of_methodNamed Bd.named
  have hnm := (name_of_methodNamed Bd.named Bd.method).1
  have X0 : Stand p l e ({ frames := 3, cells := 1, slots := 4, locals := 41 } : Room) s m #[(.ref a1)] below meth c s₁ [] 0 0 := Stand.of_body Bd
  have e0 : s₁.heap = h0 := by rw [← hh, Bd.state]; rfl
  have N0 := Fr.nil n0
  show Go p e below s ({ frames := 3, cells := 1, slots := 4, locals := 41 } : Room).cells ({ frames := 3, cells := 1, slots := 4, locals := 41 } : Room).slots (QrmFl Z a1  h0 n0) s₁ (entryFrame m #[(.ref a1)] 1)
  refine Go.cast (ef_rmFl m a1) ?_
  have K0 : Keep h0 h0 [] := Keep.refl _ _
  show Go _ _ _ _ _ _ _ s₁ (mkF m 0 #[.val (.ref a1)] [])
  obtain ⟨T1, h1, X1, e1, E1, A1, D1, -, st1⟩ := newO X0 hx hZ hown (hw _ (List.mem_of_getElem? (i := 58) rfl)) (hw _ (List.mem_of_getElem? (i := 31) rfl)) (hw _ (List.mem_of_getElem? (i := 32) rfl)) e0 (g := (mkF m 0 #[.val (.ref a1)] [])) rfl (hb hby d10_0) (by decide) (by decide)
  obtain ⟨o1, g1⟩ : ∃ z, z = h0.size := ⟨_, rfl⟩
  rw [← g1] at A1 D1 st1
  have ge_o1 : n0 ≤ o1 := Nat.le_trans Z0 (Nat.le_of_eq g1.symm)
  have geh_o1 : h0.size ≤ o1 := Nat.le_trans K0.1 (Nat.le_of_eq g1.symm)
  have f1_0 : Exa Z h1 o1 "com/example/grab1/grab1/cli/Command$Option" := A1
  have f1_1 : Fld Z h1 o1 "com/example/grab1/grab1/cli/Command$Option" "name" "Ljava/lang/String;" .null := (D1 (Or.inr (hw _ (List.mem_of_getElem? (i := 43) rfl))) (ty := (.object "java/lang/String")) (by decide))
  have f1_2 : Fld Z h1 o1 "com/example/grab1/grab1/cli/Command$Option" "value" "Ljava/lang/String;" .null := (D1 (Or.inr (hw _ (List.mem_of_getElem? (i := 45) rfl))) (ty := (.object "java/lang/String")) (by decide))
  have f1_3 : Fld Z h1 o1 "com/example/grab1/grab1/cli/Command$Option" "fallback" "Ljava/lang/String;" .null := (D1 (Or.inr (hw _ (List.mem_of_getElem? (i := 47) rfl))) (ty := (.object "java/lang/String")) (by decide))
  have f1_4 : Fld Z h1 o1 "com/example/grab1/grab1/cli/Command$Option" "required" "Z" (.int (0 : Int32)) := (D1 (Or.inr (hw _ (List.mem_of_getElem? (i := 49) rfl))) (ty := .boolean) (by decide))
  have Zs1 : n0 ≤ h1.size := (Nat.le_trans Z0 E1.1)
  have K1 : Keep h0 h1 [] := K0.ext E1
  refine Go.step st1 ?_
  show Go _ _ _ _ _ _ _ T1 (mkF m 3 #[.val (.ref a1)] [(.ref o1)])
  refine Go.step (fun t k => XS.dup X1.here hx rfl (hb hby d10_3) rfl rfl k) ?_
  show Go _ _ _ _ _ _ _ T1 (mkF m 4 #[.val (.ref a1)] [(.ref o1), (.ref o1)])
  refine Go.step (fun t k => XS.aloadN X1.here hx rfl (hb hby d10_4) rfl rfl k) ?_
  show Go _ _ _ _ _ _ _ T1 (mkF m 5 #[.val (.ref a1)] [(.ref a1), (.ref o1), (.ref o1)])
  refine Go.step (fun t k => XS.aconstNull X1.here hx rfl (hb hby d10_5) k) ?_
  show Go _ _ _ _ _ _ _ T1 (mkF m 6 #[.val (.ref a1)] [.null, (.ref a1), (.ref o1), (.ref o1)])
  refine Go.step (fun t k => XS.aconstNull X1.here hx rfl (hb hby d10_6) k) ?_
  show Go _ _ _ _ _ _ _ T1 (mkF m 7 #[.val (.ref a1)] [.null, .null, (.ref a1), (.ref o1), (.ref o1)])
  refine Go.step (fun t k => XS.iconst X1.here hx rfl (hb hby d10_7) k) ?_
  show Go _ _ _ _ _ _ _ T1 (mkF m 8 #[.val (.ref a1)] [(.int (0 : Int32)), .null, .null, (.ref a1), (.ref o1), (.ref o1)])
  obtain ⟨_, _, ⟨T2, L2, k2, n2⟩, -, X2, ⟨Lc2, hQ2, l2, y2, z2⟩, st2⟩ := X1.specialBack hx (y := (⟨"com/example/grab1/grab1/cli/Command$Option", "<init>", "(Ljava/lang/String;Ljava/lang/String;Ljava/lang/String;Z)V"⟩ : MethodName)) rfl hown (mvT hZ (hw _ (List.mem_of_getElem? (i := 59) rfl))) (mvT hZ (hw _ (List.mem_of_getElem? (i := 34) rfl))) (mvT hZ (hw _ (List.mem_of_getElem? (i := 35) rfl))) (by decide) (backOf (W := 1) (rmOInn l Z a0 hw [] o1 a1 (0 : Int32) h1 n0 Zs1 ge_o1 f1_0 f1_1 f1_2 f1_3 f1_4 rfl rfl) hZ (hw _ (List.mem_of_getElem? (i := 35) rfl)) (hw _ (List.mem_of_getElem? (i := 32) rfl)) (by decide) (by decide)) (g := (mkF m 8 #[.val (.ref a1)] [(.int (0 : Int32)), .null, .null, (.ref a1), (.ref o1), (.ref o1)])) rfl (by rw [hml]; rfl) (Steps.refl _) (a := o1) (argsL := [(.ref a1), .null, .null, (.int (0 : Int32))]) (rest := [(.ref o1)]) (lenOf pd_2 rfl) rfl (by show 2 * 0 + _ ≤ _; exact Nat.le_of_eq rfl) (hb hby d10_8) (fun _ _ => ⟨rfl, e1, (by decide : 0 + 1 + 0 ≤ _), (by decide : 0 + 4 + 0 ≤ _)⟩)
  dsimp only [Pt.U, Pt.locs, Pt.cells, Pt.slots] at X2 l2 y2 z2 st2 hQ2
  subst l2 y2 z2
  obtain ⟨rfl, N2q, Kq2, Eq2, Fq2⟩ := hQ2
  have N2 := Fr.app N0 N2q
  have f2_0 : Exa Z T2.heap o1 "com/example/grab1/grab1/cli/Command$Option" := Eq2
  have f2_1 : Fld Z T2.heap o1 "com/example/grab1/grab1/cli/Command$Option" "value" "Ljava/lang/String;" .null := Fq2
  have Zs2 : n0 ≤ T2.heap.size := (Nat.le_trans Zs1 Kq2.1)
  have K2 : Keep h0 T2.heap [] := K1.trans Kq2 (allS (Or.inr geh_o1) all0)
  refine Go.step (fun t k => st2.trans k) ?_
  show Go _ _ _ _ _ _ _ T2 (mkF m 11 #[.val (.ref a1)] [(.ref o1)])
  refine Go.ret X2 hx hlk hret rfl (Or.inr (Or.inr (Or.inr (Or.inr ⟨rfl, rfl, rfl⟩)))) (hb hby d10_11) ?_ (by decide) (by decide)
  show QrmFl Z _ _ _ _ T2.heap _
  exact ⟨o1, rfl, N2, K2, geh_o1, f2_0, f2_1⟩
theorem ef_rmOp (m : MethodId) (a1 : Addr) (a2 : Addr) : entryFrame m #[(.ref a1), (.ref a2)] 2 = mkF m 0 #[.val (.ref a1), .val (.ref a2)] [] := by first | (simp [entryFrame, mkF, argsToLocals, Value.category]; done) | rfl
def QrmOp (Z : State) (a1 : Addr) (a2 : Addr) (h0 : Heap) (n0 : Nat) (v : Option Value) (h : Heap) (L : List Loc) : Prop := ∃ a : Addr, v = some (.ref a) ∧ Fr n0 L ∧ Keep h0 h [] ∧ h0.size ≤ a ∧ Exa Z h a "com/example/grab1/grab1/cli/Command$Option" ∧ Fld Z h a "com/example/grab1/grab1/cli/Command$Option" "value" "Ljava/lang/String;" (.ref a2)
theorem d11_0 : decode prog_17_method_4_code 0 = .ok (.new 8, 3) := by decide +kernel
theorem d11_3 : decode prog_17_method_4_code 3 = .ok (.dup, 1) := by decide +kernel
theorem d11_4 : decode prog_17_method_4_code 4 = .ok (.aload_n 0, 1) := by decide +kernel
theorem d11_5 : decode prog_17_method_4_code 5 = .ok (.aload_n 1, 1) := by decide +kernel
theorem d11_6 : decode prog_17_method_4_code 6 = .ok (.aconst_null, 1) := by decide +kernel
theorem d11_7 : decode prog_17_method_4_code 7 = .ok (.iconst 0, 1) := by decide +kernel
theorem d11_8 : decode prog_17_method_4_code 8 = .ok (.invokespecial 23, 3) := by decide +kernel
theorem d11_11 : decode prog_17_method_4_code 11 = .ok (.areturn, 1) := by decide +kernel
set_option maxRecDepth 65536 in
set_option maxHeartbeats 40000000 in
theorem rmOp (l : Launch) (Z : State) (a0 : Array Value) (hw : ∀ d ∈ tables_1, d.before a0 Z = true) (ws : List Jvm.Cond) (a1 : Addr) (a2 : Addr) (h0 : Heap) (n0 : Nat) (Z0 : n0 ≤ h0.size) :
    MetFree l (⟨"com/example/grab1/grab1/cli/Command$Option", "optional", "(Ljava/lang/String;Ljava/lang/String;)Lcom/example/grab1/grab1/cli/Command$Option;"⟩ : MethodName) (head1 (Jvm.Cond.code (⟨"com/example/grab1/grab1/cli/Command$Option", "optional", "(Ljava/lang/String;Ljava/lang/String;)Lcom/example/grab1/grab1/cli/Command$Option;"⟩ : MethodName) prog_17_method_4_code 2 (some (.object "com/example/grab1/grab1/cli/Command$Option")) :: ws) ({ frames := 3, cells := 1, slots := 4, locals := 41 } : Room)) (fun a U => a = #[(.ref a1), (.ref a2)] ∧ Z.Warmed39 U.vm ∧ U.heap = h0) (fun _ _ _ _ _ => True) (fun _ U o U' => ∃ v L, o = .returned v ∧ QrmOp Z a1 a2  h0 n0 v U'.heap L ∧ FrameEnd U o U' L ({ frames := 3, cells := 1, slots := 4, locals := 41 } : Room).cells ({ frames := 3, cells := 1, slots := 4, locals := 41 } : Room).slots) := by
  refine MetFree.of_bodySF (plainFor_of_name pn_2) hisR ?_
  intro p e s m args below meth c s₁ Bd hml0 hP hK
  obtain ⟨rfl, hZ, hh⟩ := hP
  have hx := Bd.exec
  have hby := Bd.bytes
  have hlk := BodyLoose.notSynchronized Bd
  have hml : c.maxLocals = 2 := hml0
  have hret := Bd.returns
  have hown : s.vm.findClass "com/example/grab1/grab1/cli/Command$Option" = some m.cls := findClass_of_methodNamed Bd.named
  have hnm := (name_of_methodNamed Bd.named Bd.method).1
  have X0 : Stand p l e ({ frames := 3, cells := 1, slots := 4, locals := 41 } : Room) s m #[(.ref a1), (.ref a2)] below meth c s₁ [] 0 0 := Stand.of_body Bd
  have e0 : s₁.heap = h0 := by rw [← hh, Bd.state]; rfl
  have N0 := Fr.nil n0
  show Go p e below s ({ frames := 3, cells := 1, slots := 4, locals := 41 } : Room).cells ({ frames := 3, cells := 1, slots := 4, locals := 41 } : Room).slots (QrmOp Z a1 a2  h0 n0) s₁ (entryFrame m #[(.ref a1), (.ref a2)] 2)
  refine Go.cast (ef_rmOp m a1 a2) ?_
  have K0 : Keep h0 h0 [] := Keep.refl _ _
  show Go _ _ _ _ _ _ _ s₁ (mkF m 0 #[.val (.ref a1), .val (.ref a2)] [])
  obtain ⟨T1, h1, X1, e1, E1, A1, D1, -, st1⟩ := newO X0 hx hZ hown (hw _ (List.mem_of_getElem? (i := 58) rfl)) (hw _ (List.mem_of_getElem? (i := 31) rfl)) (hw _ (List.mem_of_getElem? (i := 32) rfl)) e0 (g := (mkF m 0 #[.val (.ref a1), .val (.ref a2)] [])) rfl (hb hby d11_0) (by decide) (by decide)
  obtain ⟨o1, g1⟩ : ∃ z, z = h0.size := ⟨_, rfl⟩
  rw [← g1] at A1 D1 st1
  have ge_o1 : n0 ≤ o1 := Nat.le_trans Z0 (Nat.le_of_eq g1.symm)
  have geh_o1 : h0.size ≤ o1 := Nat.le_trans K0.1 (Nat.le_of_eq g1.symm)
  have f1_0 : Exa Z h1 o1 "com/example/grab1/grab1/cli/Command$Option" := A1
  have f1_1 : Fld Z h1 o1 "com/example/grab1/grab1/cli/Command$Option" "name" "Ljava/lang/String;" .null := (D1 (Or.inr (hw _ (List.mem_of_getElem? (i := 43) rfl))) (ty := (.object "java/lang/String")) (by decide))
  have f1_2 : Fld Z h1 o1 "com/example/grab1/grab1/cli/Command$Option" "value" "Ljava/lang/String;" .null := (D1 (Or.inr (hw _ (List.mem_of_getElem? (i := 45) rfl))) (ty := (.object "java/lang/String")) (by decide))
  have f1_3 : Fld Z h1 o1 "com/example/grab1/grab1/cli/Command$Option" "fallback" "Ljava/lang/String;" .null := (D1 (Or.inr (hw _ (List.mem_of_getElem? (i := 47) rfl))) (ty := (.object "java/lang/String")) (by decide))
  have f1_4 : Fld Z h1 o1 "com/example/grab1/grab1/cli/Command$Option" "required" "Z" (.int (0 : Int32)) := (D1 (Or.inr (hw _ (List.mem_of_getElem? (i := 49) rfl))) (ty := .boolean) (by decide))
  have Zs1 : n0 ≤ h1.size := (Nat.le_trans Z0 E1.1)
  have K1 : Keep h0 h1 [] := K0.ext E1
  refine Go.step st1 ?_
  show Go _ _ _ _ _ _ _ T1 (mkF m 3 #[.val (.ref a1), .val (.ref a2)] [(.ref o1)])
  refine Go.step (fun t k => XS.dup X1.here hx rfl (hb hby d11_3) rfl rfl k) ?_
  show Go _ _ _ _ _ _ _ T1 (mkF m 4 #[.val (.ref a1), .val (.ref a2)] [(.ref o1), (.ref o1)])
  refine Go.step (fun t k => XS.aloadN X1.here hx rfl (hb hby d11_4) rfl rfl k) ?_
  show Go _ _ _ _ _ _ _ T1 (mkF m 5 #[.val (.ref a1), .val (.ref a2)] [(.ref a1), (.ref o1), (.ref o1)])
  refine Go.step (fun t k => XS.aloadN X1.here hx rfl (hb hby d11_5) rfl rfl k) ?_
  show Go _ _ _ _ _ _ _ T1 (mkF m 6 #[.val (.ref a1), .val (.ref a2)] [(.ref a2), (.ref a1), (.ref o1), (.ref o1)])
  refine Go.step (fun t k => XS.aconstNull X1.here hx rfl (hb hby d11_6) k) ?_
  show Go _ _ _ _ _ _ _ T1 (mkF m 7 #[.val (.ref a1), .val (.ref a2)] [.null, (.ref a2), (.ref a1), (.ref o1), (.ref o1)])
  refine Go.step (fun t k => XS.iconst X1.here hx rfl (hb hby d11_7) k) ?_
  show Go _ _ _ _ _ _ _ T1 (mkF m 8 #[.val (.ref a1), .val (.ref a2)] [(.int (0 : Int32)), .null, (.ref a2), (.ref a1), (.ref o1), (.ref o1)])
  obtain ⟨_, _, ⟨T2, L2, k2, n2⟩, -, X2, ⟨Lc2, hQ2, l2, y2, z2⟩, st2⟩ := X1.specialBack hx (y := (⟨"com/example/grab1/grab1/cli/Command$Option", "<init>", "(Ljava/lang/String;Ljava/lang/String;Ljava/lang/String;Z)V"⟩ : MethodName)) rfl hown (mvT hZ (hw _ (List.mem_of_getElem? (i := 59) rfl))) (mvT hZ (hw _ (List.mem_of_getElem? (i := 34) rfl))) (mvT hZ (hw _ (List.mem_of_getElem? (i := 35) rfl))) (by decide) (backOf (W := 1) (rmOIrn l Z a0 hw [] o1 a1 a2 (0 : Int32) h1 n0 Zs1 ge_o1 f1_0 f1_1 f1_2 f1_3 f1_4 rfl rfl) hZ (hw _ (List.mem_of_getElem? (i := 35) rfl)) (hw _ (List.mem_of_getElem? (i := 32) rfl)) (by decide) (by decide)) (g := (mkF m 8 #[.val (.ref a1), .val (.ref a2)] [(.int (0 : Int32)), .null, (.ref a2), (.ref a1), (.ref o1), (.ref o1)])) rfl (by rw [hml]; rfl) (Steps.refl _) (a := o1) (argsL := [(.ref a1), (.ref a2), .null, (.int (0 : Int32))]) (rest := [(.ref o1)]) (lenOf pd_2 rfl) rfl (by show 2 * 0 + _ ≤ _; exact Nat.le_of_eq rfl) (hb hby d11_8) (fun _ _ => ⟨rfl, e1, (by decide : 0 + 1 + 0 ≤ _), (by decide : 0 + 4 + 0 ≤ _)⟩)
  dsimp only [Pt.U, Pt.locs, Pt.cells, Pt.slots] at X2 l2 y2 z2 st2 hQ2
  subst l2 y2 z2
  obtain ⟨rfl, N2q, Kq2, Eq2, Fq2⟩ := hQ2
  have N2 := Fr.app N0 N2q
  have f2_0 : Exa Z T2.heap o1 "com/example/grab1/grab1/cli/Command$Option" := Eq2
  have f2_1 : Fld Z T2.heap o1 "com/example/grab1/grab1/cli/Command$Option" "value" "Ljava/lang/String;" (.ref a2) := Fq2
  have Zs2 : n0 ≤ T2.heap.size := (Nat.le_trans Zs1 Kq2.1)
  have K2 : Keep h0 T2.heap [] := K1.trans Kq2 (allS (Or.inr geh_o1) all0)
  refine Go.step (fun t k => st2.trans k) ?_
  show Go _ _ _ _ _ _ _ T2 (mkF m 11 #[.val (.ref a1), .val (.ref a2)] [(.ref o1)])
  refine Go.ret X2 hx hlk hret rfl (Or.inr (Or.inr (Or.inr (Or.inr ⟨rfl, rfl, rfl⟩)))) (hb hby d11_11) ?_ (by decide) (by decide)
  show QrmOp Z _ _ _ _ _ T2.heap _
  exact ⟨o1, rfl, N2, K2, geh_o1, f2_0, f2_1⟩
theorem pn_3 : plainName "com/example/grab1/grab1/cli/OptionIsFlagPinLaw" = true := by first | (simp [plainName, overriddenIn]; done) | decide +kernel
theorem ef_rm0 (m : MethodId) (p1 : Int32) (p2 : Int32) (p3 : Int32) (p4 : Int32) : entryFrame m #[(.int p1), (.int p2), (.int p3), (.int p4)] maxLocals = mkF m 0 #[.val (.int p1), .val (.int p2), .val (.int p3), .val (.int p4), .unset, .unset, .unset, .unset, .unset, .unset, .unset, .unset, .unset, .unset, .unset, .unset, .unset] [] := by first | (simp [entryFrame, mkF, argsToLocals, Value.category, maxLocals]; done) | rfl
def Q0 (Z : State) (p1 : Int32) (p2 : Int32) (p3 : Int32) (p4 : Int32) (G1 : Int32) (h0 : Heap) (n0 : Nat) (v : Option Value) (h : Heap) (L : List Loc) : Prop := v = some (.int (1 : Int32)) ∧ Fr n0 L
theorem pd_3 : parseMethodDescriptor "([C)V" = some ⟨[(.array .char)], none⟩ := by decide +kernel
theorem pd_4 : parseMethodDescriptor "()Z" = some ⟨[], some .boolean⟩ := by decide +kernel
theorem pd_5 : parseMethodDescriptor "(Ljava/lang/String;)Lcom/example/grab1/grab1/cli/Command$Option;" = some ⟨[(.object "java/lang/String")], some (.object "com/example/grab1/grab1/cli/Command$Option")⟩ := by decide +kernel
theorem pd_6 : parseMethodDescriptor "(Ljava/lang/String;Ljava/lang/String;)Lcom/example/grab1/grab1/cli/Command$Option;" = some ⟨[(.object "java/lang/String"), (.object "java/lang/String")], some (.object "com/example/grab1/grab1/cli/Command$Option")⟩ := by decide +kernel
set_option maxRecDepth 65536 in
set_option maxHeartbeats 40000000 in
theorem sg174_0 (l : Launch) (Z : State) (a0 : Array Value) (hw : ∀ d ∈ tables_1, d.before a0 Z = true) (p1 : Int32) (p2 : Int32) (p3 : Int32) (p4 : Int32) (G1 : Int32) (h0 : Heap) (n0 : Nat) (Z0 : n0 ≤ h0.size) (O0 : Old Z n0 h0) (S_COMPACT : Sta Z Z.heap "java/lang/String" "COMPACT_STRINGS" "Z" (.int G1)) (P_COMPACT : ¬ (G1 = (0 : Int32))) (a_0 : Addr) (a_1 : Addr) (i_0 : Int32) (a_2 : Addr) (a_3 : Addr) (a_4 : Addr) (a_5 : Addr) (a_6 : Addr) {p : Program} {e : Env} {s : State} {m : MethodId} {below : List Frame} {meth : Method} {c : Code} {T : State} {locs : List Loc} {h : Heap} {vm0 : Vm} {k0 : Nat} (X1 : Stand p l e room_1 (s.setVm vm0) m #[(.int p1), (.int p2), (.int p3), (.int p4)] below meth c T locs 30 400) (hx : p.tables.exec = Jvm.exec) (hby : c.code = code) (hlk : meth.locks = false) (hml : c.maxLocals = 17) (hret : meth.sig.returnType = ret) (hnm : meth.name = "law") (e1 : T.heap = h) (N1 : Fr n0 locs) (Zs1 : n0 ≤ h.size) (O1 : Old Z n0 h) (hS1 : s.Since vm0 k0) (hk1 : k0 ≤ h.size) (hZ1 : Z.Warmed39 (s.setVm vm0).vm) (hown1 : (s.setVm vm0).vm.findClass "com/example/grab1/grab1/cli/OptionIsFlagPinLaw" = some m.cls) (hEL : EW Z a0 own_EL) (C1 : CHr Z own_EL s.vm h0 vm0 h) (hkk : ¬ (i_0 = (0 : Int32))) :
    GoH p e below s room_1.cells room_1.slots Z own_EL h0 (Q0 Z p1 p2 p3 p4 G1 h0 n0) T (mkF m 174 #[.val (.int p1), .val (.int p2), .val (.int p3), .val (.int p4), .val (.ref a_0), .val (.ref a_1), .val (.int i_0), .val (.ref a_2), .val (.ref a_3), .val (.ref a_4), .val (.ref a_5), .val (.ref a_6), .val .null, .unset, .unset, .unset, .unset] []) := by
  show GoH _ _ _ _ _ _ _ _ _ _ T (mkF m 174 #[.val (.int p1), .val (.int p2), .val (.int p3), .val (.int p4), .val (.ref a_0), .val (.ref a_1), .val (.int i_0), .val (.ref a_2), .val (.ref a_3), .val (.ref a_4), .val (.ref a_5), .val (.ref a_6), .val .null, .unset, .unset, .unset, .unset] [])
  refine GoH.step (fun t k => XS.iloadN X1.here hx rfl (hb hby at_174) rfl k) ?_
  show GoH _ _ _ _ _ _ _ _ _ _ T (mkF m 175 #[.val (.int p1), .val (.int p2), .val (.int p3), .val (.int p4), .val (.ref a_0), .val (.ref a_1), .val (.int i_0), .val (.ref a_2), .val (.ref a_3), .val (.ref a_4), .val (.ref a_5), .val (.ref a_6), .val .null, .unset, .unset, .unset, .unset] [(.int p4)])
  refine GoH.step (fun t k => XS.iconst X1.here hx rfl (hb hby at_175) k) ?_
  show GoH _ _ _ _ _ _ _ _ _ _ T (mkF m 176 #[.val (.int p1), .val (.int p2), .val (.int p3), .val (.int p4), .val (.ref a_0), .val (.ref a_1), .val (.int i_0), .val (.ref a_2), .val (.ref a_3), .val (.ref a_4), .val (.ref a_5), .val (.ref a_6), .val .null, .unset, .unset, .unset, .unset] [(.int (1 : Int32)), (.int p4)])
  refine GoH.step (fun t k => XS.iand X1.here hx rfl (hb hby at_176) rfl k) ?_
  show GoH _ _ _ _ _ _ _ _ _ _ T (mkF m 177 #[.val (.int p1), .val (.int p2), .val (.int p3), .val (.int p4), .val (.ref a_0), .val (.ref a_1), .val (.int i_0), .val (.ref a_2), .val (.ref a_3), .val (.ref a_4), .val (.ref a_5), .val (.ref a_6), .val .null, .unset, .unset, .unset, .unset] [(.int (p4 &&& (1 : Int32)))])
  have jnr177_18 : ∀ r177_18 : Int32, (r177_18 = (0 : Int32) ∧ (p4 &&& (1 : Int32)) = (0 : Int32)) ∨ (r177_18 = (1 : Int32) ∧ ¬ ((p4 &&& (1 : Int32)) = (0 : Int32))) → GoH p e below s room_1.cells room_1.slots Z own_EL h0 (Q0 Z p1 p2 p3 p4 G1 h0 n0) T (mkF m 185 #[.val (.int p1), .val (.int p2), .val (.int p3), .val (.int p4), .val (.ref a_0), .val (.ref a_1), .val (.int i_0), .val (.ref a_2), .val (.ref a_3), .val (.ref a_4), .val (.ref a_5), .val (.ref a_6), .val .null, .unset, .unset, .unset, .unset] [(.int r177_18)]) := by
    intro r177_18 hr177_18
    show GoH _ _ _ _ _ _ _ _ _ _ T (mkF m 185 #[.val (.int p1), .val (.int p2), .val (.int p3), .val (.int p4), .val (.ref a_0), .val (.ref a_1), .val (.int i_0), .val (.ref a_2), .val (.ref a_3), .val (.ref a_4), .val (.ref a_5), .val (.ref a_6), .val .null, .unset, .unset, .unset, .unset] [(.int r177_18)])
    refine GoH.step (fun t k => XS.istore X1.here hx rfl (hb hby at_185) rfl (l' := #[.val (.int p1), .val (.int p2), .val (.int p3), .val (.int p4), .val (.ref a_0), .val (.ref a_1), .val (.int i_0), .val (.ref a_2), .val (.ref a_3), .val (.ref a_4), .val (.ref a_5), .val (.ref a_6), .val .null, .val (.int r177_18), .unset, .unset, .unset]) rfl k) ?_
    show GoH _ _ _ _ _ _ _ _ _ _ T (mkF m 187 #[.val (.int p1), .val (.int p2), .val (.int p3), .val (.int p4), .val (.ref a_0), .val (.ref a_1), .val (.int i_0), .val (.ref a_2), .val (.ref a_3), .val (.ref a_4), .val (.ref a_5), .val (.ref a_6), .val .null, .val (.int r177_18), .unset, .unset, .unset] [])
    obtain ⟨T19, h19, X19, e19, E19, A19, D19, -, st19⟩ := newO X1 hx hZ1 hown1 (hw _ (List.mem_of_getElem? (i := 30) rfl)) (hw _ (List.mem_of_getElem? (i := 31) rfl)) (hw _ (List.mem_of_getElem? (i := 32) rfl)) e1 (g := (mkF m 187 #[.val (.int p1), .val (.int p2), .val (.int p3), .val (.int p4), .val (.ref a_0), .val (.ref a_1), .val (.int i_0), .val (.ref a_2), .val (.ref a_3), .val (.ref a_4), .val (.ref a_5), .val (.ref a_6), .val .null, .val (.int r177_18), .unset, .unset, .unset] [])) rfl (hb hby at_187) (by decide) (by decide)
    obtain ⟨o19, g19⟩ : ∃ z, z = h.size := ⟨_, rfl⟩
    rw [← g19] at A19 D19 st19
    have ge_o19 : n0 ≤ o19 := Nat.le_trans Zs1 (Nat.le_of_eq g19.symm)
    have f19_0 : Exa Z h19 o19 "com/example/grab1/grab1/cli/Command$Option" := A19
    have f19_1 : Fld Z h19 o19 "com/example/grab1/grab1/cli/Command$Option" "name" "Ljava/lang/String;" .null := (D19 (Or.inr (hw _ (List.mem_of_getElem? (i := 43) rfl))) (ty := (.object "java/lang/String")) (by decide))
    have f19_2 : Fld Z h19 o19 "com/example/grab1/grab1/cli/Command$Option" "value" "Ljava/lang/String;" .null := (D19 (Or.inr (hw _ (List.mem_of_getElem? (i := 45) rfl))) (ty := (.object "java/lang/String")) (by decide))
    have f19_3 : Fld Z h19 o19 "com/example/grab1/grab1/cli/Command$Option" "fallback" "Ljava/lang/String;" .null := (D19 (Or.inr (hw _ (List.mem_of_getElem? (i := 47) rfl))) (ty := (.object "java/lang/String")) (by decide))
    have f19_4 : Fld Z h19 o19 "com/example/grab1/grab1/cli/Command$Option" "required" "Z" (.int (0 : Int32)) := (D19 (Or.inr (hw _ (List.mem_of_getElem? (i := 49) rfl))) (ty := .boolean) (by decide))
    have hk19 : _ ≤ h19.size := Nat.le_trans hk1 E19.1
    have C19 : CHr Z own_EL s.vm h0 vm0 h19 := C1.trans (CHr.ext E19 C1.1)
    have Zs19 : n0 ≤ h19.size := (Nat.le_trans Zs1 E19.1)
    have O19 : Old Z n0 h19 := O1.ext E19
    refine GoH.step st19 ?_
    show GoH _ _ _ _ _ _ _ _ _ _ T19 (mkF m 190 #[.val (.int p1), .val (.int p2), .val (.int p3), .val (.int p4), .val (.ref a_0), .val (.ref a_1), .val (.int i_0), .val (.ref a_2), .val (.ref a_3), .val (.ref a_4), .val (.ref a_5), .val (.ref a_6), .val .null, .val (.int r177_18), .unset, .unset, .unset] [(.ref o19)])
    refine GoH.step (fun t k => XS.dup X19.here hx rfl (hb hby at_190) rfl rfl k) ?_
    show GoH _ _ _ _ _ _ _ _ _ _ T19 (mkF m 191 #[.val (.int p1), .val (.int p2), .val (.int p3), .val (.int p4), .val (.ref a_0), .val (.ref a_1), .val (.int i_0), .val (.ref a_2), .val (.ref a_3), .val (.ref a_4), .val (.ref a_5), .val (.ref a_6), .val .null, .val (.int r177_18), .unset, .unset, .unset] [(.ref o19), (.ref o19)])
    refine GoH.step (fun t k => XS.aload X19.here hx rfl (hb hby at_191) rfl rfl k) ?_
    show GoH _ _ _ _ _ _ _ _ _ _ T19 (mkF m 193 #[.val (.int p1), .val (.int p2), .val (.int p3), .val (.int p4), .val (.ref a_0), .val (.ref a_1), .val (.int i_0), .val (.ref a_2), .val (.ref a_3), .val (.ref a_4), .val (.ref a_5), .val (.ref a_6), .val .null, .val (.int r177_18), .unset, .unset, .unset] [(.ref a_1), (.ref o19), (.ref o19)])
    refine GoH.step (fun t k => XS.aload X19.here hx rfl (hb hby at_193) rfl rfl k) ?_
    show GoH _ _ _ _ _ _ _ _ _ _ T19 (mkF m 195 #[.val (.int p1), .val (.int p2), .val (.int p3), .val (.int p4), .val (.ref a_0), .val (.ref a_1), .val (.int i_0), .val (.ref a_2), .val (.ref a_3), .val (.ref a_4), .val (.ref a_5), .val (.ref a_6), .val .null, .val (.int r177_18), .unset, .unset, .unset] [(.ref a_5), (.ref a_1), (.ref o19), (.ref o19)])
    refine GoH.step (fun t k => XS.aload X19.here hx rfl (hb hby at_195) rfl rfl k) ?_
    show GoH _ _ _ _ _ _ _ _ _ _ T19 (mkF m 197 #[.val (.int p1), .val (.int p2), .val (.int p3), .val (.int p4), .val (.ref a_0), .val (.ref a_1), .val (.int i_0), .val (.ref a_2), .val (.ref a_3), .val (.ref a_4), .val (.ref a_5), .val (.ref a_6), .val .null, .val (.int r177_18), .unset, .unset, .unset] [.null, (.ref a_5), (.ref a_1), (.ref o19), (.ref o19)])
    refine GoH.step (fun t k => XS.iload X19.here hx rfl (hb hby at_197) rfl k) ?_
    show GoH _ _ _ _ _ _ _ _ _ _ T19 (mkF m 199 #[.val (.int p1), .val (.int p2), .val (.int p3), .val (.int p4), .val (.ref a_0), .val (.ref a_1), .val (.int i_0), .val (.ref a_2), .val (.ref a_3), .val (.ref a_4), .val (.ref a_5), .val (.ref a_6), .val .null, .val (.int r177_18), .unset, .unset, .unset] [(.int r177_18), .null, (.ref a_5), (.ref a_1), (.ref o19), (.ref o19)])
    obtain ⟨_, _, ⟨T20, L20, k20, n20⟩, -, X20, ⟨Lc20, hQ20, l20, y20, z20⟩, st20⟩ := X19.specialBack hx (y := (⟨"com/example/grab1/grab1/cli/Command$Option", "<init>", "(Ljava/lang/String;Ljava/lang/String;Ljava/lang/String;Z)V"⟩ : MethodName)) rfl hown1 (mvT hZ1 (hw _ (List.mem_of_getElem? (i := 33) rfl))) (mvT hZ1 (hw _ (List.mem_of_getElem? (i := 34) rfl))) (mvT hZ1 (hw _ (List.mem_of_getElem? (i := 35) rfl))) (by decide) (backOf (W := 1) (rmOIrn l Z a0 hw [] o19 a_1 a_5 r177_18 h19 n0 Zs19 ge_o19 f19_0 f19_1 f19_2 f19_3 f19_4 (nar01 (hr177_18.elim (fun q => Or.inl q.1) (fun q => Or.inr q.1))) (own_fit01 (nar01 (hr177_18.elim (fun q => Or.inl q.1) (fun q => Or.inr q.1))))) hZ1 (hw _ (List.mem_of_getElem? (i := 35) rfl)) (hw _ (List.mem_of_getElem? (i := 32) rfl)) (by decide) (by decide)) (g := (mkF m 199 #[.val (.int p1), .val (.int p2), .val (.int p3), .val (.int p4), .val (.ref a_0), .val (.ref a_1), .val (.int i_0), .val (.ref a_2), .val (.ref a_3), .val (.ref a_4), .val (.ref a_5), .val (.ref a_6), .val .null, .val (.int r177_18), .unset, .unset, .unset] [(.int r177_18), .null, (.ref a_5), (.ref a_1), (.ref o19), (.ref o19)])) rfl (by rw [hml]; rfl) (Steps.refl _) (a := o19) (argsL := [(.ref a_1), (.ref a_5), .null, (.int r177_18)]) (rest := [(.ref o19)]) (lenOf pd_2 rfl) rfl (by show 2 * 0 + _ ≤ _; exact Nat.le_of_eq rfl) (hb hby at_199) (fun _ _ => ⟨rfl, e19, (by decide : 30 + 1 + 0 ≤ _), (by decide : 400 + 4 + 0 ≤ _)⟩)
    dsimp only [Pt.U, Pt.locs, Pt.cells, Pt.slots] at X20 l20 y20 z20 st20 hQ20
    subst l20 y20 z20
    obtain ⟨rfl, N20q, Kq20, Eq20, Fq20⟩ := hQ20
    have N20 := Fr.app N1 N20q
    have f20_0 : Exa Z T20.heap o19 "com/example/grab1/grab1/cli/Command$Option" := Eq20
    have f20_1 : Fld Z T20.heap o19 "com/example/grab1/grab1/cli/Command$Option" "value" "Ljava/lang/String;" (.ref a_5) := Fq20
    have sfk20 : ∀ x ∈ ([o19] : List Addr), Safe Z own_EL vm0 h19 x := (sfS (Safe.exa hZ1.alike f19_0 (by decide) (by decide)) sf0)
    have hk20 : _ ≤ T20.heap.size := Nat.le_trans hk19 Kq20.1
    have C20 : CHr Z own_EL s.vm h0 vm0 T20.heap := C19.trans (CHr.keep Kq20 sfk20 C19.1)
    have Zs20 : n0 ≤ T20.heap.size := (Nat.le_trans Zs19 Kq20.1)
    have O20 : Old Z n0 T20.heap := O19.keep Kq20 (allS ge_o19 all0)
    refine GoH.step (fun t k => st20.trans k) ?_
    show GoH _ _ _ _ _ _ _ _ _ _ T20 (mkF m 202 #[.val (.int p1), .val (.int p2), .val (.int p3), .val (.int p4), .val (.ref a_0), .val (.ref a_1), .val (.int i_0), .val (.ref a_2), .val (.ref a_3), .val (.ref a_4), .val (.ref a_5), .val (.ref a_6), .val .null, .val (.int r177_18), .unset, .unset, .unset] [(.ref o19)])
    refine GoH.step (fun t k => XS.astore X20.here hx rfl (hb hby at_202) rfl rfl (l' := #[.val (.int p1), .val (.int p2), .val (.int p3), .val (.int p4), .val (.ref a_0), .val (.ref a_1), .val (.int i_0), .val (.ref a_2), .val (.ref a_3), .val (.ref a_4), .val (.ref a_5), .val (.ref a_6), .val .null, .val (.int r177_18), .val (.ref o19), .unset, .unset]) rfl k) ?_
    show GoH _ _ _ _ _ _ _ _ _ _ T20 (mkF m 204 #[.val (.int p1), .val (.int p2), .val (.int p3), .val (.int p4), .val (.ref a_0), .val (.ref a_1), .val (.int i_0), .val (.ref a_2), .val (.ref a_3), .val (.ref a_4), .val (.ref a_5), .val (.ref a_6), .val .null, .val (.int r177_18), .val (.ref o19), .unset, .unset] [])
    refine GoH.step (fun t k => XS.iload X20.here hx rfl (hb hby at_204) rfl k) ?_
    show GoH _ _ _ _ _ _ _ _ _ _ T20 (mkF m 206 #[.val (.int p1), .val (.int p2), .val (.int p3), .val (.int p4), .val (.ref a_0), .val (.ref a_1), .val (.int i_0), .val (.ref a_2), .val (.ref a_3), .val (.ref a_4), .val (.ref a_5), .val (.ref a_6), .val .null, .val (.int r177_18), .val (.ref o19), .unset, .unset] [(.int i_0)])
    have hb206_21 : ¬ (i_0 = (0 : Int32)) := by exact hkk
    refine GoH.step (fun t k => XS.ifYes X20.here hx rfl (pc0 := 206) (pc' := 213) rfl (hb hby at_206) rfl (XT.i0_ne_t hb206_21) (by decide) (by decide) k) ?_
    show GoH _ _ _ _ _ _ _ _ _ _ T20 (mkF m 213 #[.val (.int p1), .val (.int p2), .val (.int p3), .val (.int p4), .val (.ref a_0), .val (.ref a_1), .val (.int i_0), .val (.ref a_2), .val (.ref a_3), .val (.ref a_4), .val (.ref a_5), .val (.ref a_6), .val .null, .val (.int r177_18), .val (.ref o19), .unset, .unset] [])
    refine GoH.step (fun t k => XS.iconst X20.here hx rfl (hb hby at_213) k) ?_
    show GoH _ _ _ _ _ _ _ _ _ _ T20 (mkF m 214 #[.val (.int p1), .val (.int p2), .val (.int p3), .val (.int p4), .val (.ref a_0), .val (.ref a_1), .val (.int i_0), .val (.ref a_2), .val (.ref a_3), .val (.ref a_4), .val (.ref a_5), .val (.ref a_6), .val .null, .val (.int r177_18), .val (.ref o19), .unset, .unset] [(.int (0 : Int32))])
    refine GoH.step (fun t k => XS.istore X20.here hx rfl (hb hby at_214) rfl (l' := #[.val (.int p1), .val (.int p2), .val (.int p3), .val (.int p4), .val (.ref a_0), .val (.ref a_1), .val (.int i_0), .val (.ref a_2), .val (.ref a_3), .val (.ref a_4), .val (.ref a_5), .val (.ref a_6), .val .null, .val (.int r177_18), .val (.ref o19), .val (.int (0 : Int32)), .unset]) rfl k) ?_
    show GoH _ _ _ _ _ _ _ _ _ _ T20 (mkF m 216 #[.val (.int p1), .val (.int p2), .val (.int p3), .val (.int p4), .val (.ref a_0), .val (.ref a_1), .val (.int i_0), .val (.ref a_2), .val (.ref a_3), .val (.ref a_4), .val (.ref a_5), .val (.ref a_6), .val .null, .val (.int r177_18), .val (.ref o19), .val (.int (0 : Int32)), .unset] [])
    refine GoH.step (fun t k => XS.aload X20.here hx rfl (hb hby at_216) rfl rfl k) ?_
    show GoH _ _ _ _ _ _ _ _ _ _ T20 (mkF m 218 #[.val (.int p1), .val (.int p2), .val (.int p3), .val (.int p4), .val (.ref a_0), .val (.ref a_1), .val (.int i_0), .val (.ref a_2), .val (.ref a_3), .val (.ref a_4), .val (.ref a_5), .val (.ref a_6), .val .null, .val (.int r177_18), .val (.ref o19), .val (.int (0 : Int32)), .unset] [(.ref o19)])
    obtain ⟨cq22, kq22, qa22, qb22, qc22⟩ := isOf hZ1 rfl f20_0
    obtain ⟨_, _, ⟨T22, L22, k22, n22⟩, -, X22, ⟨Lc22, hQ22, l22, y22, z22⟩, st22⟩ := X20.virtualBack hx (y := (⟨"com/example/grab1/grab1/cli/Command$Option", "isFlag", "()Z"⟩ : MethodName)) (z := (⟨"com/example/grab1/grab1/cli/Command$Option", "isFlag", "()Z"⟩ : MethodName)) hown1 (mvT hZ1 (hw _ (List.mem_of_getElem? (i := 50) rfl))) (mvT hZ1 (hw _ (List.mem_of_getElem? (i := 51) rfl))) (notFace_of_selects (args := #[]) (mvT hZ1 (hw _ (List.mem_of_getElem? (i := 53) rfl)))) (mvT hZ1 (hw _ (List.mem_of_getElem? (i := 53) rfl))) (mvT hZ1 (hw _ (List.mem_of_getElem? (i := 52) rfl))) (by decide) (backOf (W := 0) (rmIFr l Z a0 hw [] o19 a_5 T20.heap n0 Zs20 f20_1) hZ1 (hw _ (List.mem_of_getElem? (i := 54) rfl)) (hw _ (List.mem_of_getElem? (i := 32) rfl)) (by decide) (by decide)) qa22 qc22 (g := (mkF m 218 #[.val (.int p1), .val (.int p2), .val (.int p3), .val (.int p4), .val (.ref a_0), .val (.ref a_1), .val (.int i_0), .val (.ref a_2), .val (.ref a_3), .val (.ref a_4), .val (.ref a_5), .val (.ref a_6), .val .null, .val (.int r177_18), .val (.ref o19), .val (.int (0 : Int32)), .unset] [(.ref o19)])) rfl (by rw [hml]; rfl) (Steps.refl _) (argsL := []) (rest := []) (lenOf pd_4 rfl) rfl (by show 2 * 0 + _ ≤ _; exact Nat.le_of_eq rfl) (hb hby at_218) (fun _ _ => ⟨rfl, rfl, (by decide : 30 + 1 + 0 + 0 ≤ _), (by decide : 400 + 4 + 0 + 0 ≤ _)⟩)
    dsimp only [Pt.U, Pt.locs, Pt.cells, Pt.slots] at X22 l22 y22 z22 st22 hQ22
    subst l22 y22 z22
    obtain ⟨rfl, N22q, e22⟩ := hQ22
    have N22 := Fr.app N20 N22q
    refine GoH.step (fun t k => st22.trans k) ?_
    show GoH _ _ _ _ _ _ _ _ _ _ T22 (mkF m 221 #[.val (.int p1), .val (.int p2), .val (.int p3), .val (.int p4), .val (.ref a_0), .val (.ref a_1), .val (.int i_0), .val (.ref a_2), .val (.ref a_3), .val (.ref a_4), .val (.ref a_5), .val (.ref a_6), .val .null, .val (.int r177_18), .val (.ref o19), .val (.int (0 : Int32)), .unset] [(.int (0 : Int32))])
    refine GoH.step (fun t k => XS.iload X22.here hx rfl (hb hby at_221) rfl k) ?_
    show GoH _ _ _ _ _ _ _ _ _ _ T22 (mkF m 223 #[.val (.int p1), .val (.int p2), .val (.int p3), .val (.int p4), .val (.ref a_0), .val (.ref a_1), .val (.int i_0), .val (.ref a_2), .val (.ref a_3), .val (.ref a_4), .val (.ref a_5), .val (.ref a_6), .val .null, .val (.int r177_18), .val (.ref o19), .val (.int (0 : Int32)), .unset] [(.int (0 : Int32)), (.int (0 : Int32))])
    have hb223_23 : (0 : Int32) = (0 : Int32) := by decide
    refine GoH.step (fun t k => XS.icmpNo X22.here hx rfl (hb hby at_223) rfl (XT.ii_ne_f hb223_23) k) ?_
    show GoH _ _ _ _ _ _ _ _ _ _ T22 (mkF m 226 #[.val (.int p1), .val (.int p2), .val (.int p3), .val (.int p4), .val (.ref a_0), .val (.ref a_1), .val (.int i_0), .val (.ref a_2), .val (.ref a_3), .val (.ref a_4), .val (.ref a_5), .val (.ref a_6), .val .null, .val (.int r177_18), .val (.ref o19), .val (.int (0 : Int32)), .unset] [])
    refine GoH.step (fun t k => XS.iconst X22.here hx rfl (hb hby at_226) k) ?_
    show GoH _ _ _ _ _ _ _ _ _ _ T22 (mkF m 227 #[.val (.int p1), .val (.int p2), .val (.int p3), .val (.int p4), .val (.ref a_0), .val (.ref a_1), .val (.int i_0), .val (.ref a_2), .val (.ref a_3), .val (.ref a_4), .val (.ref a_5), .val (.ref a_6), .val .null, .val (.int r177_18), .val (.ref o19), .val (.int (0 : Int32)), .unset] [(.int (1 : Int32))])
    refine GoH.step (fun t k => XS.goto X22.here hx rfl (pc0 := 227) (pc' := 231) rfl (hb hby at_227) (by decide) (by decide) k) ?_
    show GoH _ _ _ _ _ _ _ _ _ _ T22 (mkF m 231 #[.val (.int p1), .val (.int p2), .val (.int p3), .val (.int p4), .val (.ref a_0), .val (.ref a_1), .val (.int i_0), .val (.ref a_2), .val (.ref a_3), .val (.ref a_4), .val (.ref a_5), .val (.ref a_6), .val .null, .val (.int r177_18), .val (.ref o19), .val (.int (0 : Int32)), .unset] [(.int (1 : Int32))])
    refine GoH.step (fun t k => XS.istore X22.here hx rfl (hb hby at_231) rfl (l' := #[.val (.int p1), .val (.int p2), .val (.int p3), .val (.int p4), .val (.ref a_0), .val (.ref a_1), .val (.int i_0), .val (.ref a_2), .val (.ref a_3), .val (.ref a_4), .val (.ref a_5), .val (.ref a_6), .val .null, .val (.int r177_18), .val (.ref o19), .val (.int (0 : Int32)), .val (.int (1 : Int32))]) rfl k) ?_
    show GoH _ _ _ _ _ _ _ _ _ _ T22 (mkF m 233 #[.val (.int p1), .val (.int p2), .val (.int p3), .val (.int p4), .val (.ref a_0), .val (.ref a_1), .val (.int i_0), .val (.ref a_2), .val (.ref a_3), .val (.ref a_4), .val (.ref a_5), .val (.ref a_6), .val .null, .val (.int r177_18), .val (.ref o19), .val (.int (0 : Int32)), .val (.int (1 : Int32))] [])
    refine GoH.step (fun t k => XS.iload X22.here hx rfl (hb hby at_233) rfl k) ?_
    show GoH _ _ _ _ _ _ _ _ _ _ T22 (mkF m 235 #[.val (.int p1), .val (.int p2), .val (.int p3), .val (.int p4), .val (.ref a_0), .val (.ref a_1), .val (.int i_0), .val (.ref a_2), .val (.ref a_3), .val (.ref a_4), .val (.ref a_5), .val (.ref a_6), .val .null, .val (.int r177_18), .val (.ref o19), .val (.int (0 : Int32)), .val (.int (1 : Int32))] [(.int (1 : Int32))])
    have hb235_24 : ¬ ((1 : Int32) = (0 : Int32)) := by decide
    refine GoH.step (fun t k => XS.ifNo X22.here hx rfl (hb hby at_235) rfl (XT.i0_eq_f hb235_24) k) ?_
    show GoH _ _ _ _ _ _ _ _ _ _ T22 (mkF m 238 #[.val (.int p1), .val (.int p2), .val (.int p3), .val (.int p4), .val (.ref a_0), .val (.ref a_1), .val (.int i_0), .val (.ref a_2), .val (.ref a_3), .val (.ref a_4), .val (.ref a_5), .val (.ref a_6), .val .null, .val (.int r177_18), .val (.ref o19), .val (.int (0 : Int32)), .val (.int (1 : Int32))] [])
    refine GoH.step (fun t k => XS.aload X22.here hx rfl (hb hby at_238) rfl rfl k) ?_
    show GoH _ _ _ _ _ _ _ _ _ _ T22 (mkF m 240 #[.val (.int p1), .val (.int p2), .val (.int p3), .val (.int p4), .val (.ref a_0), .val (.ref a_1), .val (.int i_0), .val (.ref a_2), .val (.ref a_3), .val (.ref a_4), .val (.ref a_5), .val (.ref a_6), .val .null, .val (.int r177_18), .val (.ref o19), .val (.int (0 : Int32)), .val (.int (1 : Int32))] [(.ref a_1)])
    obtain ⟨_, _, ⟨T25, L25, k25, n25⟩, -, X25, ⟨Lc25, hQ25, l25, y25, z25⟩, st25⟩ := Jvm.LawKit.callS X22 hx (y := (⟨"com/example/grab1/grab1/cli/Command$Option", "flag", "(Ljava/lang/String;)Lcom/example/grab1/grab1/cli/Command$Option;"⟩ : MethodName)) hown1 (mvT hZ1 (hw _ (List.mem_of_getElem? (i := 55) rfl))) (mvT hZ1 (hw _ (List.mem_of_getElem? (i := 56) rfl))) (mvT hZ1 (hw _ (List.mem_of_getElem? (i := 32) rfl))) (mvT hZ1 (hw _ (List.mem_of_getElem? (i := 57) rfl))) (by decide) (backOf (W := 0) (rmFl l Z a0 hw [] a_1 T20.heap n0 Zs20 ) hZ1 (hw _ (List.mem_of_getElem? (i := 57) rfl)) (hw _ (List.mem_of_getElem? (i := 32) rfl)) (by decide) (by decide)) (g := (mkF m 240 #[.val (.int p1), .val (.int p2), .val (.int p3), .val (.int p4), .val (.ref a_0), .val (.ref a_1), .val (.int i_0), .val (.ref a_2), .val (.ref a_3), .val (.ref a_4), .val (.ref a_5), .val (.ref a_6), .val .null, .val (.int r177_18), .val (.ref o19), .val (.int (0 : Int32)), .val (.int (1 : Int32))] [(.ref a_1)])) rfl (by rw [hml]; rfl) (argsL := [(.ref a_1)]) (rest := []) (lenOf pd_5 rfl) rfl (by show 2 * 0 + _ ≤ _; exact Nat.le_of_eq rfl) (hb hby at_240) (fun _ _ => ⟨rfl, (e22), (by decide : 30 + 1 + 0 + 0 + 1 ≤ _), (by decide : 400 + 4 + 0 + 0 + 4 ≤ _)⟩)
    dsimp only [Pt.U, Pt.locs, Pt.cells, Pt.slots] at X25 l25 y25 z25 st25 hQ25
    subst l25 y25 z25
    obtain ⟨ob25, rfl, N25q, Kq25, gq25, Eq25, Fq25⟩ := hQ25
    have N25 := Fr.app N22 N25q
    have ne_o19_ob25 : o19 ≠ ob25 := Nat.ne_of_lt (Nat.lt_of_lt_of_le f20_0.lt gq25)
    have f25_0 : Exa Z T25.heap o19 "com/example/grab1/grab1/cli/Command$Option" := (f20_0.keep Kq25)
    have f25_1 : Fld Z T25.heap o19 "com/example/grab1/grab1/cli/Command$Option" "value" "Ljava/lang/String;" (.ref a_5) := (f20_1.keep Kq25 nin0)
    have f25_2 : Exa Z T25.heap ob25 "com/example/grab1/grab1/cli/Command$Option" := Eq25
    have f25_3 : Fld Z T25.heap ob25 "com/example/grab1/grab1/cli/Command$Option" "value" "Ljava/lang/String;" .null := Fq25
    have sfk25 : ∀ x ∈ ([] : List Addr), Safe Z own_EL vm0 T20.heap x := sf0
    have hk25 : _ ≤ T25.heap.size := Nat.le_trans hk20 Kq25.1
    have C25 : CHr Z own_EL s.vm h0 vm0 T25.heap := C20.trans (CHr.keep Kq25 sfk25 C20.1)
    have Zs25 : n0 ≤ T25.heap.size := (Nat.le_trans Zs20 Kq25.1)
    have O25 : Old Z n0 T25.heap := O20.keep Kq25 all0
    refine GoH.step st25 ?_
    show GoH _ _ _ _ _ _ _ _ _ _ T25 (mkF m 243 #[.val (.int p1), .val (.int p2), .val (.int p3), .val (.int p4), .val (.ref a_0), .val (.ref a_1), .val (.int i_0), .val (.ref a_2), .val (.ref a_3), .val (.ref a_4), .val (.ref a_5), .val (.ref a_6), .val .null, .val (.int r177_18), .val (.ref o19), .val (.int (0 : Int32)), .val (.int (1 : Int32))] [(.ref ob25)])
    obtain ⟨cq26, kq26, qa26, qb26, qc26⟩ := isOf hZ1 rfl f25_2
    obtain ⟨_, _, ⟨T26, L26, k26, n26⟩, -, X26, ⟨Lc26, hQ26, l26, y26, z26⟩, st26⟩ := X25.virtualBack hx (y := (⟨"com/example/grab1/grab1/cli/Command$Option", "isFlag", "()Z"⟩ : MethodName)) (z := (⟨"com/example/grab1/grab1/cli/Command$Option", "isFlag", "()Z"⟩ : MethodName)) hown1 (mvT hZ1 (hw _ (List.mem_of_getElem? (i := 50) rfl))) (mvT hZ1 (hw _ (List.mem_of_getElem? (i := 51) rfl))) (notFace_of_selects (args := #[]) (mvT hZ1 (hw _ (List.mem_of_getElem? (i := 53) rfl)))) (mvT hZ1 (hw _ (List.mem_of_getElem? (i := 53) rfl))) (mvT hZ1 (hw _ (List.mem_of_getElem? (i := 52) rfl))) (by decide) (backOf (W := 0) (rmIFn l Z a0 hw [] ob25 T25.heap n0 Zs25 f25_3) hZ1 (hw _ (List.mem_of_getElem? (i := 54) rfl)) (hw _ (List.mem_of_getElem? (i := 32) rfl)) (by decide) (by decide)) qa26 qc26 (g := (mkF m 243 #[.val (.int p1), .val (.int p2), .val (.int p3), .val (.int p4), .val (.ref a_0), .val (.ref a_1), .val (.int i_0), .val (.ref a_2), .val (.ref a_3), .val (.ref a_4), .val (.ref a_5), .val (.ref a_6), .val .null, .val (.int r177_18), .val (.ref o19), .val (.int (0 : Int32)), .val (.int (1 : Int32))] [(.ref ob25)])) rfl (by rw [hml]; rfl) (Steps.refl _) (argsL := []) (rest := []) (lenOf pd_4 rfl) rfl (by show 2 * 0 + _ ≤ _; exact Nat.le_of_eq rfl) (hb hby at_243) (fun _ _ => ⟨rfl, rfl, (by decide : 30 + 1 + 0 + 0 + 1 + 0 ≤ _), (by decide : 400 + 4 + 0 + 0 + 4 + 0 ≤ _)⟩)
    dsimp only [Pt.U, Pt.locs, Pt.cells, Pt.slots] at X26 l26 y26 z26 st26 hQ26
    subst l26 y26 z26
    obtain ⟨rfl, N26q, e26⟩ := hQ26
    have N26 := Fr.app N25 N26q
    refine GoH.step (fun t k => st26.trans k) ?_
    show GoH _ _ _ _ _ _ _ _ _ _ T26 (mkF m 246 #[.val (.int p1), .val (.int p2), .val (.int p3), .val (.int p4), .val (.ref a_0), .val (.ref a_1), .val (.int i_0), .val (.ref a_2), .val (.ref a_3), .val (.ref a_4), .val (.ref a_5), .val (.ref a_6), .val .null, .val (.int r177_18), .val (.ref o19), .val (.int (0 : Int32)), .val (.int (1 : Int32))] [(.int (1 : Int32))])
    have hb246_27 : ¬ ((1 : Int32) = (0 : Int32)) := by decide
    refine GoH.step (fun t k => XS.ifNo X26.here hx rfl (hb hby at_246) rfl (XT.i0_eq_f hb246_27) k) ?_
    show GoH _ _ _ _ _ _ _ _ _ _ T26 (mkF m 249 #[.val (.int p1), .val (.int p2), .val (.int p3), .val (.int p4), .val (.ref a_0), .val (.ref a_1), .val (.int i_0), .val (.ref a_2), .val (.ref a_3), .val (.ref a_4), .val (.ref a_5), .val (.ref a_6), .val .null, .val (.int r177_18), .val (.ref o19), .val (.int (0 : Int32)), .val (.int (1 : Int32))] [])
    refine GoH.step (fun t k => XS.iconst X26.here hx rfl (hb hby at_249) k) ?_
    show GoH _ _ _ _ _ _ _ _ _ _ T26 (mkF m 250 #[.val (.int p1), .val (.int p2), .val (.int p3), .val (.int p4), .val (.ref a_0), .val (.ref a_1), .val (.int i_0), .val (.ref a_2), .val (.ref a_3), .val (.ref a_4), .val (.ref a_5), .val (.ref a_6), .val .null, .val (.int r177_18), .val (.ref o19), .val (.int (0 : Int32)), .val (.int (1 : Int32))] [(.int (1 : Int32))])
    refine GoH.step (fun t k => XS.goto X26.here hx rfl (pc0 := 250) (pc' := 254) rfl (hb hby at_250) (by decide) (by decide) k) ?_
    show GoH _ _ _ _ _ _ _ _ _ _ T26 (mkF m 254 #[.val (.int p1), .val (.int p2), .val (.int p3), .val (.int p4), .val (.ref a_0), .val (.ref a_1), .val (.int i_0), .val (.ref a_2), .val (.ref a_3), .val (.ref a_4), .val (.ref a_5), .val (.ref a_6), .val .null, .val (.int r177_18), .val (.ref o19), .val (.int (0 : Int32)), .val (.int (1 : Int32))] [(.int (1 : Int32))])
    refine GoH.step (fun t k => XS.istore X26.here hx rfl (hb hby at_254) rfl (l' := #[.val (.int p1), .val (.int p2), .val (.int p3), .val (.int p4), .val (.ref a_0), .val (.ref a_1), .val (.int i_0), .val (.ref a_2), .val (.ref a_3), .val (.ref a_4), .val (.ref a_5), .val (.ref a_6), .val .null, .val (.int r177_18), .val (.ref o19), .val (.int (0 : Int32)), .val (.int (1 : Int32))]) rfl k) ?_
    show GoH _ _ _ _ _ _ _ _ _ _ T26 (mkF m 256 #[.val (.int p1), .val (.int p2), .val (.int p3), .val (.int p4), .val (.ref a_0), .val (.ref a_1), .val (.int i_0), .val (.ref a_2), .val (.ref a_3), .val (.ref a_4), .val (.ref a_5), .val (.ref a_6), .val .null, .val (.int r177_18), .val (.ref o19), .val (.int (0 : Int32)), .val (.int (1 : Int32))] [])
    refine GoH.step (fun t k => XS.aload X26.here hx rfl (hb hby at_256) rfl rfl k) ?_
    show GoH _ _ _ _ _ _ _ _ _ _ T26 (mkF m 258 #[.val (.int p1), .val (.int p2), .val (.int p3), .val (.int p4), .val (.ref a_0), .val (.ref a_1), .val (.int i_0), .val (.ref a_2), .val (.ref a_3), .val (.ref a_4), .val (.ref a_5), .val (.ref a_6), .val .null, .val (.int r177_18), .val (.ref o19), .val (.int (0 : Int32)), .val (.int (1 : Int32))] [(.ref a_5)])
    refine GoH.step (fun t k => XS.ifnullNo X26.here hx rfl (hb hby at_258) rfl k) ?_
    show GoH _ _ _ _ _ _ _ _ _ _ T26 (mkF m 261 #[.val (.int p1), .val (.int p2), .val (.int p3), .val (.int p4), .val (.ref a_0), .val (.ref a_1), .val (.int i_0), .val (.ref a_2), .val (.ref a_3), .val (.ref a_4), .val (.ref a_5), .val (.ref a_6), .val .null, .val (.int r177_18), .val (.ref o19), .val (.int (0 : Int32)), .val (.int (1 : Int32))] [])
    refine GoH.step (fun t k => XS.iload X26.here hx rfl (hb hby at_261) rfl k) ?_
    show GoH _ _ _ _ _ _ _ _ _ _ T26 (mkF m 263 #[.val (.int p1), .val (.int p2), .val (.int p3), .val (.int p4), .val (.ref a_0), .val (.ref a_1), .val (.int i_0), .val (.ref a_2), .val (.ref a_3), .val (.ref a_4), .val (.ref a_5), .val (.ref a_6), .val .null, .val (.int r177_18), .val (.ref o19), .val (.int (0 : Int32)), .val (.int (1 : Int32))] [(.int (1 : Int32))])
    have hb263_28 : ¬ ((1 : Int32) = (0 : Int32)) := by decide
    refine GoH.step (fun t k => XS.ifNo X26.here hx rfl (hb hby at_263) rfl (XT.i0_eq_f hb263_28) k) ?_
    show GoH _ _ _ _ _ _ _ _ _ _ T26 (mkF m 266 #[.val (.int p1), .val (.int p2), .val (.int p3), .val (.int p4), .val (.ref a_0), .val (.ref a_1), .val (.int i_0), .val (.ref a_2), .val (.ref a_3), .val (.ref a_4), .val (.ref a_5), .val (.ref a_6), .val .null, .val (.int r177_18), .val (.ref o19), .val (.int (0 : Int32)), .val (.int (1 : Int32))] [])
    refine GoH.step (fun t k => XS.aload X26.here hx rfl (hb hby at_266) rfl rfl k) ?_
    show GoH _ _ _ _ _ _ _ _ _ _ T26 (mkF m 268 #[.val (.int p1), .val (.int p2), .val (.int p3), .val (.int p4), .val (.ref a_0), .val (.ref a_1), .val (.int i_0), .val (.ref a_2), .val (.ref a_3), .val (.ref a_4), .val (.ref a_5), .val (.ref a_6), .val .null, .val (.int r177_18), .val (.ref o19), .val (.int (0 : Int32)), .val (.int (1 : Int32))] [(.ref a_1)])
    refine GoH.step (fun t k => XS.aload X26.here hx rfl (hb hby at_268) rfl rfl k) ?_
    show GoH _ _ _ _ _ _ _ _ _ _ T26 (mkF m 270 #[.val (.int p1), .val (.int p2), .val (.int p3), .val (.int p4), .val (.ref a_0), .val (.ref a_1), .val (.int i_0), .val (.ref a_2), .val (.ref a_3), .val (.ref a_4), .val (.ref a_5), .val (.ref a_6), .val .null, .val (.int r177_18), .val (.ref o19), .val (.int (0 : Int32)), .val (.int (1 : Int32))] [(.ref a_5), (.ref a_1)])
    obtain ⟨_, _, ⟨T29, L29, k29, n29⟩, -, X29, ⟨Lc29, hQ29, l29, y29, z29⟩, st29⟩ := Jvm.LawKit.callS X26 hx (y := (⟨"com/example/grab1/grab1/cli/Command$Option", "optional", "(Ljava/lang/String;Ljava/lang/String;)Lcom/example/grab1/grab1/cli/Command$Option;"⟩ : MethodName)) hown1 (mvT hZ1 (hw _ (List.mem_of_getElem? (i := 60) rfl))) (mvT hZ1 (hw _ (List.mem_of_getElem? (i := 61) rfl))) (mvT hZ1 (hw _ (List.mem_of_getElem? (i := 32) rfl))) (mvT hZ1 (hw _ (List.mem_of_getElem? (i := 62) rfl))) (by decide) (backOf (W := 0) (rmOp l Z a0 hw [] a_1 a_5 T25.heap n0 Zs25 ) hZ1 (hw _ (List.mem_of_getElem? (i := 62) rfl)) (hw _ (List.mem_of_getElem? (i := 32) rfl)) (by decide) (by decide)) (g := (mkF m 270 #[.val (.int p1), .val (.int p2), .val (.int p3), .val (.int p4), .val (.ref a_0), .val (.ref a_1), .val (.int i_0), .val (.ref a_2), .val (.ref a_3), .val (.ref a_4), .val (.ref a_5), .val (.ref a_6), .val .null, .val (.int r177_18), .val (.ref o19), .val (.int (0 : Int32)), .val (.int (1 : Int32))] [(.ref a_5), (.ref a_1)])) rfl (by rw [hml]; rfl) (argsL := [(.ref a_1), (.ref a_5)]) (rest := []) (lenOf pd_6 rfl) rfl (by show 2 * 0 + _ ≤ _; exact Nat.le_of_eq rfl) (hb hby at_270) (fun _ _ => ⟨rfl, (e26), (by decide : 30 + 1 + 0 + 0 + 1 + 0 + 1 ≤ _), (by decide : 400 + 4 + 0 + 0 + 4 + 0 + 4 ≤ _)⟩)
    dsimp only [Pt.U, Pt.locs, Pt.cells, Pt.slots] at X29 l29 y29 z29 st29 hQ29
    subst l29 y29 z29
    obtain ⟨ob29, rfl, N29q, Kq29, gq29, Eq29, Fq29⟩ := hQ29
    have N29 := Fr.app N26 N29q
    have ne_o19_ob29 : o19 ≠ ob29 := Nat.ne_of_lt (Nat.lt_of_lt_of_le f25_0.lt gq29)
    have ne_ob25_ob29 : ob25 ≠ ob29 := Nat.ne_of_lt (Nat.lt_of_lt_of_le f25_2.lt gq29)
    have f29_0 : Exa Z T29.heap o19 "com/example/grab1/grab1/cli/Command$Option" := (f25_0.keep Kq29)
    have f29_1 : Fld Z T29.heap o19 "com/example/grab1/grab1/cli/Command$Option" "value" "Ljava/lang/String;" (.ref a_5) := (f25_1.keep Kq29 nin0)
    have f29_2 : Exa Z T29.heap ob25 "com/example/grab1/grab1/cli/Command$Option" := (f25_2.keep Kq29)
    have f29_3 : Fld Z T29.heap ob25 "com/example/grab1/grab1/cli/Command$Option" "value" "Ljava/lang/String;" .null := (f25_3.keep Kq29 nin0)
    have f29_4 : Exa Z T29.heap ob29 "com/example/grab1/grab1/cli/Command$Option" := Eq29
    have f29_5 : Fld Z T29.heap ob29 "com/example/grab1/grab1/cli/Command$Option" "value" "Ljava/lang/String;" (.ref a_5) := Fq29
    have sfk29 : ∀ x ∈ ([] : List Addr), Safe Z own_EL vm0 T25.heap x := sf0
    have hk29 : _ ≤ T29.heap.size := Nat.le_trans hk25 Kq29.1
    have C29 : CHr Z own_EL s.vm h0 vm0 T29.heap := C25.trans (CHr.keep Kq29 sfk29 C25.1)
    have Zs29 : n0 ≤ T29.heap.size := (Nat.le_trans Zs25 Kq29.1)
    have O29 : Old Z n0 T29.heap := O25.keep Kq29 all0
    refine GoH.step st29 ?_
    show GoH _ _ _ _ _ _ _ _ _ _ T29 (mkF m 273 #[.val (.int p1), .val (.int p2), .val (.int p3), .val (.int p4), .val (.ref a_0), .val (.ref a_1), .val (.int i_0), .val (.ref a_2), .val (.ref a_3), .val (.ref a_4), .val (.ref a_5), .val (.ref a_6), .val .null, .val (.int r177_18), .val (.ref o19), .val (.int (0 : Int32)), .val (.int (1 : Int32))] [(.ref ob29)])
    obtain ⟨cq30, kq30, qa30, qb30, qc30⟩ := isOf hZ1 rfl f29_4
    obtain ⟨_, _, ⟨T30, L30, k30, n30⟩, -, X30, ⟨Lc30, hQ30, l30, y30, z30⟩, st30⟩ := X29.virtualBack hx (y := (⟨"com/example/grab1/grab1/cli/Command$Option", "isFlag", "()Z"⟩ : MethodName)) (z := (⟨"com/example/grab1/grab1/cli/Command$Option", "isFlag", "()Z"⟩ : MethodName)) hown1 (mvT hZ1 (hw _ (List.mem_of_getElem? (i := 50) rfl))) (mvT hZ1 (hw _ (List.mem_of_getElem? (i := 51) rfl))) (notFace_of_selects (args := #[]) (mvT hZ1 (hw _ (List.mem_of_getElem? (i := 53) rfl)))) (mvT hZ1 (hw _ (List.mem_of_getElem? (i := 53) rfl))) (mvT hZ1 (hw _ (List.mem_of_getElem? (i := 52) rfl))) (by decide) (backOf (W := 0) (rmIFr l Z a0 hw [] ob29 a_5 T29.heap n0 Zs29 f29_5) hZ1 (hw _ (List.mem_of_getElem? (i := 54) rfl)) (hw _ (List.mem_of_getElem? (i := 32) rfl)) (by decide) (by decide)) qa30 qc30 (g := (mkF m 273 #[.val (.int p1), .val (.int p2), .val (.int p3), .val (.int p4), .val (.ref a_0), .val (.ref a_1), .val (.int i_0), .val (.ref a_2), .val (.ref a_3), .val (.ref a_4), .val (.ref a_5), .val (.ref a_6), .val .null, .val (.int r177_18), .val (.ref o19), .val (.int (0 : Int32)), .val (.int (1 : Int32))] [(.ref ob29)])) rfl (by rw [hml]; rfl) (Steps.refl _) (argsL := []) (rest := []) (lenOf pd_4 rfl) rfl (by show 2 * 0 + _ ≤ _; exact Nat.le_of_eq rfl) (hb hby at_273) (fun _ _ => ⟨rfl, rfl, (by decide : 30 + 1 + 0 + 0 + 1 + 0 + 1 + 0 ≤ _), (by decide : 400 + 4 + 0 + 0 + 4 + 0 + 4 + 0 ≤ _)⟩)
    dsimp only [Pt.U, Pt.locs, Pt.cells, Pt.slots] at X30 l30 y30 z30 st30 hQ30
    subst l30 y30 z30
    obtain ⟨rfl, N30q, e30⟩ := hQ30
    have N30 := Fr.app N29 N30q
    refine GoH.step (fun t k => st30.trans k) ?_
    show GoH _ _ _ _ _ _ _ _ _ _ T30 (mkF m 276 #[.val (.int p1), .val (.int p2), .val (.int p3), .val (.int p4), .val (.ref a_0), .val (.ref a_1), .val (.int i_0), .val (.ref a_2), .val (.ref a_3), .val (.ref a_4), .val (.ref a_5), .val (.ref a_6), .val .null, .val (.int r177_18), .val (.ref o19), .val (.int (0 : Int32)), .val (.int (1 : Int32))] [(.int (0 : Int32))])
    have hb276_31 : (0 : Int32) = (0 : Int32) := by decide
    refine GoH.step (fun t k => XS.ifNo X30.here hx rfl (hb hby at_276) rfl (XT.i0_ne_f hb276_31) k) ?_
    show GoH _ _ _ _ _ _ _ _ _ _ T30 (mkF m 279 #[.val (.int p1), .val (.int p2), .val (.int p3), .val (.int p4), .val (.ref a_0), .val (.ref a_1), .val (.int i_0), .val (.ref a_2), .val (.ref a_3), .val (.ref a_4), .val (.ref a_5), .val (.ref a_6), .val .null, .val (.int r177_18), .val (.ref o19), .val (.int (0 : Int32)), .val (.int (1 : Int32))] [])
    refine GoH.step (fun t k => XS.iconst X30.here hx rfl (hb hby at_279) k) ?_
    show GoH _ _ _ _ _ _ _ _ _ _ T30 (mkF m 280 #[.val (.int p1), .val (.int p2), .val (.int p3), .val (.int p4), .val (.ref a_0), .val (.ref a_1), .val (.int i_0), .val (.ref a_2), .val (.ref a_3), .val (.ref a_4), .val (.ref a_5), .val (.ref a_6), .val .null, .val (.int r177_18), .val (.ref o19), .val (.int (0 : Int32)), .val (.int (1 : Int32))] [(.int (1 : Int32))])
    refine GoH.step (fun t k => XS.goto X30.here hx rfl (pc0 := 280) (pc' := 284) rfl (hb hby at_280) (by decide) (by decide) k) ?_
    show GoH _ _ _ _ _ _ _ _ _ _ T30 (mkF m 284 #[.val (.int p1), .val (.int p2), .val (.int p3), .val (.int p4), .val (.ref a_0), .val (.ref a_1), .val (.int i_0), .val (.ref a_2), .val (.ref a_3), .val (.ref a_4), .val (.ref a_5), .val (.ref a_6), .val .null, .val (.int r177_18), .val (.ref o19), .val (.int (0 : Int32)), .val (.int (1 : Int32))] [(.int (1 : Int32))])
    refine GoH.step (fun t k => XS.istore X30.here hx rfl (hb hby at_284) rfl (l' := #[.val (.int p1), .val (.int p2), .val (.int p3), .val (.int p4), .val (.ref a_0), .val (.ref a_1), .val (.int i_0), .val (.ref a_2), .val (.ref a_3), .val (.ref a_4), .val (.ref a_5), .val (.ref a_6), .val .null, .val (.int r177_18), .val (.ref o19), .val (.int (0 : Int32)), .val (.int (1 : Int32))]) rfl k) ?_
    show GoH _ _ _ _ _ _ _ _ _ _ T30 (mkF m 286 #[.val (.int p1), .val (.int p2), .val (.int p3), .val (.int p4), .val (.ref a_0), .val (.ref a_1), .val (.int i_0), .val (.ref a_2), .val (.ref a_3), .val (.ref a_4), .val (.ref a_5), .val (.ref a_6), .val .null, .val (.int r177_18), .val (.ref o19), .val (.int (0 : Int32)), .val (.int (1 : Int32))] [])
    refine GoH.step (fun t k => XS.iload X30.here hx rfl (hb hby at_286) rfl k) ?_
    show GoH _ _ _ _ _ _ _ _ _ _ T30 (mkF m 288 #[.val (.int p1), .val (.int p2), .val (.int p3), .val (.int p4), .val (.ref a_0), .val (.ref a_1), .val (.int i_0), .val (.ref a_2), .val (.ref a_3), .val (.ref a_4), .val (.ref a_5), .val (.ref a_6), .val .null, .val (.int r177_18), .val (.ref o19), .val (.int (0 : Int32)), .val (.int (1 : Int32))] [(.int (1 : Int32))])
    have hkr : k0 ≤ T30.heap.size := by rw [(e30)]; exact hk29
    have hCr : CHr Z own_EL s.vm h0 vm0 T30.heap := by rw [(e30)]; exact C29
    refine GoH.ret X30 hx hlk hS1 hkr hZ1 hEL hCr hret rfl (Or.inl ⟨rfl, Or.inr (Or.inl rfl), _, rfl⟩) (hb hby at_288) ?_ (by decide) (by decide)
    show Q0 Z _ _ _ _ _ _ _ _ T30.heap _
    exact ⟨rfl, N30⟩
  by_cases hb177_17 : (p4 &&& (1 : Int32)) = (0 : Int32)
  · refine GoH.step (fun t k => XS.ifYes X1.here hx rfl (pc0 := 177) (pc' := 184) rfl (hb hby at_177) rfl (XT.i0_eq_t hb177_17) (by decide) (by decide) k) ?_
    show GoH _ _ _ _ _ _ _ _ _ _ T (mkF m 184 #[.val (.int p1), .val (.int p2), .val (.int p3), .val (.int p4), .val (.ref a_0), .val (.ref a_1), .val (.int i_0), .val (.ref a_2), .val (.ref a_3), .val (.ref a_4), .val (.ref a_5), .val (.ref a_6), .val .null, .unset, .unset, .unset, .unset] [])
    refine GoH.step (fun t k => XS.iconst X1.here hx rfl (hb hby at_184) k) ?_
    show GoH _ _ _ _ _ _ _ _ _ _ T (mkF m 185 #[.val (.int p1), .val (.int p2), .val (.int p3), .val (.int p4), .val (.ref a_0), .val (.ref a_1), .val (.int i_0), .val (.ref a_2), .val (.ref a_3), .val (.ref a_4), .val (.ref a_5), .val (.ref a_6), .val .null, .unset, .unset, .unset, .unset] [(.int (0 : Int32))])
    exact jnr177_18 _ (Or.inl ⟨rfl, hb177_17⟩)
  · refine GoH.step (fun t k => XS.ifNo X1.here hx rfl (hb hby at_177) rfl (XT.i0_eq_f hb177_17) k) ?_
    show GoH _ _ _ _ _ _ _ _ _ _ T (mkF m 180 #[.val (.int p1), .val (.int p2), .val (.int p3), .val (.int p4), .val (.ref a_0), .val (.ref a_1), .val (.int i_0), .val (.ref a_2), .val (.ref a_3), .val (.ref a_4), .val (.ref a_5), .val (.ref a_6), .val .null, .unset, .unset, .unset, .unset] [])
    refine GoH.step (fun t k => XS.iconst X1.here hx rfl (hb hby at_180) k) ?_
    show GoH _ _ _ _ _ _ _ _ _ _ T (mkF m 181 #[.val (.int p1), .val (.int p2), .val (.int p3), .val (.int p4), .val (.ref a_0), .val (.ref a_1), .val (.int i_0), .val (.ref a_2), .val (.ref a_3), .val (.ref a_4), .val (.ref a_5), .val (.ref a_6), .val .null, .unset, .unset, .unset, .unset] [(.int (1 : Int32))])
    refine GoH.step (fun t k => XS.goto X1.here hx rfl (pc0 := 181) (pc' := 185) rfl (hb hby at_181) (by decide) (by decide) k) ?_
    show GoH _ _ _ _ _ _ _ _ _ _ T (mkF m 185 #[.val (.int p1), .val (.int p2), .val (.int p3), .val (.int p4), .val (.ref a_0), .val (.ref a_1), .val (.int i_0), .val (.ref a_2), .val (.ref a_3), .val (.ref a_4), .val (.ref a_5), .val (.ref a_6), .val .null, .unset, .unset, .unset, .unset] [(.int (1 : Int32))])
    exact jnr177_18 _ (Or.inr ⟨rfl, hb177_17⟩)
set_option maxRecDepth 65536 in
set_option maxHeartbeats 40000000 in
theorem sg174_1 (l : Launch) (Z : State) (a0 : Array Value) (hw : ∀ d ∈ tables_1, d.before a0 Z = true) (p1 : Int32) (p2 : Int32) (p3 : Int32) (p4 : Int32) (G1 : Int32) (h0 : Heap) (n0 : Nat) (Z0 : n0 ≤ h0.size) (O0 : Old Z n0 h0) (S_COMPACT : Sta Z Z.heap "java/lang/String" "COMPACT_STRINGS" "Z" (.int G1)) (P_COMPACT : ¬ (G1 = (0 : Int32))) (a_0 : Addr) (a_1 : Addr) (i_0 : Int32) (a_2 : Addr) (a_3 : Addr) (a_4 : Addr) (a_5 : Addr) (a_6 : Addr) (a_7 : Addr) {p : Program} {e : Env} {s : State} {m : MethodId} {below : List Frame} {meth : Method} {c : Code} {T : State} {locs : List Loc} {h : Heap} {vm0 : Vm} {k0 : Nat} (X1 : Stand p l e room_1 (s.setVm vm0) m #[(.int p1), (.int p2), (.int p3), (.int p4)] below meth c T locs 30 400) (hx : p.tables.exec = Jvm.exec) (hby : c.code = code) (hlk : meth.locks = false) (hml : c.maxLocals = 17) (hret : meth.sig.returnType = ret) (hnm : meth.name = "law") (e1 : T.heap = h) (N1 : Fr n0 locs) (Zs1 : n0 ≤ h.size) (O1 : Old Z n0 h) (hS1 : s.Since vm0 k0) (hk1 : k0 ≤ h.size) (hZ1 : Z.Warmed39 (s.setVm vm0).vm) (hown1 : (s.setVm vm0).vm.findClass "com/example/grab1/grab1/cli/OptionIsFlagPinLaw" = some m.cls) (hEL : EW Z a0 own_EL) (C1 : CHr Z own_EL s.vm h0 vm0 h) (hkk : ¬ (i_0 = (0 : Int32))) :
    GoH p e below s room_1.cells room_1.slots Z own_EL h0 (Q0 Z p1 p2 p3 p4 G1 h0 n0) T (mkF m 174 #[.val (.int p1), .val (.int p2), .val (.int p3), .val (.int p4), .val (.ref a_0), .val (.ref a_1), .val (.int i_0), .val (.ref a_2), .val (.ref a_3), .val (.ref a_4), .val (.ref a_5), .val (.ref a_6), .val (.ref a_7), .unset, .unset, .unset, .unset] []) := by
  show GoH _ _ _ _ _ _ _ _ _ _ T (mkF m 174 #[.val (.int p1), .val (.int p2), .val (.int p3), .val (.int p4), .val (.ref a_0), .val (.ref a_1), .val (.int i_0), .val (.ref a_2), .val (.ref a_3), .val (.ref a_4), .val (.ref a_5), .val (.ref a_6), .val (.ref a_7), .unset, .unset, .unset, .unset] [])
  refine GoH.step (fun t k => XS.iloadN X1.here hx rfl (hb hby at_174) rfl k) ?_
  show GoH _ _ _ _ _ _ _ _ _ _ T (mkF m 175 #[.val (.int p1), .val (.int p2), .val (.int p3), .val (.int p4), .val (.ref a_0), .val (.ref a_1), .val (.int i_0), .val (.ref a_2), .val (.ref a_3), .val (.ref a_4), .val (.ref a_5), .val (.ref a_6), .val (.ref a_7), .unset, .unset, .unset, .unset] [(.int p4)])
  refine GoH.step (fun t k => XS.iconst X1.here hx rfl (hb hby at_175) k) ?_
  show GoH _ _ _ _ _ _ _ _ _ _ T (mkF m 176 #[.val (.int p1), .val (.int p2), .val (.int p3), .val (.int p4), .val (.ref a_0), .val (.ref a_1), .val (.int i_0), .val (.ref a_2), .val (.ref a_3), .val (.ref a_4), .val (.ref a_5), .val (.ref a_6), .val (.ref a_7), .unset, .unset, .unset, .unset] [(.int (1 : Int32)), (.int p4)])
  refine GoH.step (fun t k => XS.iand X1.here hx rfl (hb hby at_176) rfl k) ?_
  show GoH _ _ _ _ _ _ _ _ _ _ T (mkF m 177 #[.val (.int p1), .val (.int p2), .val (.int p3), .val (.int p4), .val (.ref a_0), .val (.ref a_1), .val (.int i_0), .val (.ref a_2), .val (.ref a_3), .val (.ref a_4), .val (.ref a_5), .val (.ref a_6), .val (.ref a_7), .unset, .unset, .unset, .unset] [(.int (p4 &&& (1 : Int32)))])
  have jnr177_35 : ∀ r177_35 : Int32, (r177_35 = (0 : Int32) ∧ (p4 &&& (1 : Int32)) = (0 : Int32)) ∨ (r177_35 = (1 : Int32) ∧ ¬ ((p4 &&& (1 : Int32)) = (0 : Int32))) → GoH p e below s room_1.cells room_1.slots Z own_EL h0 (Q0 Z p1 p2 p3 p4 G1 h0 n0) T (mkF m 185 #[.val (.int p1), .val (.int p2), .val (.int p3), .val (.int p4), .val (.ref a_0), .val (.ref a_1), .val (.int i_0), .val (.ref a_2), .val (.ref a_3), .val (.ref a_4), .val (.ref a_5), .val (.ref a_6), .val (.ref a_7), .unset, .unset, .unset, .unset] [(.int r177_35)]) := by
    intro r177_35 hr177_35
    show GoH _ _ _ _ _ _ _ _ _ _ T (mkF m 185 #[.val (.int p1), .val (.int p2), .val (.int p3), .val (.int p4), .val (.ref a_0), .val (.ref a_1), .val (.int i_0), .val (.ref a_2), .val (.ref a_3), .val (.ref a_4), .val (.ref a_5), .val (.ref a_6), .val (.ref a_7), .unset, .unset, .unset, .unset] [(.int r177_35)])
    refine GoH.step (fun t k => XS.istore X1.here hx rfl (hb hby at_185) rfl (l' := #[.val (.int p1), .val (.int p2), .val (.int p3), .val (.int p4), .val (.ref a_0), .val (.ref a_1), .val (.int i_0), .val (.ref a_2), .val (.ref a_3), .val (.ref a_4), .val (.ref a_5), .val (.ref a_6), .val (.ref a_7), .val (.int r177_35), .unset, .unset, .unset]) rfl k) ?_
    show GoH _ _ _ _ _ _ _ _ _ _ T (mkF m 187 #[.val (.int p1), .val (.int p2), .val (.int p3), .val (.int p4), .val (.ref a_0), .val (.ref a_1), .val (.int i_0), .val (.ref a_2), .val (.ref a_3), .val (.ref a_4), .val (.ref a_5), .val (.ref a_6), .val (.ref a_7), .val (.int r177_35), .unset, .unset, .unset] [])
    obtain ⟨T36, h36, X36, e36, E36, A36, D36, -, st36⟩ := newO X1 hx hZ1 hown1 (hw _ (List.mem_of_getElem? (i := 30) rfl)) (hw _ (List.mem_of_getElem? (i := 31) rfl)) (hw _ (List.mem_of_getElem? (i := 32) rfl)) e1 (g := (mkF m 187 #[.val (.int p1), .val (.int p2), .val (.int p3), .val (.int p4), .val (.ref a_0), .val (.ref a_1), .val (.int i_0), .val (.ref a_2), .val (.ref a_3), .val (.ref a_4), .val (.ref a_5), .val (.ref a_6), .val (.ref a_7), .val (.int r177_35), .unset, .unset, .unset] [])) rfl (hb hby at_187) (by decide) (by decide)
    obtain ⟨o36, g36⟩ : ∃ z, z = h.size := ⟨_, rfl⟩
    rw [← g36] at A36 D36 st36
    have ge_o36 : n0 ≤ o36 := Nat.le_trans Zs1 (Nat.le_of_eq g36.symm)
    have f36_0 : Exa Z h36 o36 "com/example/grab1/grab1/cli/Command$Option" := A36
    have f36_1 : Fld Z h36 o36 "com/example/grab1/grab1/cli/Command$Option" "name" "Ljava/lang/String;" .null := (D36 (Or.inr (hw _ (List.mem_of_getElem? (i := 43) rfl))) (ty := (.object "java/lang/String")) (by decide))
    have f36_2 : Fld Z h36 o36 "com/example/grab1/grab1/cli/Command$Option" "value" "Ljava/lang/String;" .null := (D36 (Or.inr (hw _ (List.mem_of_getElem? (i := 45) rfl))) (ty := (.object "java/lang/String")) (by decide))
    have f36_3 : Fld Z h36 o36 "com/example/grab1/grab1/cli/Command$Option" "fallback" "Ljava/lang/String;" .null := (D36 (Or.inr (hw _ (List.mem_of_getElem? (i := 47) rfl))) (ty := (.object "java/lang/String")) (by decide))
    have f36_4 : Fld Z h36 o36 "com/example/grab1/grab1/cli/Command$Option" "required" "Z" (.int (0 : Int32)) := (D36 (Or.inr (hw _ (List.mem_of_getElem? (i := 49) rfl))) (ty := .boolean) (by decide))
    have hk36 : _ ≤ h36.size := Nat.le_trans hk1 E36.1
    have C36 : CHr Z own_EL s.vm h0 vm0 h36 := C1.trans (CHr.ext E36 C1.1)
    have Zs36 : n0 ≤ h36.size := (Nat.le_trans Zs1 E36.1)
    have O36 : Old Z n0 h36 := O1.ext E36
    refine GoH.step st36 ?_
    show GoH _ _ _ _ _ _ _ _ _ _ T36 (mkF m 190 #[.val (.int p1), .val (.int p2), .val (.int p3), .val (.int p4), .val (.ref a_0), .val (.ref a_1), .val (.int i_0), .val (.ref a_2), .val (.ref a_3), .val (.ref a_4), .val (.ref a_5), .val (.ref a_6), .val (.ref a_7), .val (.int r177_35), .unset, .unset, .unset] [(.ref o36)])
    refine GoH.step (fun t k => XS.dup X36.here hx rfl (hb hby at_190) rfl rfl k) ?_
    show GoH _ _ _ _ _ _ _ _ _ _ T36 (mkF m 191 #[.val (.int p1), .val (.int p2), .val (.int p3), .val (.int p4), .val (.ref a_0), .val (.ref a_1), .val (.int i_0), .val (.ref a_2), .val (.ref a_3), .val (.ref a_4), .val (.ref a_5), .val (.ref a_6), .val (.ref a_7), .val (.int r177_35), .unset, .unset, .unset] [(.ref o36), (.ref o36)])
    refine GoH.step (fun t k => XS.aload X36.here hx rfl (hb hby at_191) rfl rfl k) ?_
    show GoH _ _ _ _ _ _ _ _ _ _ T36 (mkF m 193 #[.val (.int p1), .val (.int p2), .val (.int p3), .val (.int p4), .val (.ref a_0), .val (.ref a_1), .val (.int i_0), .val (.ref a_2), .val (.ref a_3), .val (.ref a_4), .val (.ref a_5), .val (.ref a_6), .val (.ref a_7), .val (.int r177_35), .unset, .unset, .unset] [(.ref a_1), (.ref o36), (.ref o36)])
    refine GoH.step (fun t k => XS.aload X36.here hx rfl (hb hby at_193) rfl rfl k) ?_
    show GoH _ _ _ _ _ _ _ _ _ _ T36 (mkF m 195 #[.val (.int p1), .val (.int p2), .val (.int p3), .val (.int p4), .val (.ref a_0), .val (.ref a_1), .val (.int i_0), .val (.ref a_2), .val (.ref a_3), .val (.ref a_4), .val (.ref a_5), .val (.ref a_6), .val (.ref a_7), .val (.int r177_35), .unset, .unset, .unset] [(.ref a_5), (.ref a_1), (.ref o36), (.ref o36)])
    refine GoH.step (fun t k => XS.aload X36.here hx rfl (hb hby at_195) rfl rfl k) ?_
    show GoH _ _ _ _ _ _ _ _ _ _ T36 (mkF m 197 #[.val (.int p1), .val (.int p2), .val (.int p3), .val (.int p4), .val (.ref a_0), .val (.ref a_1), .val (.int i_0), .val (.ref a_2), .val (.ref a_3), .val (.ref a_4), .val (.ref a_5), .val (.ref a_6), .val (.ref a_7), .val (.int r177_35), .unset, .unset, .unset] [(.ref a_7), (.ref a_5), (.ref a_1), (.ref o36), (.ref o36)])
    refine GoH.step (fun t k => XS.iload X36.here hx rfl (hb hby at_197) rfl k) ?_
    show GoH _ _ _ _ _ _ _ _ _ _ T36 (mkF m 199 #[.val (.int p1), .val (.int p2), .val (.int p3), .val (.int p4), .val (.ref a_0), .val (.ref a_1), .val (.int i_0), .val (.ref a_2), .val (.ref a_3), .val (.ref a_4), .val (.ref a_5), .val (.ref a_6), .val (.ref a_7), .val (.int r177_35), .unset, .unset, .unset] [(.int r177_35), (.ref a_7), (.ref a_5), (.ref a_1), (.ref o36), (.ref o36)])
    obtain ⟨_, _, ⟨T37, L37, k37, n37⟩, -, X37, ⟨Lc37, hQ37, l37, y37, z37⟩, st37⟩ := X36.specialBack hx (y := (⟨"com/example/grab1/grab1/cli/Command$Option", "<init>", "(Ljava/lang/String;Ljava/lang/String;Ljava/lang/String;Z)V"⟩ : MethodName)) rfl hown1 (mvT hZ1 (hw _ (List.mem_of_getElem? (i := 33) rfl))) (mvT hZ1 (hw _ (List.mem_of_getElem? (i := 34) rfl))) (mvT hZ1 (hw _ (List.mem_of_getElem? (i := 35) rfl))) (by decide) (backOf (W := 1) (rmOIrr l Z a0 hw [] o36 a_1 a_5 a_7 r177_35 h36 n0 Zs36 ge_o36 f36_0 f36_1 f36_2 f36_3 f36_4 (nar01 (hr177_35.elim (fun q => Or.inl q.1) (fun q => Or.inr q.1))) (own_fit01 (nar01 (hr177_35.elim (fun q => Or.inl q.1) (fun q => Or.inr q.1))))) hZ1 (hw _ (List.mem_of_getElem? (i := 35) rfl)) (hw _ (List.mem_of_getElem? (i := 32) rfl)) (by decide) (by decide)) (g := (mkF m 199 #[.val (.int p1), .val (.int p2), .val (.int p3), .val (.int p4), .val (.ref a_0), .val (.ref a_1), .val (.int i_0), .val (.ref a_2), .val (.ref a_3), .val (.ref a_4), .val (.ref a_5), .val (.ref a_6), .val (.ref a_7), .val (.int r177_35), .unset, .unset, .unset] [(.int r177_35), (.ref a_7), (.ref a_5), (.ref a_1), (.ref o36), (.ref o36)])) rfl (by rw [hml]; rfl) (Steps.refl _) (a := o36) (argsL := [(.ref a_1), (.ref a_5), (.ref a_7), (.int r177_35)]) (rest := [(.ref o36)]) (lenOf pd_2 rfl) rfl (by show 2 * 0 + _ ≤ _; exact Nat.le_of_eq rfl) (hb hby at_199) (fun _ _ => ⟨rfl, e36, (by decide : 30 + 1 + 0 ≤ _), (by decide : 400 + 4 + 0 ≤ _)⟩)
    dsimp only [Pt.U, Pt.locs, Pt.cells, Pt.slots] at X37 l37 y37 z37 st37 hQ37
    subst l37 y37 z37
    obtain ⟨rfl, N37q, Kq37, Eq37, Fq37⟩ := hQ37
    have N37 := Fr.app N1 N37q
    have f37_0 : Exa Z T37.heap o36 "com/example/grab1/grab1/cli/Command$Option" := Eq37
    have f37_1 : Fld Z T37.heap o36 "com/example/grab1/grab1/cli/Command$Option" "value" "Ljava/lang/String;" (.ref a_5) := Fq37
    have sfk37 : ∀ x ∈ ([o36] : List Addr), Safe Z own_EL vm0 h36 x := (sfS (Safe.exa hZ1.alike f36_0 (by decide) (by decide)) sf0)
    have hk37 : _ ≤ T37.heap.size := Nat.le_trans hk36 Kq37.1
    have C37 : CHr Z own_EL s.vm h0 vm0 T37.heap := C36.trans (CHr.keep Kq37 sfk37 C36.1)
    have Zs37 : n0 ≤ T37.heap.size := (Nat.le_trans Zs36 Kq37.1)
    have O37 : Old Z n0 T37.heap := O36.keep Kq37 (allS ge_o36 all0)
    refine GoH.step (fun t k => st37.trans k) ?_
    show GoH _ _ _ _ _ _ _ _ _ _ T37 (mkF m 202 #[.val (.int p1), .val (.int p2), .val (.int p3), .val (.int p4), .val (.ref a_0), .val (.ref a_1), .val (.int i_0), .val (.ref a_2), .val (.ref a_3), .val (.ref a_4), .val (.ref a_5), .val (.ref a_6), .val (.ref a_7), .val (.int r177_35), .unset, .unset, .unset] [(.ref o36)])
    refine GoH.step (fun t k => XS.astore X37.here hx rfl (hb hby at_202) rfl rfl (l' := #[.val (.int p1), .val (.int p2), .val (.int p3), .val (.int p4), .val (.ref a_0), .val (.ref a_1), .val (.int i_0), .val (.ref a_2), .val (.ref a_3), .val (.ref a_4), .val (.ref a_5), .val (.ref a_6), .val (.ref a_7), .val (.int r177_35), .val (.ref o36), .unset, .unset]) rfl k) ?_
    show GoH _ _ _ _ _ _ _ _ _ _ T37 (mkF m 204 #[.val (.int p1), .val (.int p2), .val (.int p3), .val (.int p4), .val (.ref a_0), .val (.ref a_1), .val (.int i_0), .val (.ref a_2), .val (.ref a_3), .val (.ref a_4), .val (.ref a_5), .val (.ref a_6), .val (.ref a_7), .val (.int r177_35), .val (.ref o36), .unset, .unset] [])
    refine GoH.step (fun t k => XS.iload X37.here hx rfl (hb hby at_204) rfl k) ?_
    show GoH _ _ _ _ _ _ _ _ _ _ T37 (mkF m 206 #[.val (.int p1), .val (.int p2), .val (.int p3), .val (.int p4), .val (.ref a_0), .val (.ref a_1), .val (.int i_0), .val (.ref a_2), .val (.ref a_3), .val (.ref a_4), .val (.ref a_5), .val (.ref a_6), .val (.ref a_7), .val (.int r177_35), .val (.ref o36), .unset, .unset] [(.int i_0)])
    have hb206_38 : ¬ (i_0 = (0 : Int32)) := by exact hkk
    refine GoH.step (fun t k => XS.ifYes X37.here hx rfl (pc0 := 206) (pc' := 213) rfl (hb hby at_206) rfl (XT.i0_ne_t hb206_38) (by decide) (by decide) k) ?_
    show GoH _ _ _ _ _ _ _ _ _ _ T37 (mkF m 213 #[.val (.int p1), .val (.int p2), .val (.int p3), .val (.int p4), .val (.ref a_0), .val (.ref a_1), .val (.int i_0), .val (.ref a_2), .val (.ref a_3), .val (.ref a_4), .val (.ref a_5), .val (.ref a_6), .val (.ref a_7), .val (.int r177_35), .val (.ref o36), .unset, .unset] [])
    refine GoH.step (fun t k => XS.iconst X37.here hx rfl (hb hby at_213) k) ?_
    show GoH _ _ _ _ _ _ _ _ _ _ T37 (mkF m 214 #[.val (.int p1), .val (.int p2), .val (.int p3), .val (.int p4), .val (.ref a_0), .val (.ref a_1), .val (.int i_0), .val (.ref a_2), .val (.ref a_3), .val (.ref a_4), .val (.ref a_5), .val (.ref a_6), .val (.ref a_7), .val (.int r177_35), .val (.ref o36), .unset, .unset] [(.int (0 : Int32))])
    refine GoH.step (fun t k => XS.istore X37.here hx rfl (hb hby at_214) rfl (l' := #[.val (.int p1), .val (.int p2), .val (.int p3), .val (.int p4), .val (.ref a_0), .val (.ref a_1), .val (.int i_0), .val (.ref a_2), .val (.ref a_3), .val (.ref a_4), .val (.ref a_5), .val (.ref a_6), .val (.ref a_7), .val (.int r177_35), .val (.ref o36), .val (.int (0 : Int32)), .unset]) rfl k) ?_
    show GoH _ _ _ _ _ _ _ _ _ _ T37 (mkF m 216 #[.val (.int p1), .val (.int p2), .val (.int p3), .val (.int p4), .val (.ref a_0), .val (.ref a_1), .val (.int i_0), .val (.ref a_2), .val (.ref a_3), .val (.ref a_4), .val (.ref a_5), .val (.ref a_6), .val (.ref a_7), .val (.int r177_35), .val (.ref o36), .val (.int (0 : Int32)), .unset] [])
    refine GoH.step (fun t k => XS.aload X37.here hx rfl (hb hby at_216) rfl rfl k) ?_
    show GoH _ _ _ _ _ _ _ _ _ _ T37 (mkF m 218 #[.val (.int p1), .val (.int p2), .val (.int p3), .val (.int p4), .val (.ref a_0), .val (.ref a_1), .val (.int i_0), .val (.ref a_2), .val (.ref a_3), .val (.ref a_4), .val (.ref a_5), .val (.ref a_6), .val (.ref a_7), .val (.int r177_35), .val (.ref o36), .val (.int (0 : Int32)), .unset] [(.ref o36)])
    obtain ⟨cq39, kq39, qa39, qb39, qc39⟩ := isOf hZ1 rfl f37_0
    obtain ⟨_, _, ⟨T39, L39, k39, n39⟩, -, X39, ⟨Lc39, hQ39, l39, y39, z39⟩, st39⟩ := X37.virtualBack hx (y := (⟨"com/example/grab1/grab1/cli/Command$Option", "isFlag", "()Z"⟩ : MethodName)) (z := (⟨"com/example/grab1/grab1/cli/Command$Option", "isFlag", "()Z"⟩ : MethodName)) hown1 (mvT hZ1 (hw _ (List.mem_of_getElem? (i := 50) rfl))) (mvT hZ1 (hw _ (List.mem_of_getElem? (i := 51) rfl))) (notFace_of_selects (args := #[]) (mvT hZ1 (hw _ (List.mem_of_getElem? (i := 53) rfl)))) (mvT hZ1 (hw _ (List.mem_of_getElem? (i := 53) rfl))) (mvT hZ1 (hw _ (List.mem_of_getElem? (i := 52) rfl))) (by decide) (backOf (W := 0) (rmIFr l Z a0 hw [] o36 a_5 T37.heap n0 Zs37 f37_1) hZ1 (hw _ (List.mem_of_getElem? (i := 54) rfl)) (hw _ (List.mem_of_getElem? (i := 32) rfl)) (by decide) (by decide)) qa39 qc39 (g := (mkF m 218 #[.val (.int p1), .val (.int p2), .val (.int p3), .val (.int p4), .val (.ref a_0), .val (.ref a_1), .val (.int i_0), .val (.ref a_2), .val (.ref a_3), .val (.ref a_4), .val (.ref a_5), .val (.ref a_6), .val (.ref a_7), .val (.int r177_35), .val (.ref o36), .val (.int (0 : Int32)), .unset] [(.ref o36)])) rfl (by rw [hml]; rfl) (Steps.refl _) (argsL := []) (rest := []) (lenOf pd_4 rfl) rfl (by show 2 * 0 + _ ≤ _; exact Nat.le_of_eq rfl) (hb hby at_218) (fun _ _ => ⟨rfl, rfl, (by decide : 30 + 1 + 0 + 0 ≤ _), (by decide : 400 + 4 + 0 + 0 ≤ _)⟩)
    dsimp only [Pt.U, Pt.locs, Pt.cells, Pt.slots] at X39 l39 y39 z39 st39 hQ39
    subst l39 y39 z39
    obtain ⟨rfl, N39q, e39⟩ := hQ39
    have N39 := Fr.app N37 N39q
    refine GoH.step (fun t k => st39.trans k) ?_
    show GoH _ _ _ _ _ _ _ _ _ _ T39 (mkF m 221 #[.val (.int p1), .val (.int p2), .val (.int p3), .val (.int p4), .val (.ref a_0), .val (.ref a_1), .val (.int i_0), .val (.ref a_2), .val (.ref a_3), .val (.ref a_4), .val (.ref a_5), .val (.ref a_6), .val (.ref a_7), .val (.int r177_35), .val (.ref o36), .val (.int (0 : Int32)), .unset] [(.int (0 : Int32))])
    refine GoH.step (fun t k => XS.iload X39.here hx rfl (hb hby at_221) rfl k) ?_
    show GoH _ _ _ _ _ _ _ _ _ _ T39 (mkF m 223 #[.val (.int p1), .val (.int p2), .val (.int p3), .val (.int p4), .val (.ref a_0), .val (.ref a_1), .val (.int i_0), .val (.ref a_2), .val (.ref a_3), .val (.ref a_4), .val (.ref a_5), .val (.ref a_6), .val (.ref a_7), .val (.int r177_35), .val (.ref o36), .val (.int (0 : Int32)), .unset] [(.int (0 : Int32)), (.int (0 : Int32))])
    have hb223_40 : (0 : Int32) = (0 : Int32) := by decide
    refine GoH.step (fun t k => XS.icmpNo X39.here hx rfl (hb hby at_223) rfl (XT.ii_ne_f hb223_40) k) ?_
    show GoH _ _ _ _ _ _ _ _ _ _ T39 (mkF m 226 #[.val (.int p1), .val (.int p2), .val (.int p3), .val (.int p4), .val (.ref a_0), .val (.ref a_1), .val (.int i_0), .val (.ref a_2), .val (.ref a_3), .val (.ref a_4), .val (.ref a_5), .val (.ref a_6), .val (.ref a_7), .val (.int r177_35), .val (.ref o36), .val (.int (0 : Int32)), .unset] [])
    refine GoH.step (fun t k => XS.iconst X39.here hx rfl (hb hby at_226) k) ?_
    show GoH _ _ _ _ _ _ _ _ _ _ T39 (mkF m 227 #[.val (.int p1), .val (.int p2), .val (.int p3), .val (.int p4), .val (.ref a_0), .val (.ref a_1), .val (.int i_0), .val (.ref a_2), .val (.ref a_3), .val (.ref a_4), .val (.ref a_5), .val (.ref a_6), .val (.ref a_7), .val (.int r177_35), .val (.ref o36), .val (.int (0 : Int32)), .unset] [(.int (1 : Int32))])
    refine GoH.step (fun t k => XS.goto X39.here hx rfl (pc0 := 227) (pc' := 231) rfl (hb hby at_227) (by decide) (by decide) k) ?_
    show GoH _ _ _ _ _ _ _ _ _ _ T39 (mkF m 231 #[.val (.int p1), .val (.int p2), .val (.int p3), .val (.int p4), .val (.ref a_0), .val (.ref a_1), .val (.int i_0), .val (.ref a_2), .val (.ref a_3), .val (.ref a_4), .val (.ref a_5), .val (.ref a_6), .val (.ref a_7), .val (.int r177_35), .val (.ref o36), .val (.int (0 : Int32)), .unset] [(.int (1 : Int32))])
    refine GoH.step (fun t k => XS.istore X39.here hx rfl (hb hby at_231) rfl (l' := #[.val (.int p1), .val (.int p2), .val (.int p3), .val (.int p4), .val (.ref a_0), .val (.ref a_1), .val (.int i_0), .val (.ref a_2), .val (.ref a_3), .val (.ref a_4), .val (.ref a_5), .val (.ref a_6), .val (.ref a_7), .val (.int r177_35), .val (.ref o36), .val (.int (0 : Int32)), .val (.int (1 : Int32))]) rfl k) ?_
    show GoH _ _ _ _ _ _ _ _ _ _ T39 (mkF m 233 #[.val (.int p1), .val (.int p2), .val (.int p3), .val (.int p4), .val (.ref a_0), .val (.ref a_1), .val (.int i_0), .val (.ref a_2), .val (.ref a_3), .val (.ref a_4), .val (.ref a_5), .val (.ref a_6), .val (.ref a_7), .val (.int r177_35), .val (.ref o36), .val (.int (0 : Int32)), .val (.int (1 : Int32))] [])
    refine GoH.step (fun t k => XS.iload X39.here hx rfl (hb hby at_233) rfl k) ?_
    show GoH _ _ _ _ _ _ _ _ _ _ T39 (mkF m 235 #[.val (.int p1), .val (.int p2), .val (.int p3), .val (.int p4), .val (.ref a_0), .val (.ref a_1), .val (.int i_0), .val (.ref a_2), .val (.ref a_3), .val (.ref a_4), .val (.ref a_5), .val (.ref a_6), .val (.ref a_7), .val (.int r177_35), .val (.ref o36), .val (.int (0 : Int32)), .val (.int (1 : Int32))] [(.int (1 : Int32))])
    have hb235_41 : ¬ ((1 : Int32) = (0 : Int32)) := by decide
    refine GoH.step (fun t k => XS.ifNo X39.here hx rfl (hb hby at_235) rfl (XT.i0_eq_f hb235_41) k) ?_
    show GoH _ _ _ _ _ _ _ _ _ _ T39 (mkF m 238 #[.val (.int p1), .val (.int p2), .val (.int p3), .val (.int p4), .val (.ref a_0), .val (.ref a_1), .val (.int i_0), .val (.ref a_2), .val (.ref a_3), .val (.ref a_4), .val (.ref a_5), .val (.ref a_6), .val (.ref a_7), .val (.int r177_35), .val (.ref o36), .val (.int (0 : Int32)), .val (.int (1 : Int32))] [])
    refine GoH.step (fun t k => XS.aload X39.here hx rfl (hb hby at_238) rfl rfl k) ?_
    show GoH _ _ _ _ _ _ _ _ _ _ T39 (mkF m 240 #[.val (.int p1), .val (.int p2), .val (.int p3), .val (.int p4), .val (.ref a_0), .val (.ref a_1), .val (.int i_0), .val (.ref a_2), .val (.ref a_3), .val (.ref a_4), .val (.ref a_5), .val (.ref a_6), .val (.ref a_7), .val (.int r177_35), .val (.ref o36), .val (.int (0 : Int32)), .val (.int (1 : Int32))] [(.ref a_1)])
    obtain ⟨_, _, ⟨T42, L42, k42, n42⟩, -, X42, ⟨Lc42, hQ42, l42, y42, z42⟩, st42⟩ := Jvm.LawKit.callS X39 hx (y := (⟨"com/example/grab1/grab1/cli/Command$Option", "flag", "(Ljava/lang/String;)Lcom/example/grab1/grab1/cli/Command$Option;"⟩ : MethodName)) hown1 (mvT hZ1 (hw _ (List.mem_of_getElem? (i := 55) rfl))) (mvT hZ1 (hw _ (List.mem_of_getElem? (i := 56) rfl))) (mvT hZ1 (hw _ (List.mem_of_getElem? (i := 32) rfl))) (mvT hZ1 (hw _ (List.mem_of_getElem? (i := 57) rfl))) (by decide) (backOf (W := 0) (rmFl l Z a0 hw [] a_1 T37.heap n0 Zs37 ) hZ1 (hw _ (List.mem_of_getElem? (i := 57) rfl)) (hw _ (List.mem_of_getElem? (i := 32) rfl)) (by decide) (by decide)) (g := (mkF m 240 #[.val (.int p1), .val (.int p2), .val (.int p3), .val (.int p4), .val (.ref a_0), .val (.ref a_1), .val (.int i_0), .val (.ref a_2), .val (.ref a_3), .val (.ref a_4), .val (.ref a_5), .val (.ref a_6), .val (.ref a_7), .val (.int r177_35), .val (.ref o36), .val (.int (0 : Int32)), .val (.int (1 : Int32))] [(.ref a_1)])) rfl (by rw [hml]; rfl) (argsL := [(.ref a_1)]) (rest := []) (lenOf pd_5 rfl) rfl (by show 2 * 0 + _ ≤ _; exact Nat.le_of_eq rfl) (hb hby at_240) (fun _ _ => ⟨rfl, (e39), (by decide : 30 + 1 + 0 + 0 + 1 ≤ _), (by decide : 400 + 4 + 0 + 0 + 4 ≤ _)⟩)
    dsimp only [Pt.U, Pt.locs, Pt.cells, Pt.slots] at X42 l42 y42 z42 st42 hQ42
    subst l42 y42 z42
    obtain ⟨ob42, rfl, N42q, Kq42, gq42, Eq42, Fq42⟩ := hQ42
    have N42 := Fr.app N39 N42q
    have ne_o36_ob42 : o36 ≠ ob42 := Nat.ne_of_lt (Nat.lt_of_lt_of_le f37_0.lt gq42)
    have f42_0 : Exa Z T42.heap o36 "com/example/grab1/grab1/cli/Command$Option" := (f37_0.keep Kq42)
    have f42_1 : Fld Z T42.heap o36 "com/example/grab1/grab1/cli/Command$Option" "value" "Ljava/lang/String;" (.ref a_5) := (f37_1.keep Kq42 nin0)
    have f42_2 : Exa Z T42.heap ob42 "com/example/grab1/grab1/cli/Command$Option" := Eq42
    have f42_3 : Fld Z T42.heap ob42 "com/example/grab1/grab1/cli/Command$Option" "value" "Ljava/lang/String;" .null := Fq42
    have sfk42 : ∀ x ∈ ([] : List Addr), Safe Z own_EL vm0 T37.heap x := sf0
    have hk42 : _ ≤ T42.heap.size := Nat.le_trans hk37 Kq42.1
    have C42 : CHr Z own_EL s.vm h0 vm0 T42.heap := C37.trans (CHr.keep Kq42 sfk42 C37.1)
    have Zs42 : n0 ≤ T42.heap.size := (Nat.le_trans Zs37 Kq42.1)
    have O42 : Old Z n0 T42.heap := O37.keep Kq42 all0
    refine GoH.step st42 ?_
    show GoH _ _ _ _ _ _ _ _ _ _ T42 (mkF m 243 #[.val (.int p1), .val (.int p2), .val (.int p3), .val (.int p4), .val (.ref a_0), .val (.ref a_1), .val (.int i_0), .val (.ref a_2), .val (.ref a_3), .val (.ref a_4), .val (.ref a_5), .val (.ref a_6), .val (.ref a_7), .val (.int r177_35), .val (.ref o36), .val (.int (0 : Int32)), .val (.int (1 : Int32))] [(.ref ob42)])
    obtain ⟨cq43, kq43, qa43, qb43, qc43⟩ := isOf hZ1 rfl f42_2
    obtain ⟨_, _, ⟨T43, L43, k43, n43⟩, -, X43, ⟨Lc43, hQ43, l43, y43, z43⟩, st43⟩ := X42.virtualBack hx (y := (⟨"com/example/grab1/grab1/cli/Command$Option", "isFlag", "()Z"⟩ : MethodName)) (z := (⟨"com/example/grab1/grab1/cli/Command$Option", "isFlag", "()Z"⟩ : MethodName)) hown1 (mvT hZ1 (hw _ (List.mem_of_getElem? (i := 50) rfl))) (mvT hZ1 (hw _ (List.mem_of_getElem? (i := 51) rfl))) (notFace_of_selects (args := #[]) (mvT hZ1 (hw _ (List.mem_of_getElem? (i := 53) rfl)))) (mvT hZ1 (hw _ (List.mem_of_getElem? (i := 53) rfl))) (mvT hZ1 (hw _ (List.mem_of_getElem? (i := 52) rfl))) (by decide) (backOf (W := 0) (rmIFn l Z a0 hw [] ob42 T42.heap n0 Zs42 f42_3) hZ1 (hw _ (List.mem_of_getElem? (i := 54) rfl)) (hw _ (List.mem_of_getElem? (i := 32) rfl)) (by decide) (by decide)) qa43 qc43 (g := (mkF m 243 #[.val (.int p1), .val (.int p2), .val (.int p3), .val (.int p4), .val (.ref a_0), .val (.ref a_1), .val (.int i_0), .val (.ref a_2), .val (.ref a_3), .val (.ref a_4), .val (.ref a_5), .val (.ref a_6), .val (.ref a_7), .val (.int r177_35), .val (.ref o36), .val (.int (0 : Int32)), .val (.int (1 : Int32))] [(.ref ob42)])) rfl (by rw [hml]; rfl) (Steps.refl _) (argsL := []) (rest := []) (lenOf pd_4 rfl) rfl (by show 2 * 0 + _ ≤ _; exact Nat.le_of_eq rfl) (hb hby at_243) (fun _ _ => ⟨rfl, rfl, (by decide : 30 + 1 + 0 + 0 + 1 + 0 ≤ _), (by decide : 400 + 4 + 0 + 0 + 4 + 0 ≤ _)⟩)
    dsimp only [Pt.U, Pt.locs, Pt.cells, Pt.slots] at X43 l43 y43 z43 st43 hQ43
    subst l43 y43 z43
    obtain ⟨rfl, N43q, e43⟩ := hQ43
    have N43 := Fr.app N42 N43q
    refine GoH.step (fun t k => st43.trans k) ?_
    show GoH _ _ _ _ _ _ _ _ _ _ T43 (mkF m 246 #[.val (.int p1), .val (.int p2), .val (.int p3), .val (.int p4), .val (.ref a_0), .val (.ref a_1), .val (.int i_0), .val (.ref a_2), .val (.ref a_3), .val (.ref a_4), .val (.ref a_5), .val (.ref a_6), .val (.ref a_7), .val (.int r177_35), .val (.ref o36), .val (.int (0 : Int32)), .val (.int (1 : Int32))] [(.int (1 : Int32))])
    have hb246_44 : ¬ ((1 : Int32) = (0 : Int32)) := by decide
    refine GoH.step (fun t k => XS.ifNo X43.here hx rfl (hb hby at_246) rfl (XT.i0_eq_f hb246_44) k) ?_
    show GoH _ _ _ _ _ _ _ _ _ _ T43 (mkF m 249 #[.val (.int p1), .val (.int p2), .val (.int p3), .val (.int p4), .val (.ref a_0), .val (.ref a_1), .val (.int i_0), .val (.ref a_2), .val (.ref a_3), .val (.ref a_4), .val (.ref a_5), .val (.ref a_6), .val (.ref a_7), .val (.int r177_35), .val (.ref o36), .val (.int (0 : Int32)), .val (.int (1 : Int32))] [])
    refine GoH.step (fun t k => XS.iconst X43.here hx rfl (hb hby at_249) k) ?_
    show GoH _ _ _ _ _ _ _ _ _ _ T43 (mkF m 250 #[.val (.int p1), .val (.int p2), .val (.int p3), .val (.int p4), .val (.ref a_0), .val (.ref a_1), .val (.int i_0), .val (.ref a_2), .val (.ref a_3), .val (.ref a_4), .val (.ref a_5), .val (.ref a_6), .val (.ref a_7), .val (.int r177_35), .val (.ref o36), .val (.int (0 : Int32)), .val (.int (1 : Int32))] [(.int (1 : Int32))])
    refine GoH.step (fun t k => XS.goto X43.here hx rfl (pc0 := 250) (pc' := 254) rfl (hb hby at_250) (by decide) (by decide) k) ?_
    show GoH _ _ _ _ _ _ _ _ _ _ T43 (mkF m 254 #[.val (.int p1), .val (.int p2), .val (.int p3), .val (.int p4), .val (.ref a_0), .val (.ref a_1), .val (.int i_0), .val (.ref a_2), .val (.ref a_3), .val (.ref a_4), .val (.ref a_5), .val (.ref a_6), .val (.ref a_7), .val (.int r177_35), .val (.ref o36), .val (.int (0 : Int32)), .val (.int (1 : Int32))] [(.int (1 : Int32))])
    refine GoH.step (fun t k => XS.istore X43.here hx rfl (hb hby at_254) rfl (l' := #[.val (.int p1), .val (.int p2), .val (.int p3), .val (.int p4), .val (.ref a_0), .val (.ref a_1), .val (.int i_0), .val (.ref a_2), .val (.ref a_3), .val (.ref a_4), .val (.ref a_5), .val (.ref a_6), .val (.ref a_7), .val (.int r177_35), .val (.ref o36), .val (.int (0 : Int32)), .val (.int (1 : Int32))]) rfl k) ?_
    show GoH _ _ _ _ _ _ _ _ _ _ T43 (mkF m 256 #[.val (.int p1), .val (.int p2), .val (.int p3), .val (.int p4), .val (.ref a_0), .val (.ref a_1), .val (.int i_0), .val (.ref a_2), .val (.ref a_3), .val (.ref a_4), .val (.ref a_5), .val (.ref a_6), .val (.ref a_7), .val (.int r177_35), .val (.ref o36), .val (.int (0 : Int32)), .val (.int (1 : Int32))] [])
    refine GoH.step (fun t k => XS.aload X43.here hx rfl (hb hby at_256) rfl rfl k) ?_
    show GoH _ _ _ _ _ _ _ _ _ _ T43 (mkF m 258 #[.val (.int p1), .val (.int p2), .val (.int p3), .val (.int p4), .val (.ref a_0), .val (.ref a_1), .val (.int i_0), .val (.ref a_2), .val (.ref a_3), .val (.ref a_4), .val (.ref a_5), .val (.ref a_6), .val (.ref a_7), .val (.int r177_35), .val (.ref o36), .val (.int (0 : Int32)), .val (.int (1 : Int32))] [(.ref a_5)])
    refine GoH.step (fun t k => XS.ifnullNo X43.here hx rfl (hb hby at_258) rfl k) ?_
    show GoH _ _ _ _ _ _ _ _ _ _ T43 (mkF m 261 #[.val (.int p1), .val (.int p2), .val (.int p3), .val (.int p4), .val (.ref a_0), .val (.ref a_1), .val (.int i_0), .val (.ref a_2), .val (.ref a_3), .val (.ref a_4), .val (.ref a_5), .val (.ref a_6), .val (.ref a_7), .val (.int r177_35), .val (.ref o36), .val (.int (0 : Int32)), .val (.int (1 : Int32))] [])
    refine GoH.step (fun t k => XS.iload X43.here hx rfl (hb hby at_261) rfl k) ?_
    show GoH _ _ _ _ _ _ _ _ _ _ T43 (mkF m 263 #[.val (.int p1), .val (.int p2), .val (.int p3), .val (.int p4), .val (.ref a_0), .val (.ref a_1), .val (.int i_0), .val (.ref a_2), .val (.ref a_3), .val (.ref a_4), .val (.ref a_5), .val (.ref a_6), .val (.ref a_7), .val (.int r177_35), .val (.ref o36), .val (.int (0 : Int32)), .val (.int (1 : Int32))] [(.int (1 : Int32))])
    have hb263_45 : ¬ ((1 : Int32) = (0 : Int32)) := by decide
    refine GoH.step (fun t k => XS.ifNo X43.here hx rfl (hb hby at_263) rfl (XT.i0_eq_f hb263_45) k) ?_
    show GoH _ _ _ _ _ _ _ _ _ _ T43 (mkF m 266 #[.val (.int p1), .val (.int p2), .val (.int p3), .val (.int p4), .val (.ref a_0), .val (.ref a_1), .val (.int i_0), .val (.ref a_2), .val (.ref a_3), .val (.ref a_4), .val (.ref a_5), .val (.ref a_6), .val (.ref a_7), .val (.int r177_35), .val (.ref o36), .val (.int (0 : Int32)), .val (.int (1 : Int32))] [])
    refine GoH.step (fun t k => XS.aload X43.here hx rfl (hb hby at_266) rfl rfl k) ?_
    show GoH _ _ _ _ _ _ _ _ _ _ T43 (mkF m 268 #[.val (.int p1), .val (.int p2), .val (.int p3), .val (.int p4), .val (.ref a_0), .val (.ref a_1), .val (.int i_0), .val (.ref a_2), .val (.ref a_3), .val (.ref a_4), .val (.ref a_5), .val (.ref a_6), .val (.ref a_7), .val (.int r177_35), .val (.ref o36), .val (.int (0 : Int32)), .val (.int (1 : Int32))] [(.ref a_1)])
    refine GoH.step (fun t k => XS.aload X43.here hx rfl (hb hby at_268) rfl rfl k) ?_
    show GoH _ _ _ _ _ _ _ _ _ _ T43 (mkF m 270 #[.val (.int p1), .val (.int p2), .val (.int p3), .val (.int p4), .val (.ref a_0), .val (.ref a_1), .val (.int i_0), .val (.ref a_2), .val (.ref a_3), .val (.ref a_4), .val (.ref a_5), .val (.ref a_6), .val (.ref a_7), .val (.int r177_35), .val (.ref o36), .val (.int (0 : Int32)), .val (.int (1 : Int32))] [(.ref a_5), (.ref a_1)])
    obtain ⟨_, _, ⟨T46, L46, k46, n46⟩, -, X46, ⟨Lc46, hQ46, l46, y46, z46⟩, st46⟩ := Jvm.LawKit.callS X43 hx (y := (⟨"com/example/grab1/grab1/cli/Command$Option", "optional", "(Ljava/lang/String;Ljava/lang/String;)Lcom/example/grab1/grab1/cli/Command$Option;"⟩ : MethodName)) hown1 (mvT hZ1 (hw _ (List.mem_of_getElem? (i := 60) rfl))) (mvT hZ1 (hw _ (List.mem_of_getElem? (i := 61) rfl))) (mvT hZ1 (hw _ (List.mem_of_getElem? (i := 32) rfl))) (mvT hZ1 (hw _ (List.mem_of_getElem? (i := 62) rfl))) (by decide) (backOf (W := 0) (rmOp l Z a0 hw [] a_1 a_5 T42.heap n0 Zs42 ) hZ1 (hw _ (List.mem_of_getElem? (i := 62) rfl)) (hw _ (List.mem_of_getElem? (i := 32) rfl)) (by decide) (by decide)) (g := (mkF m 270 #[.val (.int p1), .val (.int p2), .val (.int p3), .val (.int p4), .val (.ref a_0), .val (.ref a_1), .val (.int i_0), .val (.ref a_2), .val (.ref a_3), .val (.ref a_4), .val (.ref a_5), .val (.ref a_6), .val (.ref a_7), .val (.int r177_35), .val (.ref o36), .val (.int (0 : Int32)), .val (.int (1 : Int32))] [(.ref a_5), (.ref a_1)])) rfl (by rw [hml]; rfl) (argsL := [(.ref a_1), (.ref a_5)]) (rest := []) (lenOf pd_6 rfl) rfl (by show 2 * 0 + _ ≤ _; exact Nat.le_of_eq rfl) (hb hby at_270) (fun _ _ => ⟨rfl, (e43), (by decide : 30 + 1 + 0 + 0 + 1 + 0 + 1 ≤ _), (by decide : 400 + 4 + 0 + 0 + 4 + 0 + 4 ≤ _)⟩)
    dsimp only [Pt.U, Pt.locs, Pt.cells, Pt.slots] at X46 l46 y46 z46 st46 hQ46
    subst l46 y46 z46
    obtain ⟨ob46, rfl, N46q, Kq46, gq46, Eq46, Fq46⟩ := hQ46
    have N46 := Fr.app N43 N46q
    have ne_o36_ob46 : o36 ≠ ob46 := Nat.ne_of_lt (Nat.lt_of_lt_of_le f42_0.lt gq46)
    have ne_ob42_ob46 : ob42 ≠ ob46 := Nat.ne_of_lt (Nat.lt_of_lt_of_le f42_2.lt gq46)
    have f46_0 : Exa Z T46.heap o36 "com/example/grab1/grab1/cli/Command$Option" := (f42_0.keep Kq46)
    have f46_1 : Fld Z T46.heap o36 "com/example/grab1/grab1/cli/Command$Option" "value" "Ljava/lang/String;" (.ref a_5) := (f42_1.keep Kq46 nin0)
    have f46_2 : Exa Z T46.heap ob42 "com/example/grab1/grab1/cli/Command$Option" := (f42_2.keep Kq46)
    have f46_3 : Fld Z T46.heap ob42 "com/example/grab1/grab1/cli/Command$Option" "value" "Ljava/lang/String;" .null := (f42_3.keep Kq46 nin0)
    have f46_4 : Exa Z T46.heap ob46 "com/example/grab1/grab1/cli/Command$Option" := Eq46
    have f46_5 : Fld Z T46.heap ob46 "com/example/grab1/grab1/cli/Command$Option" "value" "Ljava/lang/String;" (.ref a_5) := Fq46
    have sfk46 : ∀ x ∈ ([] : List Addr), Safe Z own_EL vm0 T42.heap x := sf0
    have hk46 : _ ≤ T46.heap.size := Nat.le_trans hk42 Kq46.1
    have C46 : CHr Z own_EL s.vm h0 vm0 T46.heap := C42.trans (CHr.keep Kq46 sfk46 C42.1)
    have Zs46 : n0 ≤ T46.heap.size := (Nat.le_trans Zs42 Kq46.1)
    have O46 : Old Z n0 T46.heap := O42.keep Kq46 all0
    refine GoH.step st46 ?_
    show GoH _ _ _ _ _ _ _ _ _ _ T46 (mkF m 273 #[.val (.int p1), .val (.int p2), .val (.int p3), .val (.int p4), .val (.ref a_0), .val (.ref a_1), .val (.int i_0), .val (.ref a_2), .val (.ref a_3), .val (.ref a_4), .val (.ref a_5), .val (.ref a_6), .val (.ref a_7), .val (.int r177_35), .val (.ref o36), .val (.int (0 : Int32)), .val (.int (1 : Int32))] [(.ref ob46)])
    obtain ⟨cq47, kq47, qa47, qb47, qc47⟩ := isOf hZ1 rfl f46_4
    obtain ⟨_, _, ⟨T47, L47, k47, n47⟩, -, X47, ⟨Lc47, hQ47, l47, y47, z47⟩, st47⟩ := X46.virtualBack hx (y := (⟨"com/example/grab1/grab1/cli/Command$Option", "isFlag", "()Z"⟩ : MethodName)) (z := (⟨"com/example/grab1/grab1/cli/Command$Option", "isFlag", "()Z"⟩ : MethodName)) hown1 (mvT hZ1 (hw _ (List.mem_of_getElem? (i := 50) rfl))) (mvT hZ1 (hw _ (List.mem_of_getElem? (i := 51) rfl))) (notFace_of_selects (args := #[]) (mvT hZ1 (hw _ (List.mem_of_getElem? (i := 53) rfl)))) (mvT hZ1 (hw _ (List.mem_of_getElem? (i := 53) rfl))) (mvT hZ1 (hw _ (List.mem_of_getElem? (i := 52) rfl))) (by decide) (backOf (W := 0) (rmIFr l Z a0 hw [] ob46 a_5 T46.heap n0 Zs46 f46_5) hZ1 (hw _ (List.mem_of_getElem? (i := 54) rfl)) (hw _ (List.mem_of_getElem? (i := 32) rfl)) (by decide) (by decide)) qa47 qc47 (g := (mkF m 273 #[.val (.int p1), .val (.int p2), .val (.int p3), .val (.int p4), .val (.ref a_0), .val (.ref a_1), .val (.int i_0), .val (.ref a_2), .val (.ref a_3), .val (.ref a_4), .val (.ref a_5), .val (.ref a_6), .val (.ref a_7), .val (.int r177_35), .val (.ref o36), .val (.int (0 : Int32)), .val (.int (1 : Int32))] [(.ref ob46)])) rfl (by rw [hml]; rfl) (Steps.refl _) (argsL := []) (rest := []) (lenOf pd_4 rfl) rfl (by show 2 * 0 + _ ≤ _; exact Nat.le_of_eq rfl) (hb hby at_273) (fun _ _ => ⟨rfl, rfl, (by decide : 30 + 1 + 0 + 0 + 1 + 0 + 1 + 0 ≤ _), (by decide : 400 + 4 + 0 + 0 + 4 + 0 + 4 + 0 ≤ _)⟩)
    dsimp only [Pt.U, Pt.locs, Pt.cells, Pt.slots] at X47 l47 y47 z47 st47 hQ47
    subst l47 y47 z47
    obtain ⟨rfl, N47q, e47⟩ := hQ47
    have N47 := Fr.app N46 N47q
    refine GoH.step (fun t k => st47.trans k) ?_
    show GoH _ _ _ _ _ _ _ _ _ _ T47 (mkF m 276 #[.val (.int p1), .val (.int p2), .val (.int p3), .val (.int p4), .val (.ref a_0), .val (.ref a_1), .val (.int i_0), .val (.ref a_2), .val (.ref a_3), .val (.ref a_4), .val (.ref a_5), .val (.ref a_6), .val (.ref a_7), .val (.int r177_35), .val (.ref o36), .val (.int (0 : Int32)), .val (.int (1 : Int32))] [(.int (0 : Int32))])
    have hb276_48 : (0 : Int32) = (0 : Int32) := by decide
    refine GoH.step (fun t k => XS.ifNo X47.here hx rfl (hb hby at_276) rfl (XT.i0_ne_f hb276_48) k) ?_
    show GoH _ _ _ _ _ _ _ _ _ _ T47 (mkF m 279 #[.val (.int p1), .val (.int p2), .val (.int p3), .val (.int p4), .val (.ref a_0), .val (.ref a_1), .val (.int i_0), .val (.ref a_2), .val (.ref a_3), .val (.ref a_4), .val (.ref a_5), .val (.ref a_6), .val (.ref a_7), .val (.int r177_35), .val (.ref o36), .val (.int (0 : Int32)), .val (.int (1 : Int32))] [])
    refine GoH.step (fun t k => XS.iconst X47.here hx rfl (hb hby at_279) k) ?_
    show GoH _ _ _ _ _ _ _ _ _ _ T47 (mkF m 280 #[.val (.int p1), .val (.int p2), .val (.int p3), .val (.int p4), .val (.ref a_0), .val (.ref a_1), .val (.int i_0), .val (.ref a_2), .val (.ref a_3), .val (.ref a_4), .val (.ref a_5), .val (.ref a_6), .val (.ref a_7), .val (.int r177_35), .val (.ref o36), .val (.int (0 : Int32)), .val (.int (1 : Int32))] [(.int (1 : Int32))])
    refine GoH.step (fun t k => XS.goto X47.here hx rfl (pc0 := 280) (pc' := 284) rfl (hb hby at_280) (by decide) (by decide) k) ?_
    show GoH _ _ _ _ _ _ _ _ _ _ T47 (mkF m 284 #[.val (.int p1), .val (.int p2), .val (.int p3), .val (.int p4), .val (.ref a_0), .val (.ref a_1), .val (.int i_0), .val (.ref a_2), .val (.ref a_3), .val (.ref a_4), .val (.ref a_5), .val (.ref a_6), .val (.ref a_7), .val (.int r177_35), .val (.ref o36), .val (.int (0 : Int32)), .val (.int (1 : Int32))] [(.int (1 : Int32))])
    refine GoH.step (fun t k => XS.istore X47.here hx rfl (hb hby at_284) rfl (l' := #[.val (.int p1), .val (.int p2), .val (.int p3), .val (.int p4), .val (.ref a_0), .val (.ref a_1), .val (.int i_0), .val (.ref a_2), .val (.ref a_3), .val (.ref a_4), .val (.ref a_5), .val (.ref a_6), .val (.ref a_7), .val (.int r177_35), .val (.ref o36), .val (.int (0 : Int32)), .val (.int (1 : Int32))]) rfl k) ?_
    show GoH _ _ _ _ _ _ _ _ _ _ T47 (mkF m 286 #[.val (.int p1), .val (.int p2), .val (.int p3), .val (.int p4), .val (.ref a_0), .val (.ref a_1), .val (.int i_0), .val (.ref a_2), .val (.ref a_3), .val (.ref a_4), .val (.ref a_5), .val (.ref a_6), .val (.ref a_7), .val (.int r177_35), .val (.ref o36), .val (.int (0 : Int32)), .val (.int (1 : Int32))] [])
    refine GoH.step (fun t k => XS.iload X47.here hx rfl (hb hby at_286) rfl k) ?_
    show GoH _ _ _ _ _ _ _ _ _ _ T47 (mkF m 288 #[.val (.int p1), .val (.int p2), .val (.int p3), .val (.int p4), .val (.ref a_0), .val (.ref a_1), .val (.int i_0), .val (.ref a_2), .val (.ref a_3), .val (.ref a_4), .val (.ref a_5), .val (.ref a_6), .val (.ref a_7), .val (.int r177_35), .val (.ref o36), .val (.int (0 : Int32)), .val (.int (1 : Int32))] [(.int (1 : Int32))])
    have hkr : k0 ≤ T47.heap.size := by rw [(e47)]; exact hk46
    have hCr : CHr Z own_EL s.vm h0 vm0 T47.heap := by rw [(e47)]; exact C46
    refine GoH.ret X47 hx hlk hS1 hkr hZ1 hEL hCr hret rfl (Or.inl ⟨rfl, Or.inr (Or.inl rfl), _, rfl⟩) (hb hby at_288) ?_ (by decide) (by decide)
    show Q0 Z _ _ _ _ _ _ _ _ T47.heap _
    exact ⟨rfl, N47⟩
  by_cases hb177_34 : (p4 &&& (1 : Int32)) = (0 : Int32)
  · refine GoH.step (fun t k => XS.ifYes X1.here hx rfl (pc0 := 177) (pc' := 184) rfl (hb hby at_177) rfl (XT.i0_eq_t hb177_34) (by decide) (by decide) k) ?_
    show GoH _ _ _ _ _ _ _ _ _ _ T (mkF m 184 #[.val (.int p1), .val (.int p2), .val (.int p3), .val (.int p4), .val (.ref a_0), .val (.ref a_1), .val (.int i_0), .val (.ref a_2), .val (.ref a_3), .val (.ref a_4), .val (.ref a_5), .val (.ref a_6), .val (.ref a_7), .unset, .unset, .unset, .unset] [])
    refine GoH.step (fun t k => XS.iconst X1.here hx rfl (hb hby at_184) k) ?_
    show GoH _ _ _ _ _ _ _ _ _ _ T (mkF m 185 #[.val (.int p1), .val (.int p2), .val (.int p3), .val (.int p4), .val (.ref a_0), .val (.ref a_1), .val (.int i_0), .val (.ref a_2), .val (.ref a_3), .val (.ref a_4), .val (.ref a_5), .val (.ref a_6), .val (.ref a_7), .unset, .unset, .unset, .unset] [(.int (0 : Int32))])
    exact jnr177_35 _ (Or.inl ⟨rfl, hb177_34⟩)
  · refine GoH.step (fun t k => XS.ifNo X1.here hx rfl (hb hby at_177) rfl (XT.i0_eq_f hb177_34) k) ?_
    show GoH _ _ _ _ _ _ _ _ _ _ T (mkF m 180 #[.val (.int p1), .val (.int p2), .val (.int p3), .val (.int p4), .val (.ref a_0), .val (.ref a_1), .val (.int i_0), .val (.ref a_2), .val (.ref a_3), .val (.ref a_4), .val (.ref a_5), .val (.ref a_6), .val (.ref a_7), .unset, .unset, .unset, .unset] [])
    refine GoH.step (fun t k => XS.iconst X1.here hx rfl (hb hby at_180) k) ?_
    show GoH _ _ _ _ _ _ _ _ _ _ T (mkF m 181 #[.val (.int p1), .val (.int p2), .val (.int p3), .val (.int p4), .val (.ref a_0), .val (.ref a_1), .val (.int i_0), .val (.ref a_2), .val (.ref a_3), .val (.ref a_4), .val (.ref a_5), .val (.ref a_6), .val (.ref a_7), .unset, .unset, .unset, .unset] [(.int (1 : Int32))])
    refine GoH.step (fun t k => XS.goto X1.here hx rfl (pc0 := 181) (pc' := 185) rfl (hb hby at_181) (by decide) (by decide) k) ?_
    show GoH _ _ _ _ _ _ _ _ _ _ T (mkF m 185 #[.val (.int p1), .val (.int p2), .val (.int p3), .val (.int p4), .val (.ref a_0), .val (.ref a_1), .val (.int i_0), .val (.ref a_2), .val (.ref a_3), .val (.ref a_4), .val (.ref a_5), .val (.ref a_6), .val (.ref a_7), .unset, .unset, .unset, .unset] [(.int (1 : Int32))])
    exact jnr177_35 _ (Or.inr ⟨rfl, hb177_34⟩)
set_option maxRecDepth 65536 in
set_option maxHeartbeats 40000000 in
theorem sg174_2 (l : Launch) (Z : State) (a0 : Array Value) (hw : ∀ d ∈ tables_1, d.before a0 Z = true) (p1 : Int32) (p2 : Int32) (p3 : Int32) (p4 : Int32) (G1 : Int32) (h0 : Heap) (n0 : Nat) (Z0 : n0 ≤ h0.size) (O0 : Old Z n0 h0) (S_COMPACT : Sta Z Z.heap "java/lang/String" "COMPACT_STRINGS" "Z" (.int G1)) (P_COMPACT : ¬ (G1 = (0 : Int32))) (a_0 : Addr) (a_1 : Addr) (i_0 : Int32) (a_2 : Addr) (a_3 : Addr) (a_4 : Addr) (a_5 : Addr) {p : Program} {e : Env} {s : State} {m : MethodId} {below : List Frame} {meth : Method} {c : Code} {T : State} {locs : List Loc} {h : Heap} {vm0 : Vm} {k0 : Nat} (X1 : Stand p l e room_1 (s.setVm vm0) m #[(.int p1), (.int p2), (.int p3), (.int p4)] below meth c T locs 30 400) (hx : p.tables.exec = Jvm.exec) (hby : c.code = code) (hlk : meth.locks = false) (hml : c.maxLocals = 17) (hret : meth.sig.returnType = ret) (hnm : meth.name = "law") (e1 : T.heap = h) (N1 : Fr n0 locs) (Zs1 : n0 ≤ h.size) (O1 : Old Z n0 h) (hS1 : s.Since vm0 k0) (hk1 : k0 ≤ h.size) (hZ1 : Z.Warmed39 (s.setVm vm0).vm) (hown1 : (s.setVm vm0).vm.findClass "com/example/grab1/grab1/cli/OptionIsFlagPinLaw" = some m.cls) (hEL : EW Z a0 own_EL) (C1 : CHr Z own_EL s.vm h0 vm0 h) (hkk : i_0 = (0 : Int32)) :
    GoH p e below s room_1.cells room_1.slots Z own_EL h0 (Q0 Z p1 p2 p3 p4 G1 h0 n0) T (mkF m 174 #[.val (.int p1), .val (.int p2), .val (.int p3), .val (.int p4), .val (.ref a_0), .val (.ref a_1), .val (.int i_0), .val (.ref a_2), .val (.ref a_3), .val (.ref a_4), .val .null, .val (.ref a_5), .val .null, .unset, .unset, .unset, .unset] []) := by
  show GoH _ _ _ _ _ _ _ _ _ _ T (mkF m 174 #[.val (.int p1), .val (.int p2), .val (.int p3), .val (.int p4), .val (.ref a_0), .val (.ref a_1), .val (.int i_0), .val (.ref a_2), .val (.ref a_3), .val (.ref a_4), .val .null, .val (.ref a_5), .val .null, .unset, .unset, .unset, .unset] [])
  refine GoH.step (fun t k => XS.iloadN X1.here hx rfl (hb hby at_174) rfl k) ?_
  show GoH _ _ _ _ _ _ _ _ _ _ T (mkF m 175 #[.val (.int p1), .val (.int p2), .val (.int p3), .val (.int p4), .val (.ref a_0), .val (.ref a_1), .val (.int i_0), .val (.ref a_2), .val (.ref a_3), .val (.ref a_4), .val .null, .val (.ref a_5), .val .null, .unset, .unset, .unset, .unset] [(.int p4)])
  refine GoH.step (fun t k => XS.iconst X1.here hx rfl (hb hby at_175) k) ?_
  show GoH _ _ _ _ _ _ _ _ _ _ T (mkF m 176 #[.val (.int p1), .val (.int p2), .val (.int p3), .val (.int p4), .val (.ref a_0), .val (.ref a_1), .val (.int i_0), .val (.ref a_2), .val (.ref a_3), .val (.ref a_4), .val .null, .val (.ref a_5), .val .null, .unset, .unset, .unset, .unset] [(.int (1 : Int32)), (.int p4)])
  refine GoH.step (fun t k => XS.iand X1.here hx rfl (hb hby at_176) rfl k) ?_
  show GoH _ _ _ _ _ _ _ _ _ _ T (mkF m 177 #[.val (.int p1), .val (.int p2), .val (.int p3), .val (.int p4), .val (.ref a_0), .val (.ref a_1), .val (.int i_0), .val (.ref a_2), .val (.ref a_3), .val (.ref a_4), .val .null, .val (.ref a_5), .val .null, .unset, .unset, .unset, .unset] [(.int (p4 &&& (1 : Int32)))])
  have jnr177_69 : ∀ r177_69 : Int32, (r177_69 = (0 : Int32) ∧ (p4 &&& (1 : Int32)) = (0 : Int32)) ∨ (r177_69 = (1 : Int32) ∧ ¬ ((p4 &&& (1 : Int32)) = (0 : Int32))) → GoH p e below s room_1.cells room_1.slots Z own_EL h0 (Q0 Z p1 p2 p3 p4 G1 h0 n0) T (mkF m 185 #[.val (.int p1), .val (.int p2), .val (.int p3), .val (.int p4), .val (.ref a_0), .val (.ref a_1), .val (.int i_0), .val (.ref a_2), .val (.ref a_3), .val (.ref a_4), .val .null, .val (.ref a_5), .val .null, .unset, .unset, .unset, .unset] [(.int r177_69)]) := by
    intro r177_69 hr177_69
    show GoH _ _ _ _ _ _ _ _ _ _ T (mkF m 185 #[.val (.int p1), .val (.int p2), .val (.int p3), .val (.int p4), .val (.ref a_0), .val (.ref a_1), .val (.int i_0), .val (.ref a_2), .val (.ref a_3), .val (.ref a_4), .val .null, .val (.ref a_5), .val .null, .unset, .unset, .unset, .unset] [(.int r177_69)])
    refine GoH.step (fun t k => XS.istore X1.here hx rfl (hb hby at_185) rfl (l' := #[.val (.int p1), .val (.int p2), .val (.int p3), .val (.int p4), .val (.ref a_0), .val (.ref a_1), .val (.int i_0), .val (.ref a_2), .val (.ref a_3), .val (.ref a_4), .val .null, .val (.ref a_5), .val .null, .val (.int r177_69), .unset, .unset, .unset]) rfl k) ?_
    show GoH _ _ _ _ _ _ _ _ _ _ T (mkF m 187 #[.val (.int p1), .val (.int p2), .val (.int p3), .val (.int p4), .val (.ref a_0), .val (.ref a_1), .val (.int i_0), .val (.ref a_2), .val (.ref a_3), .val (.ref a_4), .val .null, .val (.ref a_5), .val .null, .val (.int r177_69), .unset, .unset, .unset] [])
    obtain ⟨T70, h70, X70, e70, E70, A70, D70, -, st70⟩ := newO X1 hx hZ1 hown1 (hw _ (List.mem_of_getElem? (i := 30) rfl)) (hw _ (List.mem_of_getElem? (i := 31) rfl)) (hw _ (List.mem_of_getElem? (i := 32) rfl)) e1 (g := (mkF m 187 #[.val (.int p1), .val (.int p2), .val (.int p3), .val (.int p4), .val (.ref a_0), .val (.ref a_1), .val (.int i_0), .val (.ref a_2), .val (.ref a_3), .val (.ref a_4), .val .null, .val (.ref a_5), .val .null, .val (.int r177_69), .unset, .unset, .unset] [])) rfl (hb hby at_187) (by decide) (by decide)
    obtain ⟨o70, g70⟩ : ∃ z, z = h.size := ⟨_, rfl⟩
    rw [← g70] at A70 D70 st70
    have ge_o70 : n0 ≤ o70 := Nat.le_trans Zs1 (Nat.le_of_eq g70.symm)
    have f70_0 : Exa Z h70 o70 "com/example/grab1/grab1/cli/Command$Option" := A70
    have f70_1 : Fld Z h70 o70 "com/example/grab1/grab1/cli/Command$Option" "name" "Ljava/lang/String;" .null := (D70 (Or.inr (hw _ (List.mem_of_getElem? (i := 43) rfl))) (ty := (.object "java/lang/String")) (by decide))
    have f70_2 : Fld Z h70 o70 "com/example/grab1/grab1/cli/Command$Option" "value" "Ljava/lang/String;" .null := (D70 (Or.inr (hw _ (List.mem_of_getElem? (i := 45) rfl))) (ty := (.object "java/lang/String")) (by decide))
    have f70_3 : Fld Z h70 o70 "com/example/grab1/grab1/cli/Command$Option" "fallback" "Ljava/lang/String;" .null := (D70 (Or.inr (hw _ (List.mem_of_getElem? (i := 47) rfl))) (ty := (.object "java/lang/String")) (by decide))
    have f70_4 : Fld Z h70 o70 "com/example/grab1/grab1/cli/Command$Option" "required" "Z" (.int (0 : Int32)) := (D70 (Or.inr (hw _ (List.mem_of_getElem? (i := 49) rfl))) (ty := .boolean) (by decide))
    have hk70 : _ ≤ h70.size := Nat.le_trans hk1 E70.1
    have C70 : CHr Z own_EL s.vm h0 vm0 h70 := C1.trans (CHr.ext E70 C1.1)
    have Zs70 : n0 ≤ h70.size := (Nat.le_trans Zs1 E70.1)
    have O70 : Old Z n0 h70 := O1.ext E70
    refine GoH.step st70 ?_
    show GoH _ _ _ _ _ _ _ _ _ _ T70 (mkF m 190 #[.val (.int p1), .val (.int p2), .val (.int p3), .val (.int p4), .val (.ref a_0), .val (.ref a_1), .val (.int i_0), .val (.ref a_2), .val (.ref a_3), .val (.ref a_4), .val .null, .val (.ref a_5), .val .null, .val (.int r177_69), .unset, .unset, .unset] [(.ref o70)])
    refine GoH.step (fun t k => XS.dup X70.here hx rfl (hb hby at_190) rfl rfl k) ?_
    show GoH _ _ _ _ _ _ _ _ _ _ T70 (mkF m 191 #[.val (.int p1), .val (.int p2), .val (.int p3), .val (.int p4), .val (.ref a_0), .val (.ref a_1), .val (.int i_0), .val (.ref a_2), .val (.ref a_3), .val (.ref a_4), .val .null, .val (.ref a_5), .val .null, .val (.int r177_69), .unset, .unset, .unset] [(.ref o70), (.ref o70)])
    refine GoH.step (fun t k => XS.aload X70.here hx rfl (hb hby at_191) rfl rfl k) ?_
    show GoH _ _ _ _ _ _ _ _ _ _ T70 (mkF m 193 #[.val (.int p1), .val (.int p2), .val (.int p3), .val (.int p4), .val (.ref a_0), .val (.ref a_1), .val (.int i_0), .val (.ref a_2), .val (.ref a_3), .val (.ref a_4), .val .null, .val (.ref a_5), .val .null, .val (.int r177_69), .unset, .unset, .unset] [(.ref a_1), (.ref o70), (.ref o70)])
    refine GoH.step (fun t k => XS.aload X70.here hx rfl (hb hby at_193) rfl rfl k) ?_
    show GoH _ _ _ _ _ _ _ _ _ _ T70 (mkF m 195 #[.val (.int p1), .val (.int p2), .val (.int p3), .val (.int p4), .val (.ref a_0), .val (.ref a_1), .val (.int i_0), .val (.ref a_2), .val (.ref a_3), .val (.ref a_4), .val .null, .val (.ref a_5), .val .null, .val (.int r177_69), .unset, .unset, .unset] [.null, (.ref a_1), (.ref o70), (.ref o70)])
    refine GoH.step (fun t k => XS.aload X70.here hx rfl (hb hby at_195) rfl rfl k) ?_
    show GoH _ _ _ _ _ _ _ _ _ _ T70 (mkF m 197 #[.val (.int p1), .val (.int p2), .val (.int p3), .val (.int p4), .val (.ref a_0), .val (.ref a_1), .val (.int i_0), .val (.ref a_2), .val (.ref a_3), .val (.ref a_4), .val .null, .val (.ref a_5), .val .null, .val (.int r177_69), .unset, .unset, .unset] [.null, .null, (.ref a_1), (.ref o70), (.ref o70)])
    refine GoH.step (fun t k => XS.iload X70.here hx rfl (hb hby at_197) rfl k) ?_
    show GoH _ _ _ _ _ _ _ _ _ _ T70 (mkF m 199 #[.val (.int p1), .val (.int p2), .val (.int p3), .val (.int p4), .val (.ref a_0), .val (.ref a_1), .val (.int i_0), .val (.ref a_2), .val (.ref a_3), .val (.ref a_4), .val .null, .val (.ref a_5), .val .null, .val (.int r177_69), .unset, .unset, .unset] [(.int r177_69), .null, .null, (.ref a_1), (.ref o70), (.ref o70)])
    obtain ⟨_, _, ⟨T71, L71, k71, n71⟩, -, X71, ⟨Lc71, hQ71, l71, y71, z71⟩, st71⟩ := X70.specialBack hx (y := (⟨"com/example/grab1/grab1/cli/Command$Option", "<init>", "(Ljava/lang/String;Ljava/lang/String;Ljava/lang/String;Z)V"⟩ : MethodName)) rfl hown1 (mvT hZ1 (hw _ (List.mem_of_getElem? (i := 33) rfl))) (mvT hZ1 (hw _ (List.mem_of_getElem? (i := 34) rfl))) (mvT hZ1 (hw _ (List.mem_of_getElem? (i := 35) rfl))) (by decide) (backOf (W := 1) (rmOInn l Z a0 hw [] o70 a_1 r177_69 h70 n0 Zs70 ge_o70 f70_0 f70_1 f70_2 f70_3 f70_4 (nar01 (hr177_69.elim (fun q => Or.inl q.1) (fun q => Or.inr q.1))) (own_fit01 (nar01 (hr177_69.elim (fun q => Or.inl q.1) (fun q => Or.inr q.1))))) hZ1 (hw _ (List.mem_of_getElem? (i := 35) rfl)) (hw _ (List.mem_of_getElem? (i := 32) rfl)) (by decide) (by decide)) (g := (mkF m 199 #[.val (.int p1), .val (.int p2), .val (.int p3), .val (.int p4), .val (.ref a_0), .val (.ref a_1), .val (.int i_0), .val (.ref a_2), .val (.ref a_3), .val (.ref a_4), .val .null, .val (.ref a_5), .val .null, .val (.int r177_69), .unset, .unset, .unset] [(.int r177_69), .null, .null, (.ref a_1), (.ref o70), (.ref o70)])) rfl (by rw [hml]; rfl) (Steps.refl _) (a := o70) (argsL := [(.ref a_1), .null, .null, (.int r177_69)]) (rest := [(.ref o70)]) (lenOf pd_2 rfl) rfl (by show 2 * 0 + _ ≤ _; exact Nat.le_of_eq rfl) (hb hby at_199) (fun _ _ => ⟨rfl, e70, (by decide : 30 + 1 + 0 ≤ _), (by decide : 400 + 4 + 0 ≤ _)⟩)
    dsimp only [Pt.U, Pt.locs, Pt.cells, Pt.slots] at X71 l71 y71 z71 st71 hQ71
    subst l71 y71 z71
    obtain ⟨rfl, N71q, Kq71, Eq71, Fq71⟩ := hQ71
    have N71 := Fr.app N1 N71q
    have f71_0 : Exa Z T71.heap o70 "com/example/grab1/grab1/cli/Command$Option" := Eq71
    have f71_1 : Fld Z T71.heap o70 "com/example/grab1/grab1/cli/Command$Option" "value" "Ljava/lang/String;" .null := Fq71
    have sfk71 : ∀ x ∈ ([o70] : List Addr), Safe Z own_EL vm0 h70 x := (sfS (Safe.exa hZ1.alike f70_0 (by decide) (by decide)) sf0)
    have hk71 : _ ≤ T71.heap.size := Nat.le_trans hk70 Kq71.1
    have C71 : CHr Z own_EL s.vm h0 vm0 T71.heap := C70.trans (CHr.keep Kq71 sfk71 C70.1)
    have Zs71 : n0 ≤ T71.heap.size := (Nat.le_trans Zs70 Kq71.1)
    have O71 : Old Z n0 T71.heap := O70.keep Kq71 (allS ge_o70 all0)
    refine GoH.step (fun t k => st71.trans k) ?_
    show GoH _ _ _ _ _ _ _ _ _ _ T71 (mkF m 202 #[.val (.int p1), .val (.int p2), .val (.int p3), .val (.int p4), .val (.ref a_0), .val (.ref a_1), .val (.int i_0), .val (.ref a_2), .val (.ref a_3), .val (.ref a_4), .val .null, .val (.ref a_5), .val .null, .val (.int r177_69), .unset, .unset, .unset] [(.ref o70)])
    refine GoH.step (fun t k => XS.astore X71.here hx rfl (hb hby at_202) rfl rfl (l' := #[.val (.int p1), .val (.int p2), .val (.int p3), .val (.int p4), .val (.ref a_0), .val (.ref a_1), .val (.int i_0), .val (.ref a_2), .val (.ref a_3), .val (.ref a_4), .val .null, .val (.ref a_5), .val .null, .val (.int r177_69), .val (.ref o70), .unset, .unset]) rfl k) ?_
    show GoH _ _ _ _ _ _ _ _ _ _ T71 (mkF m 204 #[.val (.int p1), .val (.int p2), .val (.int p3), .val (.int p4), .val (.ref a_0), .val (.ref a_1), .val (.int i_0), .val (.ref a_2), .val (.ref a_3), .val (.ref a_4), .val .null, .val (.ref a_5), .val .null, .val (.int r177_69), .val (.ref o70), .unset, .unset] [])
    refine GoH.step (fun t k => XS.iload X71.here hx rfl (hb hby at_204) rfl k) ?_
    show GoH _ _ _ _ _ _ _ _ _ _ T71 (mkF m 206 #[.val (.int p1), .val (.int p2), .val (.int p3), .val (.int p4), .val (.ref a_0), .val (.ref a_1), .val (.int i_0), .val (.ref a_2), .val (.ref a_3), .val (.ref a_4), .val .null, .val (.ref a_5), .val .null, .val (.int r177_69), .val (.ref o70), .unset, .unset] [(.int i_0)])
    have hb206_72 : i_0 = (0 : Int32) := by exact hkk
    refine GoH.step (fun t k => XS.ifNo X71.here hx rfl (hb hby at_206) rfl (XT.i0_ne_f hb206_72) k) ?_
    show GoH _ _ _ _ _ _ _ _ _ _ T71 (mkF m 209 #[.val (.int p1), .val (.int p2), .val (.int p3), .val (.int p4), .val (.ref a_0), .val (.ref a_1), .val (.int i_0), .val (.ref a_2), .val (.ref a_3), .val (.ref a_4), .val .null, .val (.ref a_5), .val .null, .val (.int r177_69), .val (.ref o70), .unset, .unset] [])
    refine GoH.step (fun t k => XS.iconst X71.here hx rfl (hb hby at_209) k) ?_
    show GoH _ _ _ _ _ _ _ _ _ _ T71 (mkF m 210 #[.val (.int p1), .val (.int p2), .val (.int p3), .val (.int p4), .val (.ref a_0), .val (.ref a_1), .val (.int i_0), .val (.ref a_2), .val (.ref a_3), .val (.ref a_4), .val .null, .val (.ref a_5), .val .null, .val (.int r177_69), .val (.ref o70), .unset, .unset] [(.int (1 : Int32))])
    refine GoH.step (fun t k => XS.goto X71.here hx rfl (pc0 := 210) (pc' := 214) rfl (hb hby at_210) (by decide) (by decide) k) ?_
    show GoH _ _ _ _ _ _ _ _ _ _ T71 (mkF m 214 #[.val (.int p1), .val (.int p2), .val (.int p3), .val (.int p4), .val (.ref a_0), .val (.ref a_1), .val (.int i_0), .val (.ref a_2), .val (.ref a_3), .val (.ref a_4), .val .null, .val (.ref a_5), .val .null, .val (.int r177_69), .val (.ref o70), .unset, .unset] [(.int (1 : Int32))])
    refine GoH.step (fun t k => XS.istore X71.here hx rfl (hb hby at_214) rfl (l' := #[.val (.int p1), .val (.int p2), .val (.int p3), .val (.int p4), .val (.ref a_0), .val (.ref a_1), .val (.int i_0), .val (.ref a_2), .val (.ref a_3), .val (.ref a_4), .val .null, .val (.ref a_5), .val .null, .val (.int r177_69), .val (.ref o70), .val (.int (1 : Int32)), .unset]) rfl k) ?_
    show GoH _ _ _ _ _ _ _ _ _ _ T71 (mkF m 216 #[.val (.int p1), .val (.int p2), .val (.int p3), .val (.int p4), .val (.ref a_0), .val (.ref a_1), .val (.int i_0), .val (.ref a_2), .val (.ref a_3), .val (.ref a_4), .val .null, .val (.ref a_5), .val .null, .val (.int r177_69), .val (.ref o70), .val (.int (1 : Int32)), .unset] [])
    refine GoH.step (fun t k => XS.aload X71.here hx rfl (hb hby at_216) rfl rfl k) ?_
    show GoH _ _ _ _ _ _ _ _ _ _ T71 (mkF m 218 #[.val (.int p1), .val (.int p2), .val (.int p3), .val (.int p4), .val (.ref a_0), .val (.ref a_1), .val (.int i_0), .val (.ref a_2), .val (.ref a_3), .val (.ref a_4), .val .null, .val (.ref a_5), .val .null, .val (.int r177_69), .val (.ref o70), .val (.int (1 : Int32)), .unset] [(.ref o70)])
    obtain ⟨cq73, kq73, qa73, qb73, qc73⟩ := isOf hZ1 rfl f71_0
    obtain ⟨_, _, ⟨T73, L73, k73, n73⟩, -, X73, ⟨Lc73, hQ73, l73, y73, z73⟩, st73⟩ := X71.virtualBack hx (y := (⟨"com/example/grab1/grab1/cli/Command$Option", "isFlag", "()Z"⟩ : MethodName)) (z := (⟨"com/example/grab1/grab1/cli/Command$Option", "isFlag", "()Z"⟩ : MethodName)) hown1 (mvT hZ1 (hw _ (List.mem_of_getElem? (i := 50) rfl))) (mvT hZ1 (hw _ (List.mem_of_getElem? (i := 51) rfl))) (notFace_of_selects (args := #[]) (mvT hZ1 (hw _ (List.mem_of_getElem? (i := 53) rfl)))) (mvT hZ1 (hw _ (List.mem_of_getElem? (i := 53) rfl))) (mvT hZ1 (hw _ (List.mem_of_getElem? (i := 52) rfl))) (by decide) (backOf (W := 0) (rmIFn l Z a0 hw [] o70 T71.heap n0 Zs71 f71_1) hZ1 (hw _ (List.mem_of_getElem? (i := 54) rfl)) (hw _ (List.mem_of_getElem? (i := 32) rfl)) (by decide) (by decide)) qa73 qc73 (g := (mkF m 218 #[.val (.int p1), .val (.int p2), .val (.int p3), .val (.int p4), .val (.ref a_0), .val (.ref a_1), .val (.int i_0), .val (.ref a_2), .val (.ref a_3), .val (.ref a_4), .val .null, .val (.ref a_5), .val .null, .val (.int r177_69), .val (.ref o70), .val (.int (1 : Int32)), .unset] [(.ref o70)])) rfl (by rw [hml]; rfl) (Steps.refl _) (argsL := []) (rest := []) (lenOf pd_4 rfl) rfl (by show 2 * 0 + _ ≤ _; exact Nat.le_of_eq rfl) (hb hby at_218) (fun _ _ => ⟨rfl, rfl, (by decide : 30 + 1 + 0 + 0 ≤ _), (by decide : 400 + 4 + 0 + 0 ≤ _)⟩)
    dsimp only [Pt.U, Pt.locs, Pt.cells, Pt.slots] at X73 l73 y73 z73 st73 hQ73
    subst l73 y73 z73
    obtain ⟨rfl, N73q, e73⟩ := hQ73
    have N73 := Fr.app N71 N73q
    refine GoH.step (fun t k => st73.trans k) ?_
    show GoH _ _ _ _ _ _ _ _ _ _ T73 (mkF m 221 #[.val (.int p1), .val (.int p2), .val (.int p3), .val (.int p4), .val (.ref a_0), .val (.ref a_1), .val (.int i_0), .val (.ref a_2), .val (.ref a_3), .val (.ref a_4), .val .null, .val (.ref a_5), .val .null, .val (.int r177_69), .val (.ref o70), .val (.int (1 : Int32)), .unset] [(.int (1 : Int32))])
    refine GoH.step (fun t k => XS.iload X73.here hx rfl (hb hby at_221) rfl k) ?_
    show GoH _ _ _ _ _ _ _ _ _ _ T73 (mkF m 223 #[.val (.int p1), .val (.int p2), .val (.int p3), .val (.int p4), .val (.ref a_0), .val (.ref a_1), .val (.int i_0), .val (.ref a_2), .val (.ref a_3), .val (.ref a_4), .val .null, .val (.ref a_5), .val .null, .val (.int r177_69), .val (.ref o70), .val (.int (1 : Int32)), .unset] [(.int (1 : Int32)), (.int (1 : Int32))])
    have hb223_74 : (1 : Int32) = (1 : Int32) := by decide
    refine GoH.step (fun t k => XS.icmpNo X73.here hx rfl (hb hby at_223) rfl (XT.ii_ne_f hb223_74) k) ?_
    show GoH _ _ _ _ _ _ _ _ _ _ T73 (mkF m 226 #[.val (.int p1), .val (.int p2), .val (.int p3), .val (.int p4), .val (.ref a_0), .val (.ref a_1), .val (.int i_0), .val (.ref a_2), .val (.ref a_3), .val (.ref a_4), .val .null, .val (.ref a_5), .val .null, .val (.int r177_69), .val (.ref o70), .val (.int (1 : Int32)), .unset] [])
    refine GoH.step (fun t k => XS.iconst X73.here hx rfl (hb hby at_226) k) ?_
    show GoH _ _ _ _ _ _ _ _ _ _ T73 (mkF m 227 #[.val (.int p1), .val (.int p2), .val (.int p3), .val (.int p4), .val (.ref a_0), .val (.ref a_1), .val (.int i_0), .val (.ref a_2), .val (.ref a_3), .val (.ref a_4), .val .null, .val (.ref a_5), .val .null, .val (.int r177_69), .val (.ref o70), .val (.int (1 : Int32)), .unset] [(.int (1 : Int32))])
    refine GoH.step (fun t k => XS.goto X73.here hx rfl (pc0 := 227) (pc' := 231) rfl (hb hby at_227) (by decide) (by decide) k) ?_
    show GoH _ _ _ _ _ _ _ _ _ _ T73 (mkF m 231 #[.val (.int p1), .val (.int p2), .val (.int p3), .val (.int p4), .val (.ref a_0), .val (.ref a_1), .val (.int i_0), .val (.ref a_2), .val (.ref a_3), .val (.ref a_4), .val .null, .val (.ref a_5), .val .null, .val (.int r177_69), .val (.ref o70), .val (.int (1 : Int32)), .unset] [(.int (1 : Int32))])
    refine GoH.step (fun t k => XS.istore X73.here hx rfl (hb hby at_231) rfl (l' := #[.val (.int p1), .val (.int p2), .val (.int p3), .val (.int p4), .val (.ref a_0), .val (.ref a_1), .val (.int i_0), .val (.ref a_2), .val (.ref a_3), .val (.ref a_4), .val .null, .val (.ref a_5), .val .null, .val (.int r177_69), .val (.ref o70), .val (.int (1 : Int32)), .val (.int (1 : Int32))]) rfl k) ?_
    show GoH _ _ _ _ _ _ _ _ _ _ T73 (mkF m 233 #[.val (.int p1), .val (.int p2), .val (.int p3), .val (.int p4), .val (.ref a_0), .val (.ref a_1), .val (.int i_0), .val (.ref a_2), .val (.ref a_3), .val (.ref a_4), .val .null, .val (.ref a_5), .val .null, .val (.int r177_69), .val (.ref o70), .val (.int (1 : Int32)), .val (.int (1 : Int32))] [])
    refine GoH.step (fun t k => XS.iload X73.here hx rfl (hb hby at_233) rfl k) ?_
    show GoH _ _ _ _ _ _ _ _ _ _ T73 (mkF m 235 #[.val (.int p1), .val (.int p2), .val (.int p3), .val (.int p4), .val (.ref a_0), .val (.ref a_1), .val (.int i_0), .val (.ref a_2), .val (.ref a_3), .val (.ref a_4), .val .null, .val (.ref a_5), .val .null, .val (.int r177_69), .val (.ref o70), .val (.int (1 : Int32)), .val (.int (1 : Int32))] [(.int (1 : Int32))])
    have hb235_75 : ¬ ((1 : Int32) = (0 : Int32)) := by decide
    refine GoH.step (fun t k => XS.ifNo X73.here hx rfl (hb hby at_235) rfl (XT.i0_eq_f hb235_75) k) ?_
    show GoH _ _ _ _ _ _ _ _ _ _ T73 (mkF m 238 #[.val (.int p1), .val (.int p2), .val (.int p3), .val (.int p4), .val (.ref a_0), .val (.ref a_1), .val (.int i_0), .val (.ref a_2), .val (.ref a_3), .val (.ref a_4), .val .null, .val (.ref a_5), .val .null, .val (.int r177_69), .val (.ref o70), .val (.int (1 : Int32)), .val (.int (1 : Int32))] [])
    refine GoH.step (fun t k => XS.aload X73.here hx rfl (hb hby at_238) rfl rfl k) ?_
    show GoH _ _ _ _ _ _ _ _ _ _ T73 (mkF m 240 #[.val (.int p1), .val (.int p2), .val (.int p3), .val (.int p4), .val (.ref a_0), .val (.ref a_1), .val (.int i_0), .val (.ref a_2), .val (.ref a_3), .val (.ref a_4), .val .null, .val (.ref a_5), .val .null, .val (.int r177_69), .val (.ref o70), .val (.int (1 : Int32)), .val (.int (1 : Int32))] [(.ref a_1)])
    obtain ⟨_, _, ⟨T76, L76, k76, n76⟩, -, X76, ⟨Lc76, hQ76, l76, y76, z76⟩, st76⟩ := Jvm.LawKit.callS X73 hx (y := (⟨"com/example/grab1/grab1/cli/Command$Option", "flag", "(Ljava/lang/String;)Lcom/example/grab1/grab1/cli/Command$Option;"⟩ : MethodName)) hown1 (mvT hZ1 (hw _ (List.mem_of_getElem? (i := 55) rfl))) (mvT hZ1 (hw _ (List.mem_of_getElem? (i := 56) rfl))) (mvT hZ1 (hw _ (List.mem_of_getElem? (i := 32) rfl))) (mvT hZ1 (hw _ (List.mem_of_getElem? (i := 57) rfl))) (by decide) (backOf (W := 0) (rmFl l Z a0 hw [] a_1 T71.heap n0 Zs71 ) hZ1 (hw _ (List.mem_of_getElem? (i := 57) rfl)) (hw _ (List.mem_of_getElem? (i := 32) rfl)) (by decide) (by decide)) (g := (mkF m 240 #[.val (.int p1), .val (.int p2), .val (.int p3), .val (.int p4), .val (.ref a_0), .val (.ref a_1), .val (.int i_0), .val (.ref a_2), .val (.ref a_3), .val (.ref a_4), .val .null, .val (.ref a_5), .val .null, .val (.int r177_69), .val (.ref o70), .val (.int (1 : Int32)), .val (.int (1 : Int32))] [(.ref a_1)])) rfl (by rw [hml]; rfl) (argsL := [(.ref a_1)]) (rest := []) (lenOf pd_5 rfl) rfl (by show 2 * 0 + _ ≤ _; exact Nat.le_of_eq rfl) (hb hby at_240) (fun _ _ => ⟨rfl, (e73), (by decide : 30 + 1 + 0 + 0 + 1 ≤ _), (by decide : 400 + 4 + 0 + 0 + 4 ≤ _)⟩)
    dsimp only [Pt.U, Pt.locs, Pt.cells, Pt.slots] at X76 l76 y76 z76 st76 hQ76
    subst l76 y76 z76
    obtain ⟨ob76, rfl, N76q, Kq76, gq76, Eq76, Fq76⟩ := hQ76
    have N76 := Fr.app N73 N76q
    have ne_o70_ob76 : o70 ≠ ob76 := Nat.ne_of_lt (Nat.lt_of_lt_of_le f71_0.lt gq76)
    have f76_0 : Exa Z T76.heap o70 "com/example/grab1/grab1/cli/Command$Option" := (f71_0.keep Kq76)
    have f76_1 : Fld Z T76.heap o70 "com/example/grab1/grab1/cli/Command$Option" "value" "Ljava/lang/String;" .null := (f71_1.keep Kq76 nin0)
    have f76_2 : Exa Z T76.heap ob76 "com/example/grab1/grab1/cli/Command$Option" := Eq76
    have f76_3 : Fld Z T76.heap ob76 "com/example/grab1/grab1/cli/Command$Option" "value" "Ljava/lang/String;" .null := Fq76
    have sfk76 : ∀ x ∈ ([] : List Addr), Safe Z own_EL vm0 T71.heap x := sf0
    have hk76 : _ ≤ T76.heap.size := Nat.le_trans hk71 Kq76.1
    have C76 : CHr Z own_EL s.vm h0 vm0 T76.heap := C71.trans (CHr.keep Kq76 sfk76 C71.1)
    have Zs76 : n0 ≤ T76.heap.size := (Nat.le_trans Zs71 Kq76.1)
    have O76 : Old Z n0 T76.heap := O71.keep Kq76 all0
    refine GoH.step st76 ?_
    show GoH _ _ _ _ _ _ _ _ _ _ T76 (mkF m 243 #[.val (.int p1), .val (.int p2), .val (.int p3), .val (.int p4), .val (.ref a_0), .val (.ref a_1), .val (.int i_0), .val (.ref a_2), .val (.ref a_3), .val (.ref a_4), .val .null, .val (.ref a_5), .val .null, .val (.int r177_69), .val (.ref o70), .val (.int (1 : Int32)), .val (.int (1 : Int32))] [(.ref ob76)])
    obtain ⟨cq77, kq77, qa77, qb77, qc77⟩ := isOf hZ1 rfl f76_2
    obtain ⟨_, _, ⟨T77, L77, k77, n77⟩, -, X77, ⟨Lc77, hQ77, l77, y77, z77⟩, st77⟩ := X76.virtualBack hx (y := (⟨"com/example/grab1/grab1/cli/Command$Option", "isFlag", "()Z"⟩ : MethodName)) (z := (⟨"com/example/grab1/grab1/cli/Command$Option", "isFlag", "()Z"⟩ : MethodName)) hown1 (mvT hZ1 (hw _ (List.mem_of_getElem? (i := 50) rfl))) (mvT hZ1 (hw _ (List.mem_of_getElem? (i := 51) rfl))) (notFace_of_selects (args := #[]) (mvT hZ1 (hw _ (List.mem_of_getElem? (i := 53) rfl)))) (mvT hZ1 (hw _ (List.mem_of_getElem? (i := 53) rfl))) (mvT hZ1 (hw _ (List.mem_of_getElem? (i := 52) rfl))) (by decide) (backOf (W := 0) (rmIFn l Z a0 hw [] ob76 T76.heap n0 Zs76 f76_3) hZ1 (hw _ (List.mem_of_getElem? (i := 54) rfl)) (hw _ (List.mem_of_getElem? (i := 32) rfl)) (by decide) (by decide)) qa77 qc77 (g := (mkF m 243 #[.val (.int p1), .val (.int p2), .val (.int p3), .val (.int p4), .val (.ref a_0), .val (.ref a_1), .val (.int i_0), .val (.ref a_2), .val (.ref a_3), .val (.ref a_4), .val .null, .val (.ref a_5), .val .null, .val (.int r177_69), .val (.ref o70), .val (.int (1 : Int32)), .val (.int (1 : Int32))] [(.ref ob76)])) rfl (by rw [hml]; rfl) (Steps.refl _) (argsL := []) (rest := []) (lenOf pd_4 rfl) rfl (by show 2 * 0 + _ ≤ _; exact Nat.le_of_eq rfl) (hb hby at_243) (fun _ _ => ⟨rfl, rfl, (by decide : 30 + 1 + 0 + 0 + 1 + 0 ≤ _), (by decide : 400 + 4 + 0 + 0 + 4 + 0 ≤ _)⟩)
    dsimp only [Pt.U, Pt.locs, Pt.cells, Pt.slots] at X77 l77 y77 z77 st77 hQ77
    subst l77 y77 z77
    obtain ⟨rfl, N77q, e77⟩ := hQ77
    have N77 := Fr.app N76 N77q
    refine GoH.step (fun t k => st77.trans k) ?_
    show GoH _ _ _ _ _ _ _ _ _ _ T77 (mkF m 246 #[.val (.int p1), .val (.int p2), .val (.int p3), .val (.int p4), .val (.ref a_0), .val (.ref a_1), .val (.int i_0), .val (.ref a_2), .val (.ref a_3), .val (.ref a_4), .val .null, .val (.ref a_5), .val .null, .val (.int r177_69), .val (.ref o70), .val (.int (1 : Int32)), .val (.int (1 : Int32))] [(.int (1 : Int32))])
    have hb246_78 : ¬ ((1 : Int32) = (0 : Int32)) := by decide
    refine GoH.step (fun t k => XS.ifNo X77.here hx rfl (hb hby at_246) rfl (XT.i0_eq_f hb246_78) k) ?_
    show GoH _ _ _ _ _ _ _ _ _ _ T77 (mkF m 249 #[.val (.int p1), .val (.int p2), .val (.int p3), .val (.int p4), .val (.ref a_0), .val (.ref a_1), .val (.int i_0), .val (.ref a_2), .val (.ref a_3), .val (.ref a_4), .val .null, .val (.ref a_5), .val .null, .val (.int r177_69), .val (.ref o70), .val (.int (1 : Int32)), .val (.int (1 : Int32))] [])
    refine GoH.step (fun t k => XS.iconst X77.here hx rfl (hb hby at_249) k) ?_
    show GoH _ _ _ _ _ _ _ _ _ _ T77 (mkF m 250 #[.val (.int p1), .val (.int p2), .val (.int p3), .val (.int p4), .val (.ref a_0), .val (.ref a_1), .val (.int i_0), .val (.ref a_2), .val (.ref a_3), .val (.ref a_4), .val .null, .val (.ref a_5), .val .null, .val (.int r177_69), .val (.ref o70), .val (.int (1 : Int32)), .val (.int (1 : Int32))] [(.int (1 : Int32))])
    refine GoH.step (fun t k => XS.goto X77.here hx rfl (pc0 := 250) (pc' := 254) rfl (hb hby at_250) (by decide) (by decide) k) ?_
    show GoH _ _ _ _ _ _ _ _ _ _ T77 (mkF m 254 #[.val (.int p1), .val (.int p2), .val (.int p3), .val (.int p4), .val (.ref a_0), .val (.ref a_1), .val (.int i_0), .val (.ref a_2), .val (.ref a_3), .val (.ref a_4), .val .null, .val (.ref a_5), .val .null, .val (.int r177_69), .val (.ref o70), .val (.int (1 : Int32)), .val (.int (1 : Int32))] [(.int (1 : Int32))])
    refine GoH.step (fun t k => XS.istore X77.here hx rfl (hb hby at_254) rfl (l' := #[.val (.int p1), .val (.int p2), .val (.int p3), .val (.int p4), .val (.ref a_0), .val (.ref a_1), .val (.int i_0), .val (.ref a_2), .val (.ref a_3), .val (.ref a_4), .val .null, .val (.ref a_5), .val .null, .val (.int r177_69), .val (.ref o70), .val (.int (1 : Int32)), .val (.int (1 : Int32))]) rfl k) ?_
    show GoH _ _ _ _ _ _ _ _ _ _ T77 (mkF m 256 #[.val (.int p1), .val (.int p2), .val (.int p3), .val (.int p4), .val (.ref a_0), .val (.ref a_1), .val (.int i_0), .val (.ref a_2), .val (.ref a_3), .val (.ref a_4), .val .null, .val (.ref a_5), .val .null, .val (.int r177_69), .val (.ref o70), .val (.int (1 : Int32)), .val (.int (1 : Int32))] [])
    refine GoH.step (fun t k => XS.aload X77.here hx rfl (hb hby at_256) rfl rfl k) ?_
    show GoH _ _ _ _ _ _ _ _ _ _ T77 (mkF m 258 #[.val (.int p1), .val (.int p2), .val (.int p3), .val (.int p4), .val (.ref a_0), .val (.ref a_1), .val (.int i_0), .val (.ref a_2), .val (.ref a_3), .val (.ref a_4), .val .null, .val (.ref a_5), .val .null, .val (.int r177_69), .val (.ref o70), .val (.int (1 : Int32)), .val (.int (1 : Int32))] [.null])
    refine GoH.step (fun t k => XS.ifnullYes X77.here hx rfl (pc0 := 258) (pc' := 286) rfl (hb hby at_258) rfl (by decide) (by decide) k) ?_
    show GoH _ _ _ _ _ _ _ _ _ _ T77 (mkF m 286 #[.val (.int p1), .val (.int p2), .val (.int p3), .val (.int p4), .val (.ref a_0), .val (.ref a_1), .val (.int i_0), .val (.ref a_2), .val (.ref a_3), .val (.ref a_4), .val .null, .val (.ref a_5), .val .null, .val (.int r177_69), .val (.ref o70), .val (.int (1 : Int32)), .val (.int (1 : Int32))] [])
    refine GoH.step (fun t k => XS.iload X77.here hx rfl (hb hby at_286) rfl k) ?_
    show GoH _ _ _ _ _ _ _ _ _ _ T77 (mkF m 288 #[.val (.int p1), .val (.int p2), .val (.int p3), .val (.int p4), .val (.ref a_0), .val (.ref a_1), .val (.int i_0), .val (.ref a_2), .val (.ref a_3), .val (.ref a_4), .val .null, .val (.ref a_5), .val .null, .val (.int r177_69), .val (.ref o70), .val (.int (1 : Int32)), .val (.int (1 : Int32))] [(.int (1 : Int32))])
    have hkr : k0 ≤ T77.heap.size := by rw [(e77)]; exact hk76
    have hCr : CHr Z own_EL s.vm h0 vm0 T77.heap := by rw [(e77)]; exact C76
    refine GoH.ret X77 hx hlk hS1 hkr hZ1 hEL hCr hret rfl (Or.inl ⟨rfl, Or.inr (Or.inl rfl), _, rfl⟩) (hb hby at_288) ?_ (by decide) (by decide)
    show Q0 Z _ _ _ _ _ _ _ _ T77.heap _
    exact ⟨rfl, N77⟩
  by_cases hb177_68 : (p4 &&& (1 : Int32)) = (0 : Int32)
  · refine GoH.step (fun t k => XS.ifYes X1.here hx rfl (pc0 := 177) (pc' := 184) rfl (hb hby at_177) rfl (XT.i0_eq_t hb177_68) (by decide) (by decide) k) ?_
    show GoH _ _ _ _ _ _ _ _ _ _ T (mkF m 184 #[.val (.int p1), .val (.int p2), .val (.int p3), .val (.int p4), .val (.ref a_0), .val (.ref a_1), .val (.int i_0), .val (.ref a_2), .val (.ref a_3), .val (.ref a_4), .val .null, .val (.ref a_5), .val .null, .unset, .unset, .unset, .unset] [])
    refine GoH.step (fun t k => XS.iconst X1.here hx rfl (hb hby at_184) k) ?_
    show GoH _ _ _ _ _ _ _ _ _ _ T (mkF m 185 #[.val (.int p1), .val (.int p2), .val (.int p3), .val (.int p4), .val (.ref a_0), .val (.ref a_1), .val (.int i_0), .val (.ref a_2), .val (.ref a_3), .val (.ref a_4), .val .null, .val (.ref a_5), .val .null, .unset, .unset, .unset, .unset] [(.int (0 : Int32))])
    exact jnr177_69 _ (Or.inl ⟨rfl, hb177_68⟩)
  · refine GoH.step (fun t k => XS.ifNo X1.here hx rfl (hb hby at_177) rfl (XT.i0_eq_f hb177_68) k) ?_
    show GoH _ _ _ _ _ _ _ _ _ _ T (mkF m 180 #[.val (.int p1), .val (.int p2), .val (.int p3), .val (.int p4), .val (.ref a_0), .val (.ref a_1), .val (.int i_0), .val (.ref a_2), .val (.ref a_3), .val (.ref a_4), .val .null, .val (.ref a_5), .val .null, .unset, .unset, .unset, .unset] [])
    refine GoH.step (fun t k => XS.iconst X1.here hx rfl (hb hby at_180) k) ?_
    show GoH _ _ _ _ _ _ _ _ _ _ T (mkF m 181 #[.val (.int p1), .val (.int p2), .val (.int p3), .val (.int p4), .val (.ref a_0), .val (.ref a_1), .val (.int i_0), .val (.ref a_2), .val (.ref a_3), .val (.ref a_4), .val .null, .val (.ref a_5), .val .null, .unset, .unset, .unset, .unset] [(.int (1 : Int32))])
    refine GoH.step (fun t k => XS.goto X1.here hx rfl (pc0 := 181) (pc' := 185) rfl (hb hby at_181) (by decide) (by decide) k) ?_
    show GoH _ _ _ _ _ _ _ _ _ _ T (mkF m 185 #[.val (.int p1), .val (.int p2), .val (.int p3), .val (.int p4), .val (.ref a_0), .val (.ref a_1), .val (.int i_0), .val (.ref a_2), .val (.ref a_3), .val (.ref a_4), .val .null, .val (.ref a_5), .val .null, .unset, .unset, .unset, .unset] [(.int (1 : Int32))])
    exact jnr177_69 _ (Or.inr ⟨rfl, hb177_68⟩)
set_option maxRecDepth 65536 in
set_option maxHeartbeats 40000000 in
theorem sg174_3 (l : Launch) (Z : State) (a0 : Array Value) (hw : ∀ d ∈ tables_1, d.before a0 Z = true) (p1 : Int32) (p2 : Int32) (p3 : Int32) (p4 : Int32) (G1 : Int32) (h0 : Heap) (n0 : Nat) (Z0 : n0 ≤ h0.size) (O0 : Old Z n0 h0) (S_COMPACT : Sta Z Z.heap "java/lang/String" "COMPACT_STRINGS" "Z" (.int G1)) (P_COMPACT : ¬ (G1 = (0 : Int32))) (a_0 : Addr) (a_1 : Addr) (i_0 : Int32) (a_2 : Addr) (a_3 : Addr) (a_4 : Addr) (a_5 : Addr) (a_6 : Addr) {p : Program} {e : Env} {s : State} {m : MethodId} {below : List Frame} {meth : Method} {c : Code} {T : State} {locs : List Loc} {h : Heap} {vm0 : Vm} {k0 : Nat} (X1 : Stand p l e room_1 (s.setVm vm0) m #[(.int p1), (.int p2), (.int p3), (.int p4)] below meth c T locs 30 400) (hx : p.tables.exec = Jvm.exec) (hby : c.code = code) (hlk : meth.locks = false) (hml : c.maxLocals = 17) (hret : meth.sig.returnType = ret) (hnm : meth.name = "law") (e1 : T.heap = h) (N1 : Fr n0 locs) (Zs1 : n0 ≤ h.size) (O1 : Old Z n0 h) (hS1 : s.Since vm0 k0) (hk1 : k0 ≤ h.size) (hZ1 : Z.Warmed39 (s.setVm vm0).vm) (hown1 : (s.setVm vm0).vm.findClass "com/example/grab1/grab1/cli/OptionIsFlagPinLaw" = some m.cls) (hEL : EW Z a0 own_EL) (C1 : CHr Z own_EL s.vm h0 vm0 h) (hkk : i_0 = (0 : Int32)) :
    GoH p e below s room_1.cells room_1.slots Z own_EL h0 (Q0 Z p1 p2 p3 p4 G1 h0 n0) T (mkF m 174 #[.val (.int p1), .val (.int p2), .val (.int p3), .val (.int p4), .val (.ref a_0), .val (.ref a_1), .val (.int i_0), .val (.ref a_2), .val (.ref a_3), .val (.ref a_4), .val .null, .val (.ref a_5), .val (.ref a_6), .unset, .unset, .unset, .unset] []) := by
  show GoH _ _ _ _ _ _ _ _ _ _ T (mkF m 174 #[.val (.int p1), .val (.int p2), .val (.int p3), .val (.int p4), .val (.ref a_0), .val (.ref a_1), .val (.int i_0), .val (.ref a_2), .val (.ref a_3), .val (.ref a_4), .val .null, .val (.ref a_5), .val (.ref a_6), .unset, .unset, .unset, .unset] [])
  refine GoH.step (fun t k => XS.iloadN X1.here hx rfl (hb hby at_174) rfl k) ?_
  show GoH _ _ _ _ _ _ _ _ _ _ T (mkF m 175 #[.val (.int p1), .val (.int p2), .val (.int p3), .val (.int p4), .val (.ref a_0), .val (.ref a_1), .val (.int i_0), .val (.ref a_2), .val (.ref a_3), .val (.ref a_4), .val .null, .val (.ref a_5), .val (.ref a_6), .unset, .unset, .unset, .unset] [(.int p4)])
  refine GoH.step (fun t k => XS.iconst X1.here hx rfl (hb hby at_175) k) ?_
  show GoH _ _ _ _ _ _ _ _ _ _ T (mkF m 176 #[.val (.int p1), .val (.int p2), .val (.int p3), .val (.int p4), .val (.ref a_0), .val (.ref a_1), .val (.int i_0), .val (.ref a_2), .val (.ref a_3), .val (.ref a_4), .val .null, .val (.ref a_5), .val (.ref a_6), .unset, .unset, .unset, .unset] [(.int (1 : Int32)), (.int p4)])
  refine GoH.step (fun t k => XS.iand X1.here hx rfl (hb hby at_176) rfl k) ?_
  show GoH _ _ _ _ _ _ _ _ _ _ T (mkF m 177 #[.val (.int p1), .val (.int p2), .val (.int p3), .val (.int p4), .val (.ref a_0), .val (.ref a_1), .val (.int i_0), .val (.ref a_2), .val (.ref a_3), .val (.ref a_4), .val .null, .val (.ref a_5), .val (.ref a_6), .unset, .unset, .unset, .unset] [(.int (p4 &&& (1 : Int32)))])
  have jnr177_82 : ∀ r177_82 : Int32, (r177_82 = (0 : Int32) ∧ (p4 &&& (1 : Int32)) = (0 : Int32)) ∨ (r177_82 = (1 : Int32) ∧ ¬ ((p4 &&& (1 : Int32)) = (0 : Int32))) → GoH p e below s room_1.cells room_1.slots Z own_EL h0 (Q0 Z p1 p2 p3 p4 G1 h0 n0) T (mkF m 185 #[.val (.int p1), .val (.int p2), .val (.int p3), .val (.int p4), .val (.ref a_0), .val (.ref a_1), .val (.int i_0), .val (.ref a_2), .val (.ref a_3), .val (.ref a_4), .val .null, .val (.ref a_5), .val (.ref a_6), .unset, .unset, .unset, .unset] [(.int r177_82)]) := by
    intro r177_82 hr177_82
    show GoH _ _ _ _ _ _ _ _ _ _ T (mkF m 185 #[.val (.int p1), .val (.int p2), .val (.int p3), .val (.int p4), .val (.ref a_0), .val (.ref a_1), .val (.int i_0), .val (.ref a_2), .val (.ref a_3), .val (.ref a_4), .val .null, .val (.ref a_5), .val (.ref a_6), .unset, .unset, .unset, .unset] [(.int r177_82)])
    refine GoH.step (fun t k => XS.istore X1.here hx rfl (hb hby at_185) rfl (l' := #[.val (.int p1), .val (.int p2), .val (.int p3), .val (.int p4), .val (.ref a_0), .val (.ref a_1), .val (.int i_0), .val (.ref a_2), .val (.ref a_3), .val (.ref a_4), .val .null, .val (.ref a_5), .val (.ref a_6), .val (.int r177_82), .unset, .unset, .unset]) rfl k) ?_
    show GoH _ _ _ _ _ _ _ _ _ _ T (mkF m 187 #[.val (.int p1), .val (.int p2), .val (.int p3), .val (.int p4), .val (.ref a_0), .val (.ref a_1), .val (.int i_0), .val (.ref a_2), .val (.ref a_3), .val (.ref a_4), .val .null, .val (.ref a_5), .val (.ref a_6), .val (.int r177_82), .unset, .unset, .unset] [])
    obtain ⟨T83, h83, X83, e83, E83, A83, D83, -, st83⟩ := newO X1 hx hZ1 hown1 (hw _ (List.mem_of_getElem? (i := 30) rfl)) (hw _ (List.mem_of_getElem? (i := 31) rfl)) (hw _ (List.mem_of_getElem? (i := 32) rfl)) e1 (g := (mkF m 187 #[.val (.int p1), .val (.int p2), .val (.int p3), .val (.int p4), .val (.ref a_0), .val (.ref a_1), .val (.int i_0), .val (.ref a_2), .val (.ref a_3), .val (.ref a_4), .val .null, .val (.ref a_5), .val (.ref a_6), .val (.int r177_82), .unset, .unset, .unset] [])) rfl (hb hby at_187) (by decide) (by decide)
    obtain ⟨o83, g83⟩ : ∃ z, z = h.size := ⟨_, rfl⟩
    rw [← g83] at A83 D83 st83
    have ge_o83 : n0 ≤ o83 := Nat.le_trans Zs1 (Nat.le_of_eq g83.symm)
    have f83_0 : Exa Z h83 o83 "com/example/grab1/grab1/cli/Command$Option" := A83
    have f83_1 : Fld Z h83 o83 "com/example/grab1/grab1/cli/Command$Option" "name" "Ljava/lang/String;" .null := (D83 (Or.inr (hw _ (List.mem_of_getElem? (i := 43) rfl))) (ty := (.object "java/lang/String")) (by decide))
    have f83_2 : Fld Z h83 o83 "com/example/grab1/grab1/cli/Command$Option" "value" "Ljava/lang/String;" .null := (D83 (Or.inr (hw _ (List.mem_of_getElem? (i := 45) rfl))) (ty := (.object "java/lang/String")) (by decide))
    have f83_3 : Fld Z h83 o83 "com/example/grab1/grab1/cli/Command$Option" "fallback" "Ljava/lang/String;" .null := (D83 (Or.inr (hw _ (List.mem_of_getElem? (i := 47) rfl))) (ty := (.object "java/lang/String")) (by decide))
    have f83_4 : Fld Z h83 o83 "com/example/grab1/grab1/cli/Command$Option" "required" "Z" (.int (0 : Int32)) := (D83 (Or.inr (hw _ (List.mem_of_getElem? (i := 49) rfl))) (ty := .boolean) (by decide))
    have hk83 : _ ≤ h83.size := Nat.le_trans hk1 E83.1
    have C83 : CHr Z own_EL s.vm h0 vm0 h83 := C1.trans (CHr.ext E83 C1.1)
    have Zs83 : n0 ≤ h83.size := (Nat.le_trans Zs1 E83.1)
    have O83 : Old Z n0 h83 := O1.ext E83
    refine GoH.step st83 ?_
    show GoH _ _ _ _ _ _ _ _ _ _ T83 (mkF m 190 #[.val (.int p1), .val (.int p2), .val (.int p3), .val (.int p4), .val (.ref a_0), .val (.ref a_1), .val (.int i_0), .val (.ref a_2), .val (.ref a_3), .val (.ref a_4), .val .null, .val (.ref a_5), .val (.ref a_6), .val (.int r177_82), .unset, .unset, .unset] [(.ref o83)])
    refine GoH.step (fun t k => XS.dup X83.here hx rfl (hb hby at_190) rfl rfl k) ?_
    show GoH _ _ _ _ _ _ _ _ _ _ T83 (mkF m 191 #[.val (.int p1), .val (.int p2), .val (.int p3), .val (.int p4), .val (.ref a_0), .val (.ref a_1), .val (.int i_0), .val (.ref a_2), .val (.ref a_3), .val (.ref a_4), .val .null, .val (.ref a_5), .val (.ref a_6), .val (.int r177_82), .unset, .unset, .unset] [(.ref o83), (.ref o83)])
    refine GoH.step (fun t k => XS.aload X83.here hx rfl (hb hby at_191) rfl rfl k) ?_
    show GoH _ _ _ _ _ _ _ _ _ _ T83 (mkF m 193 #[.val (.int p1), .val (.int p2), .val (.int p3), .val (.int p4), .val (.ref a_0), .val (.ref a_1), .val (.int i_0), .val (.ref a_2), .val (.ref a_3), .val (.ref a_4), .val .null, .val (.ref a_5), .val (.ref a_6), .val (.int r177_82), .unset, .unset, .unset] [(.ref a_1), (.ref o83), (.ref o83)])
    refine GoH.step (fun t k => XS.aload X83.here hx rfl (hb hby at_193) rfl rfl k) ?_
    show GoH _ _ _ _ _ _ _ _ _ _ T83 (mkF m 195 #[.val (.int p1), .val (.int p2), .val (.int p3), .val (.int p4), .val (.ref a_0), .val (.ref a_1), .val (.int i_0), .val (.ref a_2), .val (.ref a_3), .val (.ref a_4), .val .null, .val (.ref a_5), .val (.ref a_6), .val (.int r177_82), .unset, .unset, .unset] [.null, (.ref a_1), (.ref o83), (.ref o83)])
    refine GoH.step (fun t k => XS.aload X83.here hx rfl (hb hby at_195) rfl rfl k) ?_
    show GoH _ _ _ _ _ _ _ _ _ _ T83 (mkF m 197 #[.val (.int p1), .val (.int p2), .val (.int p3), .val (.int p4), .val (.ref a_0), .val (.ref a_1), .val (.int i_0), .val (.ref a_2), .val (.ref a_3), .val (.ref a_4), .val .null, .val (.ref a_5), .val (.ref a_6), .val (.int r177_82), .unset, .unset, .unset] [(.ref a_6), .null, (.ref a_1), (.ref o83), (.ref o83)])
    refine GoH.step (fun t k => XS.iload X83.here hx rfl (hb hby at_197) rfl k) ?_
    show GoH _ _ _ _ _ _ _ _ _ _ T83 (mkF m 199 #[.val (.int p1), .val (.int p2), .val (.int p3), .val (.int p4), .val (.ref a_0), .val (.ref a_1), .val (.int i_0), .val (.ref a_2), .val (.ref a_3), .val (.ref a_4), .val .null, .val (.ref a_5), .val (.ref a_6), .val (.int r177_82), .unset, .unset, .unset] [(.int r177_82), (.ref a_6), .null, (.ref a_1), (.ref o83), (.ref o83)])
    obtain ⟨_, _, ⟨T84, L84, k84, n84⟩, -, X84, ⟨Lc84, hQ84, l84, y84, z84⟩, st84⟩ := X83.specialBack hx (y := (⟨"com/example/grab1/grab1/cli/Command$Option", "<init>", "(Ljava/lang/String;Ljava/lang/String;Ljava/lang/String;Z)V"⟩ : MethodName)) rfl hown1 (mvT hZ1 (hw _ (List.mem_of_getElem? (i := 33) rfl))) (mvT hZ1 (hw _ (List.mem_of_getElem? (i := 34) rfl))) (mvT hZ1 (hw _ (List.mem_of_getElem? (i := 35) rfl))) (by decide) (backOf (W := 1) (rmOInr l Z a0 hw [] o83 a_1 a_6 r177_82 h83 n0 Zs83 ge_o83 f83_0 f83_1 f83_2 f83_3 f83_4 (nar01 (hr177_82.elim (fun q => Or.inl q.1) (fun q => Or.inr q.1))) (own_fit01 (nar01 (hr177_82.elim (fun q => Or.inl q.1) (fun q => Or.inr q.1))))) hZ1 (hw _ (List.mem_of_getElem? (i := 35) rfl)) (hw _ (List.mem_of_getElem? (i := 32) rfl)) (by decide) (by decide)) (g := (mkF m 199 #[.val (.int p1), .val (.int p2), .val (.int p3), .val (.int p4), .val (.ref a_0), .val (.ref a_1), .val (.int i_0), .val (.ref a_2), .val (.ref a_3), .val (.ref a_4), .val .null, .val (.ref a_5), .val (.ref a_6), .val (.int r177_82), .unset, .unset, .unset] [(.int r177_82), (.ref a_6), .null, (.ref a_1), (.ref o83), (.ref o83)])) rfl (by rw [hml]; rfl) (Steps.refl _) (a := o83) (argsL := [(.ref a_1), .null, (.ref a_6), (.int r177_82)]) (rest := [(.ref o83)]) (lenOf pd_2 rfl) rfl (by show 2 * 0 + _ ≤ _; exact Nat.le_of_eq rfl) (hb hby at_199) (fun _ _ => ⟨rfl, e83, (by decide : 30 + 1 + 0 ≤ _), (by decide : 400 + 4 + 0 ≤ _)⟩)
    dsimp only [Pt.U, Pt.locs, Pt.cells, Pt.slots] at X84 l84 y84 z84 st84 hQ84
    subst l84 y84 z84
    obtain ⟨rfl, N84q, Kq84, Eq84, Fq84⟩ := hQ84
    have N84 := Fr.app N1 N84q
    have f84_0 : Exa Z T84.heap o83 "com/example/grab1/grab1/cli/Command$Option" := Eq84
    have f84_1 : Fld Z T84.heap o83 "com/example/grab1/grab1/cli/Command$Option" "value" "Ljava/lang/String;" .null := Fq84
    have sfk84 : ∀ x ∈ ([o83] : List Addr), Safe Z own_EL vm0 h83 x := (sfS (Safe.exa hZ1.alike f83_0 (by decide) (by decide)) sf0)
    have hk84 : _ ≤ T84.heap.size := Nat.le_trans hk83 Kq84.1
    have C84 : CHr Z own_EL s.vm h0 vm0 T84.heap := C83.trans (CHr.keep Kq84 sfk84 C83.1)
    have Zs84 : n0 ≤ T84.heap.size := (Nat.le_trans Zs83 Kq84.1)
    have O84 : Old Z n0 T84.heap := O83.keep Kq84 (allS ge_o83 all0)
    refine GoH.step (fun t k => st84.trans k) ?_
    show GoH _ _ _ _ _ _ _ _ _ _ T84 (mkF m 202 #[.val (.int p1), .val (.int p2), .val (.int p3), .val (.int p4), .val (.ref a_0), .val (.ref a_1), .val (.int i_0), .val (.ref a_2), .val (.ref a_3), .val (.ref a_4), .val .null, .val (.ref a_5), .val (.ref a_6), .val (.int r177_82), .unset, .unset, .unset] [(.ref o83)])
    refine GoH.step (fun t k => XS.astore X84.here hx rfl (hb hby at_202) rfl rfl (l' := #[.val (.int p1), .val (.int p2), .val (.int p3), .val (.int p4), .val (.ref a_0), .val (.ref a_1), .val (.int i_0), .val (.ref a_2), .val (.ref a_3), .val (.ref a_4), .val .null, .val (.ref a_5), .val (.ref a_6), .val (.int r177_82), .val (.ref o83), .unset, .unset]) rfl k) ?_
    show GoH _ _ _ _ _ _ _ _ _ _ T84 (mkF m 204 #[.val (.int p1), .val (.int p2), .val (.int p3), .val (.int p4), .val (.ref a_0), .val (.ref a_1), .val (.int i_0), .val (.ref a_2), .val (.ref a_3), .val (.ref a_4), .val .null, .val (.ref a_5), .val (.ref a_6), .val (.int r177_82), .val (.ref o83), .unset, .unset] [])
    refine GoH.step (fun t k => XS.iload X84.here hx rfl (hb hby at_204) rfl k) ?_
    show GoH _ _ _ _ _ _ _ _ _ _ T84 (mkF m 206 #[.val (.int p1), .val (.int p2), .val (.int p3), .val (.int p4), .val (.ref a_0), .val (.ref a_1), .val (.int i_0), .val (.ref a_2), .val (.ref a_3), .val (.ref a_4), .val .null, .val (.ref a_5), .val (.ref a_6), .val (.int r177_82), .val (.ref o83), .unset, .unset] [(.int i_0)])
    have hb206_85 : i_0 = (0 : Int32) := by exact hkk
    refine GoH.step (fun t k => XS.ifNo X84.here hx rfl (hb hby at_206) rfl (XT.i0_ne_f hb206_85) k) ?_
    show GoH _ _ _ _ _ _ _ _ _ _ T84 (mkF m 209 #[.val (.int p1), .val (.int p2), .val (.int p3), .val (.int p4), .val (.ref a_0), .val (.ref a_1), .val (.int i_0), .val (.ref a_2), .val (.ref a_3), .val (.ref a_4), .val .null, .val (.ref a_5), .val (.ref a_6), .val (.int r177_82), .val (.ref o83), .unset, .unset] [])
    refine GoH.step (fun t k => XS.iconst X84.here hx rfl (hb hby at_209) k) ?_
    show GoH _ _ _ _ _ _ _ _ _ _ T84 (mkF m 210 #[.val (.int p1), .val (.int p2), .val (.int p3), .val (.int p4), .val (.ref a_0), .val (.ref a_1), .val (.int i_0), .val (.ref a_2), .val (.ref a_3), .val (.ref a_4), .val .null, .val (.ref a_5), .val (.ref a_6), .val (.int r177_82), .val (.ref o83), .unset, .unset] [(.int (1 : Int32))])
    refine GoH.step (fun t k => XS.goto X84.here hx rfl (pc0 := 210) (pc' := 214) rfl (hb hby at_210) (by decide) (by decide) k) ?_
    show GoH _ _ _ _ _ _ _ _ _ _ T84 (mkF m 214 #[.val (.int p1), .val (.int p2), .val (.int p3), .val (.int p4), .val (.ref a_0), .val (.ref a_1), .val (.int i_0), .val (.ref a_2), .val (.ref a_3), .val (.ref a_4), .val .null, .val (.ref a_5), .val (.ref a_6), .val (.int r177_82), .val (.ref o83), .unset, .unset] [(.int (1 : Int32))])
    refine GoH.step (fun t k => XS.istore X84.here hx rfl (hb hby at_214) rfl (l' := #[.val (.int p1), .val (.int p2), .val (.int p3), .val (.int p4), .val (.ref a_0), .val (.ref a_1), .val (.int i_0), .val (.ref a_2), .val (.ref a_3), .val (.ref a_4), .val .null, .val (.ref a_5), .val (.ref a_6), .val (.int r177_82), .val (.ref o83), .val (.int (1 : Int32)), .unset]) rfl k) ?_
    show GoH _ _ _ _ _ _ _ _ _ _ T84 (mkF m 216 #[.val (.int p1), .val (.int p2), .val (.int p3), .val (.int p4), .val (.ref a_0), .val (.ref a_1), .val (.int i_0), .val (.ref a_2), .val (.ref a_3), .val (.ref a_4), .val .null, .val (.ref a_5), .val (.ref a_6), .val (.int r177_82), .val (.ref o83), .val (.int (1 : Int32)), .unset] [])
    refine GoH.step (fun t k => XS.aload X84.here hx rfl (hb hby at_216) rfl rfl k) ?_
    show GoH _ _ _ _ _ _ _ _ _ _ T84 (mkF m 218 #[.val (.int p1), .val (.int p2), .val (.int p3), .val (.int p4), .val (.ref a_0), .val (.ref a_1), .val (.int i_0), .val (.ref a_2), .val (.ref a_3), .val (.ref a_4), .val .null, .val (.ref a_5), .val (.ref a_6), .val (.int r177_82), .val (.ref o83), .val (.int (1 : Int32)), .unset] [(.ref o83)])
    obtain ⟨cq86, kq86, qa86, qb86, qc86⟩ := isOf hZ1 rfl f84_0
    obtain ⟨_, _, ⟨T86, L86, k86, n86⟩, -, X86, ⟨Lc86, hQ86, l86, y86, z86⟩, st86⟩ := X84.virtualBack hx (y := (⟨"com/example/grab1/grab1/cli/Command$Option", "isFlag", "()Z"⟩ : MethodName)) (z := (⟨"com/example/grab1/grab1/cli/Command$Option", "isFlag", "()Z"⟩ : MethodName)) hown1 (mvT hZ1 (hw _ (List.mem_of_getElem? (i := 50) rfl))) (mvT hZ1 (hw _ (List.mem_of_getElem? (i := 51) rfl))) (notFace_of_selects (args := #[]) (mvT hZ1 (hw _ (List.mem_of_getElem? (i := 53) rfl)))) (mvT hZ1 (hw _ (List.mem_of_getElem? (i := 53) rfl))) (mvT hZ1 (hw _ (List.mem_of_getElem? (i := 52) rfl))) (by decide) (backOf (W := 0) (rmIFn l Z a0 hw [] o83 T84.heap n0 Zs84 f84_1) hZ1 (hw _ (List.mem_of_getElem? (i := 54) rfl)) (hw _ (List.mem_of_getElem? (i := 32) rfl)) (by decide) (by decide)) qa86 qc86 (g := (mkF m 218 #[.val (.int p1), .val (.int p2), .val (.int p3), .val (.int p4), .val (.ref a_0), .val (.ref a_1), .val (.int i_0), .val (.ref a_2), .val (.ref a_3), .val (.ref a_4), .val .null, .val (.ref a_5), .val (.ref a_6), .val (.int r177_82), .val (.ref o83), .val (.int (1 : Int32)), .unset] [(.ref o83)])) rfl (by rw [hml]; rfl) (Steps.refl _) (argsL := []) (rest := []) (lenOf pd_4 rfl) rfl (by show 2 * 0 + _ ≤ _; exact Nat.le_of_eq rfl) (hb hby at_218) (fun _ _ => ⟨rfl, rfl, (by decide : 30 + 1 + 0 + 0 ≤ _), (by decide : 400 + 4 + 0 + 0 ≤ _)⟩)
    dsimp only [Pt.U, Pt.locs, Pt.cells, Pt.slots] at X86 l86 y86 z86 st86 hQ86
    subst l86 y86 z86
    obtain ⟨rfl, N86q, e86⟩ := hQ86
    have N86 := Fr.app N84 N86q
    refine GoH.step (fun t k => st86.trans k) ?_
    show GoH _ _ _ _ _ _ _ _ _ _ T86 (mkF m 221 #[.val (.int p1), .val (.int p2), .val (.int p3), .val (.int p4), .val (.ref a_0), .val (.ref a_1), .val (.int i_0), .val (.ref a_2), .val (.ref a_3), .val (.ref a_4), .val .null, .val (.ref a_5), .val (.ref a_6), .val (.int r177_82), .val (.ref o83), .val (.int (1 : Int32)), .unset] [(.int (1 : Int32))])
    refine GoH.step (fun t k => XS.iload X86.here hx rfl (hb hby at_221) rfl k) ?_
    show GoH _ _ _ _ _ _ _ _ _ _ T86 (mkF m 223 #[.val (.int p1), .val (.int p2), .val (.int p3), .val (.int p4), .val (.ref a_0), .val (.ref a_1), .val (.int i_0), .val (.ref a_2), .val (.ref a_3), .val (.ref a_4), .val .null, .val (.ref a_5), .val (.ref a_6), .val (.int r177_82), .val (.ref o83), .val (.int (1 : Int32)), .unset] [(.int (1 : Int32)), (.int (1 : Int32))])
    have hb223_87 : (1 : Int32) = (1 : Int32) := by decide
    refine GoH.step (fun t k => XS.icmpNo X86.here hx rfl (hb hby at_223) rfl (XT.ii_ne_f hb223_87) k) ?_
    show GoH _ _ _ _ _ _ _ _ _ _ T86 (mkF m 226 #[.val (.int p1), .val (.int p2), .val (.int p3), .val (.int p4), .val (.ref a_0), .val (.ref a_1), .val (.int i_0), .val (.ref a_2), .val (.ref a_3), .val (.ref a_4), .val .null, .val (.ref a_5), .val (.ref a_6), .val (.int r177_82), .val (.ref o83), .val (.int (1 : Int32)), .unset] [])
    refine GoH.step (fun t k => XS.iconst X86.here hx rfl (hb hby at_226) k) ?_
    show GoH _ _ _ _ _ _ _ _ _ _ T86 (mkF m 227 #[.val (.int p1), .val (.int p2), .val (.int p3), .val (.int p4), .val (.ref a_0), .val (.ref a_1), .val (.int i_0), .val (.ref a_2), .val (.ref a_3), .val (.ref a_4), .val .null, .val (.ref a_5), .val (.ref a_6), .val (.int r177_82), .val (.ref o83), .val (.int (1 : Int32)), .unset] [(.int (1 : Int32))])
    refine GoH.step (fun t k => XS.goto X86.here hx rfl (pc0 := 227) (pc' := 231) rfl (hb hby at_227) (by decide) (by decide) k) ?_
    show GoH _ _ _ _ _ _ _ _ _ _ T86 (mkF m 231 #[.val (.int p1), .val (.int p2), .val (.int p3), .val (.int p4), .val (.ref a_0), .val (.ref a_1), .val (.int i_0), .val (.ref a_2), .val (.ref a_3), .val (.ref a_4), .val .null, .val (.ref a_5), .val (.ref a_6), .val (.int r177_82), .val (.ref o83), .val (.int (1 : Int32)), .unset] [(.int (1 : Int32))])
    refine GoH.step (fun t k => XS.istore X86.here hx rfl (hb hby at_231) rfl (l' := #[.val (.int p1), .val (.int p2), .val (.int p3), .val (.int p4), .val (.ref a_0), .val (.ref a_1), .val (.int i_0), .val (.ref a_2), .val (.ref a_3), .val (.ref a_4), .val .null, .val (.ref a_5), .val (.ref a_6), .val (.int r177_82), .val (.ref o83), .val (.int (1 : Int32)), .val (.int (1 : Int32))]) rfl k) ?_
    show GoH _ _ _ _ _ _ _ _ _ _ T86 (mkF m 233 #[.val (.int p1), .val (.int p2), .val (.int p3), .val (.int p4), .val (.ref a_0), .val (.ref a_1), .val (.int i_0), .val (.ref a_2), .val (.ref a_3), .val (.ref a_4), .val .null, .val (.ref a_5), .val (.ref a_6), .val (.int r177_82), .val (.ref o83), .val (.int (1 : Int32)), .val (.int (1 : Int32))] [])
    refine GoH.step (fun t k => XS.iload X86.here hx rfl (hb hby at_233) rfl k) ?_
    show GoH _ _ _ _ _ _ _ _ _ _ T86 (mkF m 235 #[.val (.int p1), .val (.int p2), .val (.int p3), .val (.int p4), .val (.ref a_0), .val (.ref a_1), .val (.int i_0), .val (.ref a_2), .val (.ref a_3), .val (.ref a_4), .val .null, .val (.ref a_5), .val (.ref a_6), .val (.int r177_82), .val (.ref o83), .val (.int (1 : Int32)), .val (.int (1 : Int32))] [(.int (1 : Int32))])
    have hb235_88 : ¬ ((1 : Int32) = (0 : Int32)) := by decide
    refine GoH.step (fun t k => XS.ifNo X86.here hx rfl (hb hby at_235) rfl (XT.i0_eq_f hb235_88) k) ?_
    show GoH _ _ _ _ _ _ _ _ _ _ T86 (mkF m 238 #[.val (.int p1), .val (.int p2), .val (.int p3), .val (.int p4), .val (.ref a_0), .val (.ref a_1), .val (.int i_0), .val (.ref a_2), .val (.ref a_3), .val (.ref a_4), .val .null, .val (.ref a_5), .val (.ref a_6), .val (.int r177_82), .val (.ref o83), .val (.int (1 : Int32)), .val (.int (1 : Int32))] [])
    refine GoH.step (fun t k => XS.aload X86.here hx rfl (hb hby at_238) rfl rfl k) ?_
    show GoH _ _ _ _ _ _ _ _ _ _ T86 (mkF m 240 #[.val (.int p1), .val (.int p2), .val (.int p3), .val (.int p4), .val (.ref a_0), .val (.ref a_1), .val (.int i_0), .val (.ref a_2), .val (.ref a_3), .val (.ref a_4), .val .null, .val (.ref a_5), .val (.ref a_6), .val (.int r177_82), .val (.ref o83), .val (.int (1 : Int32)), .val (.int (1 : Int32))] [(.ref a_1)])
    obtain ⟨_, _, ⟨T89, L89, k89, n89⟩, -, X89, ⟨Lc89, hQ89, l89, y89, z89⟩, st89⟩ := Jvm.LawKit.callS X86 hx (y := (⟨"com/example/grab1/grab1/cli/Command$Option", "flag", "(Ljava/lang/String;)Lcom/example/grab1/grab1/cli/Command$Option;"⟩ : MethodName)) hown1 (mvT hZ1 (hw _ (List.mem_of_getElem? (i := 55) rfl))) (mvT hZ1 (hw _ (List.mem_of_getElem? (i := 56) rfl))) (mvT hZ1 (hw _ (List.mem_of_getElem? (i := 32) rfl))) (mvT hZ1 (hw _ (List.mem_of_getElem? (i := 57) rfl))) (by decide) (backOf (W := 0) (rmFl l Z a0 hw [] a_1 T84.heap n0 Zs84 ) hZ1 (hw _ (List.mem_of_getElem? (i := 57) rfl)) (hw _ (List.mem_of_getElem? (i := 32) rfl)) (by decide) (by decide)) (g := (mkF m 240 #[.val (.int p1), .val (.int p2), .val (.int p3), .val (.int p4), .val (.ref a_0), .val (.ref a_1), .val (.int i_0), .val (.ref a_2), .val (.ref a_3), .val (.ref a_4), .val .null, .val (.ref a_5), .val (.ref a_6), .val (.int r177_82), .val (.ref o83), .val (.int (1 : Int32)), .val (.int (1 : Int32))] [(.ref a_1)])) rfl (by rw [hml]; rfl) (argsL := [(.ref a_1)]) (rest := []) (lenOf pd_5 rfl) rfl (by show 2 * 0 + _ ≤ _; exact Nat.le_of_eq rfl) (hb hby at_240) (fun _ _ => ⟨rfl, (e86), (by decide : 30 + 1 + 0 + 0 + 1 ≤ _), (by decide : 400 + 4 + 0 + 0 + 4 ≤ _)⟩)
    dsimp only [Pt.U, Pt.locs, Pt.cells, Pt.slots] at X89 l89 y89 z89 st89 hQ89
    subst l89 y89 z89
    obtain ⟨ob89, rfl, N89q, Kq89, gq89, Eq89, Fq89⟩ := hQ89
    have N89 := Fr.app N86 N89q
    have ne_o83_ob89 : o83 ≠ ob89 := Nat.ne_of_lt (Nat.lt_of_lt_of_le f84_0.lt gq89)
    have f89_0 : Exa Z T89.heap o83 "com/example/grab1/grab1/cli/Command$Option" := (f84_0.keep Kq89)
    have f89_1 : Fld Z T89.heap o83 "com/example/grab1/grab1/cli/Command$Option" "value" "Ljava/lang/String;" .null := (f84_1.keep Kq89 nin0)
    have f89_2 : Exa Z T89.heap ob89 "com/example/grab1/grab1/cli/Command$Option" := Eq89
    have f89_3 : Fld Z T89.heap ob89 "com/example/grab1/grab1/cli/Command$Option" "value" "Ljava/lang/String;" .null := Fq89
    have sfk89 : ∀ x ∈ ([] : List Addr), Safe Z own_EL vm0 T84.heap x := sf0
    have hk89 : _ ≤ T89.heap.size := Nat.le_trans hk84 Kq89.1
    have C89 : CHr Z own_EL s.vm h0 vm0 T89.heap := C84.trans (CHr.keep Kq89 sfk89 C84.1)
    have Zs89 : n0 ≤ T89.heap.size := (Nat.le_trans Zs84 Kq89.1)
    have O89 : Old Z n0 T89.heap := O84.keep Kq89 all0
    refine GoH.step st89 ?_
    show GoH _ _ _ _ _ _ _ _ _ _ T89 (mkF m 243 #[.val (.int p1), .val (.int p2), .val (.int p3), .val (.int p4), .val (.ref a_0), .val (.ref a_1), .val (.int i_0), .val (.ref a_2), .val (.ref a_3), .val (.ref a_4), .val .null, .val (.ref a_5), .val (.ref a_6), .val (.int r177_82), .val (.ref o83), .val (.int (1 : Int32)), .val (.int (1 : Int32))] [(.ref ob89)])
    obtain ⟨cq90, kq90, qa90, qb90, qc90⟩ := isOf hZ1 rfl f89_2
    obtain ⟨_, _, ⟨T90, L90, k90, n90⟩, -, X90, ⟨Lc90, hQ90, l90, y90, z90⟩, st90⟩ := X89.virtualBack hx (y := (⟨"com/example/grab1/grab1/cli/Command$Option", "isFlag", "()Z"⟩ : MethodName)) (z := (⟨"com/example/grab1/grab1/cli/Command$Option", "isFlag", "()Z"⟩ : MethodName)) hown1 (mvT hZ1 (hw _ (List.mem_of_getElem? (i := 50) rfl))) (mvT hZ1 (hw _ (List.mem_of_getElem? (i := 51) rfl))) (notFace_of_selects (args := #[]) (mvT hZ1 (hw _ (List.mem_of_getElem? (i := 53) rfl)))) (mvT hZ1 (hw _ (List.mem_of_getElem? (i := 53) rfl))) (mvT hZ1 (hw _ (List.mem_of_getElem? (i := 52) rfl))) (by decide) (backOf (W := 0) (rmIFn l Z a0 hw [] ob89 T89.heap n0 Zs89 f89_3) hZ1 (hw _ (List.mem_of_getElem? (i := 54) rfl)) (hw _ (List.mem_of_getElem? (i := 32) rfl)) (by decide) (by decide)) qa90 qc90 (g := (mkF m 243 #[.val (.int p1), .val (.int p2), .val (.int p3), .val (.int p4), .val (.ref a_0), .val (.ref a_1), .val (.int i_0), .val (.ref a_2), .val (.ref a_3), .val (.ref a_4), .val .null, .val (.ref a_5), .val (.ref a_6), .val (.int r177_82), .val (.ref o83), .val (.int (1 : Int32)), .val (.int (1 : Int32))] [(.ref ob89)])) rfl (by rw [hml]; rfl) (Steps.refl _) (argsL := []) (rest := []) (lenOf pd_4 rfl) rfl (by show 2 * 0 + _ ≤ _; exact Nat.le_of_eq rfl) (hb hby at_243) (fun _ _ => ⟨rfl, rfl, (by decide : 30 + 1 + 0 + 0 + 1 + 0 ≤ _), (by decide : 400 + 4 + 0 + 0 + 4 + 0 ≤ _)⟩)
    dsimp only [Pt.U, Pt.locs, Pt.cells, Pt.slots] at X90 l90 y90 z90 st90 hQ90
    subst l90 y90 z90
    obtain ⟨rfl, N90q, e90⟩ := hQ90
    have N90 := Fr.app N89 N90q
    refine GoH.step (fun t k => st90.trans k) ?_
    show GoH _ _ _ _ _ _ _ _ _ _ T90 (mkF m 246 #[.val (.int p1), .val (.int p2), .val (.int p3), .val (.int p4), .val (.ref a_0), .val (.ref a_1), .val (.int i_0), .val (.ref a_2), .val (.ref a_3), .val (.ref a_4), .val .null, .val (.ref a_5), .val (.ref a_6), .val (.int r177_82), .val (.ref o83), .val (.int (1 : Int32)), .val (.int (1 : Int32))] [(.int (1 : Int32))])
    have hb246_91 : ¬ ((1 : Int32) = (0 : Int32)) := by decide
    refine GoH.step (fun t k => XS.ifNo X90.here hx rfl (hb hby at_246) rfl (XT.i0_eq_f hb246_91) k) ?_
    show GoH _ _ _ _ _ _ _ _ _ _ T90 (mkF m 249 #[.val (.int p1), .val (.int p2), .val (.int p3), .val (.int p4), .val (.ref a_0), .val (.ref a_1), .val (.int i_0), .val (.ref a_2), .val (.ref a_3), .val (.ref a_4), .val .null, .val (.ref a_5), .val (.ref a_6), .val (.int r177_82), .val (.ref o83), .val (.int (1 : Int32)), .val (.int (1 : Int32))] [])
    refine GoH.step (fun t k => XS.iconst X90.here hx rfl (hb hby at_249) k) ?_
    show GoH _ _ _ _ _ _ _ _ _ _ T90 (mkF m 250 #[.val (.int p1), .val (.int p2), .val (.int p3), .val (.int p4), .val (.ref a_0), .val (.ref a_1), .val (.int i_0), .val (.ref a_2), .val (.ref a_3), .val (.ref a_4), .val .null, .val (.ref a_5), .val (.ref a_6), .val (.int r177_82), .val (.ref o83), .val (.int (1 : Int32)), .val (.int (1 : Int32))] [(.int (1 : Int32))])
    refine GoH.step (fun t k => XS.goto X90.here hx rfl (pc0 := 250) (pc' := 254) rfl (hb hby at_250) (by decide) (by decide) k) ?_
    show GoH _ _ _ _ _ _ _ _ _ _ T90 (mkF m 254 #[.val (.int p1), .val (.int p2), .val (.int p3), .val (.int p4), .val (.ref a_0), .val (.ref a_1), .val (.int i_0), .val (.ref a_2), .val (.ref a_3), .val (.ref a_4), .val .null, .val (.ref a_5), .val (.ref a_6), .val (.int r177_82), .val (.ref o83), .val (.int (1 : Int32)), .val (.int (1 : Int32))] [(.int (1 : Int32))])
    refine GoH.step (fun t k => XS.istore X90.here hx rfl (hb hby at_254) rfl (l' := #[.val (.int p1), .val (.int p2), .val (.int p3), .val (.int p4), .val (.ref a_0), .val (.ref a_1), .val (.int i_0), .val (.ref a_2), .val (.ref a_3), .val (.ref a_4), .val .null, .val (.ref a_5), .val (.ref a_6), .val (.int r177_82), .val (.ref o83), .val (.int (1 : Int32)), .val (.int (1 : Int32))]) rfl k) ?_
    show GoH _ _ _ _ _ _ _ _ _ _ T90 (mkF m 256 #[.val (.int p1), .val (.int p2), .val (.int p3), .val (.int p4), .val (.ref a_0), .val (.ref a_1), .val (.int i_0), .val (.ref a_2), .val (.ref a_3), .val (.ref a_4), .val .null, .val (.ref a_5), .val (.ref a_6), .val (.int r177_82), .val (.ref o83), .val (.int (1 : Int32)), .val (.int (1 : Int32))] [])
    refine GoH.step (fun t k => XS.aload X90.here hx rfl (hb hby at_256) rfl rfl k) ?_
    show GoH _ _ _ _ _ _ _ _ _ _ T90 (mkF m 258 #[.val (.int p1), .val (.int p2), .val (.int p3), .val (.int p4), .val (.ref a_0), .val (.ref a_1), .val (.int i_0), .val (.ref a_2), .val (.ref a_3), .val (.ref a_4), .val .null, .val (.ref a_5), .val (.ref a_6), .val (.int r177_82), .val (.ref o83), .val (.int (1 : Int32)), .val (.int (1 : Int32))] [.null])
    refine GoH.step (fun t k => XS.ifnullYes X90.here hx rfl (pc0 := 258) (pc' := 286) rfl (hb hby at_258) rfl (by decide) (by decide) k) ?_
    show GoH _ _ _ _ _ _ _ _ _ _ T90 (mkF m 286 #[.val (.int p1), .val (.int p2), .val (.int p3), .val (.int p4), .val (.ref a_0), .val (.ref a_1), .val (.int i_0), .val (.ref a_2), .val (.ref a_3), .val (.ref a_4), .val .null, .val (.ref a_5), .val (.ref a_6), .val (.int r177_82), .val (.ref o83), .val (.int (1 : Int32)), .val (.int (1 : Int32))] [])
    refine GoH.step (fun t k => XS.iload X90.here hx rfl (hb hby at_286) rfl k) ?_
    show GoH _ _ _ _ _ _ _ _ _ _ T90 (mkF m 288 #[.val (.int p1), .val (.int p2), .val (.int p3), .val (.int p4), .val (.ref a_0), .val (.ref a_1), .val (.int i_0), .val (.ref a_2), .val (.ref a_3), .val (.ref a_4), .val .null, .val (.ref a_5), .val (.ref a_6), .val (.int r177_82), .val (.ref o83), .val (.int (1 : Int32)), .val (.int (1 : Int32))] [(.int (1 : Int32))])
    have hkr : k0 ≤ T90.heap.size := by rw [(e90)]; exact hk89
    have hCr : CHr Z own_EL s.vm h0 vm0 T90.heap := by rw [(e90)]; exact C89
    refine GoH.ret X90 hx hlk hS1 hkr hZ1 hEL hCr hret rfl (Or.inl ⟨rfl, Or.inr (Or.inl rfl), _, rfl⟩) (hb hby at_288) ?_ (by decide) (by decide)
    show Q0 Z _ _ _ _ _ _ _ _ T90.heap _
    exact ⟨rfl, N90⟩
  by_cases hb177_81 : (p4 &&& (1 : Int32)) = (0 : Int32)
  · refine GoH.step (fun t k => XS.ifYes X1.here hx rfl (pc0 := 177) (pc' := 184) rfl (hb hby at_177) rfl (XT.i0_eq_t hb177_81) (by decide) (by decide) k) ?_
    show GoH _ _ _ _ _ _ _ _ _ _ T (mkF m 184 #[.val (.int p1), .val (.int p2), .val (.int p3), .val (.int p4), .val (.ref a_0), .val (.ref a_1), .val (.int i_0), .val (.ref a_2), .val (.ref a_3), .val (.ref a_4), .val .null, .val (.ref a_5), .val (.ref a_6), .unset, .unset, .unset, .unset] [])
    refine GoH.step (fun t k => XS.iconst X1.here hx rfl (hb hby at_184) k) ?_
    show GoH _ _ _ _ _ _ _ _ _ _ T (mkF m 185 #[.val (.int p1), .val (.int p2), .val (.int p3), .val (.int p4), .val (.ref a_0), .val (.ref a_1), .val (.int i_0), .val (.ref a_2), .val (.ref a_3), .val (.ref a_4), .val .null, .val (.ref a_5), .val (.ref a_6), .unset, .unset, .unset, .unset] [(.int (0 : Int32))])
    exact jnr177_82 _ (Or.inl ⟨rfl, hb177_81⟩)
  · refine GoH.step (fun t k => XS.ifNo X1.here hx rfl (hb hby at_177) rfl (XT.i0_eq_f hb177_81) k) ?_
    show GoH _ _ _ _ _ _ _ _ _ _ T (mkF m 180 #[.val (.int p1), .val (.int p2), .val (.int p3), .val (.int p4), .val (.ref a_0), .val (.ref a_1), .val (.int i_0), .val (.ref a_2), .val (.ref a_3), .val (.ref a_4), .val .null, .val (.ref a_5), .val (.ref a_6), .unset, .unset, .unset, .unset] [])
    refine GoH.step (fun t k => XS.iconst X1.here hx rfl (hb hby at_180) k) ?_
    show GoH _ _ _ _ _ _ _ _ _ _ T (mkF m 181 #[.val (.int p1), .val (.int p2), .val (.int p3), .val (.int p4), .val (.ref a_0), .val (.ref a_1), .val (.int i_0), .val (.ref a_2), .val (.ref a_3), .val (.ref a_4), .val .null, .val (.ref a_5), .val (.ref a_6), .unset, .unset, .unset, .unset] [(.int (1 : Int32))])
    refine GoH.step (fun t k => XS.goto X1.here hx rfl (pc0 := 181) (pc' := 185) rfl (hb hby at_181) (by decide) (by decide) k) ?_
    show GoH _ _ _ _ _ _ _ _ _ _ T (mkF m 185 #[.val (.int p1), .val (.int p2), .val (.int p3), .val (.int p4), .val (.ref a_0), .val (.ref a_1), .val (.int i_0), .val (.ref a_2), .val (.ref a_3), .val (.ref a_4), .val .null, .val (.ref a_5), .val (.ref a_6), .unset, .unset, .unset, .unset] [(.int (1 : Int32))])
    exact jnr177_82 _ (Or.inr ⟨rfl, hb177_81⟩)
set_option maxRecDepth 65536 in
set_option maxHeartbeats 40000000 in
theorem rm0 (l : Launch) (Z : State) (a0 : Array Value) (hw : ∀ d ∈ tables_1, d.before a0 Z = true) (ws : List Jvm.Cond) (p1 : Int32) (p2 : Int32) (p3 : Int32) (p4 : Int32) (G1 : Int32) (h0 : Heap) (n0 : Nat) (Z0 : n0 ≤ h0.size) (O0 : Old Z n0 h0) (S_COMPACT : Sta Z Z.heap "java/lang/String" "COMPACT_STRINGS" "Z" (.int G1)) (P_COMPACT : ¬ (G1 = (0 : Int32))) :
    MetFree l x (head1 (Jvm.Cond.code x code maxLocals ret :: ws) room_1) (fun a U => a = #[(.int p1), (.int p2), (.int p3), (.int p4)] ∧ Z.Warmed39 U.vm ∧ U.heap = h0 ∧ CHv Z own_EL U.vm h0) (fun _ _ _ _ _ => True) (fun _ U o U' => ∃ v L, o = .returned v ∧ Q0 Z p1 p2 p3 p4 G1 h0 n0 v U'.heap L ∧ CHr Z own_EL U.vm U.heap U'.vm U'.heap ∧ ReturnedEndW U o U' L room_1.cells room_1.slots) := by
  refine MetFree.of_bodySF (plainFor_of_name pn_3) hisR ?_
  intro p e s m args below meth c s₁ Bd hml0 hP hK
  obtain ⟨rfl, hZ0, hh, hCH⟩ := hP
  have hx := Bd.exec
  have hby := Bd.bytes
  have hlk := BodyLoose.notSynchronized Bd
  have hml : c.maxLocals = 17 := hml0
  have hret := Bd.returns
  have hown0 : (s.setVm s.vm).vm.findClass "com/example/grab1/grab1/cli/OptionIsFlagPinLaw" = some m.cls := findClass_of_methodNamed Bd.named
  have hnm := (name_of_methodNamed Bd.named Bd.method).1
  have X0 : Stand p l e room_1 (s.setVm s.vm) m #[(.int p1), (.int p2), (.int p3), (.int p4)] below meth c s₁ [] 0 0 := Stand.of_body Bd
  have hZ0 : Z.Warmed39 (s.setVm s.vm).vm := hZ0
  have hEL : EW Z a0 own_EL := own_EW hw
  have hS0 : s.Since s.vm h0.size := (State.WarmedH.refl s).since _
  have hk0 : h0.size ≤ h0.size := Nat.le_refl _
  have C0 : CHr Z own_EL s.vm h0 s.vm h0 := CHr.refl hCH
  have e0 : s₁.heap = h0 := by rw [← hh, Bd.state]; rfl
  have N0 := Fr.nil n0
  show GoH p e below s room_1.cells room_1.slots Z own_EL s.heap (Q0 Z p1 p2 p3 p4 G1 h0 n0) s₁ (entryFrame m #[(.int p1), (.int p2), (.int p3), (.int p4)] maxLocals)
  rw [hh]
  refine GoH.cast (ef_rm0 m p1 p2 p3 p4) ?_
  show GoH _ _ _ _ _ _ _ _ _ _ s₁ (mkF m 0 #[.val (.int p1), .val (.int p2), .val (.int p3), .val (.int p4), .unset, .unset, .unset, .unset, .unset, .unset, .unset, .unset, .unset, .unset, .unset, .unset, .unset] [])
  refine GoH.step (fun t k => XS.iconst X0.here hx rfl (hb hby at_0) k) ?_
  show GoH _ _ _ _ _ _ _ _ _ _ s₁ (mkF m 1 #[.val (.int p1), .val (.int p2), .val (.int p3), .val (.int p4), .unset, .unset, .unset, .unset, .unset, .unset, .unset, .unset, .unset, .unset, .unset, .unset, .unset] [(.int (1 : Int32))])
  obtain ⟨T1, h1, k1, X1, e1, E1, A1, st1⟩ := newP X0 hx hZ0 (hw _ (List.mem_of_getElem? (i := 0) rfl)) e0 (g := (mkF m 1 #[.val (.int p1), .val (.int p2), .val (.int p3), .val (.int p4), .unset, .unset, .unset, .unset, .unset, .unset, .unset, .unset, .unset, .unset, .unset, .unset, .unset] [(.int (1 : Int32))])) rfl (hb hby at_1) rfl (by decide) (cap := 1) (by decide) (by decide) (by decide) (by decide)
  obtain ⟨r1, g1⟩ : ∃ z, z = h0.size := ⟨_, rfl⟩
  rw [← g1] at A1 st1
  have ge_r1 : n0 ≤ r1 := Nat.le_trans Z0 (Nat.le_of_eq g1.symm)
  have f1_0 : Arv Z h1 r1 k1 .char (1 : Int32) [(.int (0 : Int32))] (.int (0 : Int32)) := ((Arv.new A1 (by decide)).pad (pad_rep [] (.int (0 : Int32)) 1))
  have hk1 : _ ≤ h1.size := Nat.le_trans hk0 E1.1
  have C1 : CHr Z own_EL s.vm h0 s.vm h1 := C0.trans (CHr.ext E1 C0.1)
  have Zs1 : n0 ≤ h1.size := (Nat.le_trans Z0 E1.1)
  have O1 : Old Z n0 h1 := O0.ext E1
  refine GoH.step st1 ?_
  show GoH _ _ _ _ _ _ _ _ _ _ T1 (mkF m 3 #[.val (.int p1), .val (.int p2), .val (.int p3), .val (.int p4), .unset, .unset, .unset, .unset, .unset, .unset, .unset, .unset, .unset, .unset, .unset, .unset, .unset] [(.ref r1)])
  refine GoH.step (fun t k => XS.dup X1.here hx rfl (hb hby at_3) rfl rfl k) ?_
  show GoH _ _ _ _ _ _ _ _ _ _ T1 (mkF m 4 #[.val (.int p1), .val (.int p2), .val (.int p3), .val (.int p4), .unset, .unset, .unset, .unset, .unset, .unset, .unset, .unset, .unset, .unset, .unset, .unset, .unset] [(.ref r1), (.ref r1)])
  refine GoH.step (fun t k => XS.iconst X1.here hx rfl (hb hby at_4) k) ?_
  show GoH _ _ _ _ _ _ _ _ _ _ T1 (mkF m 5 #[.val (.int p1), .val (.int p2), .val (.int p3), .val (.int p4), .unset, .unset, .unset, .unset, .unset, .unset, .unset, .unset, .unset, .unset, .unset, .unset, .unset] [(.int (0 : Int32)), (.ref r1), (.ref r1)])
  refine GoH.step (fun t k => XS.iloadN X1.here hx rfl (hb hby at_5) rfl k) ?_
  show GoH _ _ _ _ _ _ _ _ _ _ T1 (mkF m 6 #[.val (.int p1), .val (.int p2), .val (.int p3), .val (.int p4), .unset, .unset, .unset, .unset, .unset, .unset, .unset, .unset, .unset, .unset, .unset, .unset, .unset] [(.int p1), (.int (0 : Int32)), (.ref r1), (.ref r1)])
  refine GoH.step (fun t k => XS.sipush X1.here hx rfl (hb hby at_6) k) ?_
  show GoH _ _ _ _ _ _ _ _ _ _ T1 (mkF m 9 #[.val (.int p1), .val (.int p2), .val (.int p3), .val (.int p4), .unset, .unset, .unset, .unset, .unset, .unset, .unset, .unset, .unset, .unset, .unset, .unset, .unset] [(.int (255 : Int32)), (.int p1), (.int (0 : Int32)), (.ref r1), (.ref r1)])
  refine GoH.step (fun t k => XS.iand X1.here hx rfl (hb hby at_9) rfl k) ?_
  show GoH _ _ _ _ _ _ _ _ _ _ T1 (mkF m 10 #[.val (.int p1), .val (.int p2), .val (.int p3), .val (.int p4), .unset, .unset, .unset, .unset, .unset, .unset, .unset, .unset, .unset, .unset, .unset, .unset, .unset] [(.int (p1 &&& (255 : Int32))), (.int (0 : Int32)), (.ref r1), (.ref r1)])
  refine GoH.step (fun t k => XT.i2c X1.here hx rfl (hb hby at_10) rfl k) ?_
  show GoH _ _ _ _ _ _ _ _ _ _ T1 (mkF m 11 #[.val (.int p1), .val (.int p2), .val (.int p3), .val (.int p4), .unset, .unset, .unset, .unset, .unset, .unset, .unset, .unset, .unset, .unset, .unset, .unset, .unset] [(.int ((p1 &&& (255 : Int32)).toUInt32.toUInt16.toUInt32.toInt32)), (.int (0 : Int32)), (.ref r1), (.ref r1)])
  generalize hc0 : ((p1 &&& (255 : Int32)).toUInt32.toUInt16.toUInt32.toInt32) = c0
  show GoH _ _ _ _ _ _ _ _ _ _ T1 (mkF m 11 #[.val (.int p1), .val (.int p2), .val (.int p3), .val (.int p4), .unset, .unset, .unset, .unset, .unset, .unset, .unset, .unset, .unset, .unset, .unset, .unset, .unset] [(.int c0), (.int (0 : Int32)), (.ref r1), (.ref r1)])
  have hc0r : (¬ c0 < 0 ∧ ¬ (255 : Int32) < c0) ∧ nar .char c0 = c0 := by rw [← hc0]; exact own_c255 _
  obtain ⟨c2, Ar2, q2, S2, M2, H2, U2⟩ := id f1_0
  obtain ⟨T2, h2, X2, e2, W2, st2⟩ := stC X1 hx hZ0 e1 Ar2 (j := (0 : Int32)) (inb_of S2 ⟨(by decide), (by decide)⟩) (g := (mkF m 11 #[.val (.int p1), .val (.int p2), .val (.int p3), .val (.int p4), .unset, .unset, .unset, .unset, .unset, .unset, .unset, .unset, .unset, .unset, .unset, .unset, .unset] [(.int c0), (.int (0 : Int32)), (.ref r1), (.ref r1)])) rfl rfl (hb hby at_11)
  have N2 := Fr.snoc X2 N0 ge_r1
  refine GoH.step st2 ?_
  have sfw2 : Safe Z own_EL s.vm _ r1 := (Safe.arv hZ0.alike f1_0 (by decide))
  have hk2 : _ ≤ h2.size := Nat.le_trans hk1 (Keep.of_wr W2).1
  have C2 : CHr Z own_EL s.vm h0 s.vm h2 := C1.trans (CHr.wr W2 sfw2 C1.1)
  have Zs2 : n0 ≤ h2.size := (Nat.le_trans Zs1 (Keep.of_wr W2).1)
  have O2 : Old Z n0 h2 := O1.wr W2 ge_r1
  have fA2 : Arv Z h2 r1 k1 .char (1 : Int32) [(.int c0)] (.int (0 : Int32)) := by have q := (Arv.set Ar2 q2 S2 M2 H2 U2 (fits_nar_char _) W2 0 rfl (Nat.le_of_ble_eq_true rfl)); rw [hc0r.2] at q; exact q
  show GoH _ _ _ _ _ _ _ _ _ _ T2 (mkF m 12 #[.val (.int p1), .val (.int p2), .val (.int p3), .val (.int p4), .unset, .unset, .unset, .unset, .unset, .unset, .unset, .unset, .unset, .unset, .unset, .unset, .unset] [(.ref r1)])
  refine GoH.step (fun t k => XS.astore X2.here hx rfl (hb hby at_12) rfl rfl (l' := #[.val (.int p1), .val (.int p2), .val (.int p3), .val (.int p4), .val (.ref r1), .unset, .unset, .unset, .unset, .unset, .unset, .unset, .unset, .unset, .unset, .unset, .unset]) rfl k) ?_
  show GoH _ _ _ _ _ _ _ _ _ _ T2 (mkF m 14 #[.val (.int p1), .val (.int p2), .val (.int p3), .val (.int p4), .val (.ref r1), .unset, .unset, .unset, .unset, .unset, .unset, .unset, .unset, .unset, .unset, .unset, .unset] [])
  obtain ⟨T3, h3, X3, e3, E3, A3, D3, -, st3⟩ := newO X2 hx hZ0 hown0 (hw _ (List.mem_of_getElem? (i := 1) rfl)) (hw _ (List.mem_of_getElem? (i := 2) rfl)) (hw _ (List.mem_of_getElem? (i := 3) rfl)) e2 (g := (mkF m 14 #[.val (.int p1), .val (.int p2), .val (.int p3), .val (.int p4), .val (.ref r1), .unset, .unset, .unset, .unset, .unset, .unset, .unset, .unset, .unset, .unset, .unset, .unset] [])) rfl (hb hby at_14) (by decide) (by decide)
  obtain ⟨o3, g3⟩ : ∃ z, z = h2.size := ⟨_, rfl⟩
  rw [← g3] at A3 D3 st3
  have ne_r1_o3 : r1 ≠ o3 := Nat.ne_of_lt (Nat.lt_of_lt_of_le fA2.lt (Nat.le_of_eq g3.symm))
  have ge_o3 : n0 ≤ o3 := Nat.le_trans Zs2 (Nat.le_of_eq g3.symm)
  have f3_0 : Arv Z h3 r1 k1 .char (1 : Int32) [(.int c0)] (.int (0 : Int32)) := (fA2.ext E3)
  have f3_1 : Exa Z h3 o3 "java/lang/String" := A3
  have f3_2 : Fld Z h3 o3 "java/lang/String" "coder" "B" (.int (0 : Int32)) := (D3 (Or.inr (hw _ (List.mem_of_getElem? (i := 27) rfl))) (ty := .byte) (by decide))
  have f3_3 : Fld Z h3 o3 "java/lang/String" "value" "[B" .null := (D3 (Or.inr (hw _ (List.mem_of_getElem? (i := 29) rfl))) (ty := (.array .byte)) (by decide))
  have sf3_o3 : Safe Z own_EL s.vm h3 o3 := Safe.ext E3 C2.1 (Safe.new (Nat.le_of_eq g3.symm))
  have hk3 : _ ≤ h3.size := Nat.le_trans hk2 E3.1
  have C3 : CHr Z own_EL s.vm h0 s.vm h3 := C2.trans (CHr.ext E3 C2.1)
  have Zs3 : n0 ≤ h3.size := (Nat.le_trans Zs2 E3.1)
  have O3 : Old Z n0 h3 := O2.ext E3
  refine GoH.step st3 ?_
  show GoH _ _ _ _ _ _ _ _ _ _ T3 (mkF m 17 #[.val (.int p1), .val (.int p2), .val (.int p3), .val (.int p4), .val (.ref r1), .unset, .unset, .unset, .unset, .unset, .unset, .unset, .unset, .unset, .unset, .unset, .unset] [(.ref o3)])
  refine GoH.step (fun t k => XS.dup X3.here hx rfl (hb hby at_17) rfl rfl k) ?_
  show GoH _ _ _ _ _ _ _ _ _ _ T3 (mkF m 18 #[.val (.int p1), .val (.int p2), .val (.int p3), .val (.int p4), .val (.ref r1), .unset, .unset, .unset, .unset, .unset, .unset, .unset, .unset, .unset, .unset, .unset, .unset] [(.ref o3), (.ref o3)])
  refine GoH.step (fun t k => XS.aload X3.here hx rfl (hb hby at_18) rfl rfl k) ?_
  show GoH _ _ _ _ _ _ _ _ _ _ T3 (mkF m 20 #[.val (.int p1), .val (.int p2), .val (.int p3), .val (.int p4), .val (.ref r1), .unset, .unset, .unset, .unset, .unset, .unset, .unset, .unset, .unset, .unset, .unset, .unset] [(.ref r1), (.ref o3), (.ref o3)])
  have hp4 : ∀ c ∈ ([c0] : List Int32), ¬ c < 0 ∧ ¬ (255 : Int32) < c := by
    intro c hc
    simp only [List.mem_cons, List.not_mem_nil, or_false] at hc
    rcases hc with rfl
    · exact hc0r.1
  obtain ⟨_, _, ⟨T4, L4, k4, n4⟩, -, X4, ⟨Lc4, hQ4, l4, y4, z4⟩, st4⟩ := X3.specialBack hx (y := (⟨"java/lang/String", "<init>", "([C)V"⟩ : MethodName)) rfl hown0 (mvT hZ0 (hw _ (List.mem_of_getElem? (i := 4) rfl))) (mvT hZ0 (hw _ (List.mem_of_getElem? (i := 5) rfl))) (mvT hZ0 (hw _ (List.mem_of_getElem? (i := 6) rfl))) (by decide) (StrChars.Road.backV (W := 1) hZ0 (own_words hw) (kI := 4) (hw _ (List.mem_of_getElem? (i := 2) rfl)) (cs := ([c0] : List Int32)) (bs := ([c0] : List Int32).map (fun c => c.toInt8.toInt32)) (n := 1) ge_o3 Zs3 f3_1 f3_3 f3_2 f3_0 (S_COMPACT.ext O3.2) P_COMPACT rfl rfl (by decide) (by decide) hp4 rfl (by decide) (by decide)) (g := (mkF m 20 #[.val (.int p1), .val (.int p2), .val (.int p3), .val (.int p4), .val (.ref r1), .unset, .unset, .unset, .unset, .unset, .unset, .unset, .unset, .unset, .unset, .unset, .unset] [(.ref r1), (.ref o3), (.ref o3)])) rfl (by rw [hml]; rfl) (Steps.refl _) (a := o3) (argsL := [(.ref r1)]) (rest := [(.ref o3)]) (lenOf pd_3 rfl) rfl (by show 2 * 0 + _ ≤ _; exact Nat.le_of_eq rfl) (hb hby at_20) (fun _ _ => ⟨rfl, e3, (by decide : 0 + 1 + 1 + 1 ≤ _), (by decide : 0 + 1 + 4 + 1 ≤ _)⟩)
  dsimp only [Pt.U, Pt.locs, Pt.cells, Pt.slots] at X4 l4 y4 z4 st4 hQ4
  subst l4 y4 z4
  obtain ⟨rfl, N4q, Kq4, Eq4, Cq4, tb4, kb4, u4, v4, w4, Vq4, Aq4⟩ := hQ4
  have N4 := Fr.app N2 N4q
  have ne_r1_tb4 : r1 ≠ tb4 := Nat.ne_of_lt (Nat.lt_of_lt_of_le f3_0.lt v4)
  have ne_o3_tb4 : o3 ≠ tb4 := Nat.ne_of_lt (Nat.lt_of_lt_of_le f3_1.lt v4)
  have f4_0 : Arv Z T4.heap r1 k1 .char (1 : Int32) [(.int c0)] (.int (0 : Int32)) := (f3_0.keep Kq4 (ninS ne_r1_o3 nin0))
  have f4_1 : Exa Z T4.heap o3 "java/lang/String" := Eq4
  have f4_2 : Fld Z T4.heap o3 "java/lang/String" "coder" "B" (.int (0 : Int32)) := Cq4
  have f4_3 : Fld Z T4.heap o3 "java/lang/String" "value" "[B" (.ref tb4) := Vq4
  have f4_4 : Arv Z T4.heap tb4 kb4 .byte (1 : Int32) ((([c0] : List Int32).map (fun c => c.toInt8.toInt32)).map Value.int) (.int (0 : Int32)) := Aq4
  have sfk4 : ∀ x ∈ ([o3] : List Addr), Safe Z own_EL s.vm h3 x := (sfS sf3_o3 sf0)
  have sf4_o3 : Safe Z own_EL s.vm T4.heap o3 := Safe.keep Kq4 sfk4 C3.1 sf3_o3
  have hk4 : _ ≤ T4.heap.size := Nat.le_trans hk3 Kq4.1
  have C4 : CHr Z own_EL s.vm h0 s.vm T4.heap := C3.trans (CHr.keep Kq4 sfk4 C3.1)
  have Zs4 : n0 ≤ T4.heap.size := (Nat.le_trans Zs3 Kq4.1)
  have O4 : Old Z n0 T4.heap := O3.keep Kq4 (allS ge_o3 all0)
  refine GoH.step (fun t k => st4.trans k) ?_
  show GoH _ _ _ _ _ _ _ _ _ _ T4 (mkF m 23 #[.val (.int p1), .val (.int p2), .val (.int p3), .val (.int p4), .val (.ref r1), .unset, .unset, .unset, .unset, .unset, .unset, .unset, .unset, .unset, .unset, .unset, .unset] [(.ref o3)])
  refine GoH.step (fun t k => XS.astore X4.here hx rfl (hb hby at_23) rfl rfl (l' := #[.val (.int p1), .val (.int p2), .val (.int p3), .val (.int p4), .val (.ref r1), .val (.ref o3), .unset, .unset, .unset, .unset, .unset, .unset, .unset, .unset, .unset, .unset, .unset]) rfl k) ?_
  show GoH _ _ _ _ _ _ _ _ _ _ T4 (mkF m 25 #[.val (.int p1), .val (.int p2), .val (.int p3), .val (.int p4), .val (.ref r1), .val (.ref o3), .unset, .unset, .unset, .unset, .unset, .unset, .unset, .unset, .unset, .unset, .unset] [])
  refine GoH.step (fun t k => XS.iloadN X4.here hx rfl (hb hby at_25) rfl k) ?_
  show GoH _ _ _ _ _ _ _ _ _ _ T4 (mkF m 26 #[.val (.int p1), .val (.int p2), .val (.int p3), .val (.int p4), .val (.ref r1), .val (.ref o3), .unset, .unset, .unset, .unset, .unset, .unset, .unset, .unset, .unset, .unset, .unset] [(.int p2)])
  refine GoH.step (fun t k => XS.iconst X4.here hx rfl (hb hby at_26) k) ?_
  show GoH _ _ _ _ _ _ _ _ _ _ T4 (mkF m 27 #[.val (.int p1), .val (.int p2), .val (.int p3), .val (.int p4), .val (.ref r1), .val (.ref o3), .unset, .unset, .unset, .unset, .unset, .unset, .unset, .unset, .unset, .unset, .unset] [(.int (3 : Int32)), (.int p2)])
  refine GoH.step (fun t k => XS.iand X4.here hx rfl (hb hby at_27) rfl k) ?_
  show GoH _ _ _ _ _ _ _ _ _ _ T4 (mkF m 28 #[.val (.int p1), .val (.int p2), .val (.int p3), .val (.int p4), .val (.ref r1), .val (.ref o3), .unset, .unset, .unset, .unset, .unset, .unset, .unset, .unset, .unset, .unset, .unset] [(.int (p2 &&& (3 : Int32)))])
  generalize hkd : (p2 &&& (3 : Int32)) = kd
  show GoH _ _ _ _ _ _ _ _ _ _ T4 (mkF m 28 #[.val (.int p1), .val (.int p2), .val (.int p3), .val (.int p4), .val (.ref r1), .val (.ref o3), .unset, .unset, .unset, .unset, .unset, .unset, .unset, .unset, .unset, .unset, .unset] [(.int kd)])
  refine GoH.step (fun t k => XS.istore X4.here hx rfl (hb hby at_28) rfl (l' := #[.val (.int p1), .val (.int p2), .val (.int p3), .val (.int p4), .val (.ref r1), .val (.ref o3), .val (.int kd), .unset, .unset, .unset, .unset, .unset, .unset, .unset, .unset, .unset, .unset]) rfl k) ?_
  show GoH _ _ _ _ _ _ _ _ _ _ T4 (mkF m 30 #[.val (.int p1), .val (.int p2), .val (.int p3), .val (.int p4), .val (.ref r1), .val (.ref o3), .val (.int kd), .unset, .unset, .unset, .unset, .unset, .unset, .unset, .unset, .unset, .unset] [])
  refine GoH.step (fun t k => XS.iconst X4.here hx rfl (hb hby at_30) k) ?_
  show GoH _ _ _ _ _ _ _ _ _ _ T4 (mkF m 31 #[.val (.int p1), .val (.int p2), .val (.int p3), .val (.int p4), .val (.ref r1), .val (.ref o3), .val (.int kd), .unset, .unset, .unset, .unset, .unset, .unset, .unset, .unset, .unset, .unset] [(.int (0 : Int32))])
  obtain ⟨T5, h5, k5, X5, e5, E5, A5, st5⟩ := newP X4 hx hZ0 (hw _ (List.mem_of_getElem? (i := 0) rfl)) rfl (g := (mkF m 31 #[.val (.int p1), .val (.int p2), .val (.int p3), .val (.int p4), .val (.ref r1), .val (.ref o3), .val (.int kd), .unset, .unset, .unset, .unset, .unset, .unset, .unset, .unset, .unset, .unset] [(.int (0 : Int32))])) rfl (hb hby at_31) rfl (by decide) (cap := 0) (by decide) (by decide) (by decide) (by decide)
  obtain ⟨r5, g5⟩ : ∃ z, z = T4.heap.size := ⟨_, rfl⟩
  rw [← g5] at A5 st5
  have ne_r1_r5 : r1 ≠ r5 := Nat.ne_of_lt (Nat.lt_of_lt_of_le f4_0.lt (Nat.le_of_eq g5.symm))
  have ne_o3_r5 : o3 ≠ r5 := Nat.ne_of_lt (Nat.lt_of_lt_of_le f4_1.lt (Nat.le_of_eq g5.symm))
  have ne_tb4_r5 : tb4 ≠ r5 := Nat.ne_of_lt (Nat.lt_of_lt_of_le f4_4.lt (Nat.le_of_eq g5.symm))
  have ge_r5 : n0 ≤ r5 := Nat.le_trans Zs4 (Nat.le_of_eq g5.symm)
  have f5_0 : Arv Z h5 r1 k1 .char (1 : Int32) [(.int c0)] (.int (0 : Int32)) := (f4_0.ext E5)
  have f5_1 : Exa Z h5 o3 "java/lang/String" := (f4_1.ext E5)
  have f5_2 : Fld Z h5 o3 "java/lang/String" "coder" "B" (.int (0 : Int32)) := (f4_2.ext E5)
  have f5_3 : Fld Z h5 o3 "java/lang/String" "value" "[B" (.ref tb4) := (f4_3.ext E5)
  have f5_4 : Arv Z h5 tb4 kb4 .byte (1 : Int32) ((([c0] : List Int32).map (fun c => c.toInt8.toInt32)).map Value.int) (.int (0 : Int32)) := (f4_4.ext E5)
  have f5_5 : Arv Z h5 r5 k5 .char (0 : Int32) [] (.int (0 : Int32)) := (Arv.new A5 (by decide))
  have sf5_o3 : Safe Z own_EL s.vm h5 o3 := Safe.ext E5 C4.1 sf4_o3
  have hk5 : _ ≤ h5.size := Nat.le_trans hk4 E5.1
  have C5 : CHr Z own_EL s.vm h0 s.vm h5 := C4.trans (CHr.ext E5 C4.1)
  have Zs5 : n0 ≤ h5.size := (Nat.le_trans Zs4 E5.1)
  have O5 : Old Z n0 h5 := O4.ext E5
  refine GoH.step st5 ?_
  show GoH _ _ _ _ _ _ _ _ _ _ T5 (mkF m 33 #[.val (.int p1), .val (.int p2), .val (.int p3), .val (.int p4), .val (.ref r1), .val (.ref o3), .val (.int kd), .unset, .unset, .unset, .unset, .unset, .unset, .unset, .unset, .unset, .unset] [(.ref r5)])
  refine GoH.step (fun t k => XS.astore X5.here hx rfl (hb hby at_33) rfl rfl (l' := #[.val (.int p1), .val (.int p2), .val (.int p3), .val (.int p4), .val (.ref r1), .val (.ref o3), .val (.int kd), .val (.ref r5), .unset, .unset, .unset, .unset, .unset, .unset, .unset, .unset, .unset]) rfl k) ?_
  show GoH _ _ _ _ _ _ _ _ _ _ T5 (mkF m 35 #[.val (.int p1), .val (.int p2), .val (.int p3), .val (.int p4), .val (.ref r1), .val (.ref o3), .val (.int kd), .val (.ref r5), .unset, .unset, .unset, .unset, .unset, .unset, .unset, .unset, .unset] [])
  refine GoH.step (fun t k => XS.iconst X5.here hx rfl (hb hby at_35) k) ?_
  show GoH _ _ _ _ _ _ _ _ _ _ T5 (mkF m 36 #[.val (.int p1), .val (.int p2), .val (.int p3), .val (.int p4), .val (.ref r1), .val (.ref o3), .val (.int kd), .val (.ref r5), .unset, .unset, .unset, .unset, .unset, .unset, .unset, .unset, .unset] [(.int (1 : Int32))])
  obtain ⟨T6, h6, k6, X6, e6, E6, A6, st6⟩ := newP X5 hx hZ0 (hw _ (List.mem_of_getElem? (i := 0) rfl)) e5 (g := (mkF m 36 #[.val (.int p1), .val (.int p2), .val (.int p3), .val (.int p4), .val (.ref r1), .val (.ref o3), .val (.int kd), .val (.ref r5), .unset, .unset, .unset, .unset, .unset, .unset, .unset, .unset, .unset] [(.int (1 : Int32))])) rfl (hb hby at_36) rfl (by decide) (cap := 1) (by decide) (by decide) (by decide) (by decide)
  obtain ⟨r6, g6⟩ : ∃ z, z = h5.size := ⟨_, rfl⟩
  rw [← g6] at A6 st6
  have ne_r1_r6 : r1 ≠ r6 := Nat.ne_of_lt (Nat.lt_of_lt_of_le f5_0.lt (Nat.le_of_eq g6.symm))
  have ne_o3_r6 : o3 ≠ r6 := Nat.ne_of_lt (Nat.lt_of_lt_of_le f5_1.lt (Nat.le_of_eq g6.symm))
  have ne_tb4_r6 : tb4 ≠ r6 := Nat.ne_of_lt (Nat.lt_of_lt_of_le f5_4.lt (Nat.le_of_eq g6.symm))
  have ne_r5_r6 : r5 ≠ r6 := Nat.ne_of_lt (Nat.lt_of_lt_of_le f5_5.lt (Nat.le_of_eq g6.symm))
  have ge_r6 : n0 ≤ r6 := Nat.le_trans Zs5 (Nat.le_of_eq g6.symm)
  have f6_0 : Arv Z h6 r1 k1 .char (1 : Int32) [(.int c0)] (.int (0 : Int32)) := (f5_0.ext E6)
  have f6_1 : Exa Z h6 o3 "java/lang/String" := (f5_1.ext E6)
  have f6_2 : Fld Z h6 o3 "java/lang/String" "coder" "B" (.int (0 : Int32)) := (f5_2.ext E6)
  have f6_3 : Fld Z h6 o3 "java/lang/String" "value" "[B" (.ref tb4) := (f5_3.ext E6)
  have f6_4 : Arv Z h6 tb4 kb4 .byte (1 : Int32) ((([c0] : List Int32).map (fun c => c.toInt8.toInt32)).map Value.int) (.int (0 : Int32)) := (f5_4.ext E6)
  have f6_5 : Arv Z h6 r5 k5 .char (0 : Int32) [] (.int (0 : Int32)) := (f5_5.ext E6)
  have f6_6 : Arv Z h6 r6 k6 .char (1 : Int32) [(.int (0 : Int32))] (.int (0 : Int32)) := ((Arv.new A6 (by decide)).pad (pad_rep [] (.int (0 : Int32)) 1))
  have sf6_o3 : Safe Z own_EL s.vm h6 o3 := Safe.ext E6 C5.1 sf5_o3
  have hk6 : _ ≤ h6.size := Nat.le_trans hk5 E6.1
  have C6 : CHr Z own_EL s.vm h0 s.vm h6 := C5.trans (CHr.ext E6 C5.1)
  have Zs6 : n0 ≤ h6.size := (Nat.le_trans Zs5 E6.1)
  have O6 : Old Z n0 h6 := O5.ext E6
  refine GoH.step st6 ?_
  show GoH _ _ _ _ _ _ _ _ _ _ T6 (mkF m 38 #[.val (.int p1), .val (.int p2), .val (.int p3), .val (.int p4), .val (.ref r1), .val (.ref o3), .val (.int kd), .val (.ref r5), .unset, .unset, .unset, .unset, .unset, .unset, .unset, .unset, .unset] [(.ref r6)])
  refine GoH.step (fun t k => XS.dup X6.here hx rfl (hb hby at_38) rfl rfl k) ?_
  show GoH _ _ _ _ _ _ _ _ _ _ T6 (mkF m 39 #[.val (.int p1), .val (.int p2), .val (.int p3), .val (.int p4), .val (.ref r1), .val (.ref o3), .val (.int kd), .val (.ref r5), .unset, .unset, .unset, .unset, .unset, .unset, .unset, .unset, .unset] [(.ref r6), (.ref r6)])
  refine GoH.step (fun t k => XS.iconst X6.here hx rfl (hb hby at_39) k) ?_
  show GoH _ _ _ _ _ _ _ _ _ _ T6 (mkF m 40 #[.val (.int p1), .val (.int p2), .val (.int p3), .val (.int p4), .val (.ref r1), .val (.ref o3), .val (.int kd), .val (.ref r5), .unset, .unset, .unset, .unset, .unset, .unset, .unset, .unset, .unset] [(.int (0 : Int32)), (.ref r6), (.ref r6)])
  refine GoH.step (fun t k => XS.iloadN X6.here hx rfl (hb hby at_40) rfl k) ?_
  show GoH _ _ _ _ _ _ _ _ _ _ T6 (mkF m 41 #[.val (.int p1), .val (.int p2), .val (.int p3), .val (.int p4), .val (.ref r1), .val (.ref o3), .val (.int kd), .val (.ref r5), .unset, .unset, .unset, .unset, .unset, .unset, .unset, .unset, .unset] [(.int p2), (.int (0 : Int32)), (.ref r6), (.ref r6)])
  refine GoH.step (fun t k => XS.iconst X6.here hx rfl (hb hby at_41) k) ?_
  show GoH _ _ _ _ _ _ _ _ _ _ T6 (mkF m 42 #[.val (.int p1), .val (.int p2), .val (.int p3), .val (.int p4), .val (.ref r1), .val (.ref o3), .val (.int kd), .val (.ref r5), .unset, .unset, .unset, .unset, .unset, .unset, .unset, .unset, .unset] [(.int (2 : Int32)), (.int p2), (.int (0 : Int32)), (.ref r6), (.ref r6)])
  refine GoH.step (fun t k => XT.iushr X6.here hx rfl (hb hby at_42) rfl k) ?_
  show GoH _ _ _ _ _ _ _ _ _ _ T6 (mkF m 43 #[.val (.int p1), .val (.int p2), .val (.int p3), .val (.int p4), .val (.ref r1), .val (.ref o3), .val (.int kd), .val (.ref r5), .unset, .unset, .unset, .unset, .unset, .unset, .unset, .unset, .unset] [(.int (XT.ushr p2 (2 : Int32))), (.int (0 : Int32)), (.ref r6), (.ref r6)])
  refine GoH.step (fun t k => XS.sipush X6.here hx rfl (hb hby at_43) k) ?_
  show GoH _ _ _ _ _ _ _ _ _ _ T6 (mkF m 46 #[.val (.int p1), .val (.int p2), .val (.int p3), .val (.int p4), .val (.ref r1), .val (.ref o3), .val (.int kd), .val (.ref r5), .unset, .unset, .unset, .unset, .unset, .unset, .unset, .unset, .unset] [(.int (255 : Int32)), (.int (XT.ushr p2 (2 : Int32))), (.int (0 : Int32)), (.ref r6), (.ref r6)])
  refine GoH.step (fun t k => XS.iand X6.here hx rfl (hb hby at_46) rfl k) ?_
  show GoH _ _ _ _ _ _ _ _ _ _ T6 (mkF m 47 #[.val (.int p1), .val (.int p2), .val (.int p3), .val (.int p4), .val (.ref r1), .val (.ref o3), .val (.int kd), .val (.ref r5), .unset, .unset, .unset, .unset, .unset, .unset, .unset, .unset, .unset] [(.int ((XT.ushr p2 (2 : Int32)) &&& (255 : Int32))), (.int (0 : Int32)), (.ref r6), (.ref r6)])
  refine GoH.step (fun t k => XT.i2c X6.here hx rfl (hb hby at_47) rfl k) ?_
  show GoH _ _ _ _ _ _ _ _ _ _ T6 (mkF m 48 #[.val (.int p1), .val (.int p2), .val (.int p3), .val (.int p4), .val (.ref r1), .val (.ref o3), .val (.int kd), .val (.ref r5), .unset, .unset, .unset, .unset, .unset, .unset, .unset, .unset, .unset] [(.int (((XT.ushr p2 (2 : Int32)) &&& (255 : Int32)).toUInt32.toUInt16.toUInt32.toInt32)), (.int (0 : Int32)), (.ref r6), (.ref r6)])
  generalize hc1 : (((XT.ushr p2 (2 : Int32)) &&& (255 : Int32)).toUInt32.toUInt16.toUInt32.toInt32) = c1
  show GoH _ _ _ _ _ _ _ _ _ _ T6 (mkF m 48 #[.val (.int p1), .val (.int p2), .val (.int p3), .val (.int p4), .val (.ref r1), .val (.ref o3), .val (.int kd), .val (.ref r5), .unset, .unset, .unset, .unset, .unset, .unset, .unset, .unset, .unset] [(.int c1), (.int (0 : Int32)), (.ref r6), (.ref r6)])
  have hc1r : (¬ c1 < 0 ∧ ¬ (255 : Int32) < c1) ∧ nar .char c1 = c1 := by rw [← hc1]; exact own_c255 _
  obtain ⟨c7, Ar7, q7, S7, M7, H7, U7⟩ := id f6_6
  obtain ⟨T7, h7, X7, e7, W7, st7⟩ := stC X6 hx hZ0 e6 Ar7 (j := (0 : Int32)) (inb_of S7 ⟨(by decide), (by decide)⟩) (g := (mkF m 48 #[.val (.int p1), .val (.int p2), .val (.int p3), .val (.int p4), .val (.ref r1), .val (.ref o3), .val (.int kd), .val (.ref r5), .unset, .unset, .unset, .unset, .unset, .unset, .unset, .unset, .unset] [(.int c1), (.int (0 : Int32)), (.ref r6), (.ref r6)])) rfl rfl (hb hby at_48)
  have N7 := Fr.snoc X7 N4 ge_r6
  refine GoH.step st7 ?_
  have f7_0 : Arv Z h7 r1 k1 .char (1 : Int32) [(.int c0)] (.int (0 : Int32)) := (f6_0.other W7 ne_r1_r6)
  have f7_1 : Exa Z h7 o3 "java/lang/String" := (f6_1.wr W7)
  have f7_2 : Fld Z h7 o3 "java/lang/String" "coder" "B" (.int (0 : Int32)) := (f6_2.other W7 (Or.inl ne_o3_r6))
  have f7_3 : Fld Z h7 o3 "java/lang/String" "value" "[B" (.ref tb4) := (f6_3.other W7 (Or.inl ne_o3_r6))
  have f7_4 : Arv Z h7 tb4 kb4 .byte (1 : Int32) ((([c0] : List Int32).map (fun c => c.toInt8.toInt32)).map Value.int) (.int (0 : Int32)) := (f6_4.other W7 ne_tb4_r6)
  have f7_5 : Arv Z h7 r5 k5 .char (0 : Int32) [] (.int (0 : Int32)) := (f6_5.other W7 ne_r5_r6)
  have sfw7 : Safe Z own_EL s.vm _ r6 := (Safe.arv hZ0.alike f6_6 (by decide))
  have sf7_o3 : Safe Z own_EL s.vm h7 o3 := Safe.wr W7 sfw7 C6.1 sf6_o3
  have hk7 : _ ≤ h7.size := Nat.le_trans hk6 (Keep.of_wr W7).1
  have C7 : CHr Z own_EL s.vm h0 s.vm h7 := C6.trans (CHr.wr W7 sfw7 C6.1)
  have Zs7 : n0 ≤ h7.size := (Nat.le_trans Zs6 (Keep.of_wr W7).1)
  have O7 : Old Z n0 h7 := O6.wr W7 ge_r6
  have fA7 : Arv Z h7 r6 k6 .char (1 : Int32) [(.int c1)] (.int (0 : Int32)) := by have q := (Arv.set Ar7 q7 S7 M7 H7 U7 (fits_nar_char _) W7 0 rfl (Nat.le_of_ble_eq_true rfl)); rw [hc1r.2] at q; exact q
  show GoH _ _ _ _ _ _ _ _ _ _ T7 (mkF m 49 #[.val (.int p1), .val (.int p2), .val (.int p3), .val (.int p4), .val (.ref r1), .val (.ref o3), .val (.int kd), .val (.ref r5), .unset, .unset, .unset, .unset, .unset, .unset, .unset, .unset, .unset] [(.ref r6)])
  refine GoH.step (fun t k => XS.astore X7.here hx rfl (hb hby at_49) rfl rfl (l' := #[.val (.int p1), .val (.int p2), .val (.int p3), .val (.int p4), .val (.ref r1), .val (.ref o3), .val (.int kd), .val (.ref r5), .val (.ref r6), .unset, .unset, .unset, .unset, .unset, .unset, .unset, .unset]) rfl k) ?_
  show GoH _ _ _ _ _ _ _ _ _ _ T7 (mkF m 51 #[.val (.int p1), .val (.int p2), .val (.int p3), .val (.int p4), .val (.ref r1), .val (.ref o3), .val (.int kd), .val (.ref r5), .val (.ref r6), .unset, .unset, .unset, .unset, .unset, .unset, .unset, .unset] [])
  refine GoH.step (fun t k => XS.iconst X7.here hx rfl (hb hby at_51) k) ?_
  show GoH _ _ _ _ _ _ _ _ _ _ T7 (mkF m 52 #[.val (.int p1), .val (.int p2), .val (.int p3), .val (.int p4), .val (.ref r1), .val (.ref o3), .val (.int kd), .val (.ref r5), .val (.ref r6), .unset, .unset, .unset, .unset, .unset, .unset, .unset, .unset] [(.int (2 : Int32))])
  obtain ⟨T8, h8, k8, X8, e8, E8, A8, st8⟩ := newP X7 hx hZ0 (hw _ (List.mem_of_getElem? (i := 0) rfl)) e7 (g := (mkF m 52 #[.val (.int p1), .val (.int p2), .val (.int p3), .val (.int p4), .val (.ref r1), .val (.ref o3), .val (.int kd), .val (.ref r5), .val (.ref r6), .unset, .unset, .unset, .unset, .unset, .unset, .unset, .unset] [(.int (2 : Int32))])) rfl (hb hby at_52) rfl (by decide) (cap := 2) (by decide) (by decide) (by decide) (by decide)
  obtain ⟨r8, g8⟩ : ∃ z, z = h7.size := ⟨_, rfl⟩
  rw [← g8] at A8 st8
  have ne_r1_r8 : r1 ≠ r8 := Nat.ne_of_lt (Nat.lt_of_lt_of_le f7_0.lt (Nat.le_of_eq g8.symm))
  have ne_o3_r8 : o3 ≠ r8 := Nat.ne_of_lt (Nat.lt_of_lt_of_le f7_1.lt (Nat.le_of_eq g8.symm))
  have ne_tb4_r8 : tb4 ≠ r8 := Nat.ne_of_lt (Nat.lt_of_lt_of_le f7_4.lt (Nat.le_of_eq g8.symm))
  have ne_r5_r8 : r5 ≠ r8 := Nat.ne_of_lt (Nat.lt_of_lt_of_le f7_5.lt (Nat.le_of_eq g8.symm))
  have ne_r6_r8 : r6 ≠ r8 := Nat.ne_of_lt (Nat.lt_of_lt_of_le fA7.lt (Nat.le_of_eq g8.symm))
  have ge_r8 : n0 ≤ r8 := Nat.le_trans Zs7 (Nat.le_of_eq g8.symm)
  have f8_0 : Arv Z h8 r1 k1 .char (1 : Int32) [(.int c0)] (.int (0 : Int32)) := (f7_0.ext E8)
  have f8_1 : Exa Z h8 o3 "java/lang/String" := (f7_1.ext E8)
  have f8_2 : Fld Z h8 o3 "java/lang/String" "coder" "B" (.int (0 : Int32)) := (f7_2.ext E8)
  have f8_3 : Fld Z h8 o3 "java/lang/String" "value" "[B" (.ref tb4) := (f7_3.ext E8)
  have f8_4 : Arv Z h8 tb4 kb4 .byte (1 : Int32) ((([c0] : List Int32).map (fun c => c.toInt8.toInt32)).map Value.int) (.int (0 : Int32)) := (f7_4.ext E8)
  have f8_5 : Arv Z h8 r5 k5 .char (0 : Int32) [] (.int (0 : Int32)) := (f7_5.ext E8)
  have f8_6 : Arv Z h8 r6 k6 .char (1 : Int32) [(.int c1)] (.int (0 : Int32)) := (fA7.ext E8)
  have f8_7 : Arv Z h8 r8 k8 .char (2 : Int32) [(.int (0 : Int32)), (.int (0 : Int32))] (.int (0 : Int32)) := ((Arv.new A8 (by decide)).pad (pad_rep [] (.int (0 : Int32)) 2))
  have sf8_o3 : Safe Z own_EL s.vm h8 o3 := Safe.ext E8 C7.1 sf7_o3
  have hk8 : _ ≤ h8.size := Nat.le_trans hk7 E8.1
  have C8 : CHr Z own_EL s.vm h0 s.vm h8 := C7.trans (CHr.ext E8 C7.1)
  have Zs8 : n0 ≤ h8.size := (Nat.le_trans Zs7 E8.1)
  have O8 : Old Z n0 h8 := O7.ext E8
  refine GoH.step st8 ?_
  show GoH _ _ _ _ _ _ _ _ _ _ T8 (mkF m 54 #[.val (.int p1), .val (.int p2), .val (.int p3), .val (.int p4), .val (.ref r1), .val (.ref o3), .val (.int kd), .val (.ref r5), .val (.ref r6), .unset, .unset, .unset, .unset, .unset, .unset, .unset, .unset] [(.ref r8)])
  refine GoH.step (fun t k => XS.dup X8.here hx rfl (hb hby at_54) rfl rfl k) ?_
  show GoH _ _ _ _ _ _ _ _ _ _ T8 (mkF m 55 #[.val (.int p1), .val (.int p2), .val (.int p3), .val (.int p4), .val (.ref r1), .val (.ref o3), .val (.int kd), .val (.ref r5), .val (.ref r6), .unset, .unset, .unset, .unset, .unset, .unset, .unset, .unset] [(.ref r8), (.ref r8)])
  refine GoH.step (fun t k => XS.iconst X8.here hx rfl (hb hby at_55) k) ?_
  show GoH _ _ _ _ _ _ _ _ _ _ T8 (mkF m 56 #[.val (.int p1), .val (.int p2), .val (.int p3), .val (.int p4), .val (.ref r1), .val (.ref o3), .val (.int kd), .val (.ref r5), .val (.ref r6), .unset, .unset, .unset, .unset, .unset, .unset, .unset, .unset] [(.int (0 : Int32)), (.ref r8), (.ref r8)])
  refine GoH.step (fun t k => XS.iloadN X8.here hx rfl (hb hby at_56) rfl k) ?_
  show GoH _ _ _ _ _ _ _ _ _ _ T8 (mkF m 57 #[.val (.int p1), .val (.int p2), .val (.int p3), .val (.int p4), .val (.ref r1), .val (.ref o3), .val (.int kd), .val (.ref r5), .val (.ref r6), .unset, .unset, .unset, .unset, .unset, .unset, .unset, .unset] [(.int p2), (.int (0 : Int32)), (.ref r8), (.ref r8)])
  refine GoH.step (fun t k => XS.bipush X8.here hx rfl (hb hby at_57) k) ?_
  show GoH _ _ _ _ _ _ _ _ _ _ T8 (mkF m 59 #[.val (.int p1), .val (.int p2), .val (.int p3), .val (.int p4), .val (.ref r1), .val (.ref o3), .val (.int kd), .val (.ref r5), .val (.ref r6), .unset, .unset, .unset, .unset, .unset, .unset, .unset, .unset] [(.int (10 : Int32)), (.int p2), (.int (0 : Int32)), (.ref r8), (.ref r8)])
  refine GoH.step (fun t k => XT.iushr X8.here hx rfl (hb hby at_59) rfl k) ?_
  show GoH _ _ _ _ _ _ _ _ _ _ T8 (mkF m 60 #[.val (.int p1), .val (.int p2), .val (.int p3), .val (.int p4), .val (.ref r1), .val (.ref o3), .val (.int kd), .val (.ref r5), .val (.ref r6), .unset, .unset, .unset, .unset, .unset, .unset, .unset, .unset] [(.int (XT.ushr p2 (10 : Int32))), (.int (0 : Int32)), (.ref r8), (.ref r8)])
  refine GoH.step (fun t k => XS.sipush X8.here hx rfl (hb hby at_60) k) ?_
  show GoH _ _ _ _ _ _ _ _ _ _ T8 (mkF m 63 #[.val (.int p1), .val (.int p2), .val (.int p3), .val (.int p4), .val (.ref r1), .val (.ref o3), .val (.int kd), .val (.ref r5), .val (.ref r6), .unset, .unset, .unset, .unset, .unset, .unset, .unset, .unset] [(.int (255 : Int32)), (.int (XT.ushr p2 (10 : Int32))), (.int (0 : Int32)), (.ref r8), (.ref r8)])
  refine GoH.step (fun t k => XS.iand X8.here hx rfl (hb hby at_63) rfl k) ?_
  show GoH _ _ _ _ _ _ _ _ _ _ T8 (mkF m 64 #[.val (.int p1), .val (.int p2), .val (.int p3), .val (.int p4), .val (.ref r1), .val (.ref o3), .val (.int kd), .val (.ref r5), .val (.ref r6), .unset, .unset, .unset, .unset, .unset, .unset, .unset, .unset] [(.int ((XT.ushr p2 (10 : Int32)) &&& (255 : Int32))), (.int (0 : Int32)), (.ref r8), (.ref r8)])
  refine GoH.step (fun t k => XT.i2c X8.here hx rfl (hb hby at_64) rfl k) ?_
  show GoH _ _ _ _ _ _ _ _ _ _ T8 (mkF m 65 #[.val (.int p1), .val (.int p2), .val (.int p3), .val (.int p4), .val (.ref r1), .val (.ref o3), .val (.int kd), .val (.ref r5), .val (.ref r6), .unset, .unset, .unset, .unset, .unset, .unset, .unset, .unset] [(.int (((XT.ushr p2 (10 : Int32)) &&& (255 : Int32)).toUInt32.toUInt16.toUInt32.toInt32)), (.int (0 : Int32)), (.ref r8), (.ref r8)])
  generalize hc2 : (((XT.ushr p2 (10 : Int32)) &&& (255 : Int32)).toUInt32.toUInt16.toUInt32.toInt32) = c2
  show GoH _ _ _ _ _ _ _ _ _ _ T8 (mkF m 65 #[.val (.int p1), .val (.int p2), .val (.int p3), .val (.int p4), .val (.ref r1), .val (.ref o3), .val (.int kd), .val (.ref r5), .val (.ref r6), .unset, .unset, .unset, .unset, .unset, .unset, .unset, .unset] [(.int c2), (.int (0 : Int32)), (.ref r8), (.ref r8)])
  have hc2r : (¬ c2 < 0 ∧ ¬ (255 : Int32) < c2) ∧ nar .char c2 = c2 := by rw [← hc2]; exact own_c255 _
  obtain ⟨c9, Ar9, q9, S9, M9, H9, U9⟩ := id f8_7
  obtain ⟨T9, h9, X9, e9, W9, st9⟩ := stC X8 hx hZ0 e8 Ar9 (j := (0 : Int32)) (inb_of S9 ⟨(by decide), (by decide)⟩) (g := (mkF m 65 #[.val (.int p1), .val (.int p2), .val (.int p3), .val (.int p4), .val (.ref r1), .val (.ref o3), .val (.int kd), .val (.ref r5), .val (.ref r6), .unset, .unset, .unset, .unset, .unset, .unset, .unset, .unset] [(.int c2), (.int (0 : Int32)), (.ref r8), (.ref r8)])) rfl rfl (hb hby at_65)
  have N9 := Fr.snoc X9 N7 ge_r8
  refine GoH.step st9 ?_
  have f9_0 : Arv Z h9 r1 k1 .char (1 : Int32) [(.int c0)] (.int (0 : Int32)) := (f8_0.other W9 ne_r1_r8)
  have f9_1 : Exa Z h9 o3 "java/lang/String" := (f8_1.wr W9)
  have f9_2 : Fld Z h9 o3 "java/lang/String" "coder" "B" (.int (0 : Int32)) := (f8_2.other W9 (Or.inl ne_o3_r8))
  have f9_3 : Fld Z h9 o3 "java/lang/String" "value" "[B" (.ref tb4) := (f8_3.other W9 (Or.inl ne_o3_r8))
  have f9_4 : Arv Z h9 tb4 kb4 .byte (1 : Int32) ((([c0] : List Int32).map (fun c => c.toInt8.toInt32)).map Value.int) (.int (0 : Int32)) := (f8_4.other W9 ne_tb4_r8)
  have f9_5 : Arv Z h9 r5 k5 .char (0 : Int32) [] (.int (0 : Int32)) := (f8_5.other W9 ne_r5_r8)
  have f9_6 : Arv Z h9 r6 k6 .char (1 : Int32) [(.int c1)] (.int (0 : Int32)) := (f8_6.other W9 ne_r6_r8)
  have sfw9 : Safe Z own_EL s.vm _ r8 := (Safe.arv hZ0.alike f8_7 (by decide))
  have sf9_o3 : Safe Z own_EL s.vm h9 o3 := Safe.wr W9 sfw9 C8.1 sf8_o3
  have hk9 : _ ≤ h9.size := Nat.le_trans hk8 (Keep.of_wr W9).1
  have C9 : CHr Z own_EL s.vm h0 s.vm h9 := C8.trans (CHr.wr W9 sfw9 C8.1)
  have Zs9 : n0 ≤ h9.size := (Nat.le_trans Zs8 (Keep.of_wr W9).1)
  have O9 : Old Z n0 h9 := O8.wr W9 ge_r8
  have fA9 : Arv Z h9 r8 k8 .char (2 : Int32) [(.int c2), (.int (0 : Int32))] (.int (0 : Int32)) := by have q := (Arv.set Ar9 q9 S9 M9 H9 U9 (fits_nar_char _) W9 0 rfl (Nat.le_of_ble_eq_true rfl)); rw [hc2r.2] at q; exact q
  show GoH _ _ _ _ _ _ _ _ _ _ T9 (mkF m 66 #[.val (.int p1), .val (.int p2), .val (.int p3), .val (.int p4), .val (.ref r1), .val (.ref o3), .val (.int kd), .val (.ref r5), .val (.ref r6), .unset, .unset, .unset, .unset, .unset, .unset, .unset, .unset] [(.ref r8)])
  refine GoH.step (fun t k => XS.dup X9.here hx rfl (hb hby at_66) rfl rfl k) ?_
  show GoH _ _ _ _ _ _ _ _ _ _ T9 (mkF m 67 #[.val (.int p1), .val (.int p2), .val (.int p3), .val (.int p4), .val (.ref r1), .val (.ref o3), .val (.int kd), .val (.ref r5), .val (.ref r6), .unset, .unset, .unset, .unset, .unset, .unset, .unset, .unset] [(.ref r8), (.ref r8)])
  refine GoH.step (fun t k => XS.iconst X9.here hx rfl (hb hby at_67) k) ?_
  show GoH _ _ _ _ _ _ _ _ _ _ T9 (mkF m 68 #[.val (.int p1), .val (.int p2), .val (.int p3), .val (.int p4), .val (.ref r1), .val (.ref o3), .val (.int kd), .val (.ref r5), .val (.ref r6), .unset, .unset, .unset, .unset, .unset, .unset, .unset, .unset] [(.int (1 : Int32)), (.ref r8), (.ref r8)])
  refine GoH.step (fun t k => XS.iloadN X9.here hx rfl (hb hby at_68) rfl k) ?_
  show GoH _ _ _ _ _ _ _ _ _ _ T9 (mkF m 69 #[.val (.int p1), .val (.int p2), .val (.int p3), .val (.int p4), .val (.ref r1), .val (.ref o3), .val (.int kd), .val (.ref r5), .val (.ref r6), .unset, .unset, .unset, .unset, .unset, .unset, .unset, .unset] [(.int p2), (.int (1 : Int32)), (.ref r8), (.ref r8)])
  refine GoH.step (fun t k => XS.bipush X9.here hx rfl (hb hby at_69) k) ?_
  show GoH _ _ _ _ _ _ _ _ _ _ T9 (mkF m 71 #[.val (.int p1), .val (.int p2), .val (.int p3), .val (.int p4), .val (.ref r1), .val (.ref o3), .val (.int kd), .val (.ref r5), .val (.ref r6), .unset, .unset, .unset, .unset, .unset, .unset, .unset, .unset] [(.int (18 : Int32)), (.int p2), (.int (1 : Int32)), (.ref r8), (.ref r8)])
  refine GoH.step (fun t k => XT.iushr X9.here hx rfl (hb hby at_71) rfl k) ?_
  show GoH _ _ _ _ _ _ _ _ _ _ T9 (mkF m 72 #[.val (.int p1), .val (.int p2), .val (.int p3), .val (.int p4), .val (.ref r1), .val (.ref o3), .val (.int kd), .val (.ref r5), .val (.ref r6), .unset, .unset, .unset, .unset, .unset, .unset, .unset, .unset] [(.int (XT.ushr p2 (18 : Int32))), (.int (1 : Int32)), (.ref r8), (.ref r8)])
  refine GoH.step (fun t k => XS.sipush X9.here hx rfl (hb hby at_72) k) ?_
  show GoH _ _ _ _ _ _ _ _ _ _ T9 (mkF m 75 #[.val (.int p1), .val (.int p2), .val (.int p3), .val (.int p4), .val (.ref r1), .val (.ref o3), .val (.int kd), .val (.ref r5), .val (.ref r6), .unset, .unset, .unset, .unset, .unset, .unset, .unset, .unset] [(.int (255 : Int32)), (.int (XT.ushr p2 (18 : Int32))), (.int (1 : Int32)), (.ref r8), (.ref r8)])
  refine GoH.step (fun t k => XS.iand X9.here hx rfl (hb hby at_75) rfl k) ?_
  show GoH _ _ _ _ _ _ _ _ _ _ T9 (mkF m 76 #[.val (.int p1), .val (.int p2), .val (.int p3), .val (.int p4), .val (.ref r1), .val (.ref o3), .val (.int kd), .val (.ref r5), .val (.ref r6), .unset, .unset, .unset, .unset, .unset, .unset, .unset, .unset] [(.int ((XT.ushr p2 (18 : Int32)) &&& (255 : Int32))), (.int (1 : Int32)), (.ref r8), (.ref r8)])
  refine GoH.step (fun t k => XT.i2c X9.here hx rfl (hb hby at_76) rfl k) ?_
  show GoH _ _ _ _ _ _ _ _ _ _ T9 (mkF m 77 #[.val (.int p1), .val (.int p2), .val (.int p3), .val (.int p4), .val (.ref r1), .val (.ref o3), .val (.int kd), .val (.ref r5), .val (.ref r6), .unset, .unset, .unset, .unset, .unset, .unset, .unset, .unset] [(.int (((XT.ushr p2 (18 : Int32)) &&& (255 : Int32)).toUInt32.toUInt16.toUInt32.toInt32)), (.int (1 : Int32)), (.ref r8), (.ref r8)])
  generalize hc3 : (((XT.ushr p2 (18 : Int32)) &&& (255 : Int32)).toUInt32.toUInt16.toUInt32.toInt32) = c3
  show GoH _ _ _ _ _ _ _ _ _ _ T9 (mkF m 77 #[.val (.int p1), .val (.int p2), .val (.int p3), .val (.int p4), .val (.ref r1), .val (.ref o3), .val (.int kd), .val (.ref r5), .val (.ref r6), .unset, .unset, .unset, .unset, .unset, .unset, .unset, .unset] [(.int c3), (.int (1 : Int32)), (.ref r8), (.ref r8)])
  have hc3r : (¬ c3 < 0 ∧ ¬ (255 : Int32) < c3) ∧ nar .char c3 = c3 := by rw [← hc3]; exact own_c255 _
  obtain ⟨c10, Ar10, q10, S10, M10, H10, U10⟩ := id fA9
  obtain ⟨T10, h10, X10, e10, W10, st10⟩ := stC X9 hx hZ0 e9 Ar10 (j := (1 : Int32)) (inb_of S10 ⟨(by decide), (by decide)⟩) (g := (mkF m 77 #[.val (.int p1), .val (.int p2), .val (.int p3), .val (.int p4), .val (.ref r1), .val (.ref o3), .val (.int kd), .val (.ref r5), .val (.ref r6), .unset, .unset, .unset, .unset, .unset, .unset, .unset, .unset] [(.int c3), (.int (1 : Int32)), (.ref r8), (.ref r8)])) rfl rfl (hb hby at_77)
  have N10 := Fr.snoc X10 N9 ge_r8
  refine GoH.step st10 ?_
  have f10_0 : Arv Z h10 r1 k1 .char (1 : Int32) [(.int c0)] (.int (0 : Int32)) := (f9_0.other W10 ne_r1_r8)
  have f10_1 : Exa Z h10 o3 "java/lang/String" := (f9_1.wr W10)
  have f10_2 : Fld Z h10 o3 "java/lang/String" "coder" "B" (.int (0 : Int32)) := (f9_2.other W10 (Or.inl ne_o3_r8))
  have f10_3 : Fld Z h10 o3 "java/lang/String" "value" "[B" (.ref tb4) := (f9_3.other W10 (Or.inl ne_o3_r8))
  have f10_4 : Arv Z h10 tb4 kb4 .byte (1 : Int32) ((([c0] : List Int32).map (fun c => c.toInt8.toInt32)).map Value.int) (.int (0 : Int32)) := (f9_4.other W10 ne_tb4_r8)
  have f10_5 : Arv Z h10 r5 k5 .char (0 : Int32) [] (.int (0 : Int32)) := (f9_5.other W10 ne_r5_r8)
  have f10_6 : Arv Z h10 r6 k6 .char (1 : Int32) [(.int c1)] (.int (0 : Int32)) := (f9_6.other W10 ne_r6_r8)
  have sfw10 : Safe Z own_EL s.vm _ r8 := (Safe.arv hZ0.alike fA9 (by decide))
  have sf10_o3 : Safe Z own_EL s.vm h10 o3 := Safe.wr W10 sfw10 C9.1 sf9_o3
  have hk10 : _ ≤ h10.size := Nat.le_trans hk9 (Keep.of_wr W10).1
  have C10 : CHr Z own_EL s.vm h0 s.vm h10 := C9.trans (CHr.wr W10 sfw10 C9.1)
  have Zs10 : n0 ≤ h10.size := (Nat.le_trans Zs9 (Keep.of_wr W10).1)
  have O10 : Old Z n0 h10 := O9.wr W10 ge_r8
  have fA10 : Arv Z h10 r8 k8 .char (2 : Int32) [(.int c2), (.int c3)] (.int (0 : Int32)) := by have q := (Arv.set Ar10 q10 S10 M10 H10 U10 (fits_nar_char _) W10 1 rfl (Nat.le_of_ble_eq_true rfl)); rw [hc3r.2] at q; exact q
  show GoH _ _ _ _ _ _ _ _ _ _ T10 (mkF m 78 #[.val (.int p1), .val (.int p2), .val (.int p3), .val (.int p4), .val (.ref r1), .val (.ref o3), .val (.int kd), .val (.ref r5), .val (.ref r6), .unset, .unset, .unset, .unset, .unset, .unset, .unset, .unset] [(.ref r8)])
  refine GoH.step (fun t k => XS.astore X10.here hx rfl (hb hby at_78) rfl rfl (l' := #[.val (.int p1), .val (.int p2), .val (.int p3), .val (.int p4), .val (.ref r1), .val (.ref o3), .val (.int kd), .val (.ref r5), .val (.ref r6), .val (.ref r8), .unset, .unset, .unset, .unset, .unset, .unset, .unset]) rfl k) ?_
  show GoH _ _ _ _ _ _ _ _ _ _ T10 (mkF m 80 #[.val (.int p1), .val (.int p2), .val (.int p3), .val (.int p4), .val (.ref r1), .val (.ref o3), .val (.int kd), .val (.ref r5), .val (.ref r6), .val (.ref r8), .unset, .unset, .unset, .unset, .unset, .unset, .unset] [])
  refine GoH.step (fun t k => XS.aconstNull X10.here hx rfl (hb hby at_80) k) ?_
  show GoH _ _ _ _ _ _ _ _ _ _ T10 (mkF m 81 #[.val (.int p1), .val (.int p2), .val (.int p3), .val (.int p4), .val (.ref r1), .val (.ref o3), .val (.int kd), .val (.ref r5), .val (.ref r6), .val (.ref r8), .unset, .unset, .unset, .unset, .unset, .unset, .unset] [.null])
  refine GoH.step (fun t k => XS.astore X10.here hx rfl (hb hby at_81) rfl rfl (l' := #[.val (.int p1), .val (.int p2), .val (.int p3), .val (.int p4), .val (.ref r1), .val (.ref o3), .val (.int kd), .val (.ref r5), .val (.ref r6), .val (.ref r8), .val .null, .unset, .unset, .unset, .unset, .unset, .unset]) rfl k) ?_
  show GoH _ _ _ _ _ _ _ _ _ _ T10 (mkF m 83 #[.val (.int p1), .val (.int p2), .val (.int p3), .val (.int p4), .val (.ref r1), .val (.ref o3), .val (.int kd), .val (.ref r5), .val (.ref r6), .val (.ref r8), .val .null, .unset, .unset, .unset, .unset, .unset, .unset] [])
  refine GoH.step (fun t k => XS.iload X10.here hx rfl (hb hby at_83) rfl k) ?_
  show GoH _ _ _ _ _ _ _ _ _ _ T10 (mkF m 85 #[.val (.int p1), .val (.int p2), .val (.int p3), .val (.int p4), .val (.ref r1), .val (.ref o3), .val (.int kd), .val (.ref r5), .val (.ref r6), .val (.ref r8), .val .null, .unset, .unset, .unset, .unset, .unset, .unset] [(.int kd)])
  refine GoH.step (fun t k => XS.iconst X10.here hx rfl (hb hby at_85) k) ?_
  show GoH _ _ _ _ _ _ _ _ _ _ T10 (mkF m 86 #[.val (.int p1), .val (.int p2), .val (.int p3), .val (.int p4), .val (.ref r1), .val (.ref o3), .val (.int kd), .val (.ref r5), .val (.ref r6), .val (.ref r8), .val .null, .unset, .unset, .unset, .unset, .unset, .unset] [(.int (1 : Int32)), (.int kd)])
  by_cases hb86_11 : kd = (1 : Int32)
  · refine GoH.step (fun t k => XS.icmpNo X10.here hx rfl (hb hby at_86) rfl (XT.ii_ne_f hb86_11) k) ?_
    show GoH _ _ _ _ _ _ _ _ _ _ T10 (mkF m 89 #[.val (.int p1), .val (.int p2), .val (.int p3), .val (.int p4), .val (.ref r1), .val (.ref o3), .val (.int kd), .val (.ref r5), .val (.ref r6), .val (.ref r8), .val .null, .unset, .unset, .unset, .unset, .unset, .unset] [])
    obtain ⟨T12, h12, X12, e12, E12, A12, D12, -, st12⟩ := newO X10 hx hZ0 hown0 (hw _ (List.mem_of_getElem? (i := 1) rfl)) (hw _ (List.mem_of_getElem? (i := 2) rfl)) (hw _ (List.mem_of_getElem? (i := 3) rfl)) e10 (g := (mkF m 89 #[.val (.int p1), .val (.int p2), .val (.int p3), .val (.int p4), .val (.ref r1), .val (.ref o3), .val (.int kd), .val (.ref r5), .val (.ref r6), .val (.ref r8), .val .null, .unset, .unset, .unset, .unset, .unset, .unset] [])) rfl (hb hby at_89) (by decide) (by decide)
    obtain ⟨o12, g12⟩ : ∃ z, z = h10.size := ⟨_, rfl⟩
    rw [← g12] at A12 D12 st12
    have ne_r1_o12 : r1 ≠ o12 := Nat.ne_of_lt (Nat.lt_of_lt_of_le f10_0.lt (Nat.le_of_eq g12.symm))
    have ne_o3_o12 : o3 ≠ o12 := Nat.ne_of_lt (Nat.lt_of_lt_of_le f10_1.lt (Nat.le_of_eq g12.symm))
    have ne_tb4_o12 : tb4 ≠ o12 := Nat.ne_of_lt (Nat.lt_of_lt_of_le f10_4.lt (Nat.le_of_eq g12.symm))
    have ne_r5_o12 : r5 ≠ o12 := Nat.ne_of_lt (Nat.lt_of_lt_of_le f10_5.lt (Nat.le_of_eq g12.symm))
    have ne_r6_o12 : r6 ≠ o12 := Nat.ne_of_lt (Nat.lt_of_lt_of_le f10_6.lt (Nat.le_of_eq g12.symm))
    have ne_r8_o12 : r8 ≠ o12 := Nat.ne_of_lt (Nat.lt_of_lt_of_le fA10.lt (Nat.le_of_eq g12.symm))
    have ge_o12 : n0 ≤ o12 := Nat.le_trans Zs10 (Nat.le_of_eq g12.symm)
    have f12_0 : Arv Z h12 r1 k1 .char (1 : Int32) [(.int c0)] (.int (0 : Int32)) := (f10_0.ext E12)
    have f12_1 : Exa Z h12 o3 "java/lang/String" := (f10_1.ext E12)
    have f12_2 : Fld Z h12 o3 "java/lang/String" "coder" "B" (.int (0 : Int32)) := (f10_2.ext E12)
    have f12_3 : Fld Z h12 o3 "java/lang/String" "value" "[B" (.ref tb4) := (f10_3.ext E12)
    have f12_4 : Arv Z h12 tb4 kb4 .byte (1 : Int32) ((([c0] : List Int32).map (fun c => c.toInt8.toInt32)).map Value.int) (.int (0 : Int32)) := (f10_4.ext E12)
    have f12_5 : Arv Z h12 r5 k5 .char (0 : Int32) [] (.int (0 : Int32)) := (f10_5.ext E12)
    have f12_6 : Arv Z h12 r6 k6 .char (1 : Int32) [(.int c1)] (.int (0 : Int32)) := (f10_6.ext E12)
    have f12_7 : Arv Z h12 r8 k8 .char (2 : Int32) [(.int c2), (.int c3)] (.int (0 : Int32)) := (fA10.ext E12)
    have f12_8 : Exa Z h12 o12 "java/lang/String" := A12
    have f12_9 : Fld Z h12 o12 "java/lang/String" "coder" "B" (.int (0 : Int32)) := (D12 (Or.inr (hw _ (List.mem_of_getElem? (i := 27) rfl))) (ty := .byte) (by decide))
    have f12_10 : Fld Z h12 o12 "java/lang/String" "value" "[B" .null := (D12 (Or.inr (hw _ (List.mem_of_getElem? (i := 29) rfl))) (ty := (.array .byte)) (by decide))
    have sf12_o3 : Safe Z own_EL s.vm h12 o3 := Safe.ext E12 C10.1 sf10_o3
    have sf12_o12 : Safe Z own_EL s.vm h12 o12 := Safe.ext E12 C10.1 (Safe.new (Nat.le_of_eq g12.symm))
    have hk12 : _ ≤ h12.size := Nat.le_trans hk10 E12.1
    have C12 : CHr Z own_EL s.vm h0 s.vm h12 := C10.trans (CHr.ext E12 C10.1)
    have Zs12 : n0 ≤ h12.size := (Nat.le_trans Zs10 E12.1)
    have O12 : Old Z n0 h12 := O10.ext E12
    refine GoH.step st12 ?_
    show GoH _ _ _ _ _ _ _ _ _ _ T12 (mkF m 92 #[.val (.int p1), .val (.int p2), .val (.int p3), .val (.int p4), .val (.ref r1), .val (.ref o3), .val (.int kd), .val (.ref r5), .val (.ref r6), .val (.ref r8), .val .null, .unset, .unset, .unset, .unset, .unset, .unset] [(.ref o12)])
    refine GoH.step (fun t k => XS.dup X12.here hx rfl (hb hby at_92) rfl rfl k) ?_
    show GoH _ _ _ _ _ _ _ _ _ _ T12 (mkF m 93 #[.val (.int p1), .val (.int p2), .val (.int p3), .val (.int p4), .val (.ref r1), .val (.ref o3), .val (.int kd), .val (.ref r5), .val (.ref r6), .val (.ref r8), .val .null, .unset, .unset, .unset, .unset, .unset, .unset] [(.ref o12), (.ref o12)])
    refine GoH.step (fun t k => XS.aload X12.here hx rfl (hb hby at_93) rfl rfl k) ?_
    show GoH _ _ _ _ _ _ _ _ _ _ T12 (mkF m 95 #[.val (.int p1), .val (.int p2), .val (.int p3), .val (.int p4), .val (.ref r1), .val (.ref o3), .val (.int kd), .val (.ref r5), .val (.ref r6), .val (.ref r8), .val .null, .unset, .unset, .unset, .unset, .unset, .unset] [(.ref r5), (.ref o12), (.ref o12)])
    obtain ⟨_, _, ⟨T13, L13, k13, n13⟩, -, X13, hSq13, hgr13, ⟨Lc13, hQ13, l13, y13, z13, CHq13⟩, st13⟩ := X12.specialBackS hx (y := (⟨"java/lang/String", "<init>", "([C)V"⟩ : MethodName)) rfl hown0 (mvT hZ0 (hw _ (List.mem_of_getElem? (i := 4) rfl))) (mvT hZ0 (hw _ (List.mem_of_getElem? (i := 5) rfl))) (mvT hZ0 (hw _ (List.mem_of_getElem? (i := 6) rfl))) (by decide) (backOfSH (W := 1) (rmSO l Z a0 hw [] o12 r5 k5 h12 n0 Zs12 ge_o12 f12_8 f12_10 f12_9 f12_5) hZ0 (hw _ (List.mem_of_getElem? (i := 6) rfl)) (hw _ (List.mem_of_getElem? (i := 3) rfl)) (by decide) (by decide) hEL C12.1) (g := (mkF m 95 #[.val (.int p1), .val (.int p2), .val (.int p3), .val (.int p4), .val (.ref r1), .val (.ref o3), .val (.int kd), .val (.ref r5), .val (.ref r6), .val (.ref r8), .val .null, .unset, .unset, .unset, .unset, .unset, .unset] [(.ref r5), (.ref o12), (.ref o12)])) rfl (by rw [hml]; rfl) (Steps.refl _) (a := o12) (argsL := [(.ref r5)]) (rest := [(.ref o12)]) (lenOf pd_3 rfl) rfl (by show 2 * 0 + _ ≤ _; exact Nat.le_of_eq rfl) (hb hby at_95) (fun _ _ => ⟨rfl, e12, (by decide : 0 + 1 + 1 + 1 + 1 + 1 + 1 + 1 + 4 ≤ _), (by decide : 0 + 1 + 4 + 1 + 0 + 1 + 2 + 4 + 8 ≤ _)⟩)
    dsimp only [Pt.U, Pt.locs, Pt.cells, Pt.slots] at X13 hSq13 hgr13 l13 y13 z13 st13 hQ13 CHq13
    subst l13 y13 z13
    have hS13 : s.Since T13.vm T13.heap.size := State.Since.trans hS0 hSq13 (Nat.le_trans hk12 (by first | exact hgr13 | (rw [← e12]; exact hgr13)))
    have hZ13 : Z.Warmed39 (s.setVm T13.vm).vm := State.Warmed39.trans (t := s.setVm s.vm) hZ0 hSq13.1
    have hown13 : (s.setVm T13.vm).vm.findClass "com/example/grab1/grab1/cli/OptionIsFlagPinLaw" = some m.cls := by rw [show (s.setVm T13.vm).vm = T13.vm from rfl, hSq13.1.alike.findClass]; exact hown0
    have hk13 : T13.heap.size ≤ T13.heap.size := Nat.le_refl _
    obtain ⟨rfl, N13q, Kq13, Eq13, Cq13, tb13, kb13, nt13, Vq13, Aq13⟩ := hQ13
    have N13 := Fr.app N10 N13q
    have f13_0 : Arv Z T13.heap r1 k1 .char (1 : Int32) [(.int c0)] (.int (0 : Int32)) := (f12_0.keep Kq13 (ninS ne_r1_o12 nin0))
    have f13_1 : Exa Z T13.heap o3 "java/lang/String" := (f12_1.keep Kq13)
    have f13_2 : Fld Z T13.heap o3 "java/lang/String" "coder" "B" (.int (0 : Int32)) := (f12_2.keep Kq13 (ninS ne_o3_o12 nin0))
    have f13_3 : Fld Z T13.heap o3 "java/lang/String" "value" "[B" (.ref tb4) := (f12_3.keep Kq13 (ninS ne_o3_o12 nin0))
    have f13_4 : Arv Z T13.heap tb4 kb4 .byte (1 : Int32) ((([c0] : List Int32).map (fun c => c.toInt8.toInt32)).map Value.int) (.int (0 : Int32)) := (f12_4.keep Kq13 (ninS ne_tb4_o12 nin0))
    have f13_5 : Arv Z T13.heap r5 k5 .char (0 : Int32) [] (.int (0 : Int32)) := (f12_5.keep Kq13 (ninS ne_r5_o12 nin0))
    have f13_6 : Arv Z T13.heap r6 k6 .char (1 : Int32) [(.int c1)] (.int (0 : Int32)) := (f12_6.keep Kq13 (ninS ne_r6_o12 nin0))
    have f13_7 : Arv Z T13.heap r8 k8 .char (2 : Int32) [(.int c2), (.int c3)] (.int (0 : Int32)) := (f12_7.keep Kq13 (ninS ne_r8_o12 nin0))
    have f13_8 : Exa Z T13.heap o12 "java/lang/String" := Eq13
    have f13_9 : Fld Z T13.heap o12 "java/lang/String" "coder" "B" (.int (0 : Int32)) := Cq13
    have f13_10 : Fld Z T13.heap o12 "java/lang/String" "value" "[B" (.ref tb13) := Vq13
    have f13_11 : Arv Z T13.heap tb13 kb13 .byte (0 : Int32) [] (.int (0 : Int32)) := Aq13
    have Zs13 : n0 ≤ T13.heap.size := (Nat.le_trans Zs12 Kq13.1)
    have O13 : Old Z n0 T13.heap := O12.keep Kq13 (allS ge_o12 all0)
    have sf13_o3 : Safe Z own_EL T13.vm T13.heap o3 := CHr.safe CHq13 f12_1.lt sf12_o3
    have sf13_o12 : Safe Z own_EL T13.vm T13.heap o12 := CHr.safe CHq13 f12_8.lt sf12_o12
    have CC13 : CHr Z own_EL s.vm h0 T13.vm T13.heap := C12.trans CHq13
    refine GoH.step (fun t k => st13.trans k) ?_
    show GoH _ _ _ _ _ _ _ _ _ _ T13 (mkF m 98 #[.val (.int p1), .val (.int p2), .val (.int p3), .val (.int p4), .val (.ref r1), .val (.ref o3), .val (.int kd), .val (.ref r5), .val (.ref r6), .val (.ref r8), .val .null, .unset, .unset, .unset, .unset, .unset, .unset] [(.ref o12)])
    refine GoH.step (fun t k => XS.astore X13.here hx rfl (hb hby at_98) rfl rfl (l' := #[.val (.int p1), .val (.int p2), .val (.int p3), .val (.int p4), .val (.ref r1), .val (.ref o3), .val (.int kd), .val (.ref r5), .val (.ref r6), .val (.ref r8), .val (.ref o12), .unset, .unset, .unset, .unset, .unset, .unset]) rfl k) ?_
    show GoH _ _ _ _ _ _ _ _ _ _ T13 (mkF m 100 #[.val (.int p1), .val (.int p2), .val (.int p3), .val (.int p4), .val (.ref r1), .val (.ref o3), .val (.int kd), .val (.ref r5), .val (.ref r6), .val (.ref r8), .val (.ref o12), .unset, .unset, .unset, .unset, .unset, .unset] [])
    refine GoH.step (fun t k => XS.goto X13.here hx rfl (pc0 := 100) (pc' := 140) rfl (hb hby at_100) (by decide) (by decide) k) ?_
    show GoH _ _ _ _ _ _ _ _ _ _ T13 (mkF m 140 #[.val (.int p1), .val (.int p2), .val (.int p3), .val (.int p4), .val (.ref r1), .val (.ref o3), .val (.int kd), .val (.ref r5), .val (.ref r6), .val (.ref r8), .val (.ref o12), .unset, .unset, .unset, .unset, .unset, .unset] [])
    refine GoH.step (fun t k => XS.iconst X13.here hx rfl (hb hby at_140) k) ?_
    show GoH _ _ _ _ _ _ _ _ _ _ T13 (mkF m 141 #[.val (.int p1), .val (.int p2), .val (.int p3), .val (.int p4), .val (.ref r1), .val (.ref o3), .val (.int kd), .val (.ref r5), .val (.ref r6), .val (.ref r8), .val (.ref o12), .unset, .unset, .unset, .unset, .unset, .unset] [(.int (1 : Int32))])
    obtain ⟨T14, h14, k14, X14, e14, E14, A14, st14⟩ := newP X13 hx hZ13 (hw _ (List.mem_of_getElem? (i := 0) rfl)) rfl (g := (mkF m 141 #[.val (.int p1), .val (.int p2), .val (.int p3), .val (.int p4), .val (.ref r1), .val (.ref o3), .val (.int kd), .val (.ref r5), .val (.ref r6), .val (.ref r8), .val (.ref o12), .unset, .unset, .unset, .unset, .unset, .unset] [(.int (1 : Int32))])) rfl (hb hby at_141) rfl (by decide) (cap := 1) (by decide) (by decide) (by decide) (by decide)
    obtain ⟨r14, g14⟩ : ∃ z, z = T13.heap.size := ⟨_, rfl⟩
    rw [← g14] at A14 st14
    have ne_r1_r14 : r1 ≠ r14 := Nat.ne_of_lt (Nat.lt_of_lt_of_le f13_0.lt (Nat.le_of_eq g14.symm))
    have ne_o3_r14 : o3 ≠ r14 := Nat.ne_of_lt (Nat.lt_of_lt_of_le f13_1.lt (Nat.le_of_eq g14.symm))
    have ne_tb4_r14 : tb4 ≠ r14 := Nat.ne_of_lt (Nat.lt_of_lt_of_le f13_4.lt (Nat.le_of_eq g14.symm))
    have ne_r5_r14 : r5 ≠ r14 := Nat.ne_of_lt (Nat.lt_of_lt_of_le f13_5.lt (Nat.le_of_eq g14.symm))
    have ne_r6_r14 : r6 ≠ r14 := Nat.ne_of_lt (Nat.lt_of_lt_of_le f13_6.lt (Nat.le_of_eq g14.symm))
    have ne_r8_r14 : r8 ≠ r14 := Nat.ne_of_lt (Nat.lt_of_lt_of_le f13_7.lt (Nat.le_of_eq g14.symm))
    have ne_o12_r14 : o12 ≠ r14 := Nat.ne_of_lt (Nat.lt_of_lt_of_le f13_8.lt (Nat.le_of_eq g14.symm))
    have ne_tb13_r14 : tb13 ≠ r14 := Nat.ne_of_lt (Nat.lt_of_lt_of_le f13_11.lt (Nat.le_of_eq g14.symm))
    have ge_r14 : n0 ≤ r14 := Nat.le_trans Zs13 (Nat.le_of_eq g14.symm)
    have f14_0 : Arv Z h14 r1 k1 .char (1 : Int32) [(.int c0)] (.int (0 : Int32)) := (f13_0.ext E14)
    have f14_1 : Exa Z h14 o3 "java/lang/String" := (f13_1.ext E14)
    have f14_2 : Fld Z h14 o3 "java/lang/String" "coder" "B" (.int (0 : Int32)) := (f13_2.ext E14)
    have f14_3 : Fld Z h14 o3 "java/lang/String" "value" "[B" (.ref tb4) := (f13_3.ext E14)
    have f14_4 : Arv Z h14 tb4 kb4 .byte (1 : Int32) ((([c0] : List Int32).map (fun c => c.toInt8.toInt32)).map Value.int) (.int (0 : Int32)) := (f13_4.ext E14)
    have f14_5 : Arv Z h14 r5 k5 .char (0 : Int32) [] (.int (0 : Int32)) := (f13_5.ext E14)
    have f14_6 : Arv Z h14 r6 k6 .char (1 : Int32) [(.int c1)] (.int (0 : Int32)) := (f13_6.ext E14)
    have f14_7 : Arv Z h14 r8 k8 .char (2 : Int32) [(.int c2), (.int c3)] (.int (0 : Int32)) := (f13_7.ext E14)
    have f14_8 : Exa Z h14 o12 "java/lang/String" := (f13_8.ext E14)
    have f14_9 : Fld Z h14 o12 "java/lang/String" "coder" "B" (.int (0 : Int32)) := (f13_9.ext E14)
    have f14_10 : Fld Z h14 o12 "java/lang/String" "value" "[B" (.ref tb13) := (f13_10.ext E14)
    have f14_11 : Arv Z h14 tb13 kb13 .byte (0 : Int32) [] (.int (0 : Int32)) := (f13_11.ext E14)
    have f14_12 : Arv Z h14 r14 k14 .char (1 : Int32) [(.int (0 : Int32))] (.int (0 : Int32)) := ((Arv.new A14 (by decide)).pad (pad_rep [] (.int (0 : Int32)) 1))
    have sf14_o3 : Safe Z own_EL T13.vm h14 o3 := Safe.ext E14 CC13.1 sf13_o3
    have sf14_o12 : Safe Z own_EL T13.vm h14 o12 := Safe.ext E14 CC13.1 sf13_o12
    have hk14 : _ ≤ h14.size := Nat.le_trans hk13 E14.1
    have C14 : CHr Z own_EL s.vm h0 T13.vm h14 := CC13.trans (CHr.ext E14 CC13.1)
    have Zs14 : n0 ≤ h14.size := (Nat.le_trans Zs13 E14.1)
    have O14 : Old Z n0 h14 := O13.ext E14
    refine GoH.step st14 ?_
    show GoH _ _ _ _ _ _ _ _ _ _ T14 (mkF m 143 #[.val (.int p1), .val (.int p2), .val (.int p3), .val (.int p4), .val (.ref r1), .val (.ref o3), .val (.int kd), .val (.ref r5), .val (.ref r6), .val (.ref r8), .val (.ref o12), .unset, .unset, .unset, .unset, .unset, .unset] [(.ref r14)])
    refine GoH.step (fun t k => XS.dup X14.here hx rfl (hb hby at_143) rfl rfl k) ?_
    show GoH _ _ _ _ _ _ _ _ _ _ T14 (mkF m 144 #[.val (.int p1), .val (.int p2), .val (.int p3), .val (.int p4), .val (.ref r1), .val (.ref o3), .val (.int kd), .val (.ref r5), .val (.ref r6), .val (.ref r8), .val (.ref o12), .unset, .unset, .unset, .unset, .unset, .unset] [(.ref r14), (.ref r14)])
    refine GoH.step (fun t k => XS.iconst X14.here hx rfl (hb hby at_144) k) ?_
    show GoH _ _ _ _ _ _ _ _ _ _ T14 (mkF m 145 #[.val (.int p1), .val (.int p2), .val (.int p3), .val (.int p4), .val (.ref r1), .val (.ref o3), .val (.int kd), .val (.ref r5), .val (.ref r6), .val (.ref r8), .val (.ref o12), .unset, .unset, .unset, .unset, .unset, .unset] [(.int (0 : Int32)), (.ref r14), (.ref r14)])
    refine GoH.step (fun t k => XS.iloadN X14.here hx rfl (hb hby at_145) rfl k) ?_
    show GoH _ _ _ _ _ _ _ _ _ _ T14 (mkF m 146 #[.val (.int p1), .val (.int p2), .val (.int p3), .val (.int p4), .val (.ref r1), .val (.ref o3), .val (.int kd), .val (.ref r5), .val (.ref r6), .val (.ref r8), .val (.ref o12), .unset, .unset, .unset, .unset, .unset, .unset] [(.int p3), (.int (0 : Int32)), (.ref r14), (.ref r14)])
    refine GoH.step (fun t k => XS.sipush X14.here hx rfl (hb hby at_146) k) ?_
    show GoH _ _ _ _ _ _ _ _ _ _ T14 (mkF m 149 #[.val (.int p1), .val (.int p2), .val (.int p3), .val (.int p4), .val (.ref r1), .val (.ref o3), .val (.int kd), .val (.ref r5), .val (.ref r6), .val (.ref r8), .val (.ref o12), .unset, .unset, .unset, .unset, .unset, .unset] [(.int (255 : Int32)), (.int p3), (.int (0 : Int32)), (.ref r14), (.ref r14)])
    refine GoH.step (fun t k => XS.iand X14.here hx rfl (hb hby at_149) rfl k) ?_
    show GoH _ _ _ _ _ _ _ _ _ _ T14 (mkF m 150 #[.val (.int p1), .val (.int p2), .val (.int p3), .val (.int p4), .val (.ref r1), .val (.ref o3), .val (.int kd), .val (.ref r5), .val (.ref r6), .val (.ref r8), .val (.ref o12), .unset, .unset, .unset, .unset, .unset, .unset] [(.int (p3 &&& (255 : Int32))), (.int (0 : Int32)), (.ref r14), (.ref r14)])
    refine GoH.step (fun t k => XT.i2c X14.here hx rfl (hb hby at_150) rfl k) ?_
    show GoH _ _ _ _ _ _ _ _ _ _ T14 (mkF m 151 #[.val (.int p1), .val (.int p2), .val (.int p3), .val (.int p4), .val (.ref r1), .val (.ref o3), .val (.int kd), .val (.ref r5), .val (.ref r6), .val (.ref r8), .val (.ref o12), .unset, .unset, .unset, .unset, .unset, .unset] [(.int ((p3 &&& (255 : Int32)).toUInt32.toUInt16.toUInt32.toInt32)), (.int (0 : Int32)), (.ref r14), (.ref r14)])
    generalize hc4 : ((p3 &&& (255 : Int32)).toUInt32.toUInt16.toUInt32.toInt32) = c4
    show GoH _ _ _ _ _ _ _ _ _ _ T14 (mkF m 151 #[.val (.int p1), .val (.int p2), .val (.int p3), .val (.int p4), .val (.ref r1), .val (.ref o3), .val (.int kd), .val (.ref r5), .val (.ref r6), .val (.ref r8), .val (.ref o12), .unset, .unset, .unset, .unset, .unset, .unset] [(.int c4), (.int (0 : Int32)), (.ref r14), (.ref r14)])
    have hc4r : (¬ c4 < 0 ∧ ¬ (255 : Int32) < c4) ∧ nar .char c4 = c4 := by rw [← hc4]; exact own_c255 _
    obtain ⟨c15, Ar15, q15, S15, M15, H15, U15⟩ := id f14_12
    obtain ⟨T15, h15, X15, e15, W15, st15⟩ := stC X14 hx hZ13 e14 Ar15 (j := (0 : Int32)) (inb_of S15 ⟨(by decide), (by decide)⟩) (g := (mkF m 151 #[.val (.int p1), .val (.int p2), .val (.int p3), .val (.int p4), .val (.ref r1), .val (.ref o3), .val (.int kd), .val (.ref r5), .val (.ref r6), .val (.ref r8), .val (.ref o12), .unset, .unset, .unset, .unset, .unset, .unset] [(.int c4), (.int (0 : Int32)), (.ref r14), (.ref r14)])) rfl rfl (hb hby at_151)
    have N15 := Fr.snoc X15 N13 ge_r14
    refine GoH.step st15 ?_
    have f15_0 : Arv Z h15 r1 k1 .char (1 : Int32) [(.int c0)] (.int (0 : Int32)) := (f14_0.other W15 ne_r1_r14)
    have f15_1 : Exa Z h15 o3 "java/lang/String" := (f14_1.wr W15)
    have f15_2 : Fld Z h15 o3 "java/lang/String" "coder" "B" (.int (0 : Int32)) := (f14_2.other W15 (Or.inl ne_o3_r14))
    have f15_3 : Fld Z h15 o3 "java/lang/String" "value" "[B" (.ref tb4) := (f14_3.other W15 (Or.inl ne_o3_r14))
    have f15_4 : Arv Z h15 tb4 kb4 .byte (1 : Int32) ((([c0] : List Int32).map (fun c => c.toInt8.toInt32)).map Value.int) (.int (0 : Int32)) := (f14_4.other W15 ne_tb4_r14)
    have f15_5 : Arv Z h15 r5 k5 .char (0 : Int32) [] (.int (0 : Int32)) := (f14_5.other W15 ne_r5_r14)
    have f15_6 : Arv Z h15 r6 k6 .char (1 : Int32) [(.int c1)] (.int (0 : Int32)) := (f14_6.other W15 ne_r6_r14)
    have f15_7 : Arv Z h15 r8 k8 .char (2 : Int32) [(.int c2), (.int c3)] (.int (0 : Int32)) := (f14_7.other W15 ne_r8_r14)
    have f15_8 : Exa Z h15 o12 "java/lang/String" := (f14_8.wr W15)
    have f15_9 : Fld Z h15 o12 "java/lang/String" "coder" "B" (.int (0 : Int32)) := (f14_9.other W15 (Or.inl ne_o12_r14))
    have f15_10 : Fld Z h15 o12 "java/lang/String" "value" "[B" (.ref tb13) := (f14_10.other W15 (Or.inl ne_o12_r14))
    have f15_11 : Arv Z h15 tb13 kb13 .byte (0 : Int32) [] (.int (0 : Int32)) := (f14_11.other W15 ne_tb13_r14)
    have sfw15 : Safe Z own_EL T13.vm _ r14 := (Safe.arv hZ13.alike f14_12 (by decide))
    have sf15_o3 : Safe Z own_EL T13.vm h15 o3 := Safe.wr W15 sfw15 C14.1 sf14_o3
    have sf15_o12 : Safe Z own_EL T13.vm h15 o12 := Safe.wr W15 sfw15 C14.1 sf14_o12
    have hk15 : _ ≤ h15.size := Nat.le_trans hk14 (Keep.of_wr W15).1
    have C15 : CHr Z own_EL s.vm h0 T13.vm h15 := C14.trans (CHr.wr W15 sfw15 C14.1)
    have Zs15 : n0 ≤ h15.size := (Nat.le_trans Zs14 (Keep.of_wr W15).1)
    have O15 : Old Z n0 h15 := O14.wr W15 ge_r14
    have fA15 : Arv Z h15 r14 k14 .char (1 : Int32) [(.int c4)] (.int (0 : Int32)) := by have q := (Arv.set Ar15 q15 S15 M15 H15 U15 (fits_nar_char _) W15 0 rfl (Nat.le_of_ble_eq_true rfl)); rw [hc4r.2] at q; exact q
    show GoH _ _ _ _ _ _ _ _ _ _ T15 (mkF m 152 #[.val (.int p1), .val (.int p2), .val (.int p3), .val (.int p4), .val (.ref r1), .val (.ref o3), .val (.int kd), .val (.ref r5), .val (.ref r6), .val (.ref r8), .val (.ref o12), .unset, .unset, .unset, .unset, .unset, .unset] [(.ref r14)])
    refine GoH.step (fun t k => XS.astore X15.here hx rfl (hb hby at_152) rfl rfl (l' := #[.val (.int p1), .val (.int p2), .val (.int p3), .val (.int p4), .val (.ref r1), .val (.ref o3), .val (.int kd), .val (.ref r5), .val (.ref r6), .val (.ref r8), .val (.ref o12), .val (.ref r14), .unset, .unset, .unset, .unset, .unset]) rfl k) ?_
    show GoH _ _ _ _ _ _ _ _ _ _ T15 (mkF m 154 #[.val (.int p1), .val (.int p2), .val (.int p3), .val (.int p4), .val (.ref r1), .val (.ref o3), .val (.int kd), .val (.ref r5), .val (.ref r6), .val (.ref r8), .val (.ref o12), .val (.ref r14), .unset, .unset, .unset, .unset, .unset] [])
    refine GoH.step (fun t k => XS.aconstNull X15.here hx rfl (hb hby at_154) k) ?_
    show GoH _ _ _ _ _ _ _ _ _ _ T15 (mkF m 155 #[.val (.int p1), .val (.int p2), .val (.int p3), .val (.int p4), .val (.ref r1), .val (.ref o3), .val (.int kd), .val (.ref r5), .val (.ref r6), .val (.ref r8), .val (.ref o12), .val (.ref r14), .unset, .unset, .unset, .unset, .unset] [.null])
    refine GoH.step (fun t k => XS.astore X15.here hx rfl (hb hby at_155) rfl rfl (l' := #[.val (.int p1), .val (.int p2), .val (.int p3), .val (.int p4), .val (.ref r1), .val (.ref o3), .val (.int kd), .val (.ref r5), .val (.ref r6), .val (.ref r8), .val (.ref o12), .val (.ref r14), .val .null, .unset, .unset, .unset, .unset]) rfl k) ?_
    show GoH _ _ _ _ _ _ _ _ _ _ T15 (mkF m 157 #[.val (.int p1), .val (.int p2), .val (.int p3), .val (.int p4), .val (.ref r1), .val (.ref o3), .val (.int kd), .val (.ref r5), .val (.ref r6), .val (.ref r8), .val (.ref o12), .val (.ref r14), .val .null, .unset, .unset, .unset, .unset] [])
    refine GoH.step (fun t k => XS.iloadN X15.here hx rfl (hb hby at_157) rfl k) ?_
    show GoH _ _ _ _ _ _ _ _ _ _ T15 (mkF m 158 #[.val (.int p1), .val (.int p2), .val (.int p3), .val (.int p4), .val (.ref r1), .val (.ref o3), .val (.int kd), .val (.ref r5), .val (.ref r6), .val (.ref r8), .val (.ref o12), .val (.ref r14), .val .null, .unset, .unset, .unset, .unset] [(.int p4)])
    refine GoH.step (fun t k => XS.iconst X15.here hx rfl (hb hby at_158) k) ?_
    show GoH _ _ _ _ _ _ _ _ _ _ T15 (mkF m 159 #[.val (.int p1), .val (.int p2), .val (.int p3), .val (.int p4), .val (.ref r1), .val (.ref o3), .val (.int kd), .val (.ref r5), .val (.ref r6), .val (.ref r8), .val (.ref o12), .val (.ref r14), .val .null, .unset, .unset, .unset, .unset] [(.int (2 : Int32)), (.int p4)])
    refine GoH.step (fun t k => XS.iand X15.here hx rfl (hb hby at_159) rfl k) ?_
    show GoH _ _ _ _ _ _ _ _ _ _ T15 (mkF m 160 #[.val (.int p1), .val (.int p2), .val (.int p3), .val (.int p4), .val (.ref r1), .val (.ref o3), .val (.int kd), .val (.ref r5), .val (.ref r6), .val (.ref r8), .val (.ref o12), .val (.ref r14), .val .null, .unset, .unset, .unset, .unset] [(.int (p4 &&& (2 : Int32)))])
    by_cases hb160_16 : (p4 &&& (2 : Int32)) = (0 : Int32)
    · refine GoH.step (fun t k => XS.ifYes X15.here hx rfl (pc0 := 160) (pc' := 174) rfl (hb hby at_160) rfl (XT.i0_eq_t hb160_16) (by decide) (by decide) k) ?_
      show GoH _ _ _ _ _ _ _ _ _ _ T15 (mkF m 174 #[.val (.int p1), .val (.int p2), .val (.int p3), .val (.int p4), .val (.ref r1), .val (.ref o3), .val (.int kd), .val (.ref r5), .val (.ref r6), .val (.ref r8), .val (.ref o12), .val (.ref r14), .val .null, .unset, .unset, .unset, .unset] [])
      have hkk : ¬ (kd = (0 : Int32)) := by rw [hb86_11]; decide
      exact sg174_0 l Z a0 hw p1 p2 p3 p4 G1 h0 n0 Z0 O0 S_COMPACT P_COMPACT r1 o3 kd r5 r6 r8 o12 r14 (X15.mono (by decide) (by decide)) hx hby hlk hml hret hnm e15 N15 Zs15 O15 hS13 hk15 hZ13 hown13 hEL C15 hkk
    · refine GoH.step (fun t k => XS.ifNo X15.here hx rfl (hb hby at_160) rfl (XT.i0_eq_f hb160_16) k) ?_
      show GoH _ _ _ _ _ _ _ _ _ _ T15 (mkF m 163 #[.val (.int p1), .val (.int p2), .val (.int p3), .val (.int p4), .val (.ref r1), .val (.ref o3), .val (.int kd), .val (.ref r5), .val (.ref r6), .val (.ref r8), .val (.ref o12), .val (.ref r14), .val .null, .unset, .unset, .unset, .unset] [])
      obtain ⟨T32, h32, X32, e32, E32, A32, D32, -, st32⟩ := newO X15 hx hZ13 hown13 (hw _ (List.mem_of_getElem? (i := 1) rfl)) (hw _ (List.mem_of_getElem? (i := 2) rfl)) (hw _ (List.mem_of_getElem? (i := 3) rfl)) e15 (g := (mkF m 163 #[.val (.int p1), .val (.int p2), .val (.int p3), .val (.int p4), .val (.ref r1), .val (.ref o3), .val (.int kd), .val (.ref r5), .val (.ref r6), .val (.ref r8), .val (.ref o12), .val (.ref r14), .val .null, .unset, .unset, .unset, .unset] [])) rfl (hb hby at_163) (by decide) (by decide)
      obtain ⟨o32, g32⟩ : ∃ z, z = h15.size := ⟨_, rfl⟩
      rw [← g32] at A32 D32 st32
      have ne_r1_o32 : r1 ≠ o32 := Nat.ne_of_lt (Nat.lt_of_lt_of_le f15_0.lt (Nat.le_of_eq g32.symm))
      have ne_o3_o32 : o3 ≠ o32 := Nat.ne_of_lt (Nat.lt_of_lt_of_le f15_1.lt (Nat.le_of_eq g32.symm))
      have ne_tb4_o32 : tb4 ≠ o32 := Nat.ne_of_lt (Nat.lt_of_lt_of_le f15_4.lt (Nat.le_of_eq g32.symm))
      have ne_r5_o32 : r5 ≠ o32 := Nat.ne_of_lt (Nat.lt_of_lt_of_le f15_5.lt (Nat.le_of_eq g32.symm))
      have ne_r6_o32 : r6 ≠ o32 := Nat.ne_of_lt (Nat.lt_of_lt_of_le f15_6.lt (Nat.le_of_eq g32.symm))
      have ne_r8_o32 : r8 ≠ o32 := Nat.ne_of_lt (Nat.lt_of_lt_of_le f15_7.lt (Nat.le_of_eq g32.symm))
      have ne_o12_o32 : o12 ≠ o32 := Nat.ne_of_lt (Nat.lt_of_lt_of_le f15_8.lt (Nat.le_of_eq g32.symm))
      have ne_tb13_o32 : tb13 ≠ o32 := Nat.ne_of_lt (Nat.lt_of_lt_of_le f15_11.lt (Nat.le_of_eq g32.symm))
      have ne_r14_o32 : r14 ≠ o32 := Nat.ne_of_lt (Nat.lt_of_lt_of_le fA15.lt (Nat.le_of_eq g32.symm))
      have ge_o32 : n0 ≤ o32 := Nat.le_trans Zs15 (Nat.le_of_eq g32.symm)
      have f32_0 : Arv Z h32 r1 k1 .char (1 : Int32) [(.int c0)] (.int (0 : Int32)) := (f15_0.ext E32)
      have f32_1 : Exa Z h32 o3 "java/lang/String" := (f15_1.ext E32)
      have f32_2 : Fld Z h32 o3 "java/lang/String" "coder" "B" (.int (0 : Int32)) := (f15_2.ext E32)
      have f32_3 : Fld Z h32 o3 "java/lang/String" "value" "[B" (.ref tb4) := (f15_3.ext E32)
      have f32_4 : Arv Z h32 tb4 kb4 .byte (1 : Int32) ((([c0] : List Int32).map (fun c => c.toInt8.toInt32)).map Value.int) (.int (0 : Int32)) := (f15_4.ext E32)
      have f32_5 : Arv Z h32 r5 k5 .char (0 : Int32) [] (.int (0 : Int32)) := (f15_5.ext E32)
      have f32_6 : Arv Z h32 r6 k6 .char (1 : Int32) [(.int c1)] (.int (0 : Int32)) := (f15_6.ext E32)
      have f32_7 : Arv Z h32 r8 k8 .char (2 : Int32) [(.int c2), (.int c3)] (.int (0 : Int32)) := (f15_7.ext E32)
      have f32_8 : Exa Z h32 o12 "java/lang/String" := (f15_8.ext E32)
      have f32_9 : Fld Z h32 o12 "java/lang/String" "coder" "B" (.int (0 : Int32)) := (f15_9.ext E32)
      have f32_10 : Fld Z h32 o12 "java/lang/String" "value" "[B" (.ref tb13) := (f15_10.ext E32)
      have f32_11 : Arv Z h32 tb13 kb13 .byte (0 : Int32) [] (.int (0 : Int32)) := (f15_11.ext E32)
      have f32_12 : Arv Z h32 r14 k14 .char (1 : Int32) [(.int c4)] (.int (0 : Int32)) := (fA15.ext E32)
      have f32_13 : Exa Z h32 o32 "java/lang/String" := A32
      have f32_14 : Fld Z h32 o32 "java/lang/String" "coder" "B" (.int (0 : Int32)) := (D32 (Or.inr (hw _ (List.mem_of_getElem? (i := 27) rfl))) (ty := .byte) (by decide))
      have f32_15 : Fld Z h32 o32 "java/lang/String" "value" "[B" .null := (D32 (Or.inr (hw _ (List.mem_of_getElem? (i := 29) rfl))) (ty := (.array .byte)) (by decide))
      have sf32_o3 : Safe Z own_EL T13.vm h32 o3 := Safe.ext E32 C15.1 sf15_o3
      have sf32_o12 : Safe Z own_EL T13.vm h32 o12 := Safe.ext E32 C15.1 sf15_o12
      have sf32_o32 : Safe Z own_EL T13.vm h32 o32 := Safe.ext E32 C15.1 (Safe.new (Nat.le_of_eq g32.symm))
      have hk32 : _ ≤ h32.size := Nat.le_trans hk15 E32.1
      have C32 : CHr Z own_EL s.vm h0 T13.vm h32 := C15.trans (CHr.ext E32 C15.1)
      have Zs32 : n0 ≤ h32.size := (Nat.le_trans Zs15 E32.1)
      have O32 : Old Z n0 h32 := O15.ext E32
      refine GoH.step st32 ?_
      show GoH _ _ _ _ _ _ _ _ _ _ T32 (mkF m 166 #[.val (.int p1), .val (.int p2), .val (.int p3), .val (.int p4), .val (.ref r1), .val (.ref o3), .val (.int kd), .val (.ref r5), .val (.ref r6), .val (.ref r8), .val (.ref o12), .val (.ref r14), .val .null, .unset, .unset, .unset, .unset] [(.ref o32)])
      refine GoH.step (fun t k => XS.dup X32.here hx rfl (hb hby at_166) rfl rfl k) ?_
      show GoH _ _ _ _ _ _ _ _ _ _ T32 (mkF m 167 #[.val (.int p1), .val (.int p2), .val (.int p3), .val (.int p4), .val (.ref r1), .val (.ref o3), .val (.int kd), .val (.ref r5), .val (.ref r6), .val (.ref r8), .val (.ref o12), .val (.ref r14), .val .null, .unset, .unset, .unset, .unset] [(.ref o32), (.ref o32)])
      refine GoH.step (fun t k => XS.aload X32.here hx rfl (hb hby at_167) rfl rfl k) ?_
      show GoH _ _ _ _ _ _ _ _ _ _ T32 (mkF m 169 #[.val (.int p1), .val (.int p2), .val (.int p3), .val (.int p4), .val (.ref r1), .val (.ref o3), .val (.int kd), .val (.ref r5), .val (.ref r6), .val (.ref r8), .val (.ref o12), .val (.ref r14), .val .null, .unset, .unset, .unset, .unset] [(.ref r14), (.ref o32), (.ref o32)])
      have hp33 : ∀ c ∈ ([c4] : List Int32), ¬ c < 0 ∧ ¬ (255 : Int32) < c := by
        intro c hc
        simp only [List.mem_cons, List.not_mem_nil, or_false] at hc
        rcases hc with rfl
        · exact hc4r.1
      obtain ⟨_, _, ⟨T33, L33, k33, n33⟩, -, X33, ⟨Lc33, hQ33, l33, y33, z33⟩, st33⟩ := X32.specialBack hx (y := (⟨"java/lang/String", "<init>", "([C)V"⟩ : MethodName)) rfl hown13 (mvT hZ13 (hw _ (List.mem_of_getElem? (i := 4) rfl))) (mvT hZ13 (hw _ (List.mem_of_getElem? (i := 5) rfl))) (mvT hZ13 (hw _ (List.mem_of_getElem? (i := 6) rfl))) (by decide) (StrChars.Road.backV (W := 1) hZ13 (own_words hw) (kI := 4) (hw _ (List.mem_of_getElem? (i := 2) rfl)) (cs := ([c4] : List Int32)) (bs := ([c4] : List Int32).map (fun c => c.toInt8.toInt32)) (n := 1) ge_o32 Zs32 f32_13 f32_15 f32_14 f32_12 (S_COMPACT.ext O32.2) P_COMPACT rfl rfl (by decide) (by decide) hp33 rfl (by decide) (by decide)) (g := (mkF m 169 #[.val (.int p1), .val (.int p2), .val (.int p3), .val (.int p4), .val (.ref r1), .val (.ref o3), .val (.int kd), .val (.ref r5), .val (.ref r6), .val (.ref r8), .val (.ref o12), .val (.ref r14), .val .null, .unset, .unset, .unset, .unset] [(.ref r14), (.ref o32), (.ref o32)])) rfl (by rw [hml]; rfl) (Steps.refl _) (a := o32) (argsL := [(.ref r14)]) (rest := [(.ref o32)]) (lenOf pd_3 rfl) rfl (by show 2 * 0 + _ ≤ _; exact Nat.le_of_eq rfl) (hb hby at_169) (fun _ _ => ⟨rfl, e32, (by decide : 0 + 1 + 1 + 1 + 1 + 1 + 1 + 1 + 4 + 1 + 1 + 1 ≤ _), (by decide : 0 + 1 + 4 + 1 + 0 + 1 + 2 + 4 + 8 + 1 + 4 + 1 ≤ _)⟩)
      dsimp only [Pt.U, Pt.locs, Pt.cells, Pt.slots] at X33 l33 y33 z33 st33 hQ33
      subst l33 y33 z33
      obtain ⟨rfl, N33q, Kq33, Eq33, Cq33, tb33, kb33, u33, v33, w33, Vq33, Aq33⟩ := hQ33
      have N33 := Fr.app N15 N33q
      have ne_r1_tb33 : r1 ≠ tb33 := Nat.ne_of_lt (Nat.lt_of_lt_of_le f32_0.lt v33)
      have ne_o3_tb33 : o3 ≠ tb33 := Nat.ne_of_lt (Nat.lt_of_lt_of_le f32_1.lt v33)
      have ne_tb4_tb33 : tb4 ≠ tb33 := Nat.ne_of_lt (Nat.lt_of_lt_of_le f32_4.lt v33)
      have ne_r5_tb33 : r5 ≠ tb33 := Nat.ne_of_lt (Nat.lt_of_lt_of_le f32_5.lt v33)
      have ne_r6_tb33 : r6 ≠ tb33 := Nat.ne_of_lt (Nat.lt_of_lt_of_le f32_6.lt v33)
      have ne_r8_tb33 : r8 ≠ tb33 := Nat.ne_of_lt (Nat.lt_of_lt_of_le f32_7.lt v33)
      have ne_o12_tb33 : o12 ≠ tb33 := Nat.ne_of_lt (Nat.lt_of_lt_of_le f32_8.lt v33)
      have ne_tb13_tb33 : tb13 ≠ tb33 := Nat.ne_of_lt (Nat.lt_of_lt_of_le f32_11.lt v33)
      have ne_r14_tb33 : r14 ≠ tb33 := Nat.ne_of_lt (Nat.lt_of_lt_of_le f32_12.lt v33)
      have ne_o32_tb33 : o32 ≠ tb33 := Nat.ne_of_lt (Nat.lt_of_lt_of_le f32_13.lt v33)
      have f33_0 : Arv Z T33.heap r1 k1 .char (1 : Int32) [(.int c0)] (.int (0 : Int32)) := (f32_0.keep Kq33 (ninS ne_r1_o32 nin0))
      have f33_1 : Exa Z T33.heap o3 "java/lang/String" := (f32_1.keep Kq33)
      have f33_2 : Fld Z T33.heap o3 "java/lang/String" "coder" "B" (.int (0 : Int32)) := (f32_2.keep Kq33 (ninS ne_o3_o32 nin0))
      have f33_3 : Fld Z T33.heap o3 "java/lang/String" "value" "[B" (.ref tb4) := (f32_3.keep Kq33 (ninS ne_o3_o32 nin0))
      have f33_4 : Arv Z T33.heap tb4 kb4 .byte (1 : Int32) ((([c0] : List Int32).map (fun c => c.toInt8.toInt32)).map Value.int) (.int (0 : Int32)) := (f32_4.keep Kq33 (ninS ne_tb4_o32 nin0))
      have f33_5 : Arv Z T33.heap r5 k5 .char (0 : Int32) [] (.int (0 : Int32)) := (f32_5.keep Kq33 (ninS ne_r5_o32 nin0))
      have f33_6 : Arv Z T33.heap r6 k6 .char (1 : Int32) [(.int c1)] (.int (0 : Int32)) := (f32_6.keep Kq33 (ninS ne_r6_o32 nin0))
      have f33_7 : Arv Z T33.heap r8 k8 .char (2 : Int32) [(.int c2), (.int c3)] (.int (0 : Int32)) := (f32_7.keep Kq33 (ninS ne_r8_o32 nin0))
      have f33_8 : Exa Z T33.heap o12 "java/lang/String" := (f32_8.keep Kq33)
      have f33_9 : Fld Z T33.heap o12 "java/lang/String" "coder" "B" (.int (0 : Int32)) := (f32_9.keep Kq33 (ninS ne_o12_o32 nin0))
      have f33_10 : Fld Z T33.heap o12 "java/lang/String" "value" "[B" (.ref tb13) := (f32_10.keep Kq33 (ninS ne_o12_o32 nin0))
      have f33_11 : Arv Z T33.heap tb13 kb13 .byte (0 : Int32) [] (.int (0 : Int32)) := (f32_11.keep Kq33 (ninS ne_tb13_o32 nin0))
      have f33_12 : Arv Z T33.heap r14 k14 .char (1 : Int32) [(.int c4)] (.int (0 : Int32)) := (f32_12.keep Kq33 (ninS ne_r14_o32 nin0))
      have f33_13 : Exa Z T33.heap o32 "java/lang/String" := Eq33
      have f33_14 : Fld Z T33.heap o32 "java/lang/String" "coder" "B" (.int (0 : Int32)) := Cq33
      have f33_15 : Fld Z T33.heap o32 "java/lang/String" "value" "[B" (.ref tb33) := Vq33
      have f33_16 : Arv Z T33.heap tb33 kb33 .byte (1 : Int32) ((([c4] : List Int32).map (fun c => c.toInt8.toInt32)).map Value.int) (.int (0 : Int32)) := Aq33
      have sfk33 : ∀ x ∈ ([o32] : List Addr), Safe Z own_EL T13.vm h32 x := (sfS sf32_o32 sf0)
      have sf33_o3 : Safe Z own_EL T13.vm T33.heap o3 := Safe.keep Kq33 sfk33 C32.1 sf32_o3
      have sf33_o12 : Safe Z own_EL T13.vm T33.heap o12 := Safe.keep Kq33 sfk33 C32.1 sf32_o12
      have sf33_o32 : Safe Z own_EL T13.vm T33.heap o32 := Safe.keep Kq33 sfk33 C32.1 sf32_o32
      have hk33 : _ ≤ T33.heap.size := Nat.le_trans hk32 Kq33.1
      have C33 : CHr Z own_EL s.vm h0 T13.vm T33.heap := C32.trans (CHr.keep Kq33 sfk33 C32.1)
      have Zs33 : n0 ≤ T33.heap.size := (Nat.le_trans Zs32 Kq33.1)
      have O33 : Old Z n0 T33.heap := O32.keep Kq33 (allS ge_o32 all0)
      refine GoH.step (fun t k => st33.trans k) ?_
      show GoH _ _ _ _ _ _ _ _ _ _ T33 (mkF m 172 #[.val (.int p1), .val (.int p2), .val (.int p3), .val (.int p4), .val (.ref r1), .val (.ref o3), .val (.int kd), .val (.ref r5), .val (.ref r6), .val (.ref r8), .val (.ref o12), .val (.ref r14), .val .null, .unset, .unset, .unset, .unset] [(.ref o32)])
      refine GoH.step (fun t k => XS.astore X33.here hx rfl (hb hby at_172) rfl rfl (l' := #[.val (.int p1), .val (.int p2), .val (.int p3), .val (.int p4), .val (.ref r1), .val (.ref o3), .val (.int kd), .val (.ref r5), .val (.ref r6), .val (.ref r8), .val (.ref o12), .val (.ref r14), .val (.ref o32), .unset, .unset, .unset, .unset]) rfl k) ?_
      show GoH _ _ _ _ _ _ _ _ _ _ T33 (mkF m 174 #[.val (.int p1), .val (.int p2), .val (.int p3), .val (.int p4), .val (.ref r1), .val (.ref o3), .val (.int kd), .val (.ref r5), .val (.ref r6), .val (.ref r8), .val (.ref o12), .val (.ref r14), .val (.ref o32), .unset, .unset, .unset, .unset] [])
      have hkk : ¬ (kd = (0 : Int32)) := by rw [hb86_11]; decide
      exact sg174_1 l Z a0 hw p1 p2 p3 p4 G1 h0 n0 Z0 O0 S_COMPACT P_COMPACT r1 o3 kd r5 r6 r8 o12 r14 o32 (X33.mono (by decide) (by decide)) hx hby hlk hml hret hnm rfl N33 Zs33 O33 hS13 hk33 hZ13 hown13 hEL C33 hkk
  · refine GoH.step (fun t k => XS.icmpYes X10.here hx rfl (pc0 := 86) (pc' := 103) rfl (hb hby at_86) rfl (XT.ii_ne_t hb86_11) (by decide) (by decide) k) ?_
    show GoH _ _ _ _ _ _ _ _ _ _ T10 (mkF m 103 #[.val (.int p1), .val (.int p2), .val (.int p3), .val (.int p4), .val (.ref r1), .val (.ref o3), .val (.int kd), .val (.ref r5), .val (.ref r6), .val (.ref r8), .val .null, .unset, .unset, .unset, .unset, .unset, .unset] [])
    refine GoH.step (fun t k => XS.iload X10.here hx rfl (hb hby at_103) rfl k) ?_
    show GoH _ _ _ _ _ _ _ _ _ _ T10 (mkF m 105 #[.val (.int p1), .val (.int p2), .val (.int p3), .val (.int p4), .val (.ref r1), .val (.ref o3), .val (.int kd), .val (.ref r5), .val (.ref r6), .val (.ref r8), .val .null, .unset, .unset, .unset, .unset, .unset, .unset] [(.int kd)])
    refine GoH.step (fun t k => XS.iconst X10.here hx rfl (hb hby at_105) k) ?_
    show GoH _ _ _ _ _ _ _ _ _ _ T10 (mkF m 106 #[.val (.int p1), .val (.int p2), .val (.int p3), .val (.int p4), .val (.ref r1), .val (.ref o3), .val (.int kd), .val (.ref r5), .val (.ref r6), .val (.ref r8), .val .null, .unset, .unset, .unset, .unset, .unset, .unset] [(.int (2 : Int32)), (.int kd)])
    by_cases hb106_49 : kd = (2 : Int32)
    · refine GoH.step (fun t k => XS.icmpNo X10.here hx rfl (hb hby at_106) rfl (XT.ii_ne_f hb106_49) k) ?_
      show GoH _ _ _ _ _ _ _ _ _ _ T10 (mkF m 109 #[.val (.int p1), .val (.int p2), .val (.int p3), .val (.int p4), .val (.ref r1), .val (.ref o3), .val (.int kd), .val (.ref r5), .val (.ref r6), .val (.ref r8), .val .null, .unset, .unset, .unset, .unset, .unset, .unset] [])
      obtain ⟨T50, h50, X50, e50, E50, A50, D50, -, st50⟩ := newO X10 hx hZ0 hown0 (hw _ (List.mem_of_getElem? (i := 1) rfl)) (hw _ (List.mem_of_getElem? (i := 2) rfl)) (hw _ (List.mem_of_getElem? (i := 3) rfl)) e10 (g := (mkF m 109 #[.val (.int p1), .val (.int p2), .val (.int p3), .val (.int p4), .val (.ref r1), .val (.ref o3), .val (.int kd), .val (.ref r5), .val (.ref r6), .val (.ref r8), .val .null, .unset, .unset, .unset, .unset, .unset, .unset] [])) rfl (hb hby at_109) (by decide) (by decide)
      obtain ⟨o50, g50⟩ : ∃ z, z = h10.size := ⟨_, rfl⟩
      rw [← g50] at A50 D50 st50
      have ne_r1_o50 : r1 ≠ o50 := Nat.ne_of_lt (Nat.lt_of_lt_of_le f10_0.lt (Nat.le_of_eq g50.symm))
      have ne_o3_o50 : o3 ≠ o50 := Nat.ne_of_lt (Nat.lt_of_lt_of_le f10_1.lt (Nat.le_of_eq g50.symm))
      have ne_tb4_o50 : tb4 ≠ o50 := Nat.ne_of_lt (Nat.lt_of_lt_of_le f10_4.lt (Nat.le_of_eq g50.symm))
      have ne_r5_o50 : r5 ≠ o50 := Nat.ne_of_lt (Nat.lt_of_lt_of_le f10_5.lt (Nat.le_of_eq g50.symm))
      have ne_r6_o50 : r6 ≠ o50 := Nat.ne_of_lt (Nat.lt_of_lt_of_le f10_6.lt (Nat.le_of_eq g50.symm))
      have ne_r8_o50 : r8 ≠ o50 := Nat.ne_of_lt (Nat.lt_of_lt_of_le fA10.lt (Nat.le_of_eq g50.symm))
      have ge_o50 : n0 ≤ o50 := Nat.le_trans Zs10 (Nat.le_of_eq g50.symm)
      have f50_0 : Arv Z h50 r1 k1 .char (1 : Int32) [(.int c0)] (.int (0 : Int32)) := (f10_0.ext E50)
      have f50_1 : Exa Z h50 o3 "java/lang/String" := (f10_1.ext E50)
      have f50_2 : Fld Z h50 o3 "java/lang/String" "coder" "B" (.int (0 : Int32)) := (f10_2.ext E50)
      have f50_3 : Fld Z h50 o3 "java/lang/String" "value" "[B" (.ref tb4) := (f10_3.ext E50)
      have f50_4 : Arv Z h50 tb4 kb4 .byte (1 : Int32) ((([c0] : List Int32).map (fun c => c.toInt8.toInt32)).map Value.int) (.int (0 : Int32)) := (f10_4.ext E50)
      have f50_5 : Arv Z h50 r5 k5 .char (0 : Int32) [] (.int (0 : Int32)) := (f10_5.ext E50)
      have f50_6 : Arv Z h50 r6 k6 .char (1 : Int32) [(.int c1)] (.int (0 : Int32)) := (f10_6.ext E50)
      have f50_7 : Arv Z h50 r8 k8 .char (2 : Int32) [(.int c2), (.int c3)] (.int (0 : Int32)) := (fA10.ext E50)
      have f50_8 : Exa Z h50 o50 "java/lang/String" := A50
      have f50_9 : Fld Z h50 o50 "java/lang/String" "coder" "B" (.int (0 : Int32)) := (D50 (Or.inr (hw _ (List.mem_of_getElem? (i := 27) rfl))) (ty := .byte) (by decide))
      have f50_10 : Fld Z h50 o50 "java/lang/String" "value" "[B" .null := (D50 (Or.inr (hw _ (List.mem_of_getElem? (i := 29) rfl))) (ty := (.array .byte)) (by decide))
      have sf50_o3 : Safe Z own_EL s.vm h50 o3 := Safe.ext E50 C10.1 sf10_o3
      have sf50_o50 : Safe Z own_EL s.vm h50 o50 := Safe.ext E50 C10.1 (Safe.new (Nat.le_of_eq g50.symm))
      have hk50 : _ ≤ h50.size := Nat.le_trans hk10 E50.1
      have C50 : CHr Z own_EL s.vm h0 s.vm h50 := C10.trans (CHr.ext E50 C10.1)
      have Zs50 : n0 ≤ h50.size := (Nat.le_trans Zs10 E50.1)
      have O50 : Old Z n0 h50 := O10.ext E50
      refine GoH.step st50 ?_
      show GoH _ _ _ _ _ _ _ _ _ _ T50 (mkF m 112 #[.val (.int p1), .val (.int p2), .val (.int p3), .val (.int p4), .val (.ref r1), .val (.ref o3), .val (.int kd), .val (.ref r5), .val (.ref r6), .val (.ref r8), .val .null, .unset, .unset, .unset, .unset, .unset, .unset] [(.ref o50)])
      refine GoH.step (fun t k => XS.dup X50.here hx rfl (hb hby at_112) rfl rfl k) ?_
      show GoH _ _ _ _ _ _ _ _ _ _ T50 (mkF m 113 #[.val (.int p1), .val (.int p2), .val (.int p3), .val (.int p4), .val (.ref r1), .val (.ref o3), .val (.int kd), .val (.ref r5), .val (.ref r6), .val (.ref r8), .val .null, .unset, .unset, .unset, .unset, .unset, .unset] [(.ref o50), (.ref o50)])
      refine GoH.step (fun t k => XS.aload X50.here hx rfl (hb hby at_113) rfl rfl k) ?_
      show GoH _ _ _ _ _ _ _ _ _ _ T50 (mkF m 115 #[.val (.int p1), .val (.int p2), .val (.int p3), .val (.int p4), .val (.ref r1), .val (.ref o3), .val (.int kd), .val (.ref r5), .val (.ref r6), .val (.ref r8), .val .null, .unset, .unset, .unset, .unset, .unset, .unset] [(.ref r6), (.ref o50), (.ref o50)])
      have hp51 : ∀ c ∈ ([c1] : List Int32), ¬ c < 0 ∧ ¬ (255 : Int32) < c := by
        intro c hc
        simp only [List.mem_cons, List.not_mem_nil, or_false] at hc
        rcases hc with rfl
        · exact hc1r.1
      obtain ⟨_, _, ⟨T51, L51, k51, n51⟩, -, X51, ⟨Lc51, hQ51, l51, y51, z51⟩, st51⟩ := X50.specialBack hx (y := (⟨"java/lang/String", "<init>", "([C)V"⟩ : MethodName)) rfl hown0 (mvT hZ0 (hw _ (List.mem_of_getElem? (i := 4) rfl))) (mvT hZ0 (hw _ (List.mem_of_getElem? (i := 5) rfl))) (mvT hZ0 (hw _ (List.mem_of_getElem? (i := 6) rfl))) (by decide) (StrChars.Road.backV (W := 1) hZ0 (own_words hw) (kI := 4) (hw _ (List.mem_of_getElem? (i := 2) rfl)) (cs := ([c1] : List Int32)) (bs := ([c1] : List Int32).map (fun c => c.toInt8.toInt32)) (n := 1) ge_o50 Zs50 f50_8 f50_10 f50_9 f50_6 (S_COMPACT.ext O50.2) P_COMPACT rfl rfl (by decide) (by decide) hp51 rfl (by decide) (by decide)) (g := (mkF m 115 #[.val (.int p1), .val (.int p2), .val (.int p3), .val (.int p4), .val (.ref r1), .val (.ref o3), .val (.int kd), .val (.ref r5), .val (.ref r6), .val (.ref r8), .val .null, .unset, .unset, .unset, .unset, .unset, .unset] [(.ref r6), (.ref o50), (.ref o50)])) rfl (by rw [hml]; rfl) (Steps.refl _) (a := o50) (argsL := [(.ref r6)]) (rest := [(.ref o50)]) (lenOf pd_3 rfl) rfl (by show 2 * 0 + _ ≤ _; exact Nat.le_of_eq rfl) (hb hby at_115) (fun _ _ => ⟨rfl, e50, (by decide : 0 + 1 + 1 + 1 + 1 + 1 + 1 + 1 + 1 ≤ _), (by decide : 0 + 1 + 4 + 1 + 0 + 1 + 2 + 4 + 1 ≤ _)⟩)
      dsimp only [Pt.U, Pt.locs, Pt.cells, Pt.slots] at X51 l51 y51 z51 st51 hQ51
      subst l51 y51 z51
      obtain ⟨rfl, N51q, Kq51, Eq51, Cq51, tb51, kb51, u51, v51, w51, Vq51, Aq51⟩ := hQ51
      have N51 := Fr.app N10 N51q
      have ne_r1_tb51 : r1 ≠ tb51 := Nat.ne_of_lt (Nat.lt_of_lt_of_le f50_0.lt v51)
      have ne_o3_tb51 : o3 ≠ tb51 := Nat.ne_of_lt (Nat.lt_of_lt_of_le f50_1.lt v51)
      have ne_tb4_tb51 : tb4 ≠ tb51 := Nat.ne_of_lt (Nat.lt_of_lt_of_le f50_4.lt v51)
      have ne_r5_tb51 : r5 ≠ tb51 := Nat.ne_of_lt (Nat.lt_of_lt_of_le f50_5.lt v51)
      have ne_r6_tb51 : r6 ≠ tb51 := Nat.ne_of_lt (Nat.lt_of_lt_of_le f50_6.lt v51)
      have ne_r8_tb51 : r8 ≠ tb51 := Nat.ne_of_lt (Nat.lt_of_lt_of_le f50_7.lt v51)
      have ne_o50_tb51 : o50 ≠ tb51 := Nat.ne_of_lt (Nat.lt_of_lt_of_le f50_8.lt v51)
      have f51_0 : Arv Z T51.heap r1 k1 .char (1 : Int32) [(.int c0)] (.int (0 : Int32)) := (f50_0.keep Kq51 (ninS ne_r1_o50 nin0))
      have f51_1 : Exa Z T51.heap o3 "java/lang/String" := (f50_1.keep Kq51)
      have f51_2 : Fld Z T51.heap o3 "java/lang/String" "coder" "B" (.int (0 : Int32)) := (f50_2.keep Kq51 (ninS ne_o3_o50 nin0))
      have f51_3 : Fld Z T51.heap o3 "java/lang/String" "value" "[B" (.ref tb4) := (f50_3.keep Kq51 (ninS ne_o3_o50 nin0))
      have f51_4 : Arv Z T51.heap tb4 kb4 .byte (1 : Int32) ((([c0] : List Int32).map (fun c => c.toInt8.toInt32)).map Value.int) (.int (0 : Int32)) := (f50_4.keep Kq51 (ninS ne_tb4_o50 nin0))
      have f51_5 : Arv Z T51.heap r5 k5 .char (0 : Int32) [] (.int (0 : Int32)) := (f50_5.keep Kq51 (ninS ne_r5_o50 nin0))
      have f51_6 : Arv Z T51.heap r6 k6 .char (1 : Int32) [(.int c1)] (.int (0 : Int32)) := (f50_6.keep Kq51 (ninS ne_r6_o50 nin0))
      have f51_7 : Arv Z T51.heap r8 k8 .char (2 : Int32) [(.int c2), (.int c3)] (.int (0 : Int32)) := (f50_7.keep Kq51 (ninS ne_r8_o50 nin0))
      have f51_8 : Exa Z T51.heap o50 "java/lang/String" := Eq51
      have f51_9 : Fld Z T51.heap o50 "java/lang/String" "coder" "B" (.int (0 : Int32)) := Cq51
      have f51_10 : Fld Z T51.heap o50 "java/lang/String" "value" "[B" (.ref tb51) := Vq51
      have f51_11 : Arv Z T51.heap tb51 kb51 .byte (1 : Int32) ((([c1] : List Int32).map (fun c => c.toInt8.toInt32)).map Value.int) (.int (0 : Int32)) := Aq51
      have sfk51 : ∀ x ∈ ([o50] : List Addr), Safe Z own_EL s.vm h50 x := (sfS sf50_o50 sf0)
      have sf51_o3 : Safe Z own_EL s.vm T51.heap o3 := Safe.keep Kq51 sfk51 C50.1 sf50_o3
      have sf51_o50 : Safe Z own_EL s.vm T51.heap o50 := Safe.keep Kq51 sfk51 C50.1 sf50_o50
      have hk51 : _ ≤ T51.heap.size := Nat.le_trans hk50 Kq51.1
      have C51 : CHr Z own_EL s.vm h0 s.vm T51.heap := C50.trans (CHr.keep Kq51 sfk51 C50.1)
      have Zs51 : n0 ≤ T51.heap.size := (Nat.le_trans Zs50 Kq51.1)
      have O51 : Old Z n0 T51.heap := O50.keep Kq51 (allS ge_o50 all0)
      refine GoH.step (fun t k => st51.trans k) ?_
      show GoH _ _ _ _ _ _ _ _ _ _ T51 (mkF m 118 #[.val (.int p1), .val (.int p2), .val (.int p3), .val (.int p4), .val (.ref r1), .val (.ref o3), .val (.int kd), .val (.ref r5), .val (.ref r6), .val (.ref r8), .val .null, .unset, .unset, .unset, .unset, .unset, .unset] [(.ref o50)])
      refine GoH.step (fun t k => XS.astore X51.here hx rfl (hb hby at_118) rfl rfl (l' := #[.val (.int p1), .val (.int p2), .val (.int p3), .val (.int p4), .val (.ref r1), .val (.ref o3), .val (.int kd), .val (.ref r5), .val (.ref r6), .val (.ref r8), .val (.ref o50), .unset, .unset, .unset, .unset, .unset, .unset]) rfl k) ?_
      show GoH _ _ _ _ _ _ _ _ _ _ T51 (mkF m 120 #[.val (.int p1), .val (.int p2), .val (.int p3), .val (.int p4), .val (.ref r1), .val (.ref o3), .val (.int kd), .val (.ref r5), .val (.ref r6), .val (.ref r8), .val (.ref o50), .unset, .unset, .unset, .unset, .unset, .unset] [])
      refine GoH.step (fun t k => XS.goto X51.here hx rfl (pc0 := 120) (pc' := 140) rfl (hb hby at_120) (by decide) (by decide) k) ?_
      show GoH _ _ _ _ _ _ _ _ _ _ T51 (mkF m 140 #[.val (.int p1), .val (.int p2), .val (.int p3), .val (.int p4), .val (.ref r1), .val (.ref o3), .val (.int kd), .val (.ref r5), .val (.ref r6), .val (.ref r8), .val (.ref o50), .unset, .unset, .unset, .unset, .unset, .unset] [])
      refine GoH.step (fun t k => XS.iconst X51.here hx rfl (hb hby at_140) k) ?_
      show GoH _ _ _ _ _ _ _ _ _ _ T51 (mkF m 141 #[.val (.int p1), .val (.int p2), .val (.int p3), .val (.int p4), .val (.ref r1), .val (.ref o3), .val (.int kd), .val (.ref r5), .val (.ref r6), .val (.ref r8), .val (.ref o50), .unset, .unset, .unset, .unset, .unset, .unset] [(.int (1 : Int32))])
      obtain ⟨T52, h52, k52, X52, e52, E52, A52, st52⟩ := newP X51 hx hZ0 (hw _ (List.mem_of_getElem? (i := 0) rfl)) rfl (g := (mkF m 141 #[.val (.int p1), .val (.int p2), .val (.int p3), .val (.int p4), .val (.ref r1), .val (.ref o3), .val (.int kd), .val (.ref r5), .val (.ref r6), .val (.ref r8), .val (.ref o50), .unset, .unset, .unset, .unset, .unset, .unset] [(.int (1 : Int32))])) rfl (hb hby at_141) rfl (by decide) (cap := 1) (by decide) (by decide) (by decide) (by decide)
      obtain ⟨r52, g52⟩ : ∃ z, z = T51.heap.size := ⟨_, rfl⟩
      rw [← g52] at A52 st52
      have ne_r1_r52 : r1 ≠ r52 := Nat.ne_of_lt (Nat.lt_of_lt_of_le f51_0.lt (Nat.le_of_eq g52.symm))
      have ne_o3_r52 : o3 ≠ r52 := Nat.ne_of_lt (Nat.lt_of_lt_of_le f51_1.lt (Nat.le_of_eq g52.symm))
      have ne_tb4_r52 : tb4 ≠ r52 := Nat.ne_of_lt (Nat.lt_of_lt_of_le f51_4.lt (Nat.le_of_eq g52.symm))
      have ne_r5_r52 : r5 ≠ r52 := Nat.ne_of_lt (Nat.lt_of_lt_of_le f51_5.lt (Nat.le_of_eq g52.symm))
      have ne_r6_r52 : r6 ≠ r52 := Nat.ne_of_lt (Nat.lt_of_lt_of_le f51_6.lt (Nat.le_of_eq g52.symm))
      have ne_r8_r52 : r8 ≠ r52 := Nat.ne_of_lt (Nat.lt_of_lt_of_le f51_7.lt (Nat.le_of_eq g52.symm))
      have ne_o50_r52 : o50 ≠ r52 := Nat.ne_of_lt (Nat.lt_of_lt_of_le f51_8.lt (Nat.le_of_eq g52.symm))
      have ne_tb51_r52 : tb51 ≠ r52 := Nat.ne_of_lt (Nat.lt_of_lt_of_le f51_11.lt (Nat.le_of_eq g52.symm))
      have ge_r52 : n0 ≤ r52 := Nat.le_trans Zs51 (Nat.le_of_eq g52.symm)
      have f52_0 : Arv Z h52 r1 k1 .char (1 : Int32) [(.int c0)] (.int (0 : Int32)) := (f51_0.ext E52)
      have f52_1 : Exa Z h52 o3 "java/lang/String" := (f51_1.ext E52)
      have f52_2 : Fld Z h52 o3 "java/lang/String" "coder" "B" (.int (0 : Int32)) := (f51_2.ext E52)
      have f52_3 : Fld Z h52 o3 "java/lang/String" "value" "[B" (.ref tb4) := (f51_3.ext E52)
      have f52_4 : Arv Z h52 tb4 kb4 .byte (1 : Int32) ((([c0] : List Int32).map (fun c => c.toInt8.toInt32)).map Value.int) (.int (0 : Int32)) := (f51_4.ext E52)
      have f52_5 : Arv Z h52 r5 k5 .char (0 : Int32) [] (.int (0 : Int32)) := (f51_5.ext E52)
      have f52_6 : Arv Z h52 r6 k6 .char (1 : Int32) [(.int c1)] (.int (0 : Int32)) := (f51_6.ext E52)
      have f52_7 : Arv Z h52 r8 k8 .char (2 : Int32) [(.int c2), (.int c3)] (.int (0 : Int32)) := (f51_7.ext E52)
      have f52_8 : Exa Z h52 o50 "java/lang/String" := (f51_8.ext E52)
      have f52_9 : Fld Z h52 o50 "java/lang/String" "coder" "B" (.int (0 : Int32)) := (f51_9.ext E52)
      have f52_10 : Fld Z h52 o50 "java/lang/String" "value" "[B" (.ref tb51) := (f51_10.ext E52)
      have f52_11 : Arv Z h52 tb51 kb51 .byte (1 : Int32) ((([c1] : List Int32).map (fun c => c.toInt8.toInt32)).map Value.int) (.int (0 : Int32)) := (f51_11.ext E52)
      have f52_12 : Arv Z h52 r52 k52 .char (1 : Int32) [(.int (0 : Int32))] (.int (0 : Int32)) := ((Arv.new A52 (by decide)).pad (pad_rep [] (.int (0 : Int32)) 1))
      have sf52_o3 : Safe Z own_EL s.vm h52 o3 := Safe.ext E52 C51.1 sf51_o3
      have sf52_o50 : Safe Z own_EL s.vm h52 o50 := Safe.ext E52 C51.1 sf51_o50
      have hk52 : _ ≤ h52.size := Nat.le_trans hk51 E52.1
      have C52 : CHr Z own_EL s.vm h0 s.vm h52 := C51.trans (CHr.ext E52 C51.1)
      have Zs52 : n0 ≤ h52.size := (Nat.le_trans Zs51 E52.1)
      have O52 : Old Z n0 h52 := O51.ext E52
      refine GoH.step st52 ?_
      show GoH _ _ _ _ _ _ _ _ _ _ T52 (mkF m 143 #[.val (.int p1), .val (.int p2), .val (.int p3), .val (.int p4), .val (.ref r1), .val (.ref o3), .val (.int kd), .val (.ref r5), .val (.ref r6), .val (.ref r8), .val (.ref o50), .unset, .unset, .unset, .unset, .unset, .unset] [(.ref r52)])
      refine GoH.step (fun t k => XS.dup X52.here hx rfl (hb hby at_143) rfl rfl k) ?_
      show GoH _ _ _ _ _ _ _ _ _ _ T52 (mkF m 144 #[.val (.int p1), .val (.int p2), .val (.int p3), .val (.int p4), .val (.ref r1), .val (.ref o3), .val (.int kd), .val (.ref r5), .val (.ref r6), .val (.ref r8), .val (.ref o50), .unset, .unset, .unset, .unset, .unset, .unset] [(.ref r52), (.ref r52)])
      refine GoH.step (fun t k => XS.iconst X52.here hx rfl (hb hby at_144) k) ?_
      show GoH _ _ _ _ _ _ _ _ _ _ T52 (mkF m 145 #[.val (.int p1), .val (.int p2), .val (.int p3), .val (.int p4), .val (.ref r1), .val (.ref o3), .val (.int kd), .val (.ref r5), .val (.ref r6), .val (.ref r8), .val (.ref o50), .unset, .unset, .unset, .unset, .unset, .unset] [(.int (0 : Int32)), (.ref r52), (.ref r52)])
      refine GoH.step (fun t k => XS.iloadN X52.here hx rfl (hb hby at_145) rfl k) ?_
      show GoH _ _ _ _ _ _ _ _ _ _ T52 (mkF m 146 #[.val (.int p1), .val (.int p2), .val (.int p3), .val (.int p4), .val (.ref r1), .val (.ref o3), .val (.int kd), .val (.ref r5), .val (.ref r6), .val (.ref r8), .val (.ref o50), .unset, .unset, .unset, .unset, .unset, .unset] [(.int p3), (.int (0 : Int32)), (.ref r52), (.ref r52)])
      refine GoH.step (fun t k => XS.sipush X52.here hx rfl (hb hby at_146) k) ?_
      show GoH _ _ _ _ _ _ _ _ _ _ T52 (mkF m 149 #[.val (.int p1), .val (.int p2), .val (.int p3), .val (.int p4), .val (.ref r1), .val (.ref o3), .val (.int kd), .val (.ref r5), .val (.ref r6), .val (.ref r8), .val (.ref o50), .unset, .unset, .unset, .unset, .unset, .unset] [(.int (255 : Int32)), (.int p3), (.int (0 : Int32)), (.ref r52), (.ref r52)])
      refine GoH.step (fun t k => XS.iand X52.here hx rfl (hb hby at_149) rfl k) ?_
      show GoH _ _ _ _ _ _ _ _ _ _ T52 (mkF m 150 #[.val (.int p1), .val (.int p2), .val (.int p3), .val (.int p4), .val (.ref r1), .val (.ref o3), .val (.int kd), .val (.ref r5), .val (.ref r6), .val (.ref r8), .val (.ref o50), .unset, .unset, .unset, .unset, .unset, .unset] [(.int (p3 &&& (255 : Int32))), (.int (0 : Int32)), (.ref r52), (.ref r52)])
      refine GoH.step (fun t k => XT.i2c X52.here hx rfl (hb hby at_150) rfl k) ?_
      show GoH _ _ _ _ _ _ _ _ _ _ T52 (mkF m 151 #[.val (.int p1), .val (.int p2), .val (.int p3), .val (.int p4), .val (.ref r1), .val (.ref o3), .val (.int kd), .val (.ref r5), .val (.ref r6), .val (.ref r8), .val (.ref o50), .unset, .unset, .unset, .unset, .unset, .unset] [(.int ((p3 &&& (255 : Int32)).toUInt32.toUInt16.toUInt32.toInt32)), (.int (0 : Int32)), (.ref r52), (.ref r52)])
      generalize hc4 : ((p3 &&& (255 : Int32)).toUInt32.toUInt16.toUInt32.toInt32) = c4
      show GoH _ _ _ _ _ _ _ _ _ _ T52 (mkF m 151 #[.val (.int p1), .val (.int p2), .val (.int p3), .val (.int p4), .val (.ref r1), .val (.ref o3), .val (.int kd), .val (.ref r5), .val (.ref r6), .val (.ref r8), .val (.ref o50), .unset, .unset, .unset, .unset, .unset, .unset] [(.int c4), (.int (0 : Int32)), (.ref r52), (.ref r52)])
      have hc4r : (¬ c4 < 0 ∧ ¬ (255 : Int32) < c4) ∧ nar .char c4 = c4 := by rw [← hc4]; exact own_c255 _
      obtain ⟨c53, Ar53, q53, S53, M53, H53, U53⟩ := id f52_12
      obtain ⟨T53, h53, X53, e53, W53, st53⟩ := stC X52 hx hZ0 e52 Ar53 (j := (0 : Int32)) (inb_of S53 ⟨(by decide), (by decide)⟩) (g := (mkF m 151 #[.val (.int p1), .val (.int p2), .val (.int p3), .val (.int p4), .val (.ref r1), .val (.ref o3), .val (.int kd), .val (.ref r5), .val (.ref r6), .val (.ref r8), .val (.ref o50), .unset, .unset, .unset, .unset, .unset, .unset] [(.int c4), (.int (0 : Int32)), (.ref r52), (.ref r52)])) rfl rfl (hb hby at_151)
      have N53 := Fr.snoc X53 N51 ge_r52
      refine GoH.step st53 ?_
      have f53_0 : Arv Z h53 r1 k1 .char (1 : Int32) [(.int c0)] (.int (0 : Int32)) := (f52_0.other W53 ne_r1_r52)
      have f53_1 : Exa Z h53 o3 "java/lang/String" := (f52_1.wr W53)
      have f53_2 : Fld Z h53 o3 "java/lang/String" "coder" "B" (.int (0 : Int32)) := (f52_2.other W53 (Or.inl ne_o3_r52))
      have f53_3 : Fld Z h53 o3 "java/lang/String" "value" "[B" (.ref tb4) := (f52_3.other W53 (Or.inl ne_o3_r52))
      have f53_4 : Arv Z h53 tb4 kb4 .byte (1 : Int32) ((([c0] : List Int32).map (fun c => c.toInt8.toInt32)).map Value.int) (.int (0 : Int32)) := (f52_4.other W53 ne_tb4_r52)
      have f53_5 : Arv Z h53 r5 k5 .char (0 : Int32) [] (.int (0 : Int32)) := (f52_5.other W53 ne_r5_r52)
      have f53_6 : Arv Z h53 r6 k6 .char (1 : Int32) [(.int c1)] (.int (0 : Int32)) := (f52_6.other W53 ne_r6_r52)
      have f53_7 : Arv Z h53 r8 k8 .char (2 : Int32) [(.int c2), (.int c3)] (.int (0 : Int32)) := (f52_7.other W53 ne_r8_r52)
      have f53_8 : Exa Z h53 o50 "java/lang/String" := (f52_8.wr W53)
      have f53_9 : Fld Z h53 o50 "java/lang/String" "coder" "B" (.int (0 : Int32)) := (f52_9.other W53 (Or.inl ne_o50_r52))
      have f53_10 : Fld Z h53 o50 "java/lang/String" "value" "[B" (.ref tb51) := (f52_10.other W53 (Or.inl ne_o50_r52))
      have f53_11 : Arv Z h53 tb51 kb51 .byte (1 : Int32) ((([c1] : List Int32).map (fun c => c.toInt8.toInt32)).map Value.int) (.int (0 : Int32)) := (f52_11.other W53 ne_tb51_r52)
      have sfw53 : Safe Z own_EL s.vm _ r52 := (Safe.arv hZ0.alike f52_12 (by decide))
      have sf53_o3 : Safe Z own_EL s.vm h53 o3 := Safe.wr W53 sfw53 C52.1 sf52_o3
      have sf53_o50 : Safe Z own_EL s.vm h53 o50 := Safe.wr W53 sfw53 C52.1 sf52_o50
      have hk53 : _ ≤ h53.size := Nat.le_trans hk52 (Keep.of_wr W53).1
      have C53 : CHr Z own_EL s.vm h0 s.vm h53 := C52.trans (CHr.wr W53 sfw53 C52.1)
      have Zs53 : n0 ≤ h53.size := (Nat.le_trans Zs52 (Keep.of_wr W53).1)
      have O53 : Old Z n0 h53 := O52.wr W53 ge_r52
      have fA53 : Arv Z h53 r52 k52 .char (1 : Int32) [(.int c4)] (.int (0 : Int32)) := by have q := (Arv.set Ar53 q53 S53 M53 H53 U53 (fits_nar_char _) W53 0 rfl (Nat.le_of_ble_eq_true rfl)); rw [hc4r.2] at q; exact q
      show GoH _ _ _ _ _ _ _ _ _ _ T53 (mkF m 152 #[.val (.int p1), .val (.int p2), .val (.int p3), .val (.int p4), .val (.ref r1), .val (.ref o3), .val (.int kd), .val (.ref r5), .val (.ref r6), .val (.ref r8), .val (.ref o50), .unset, .unset, .unset, .unset, .unset, .unset] [(.ref r52)])
      refine GoH.step (fun t k => XS.astore X53.here hx rfl (hb hby at_152) rfl rfl (l' := #[.val (.int p1), .val (.int p2), .val (.int p3), .val (.int p4), .val (.ref r1), .val (.ref o3), .val (.int kd), .val (.ref r5), .val (.ref r6), .val (.ref r8), .val (.ref o50), .val (.ref r52), .unset, .unset, .unset, .unset, .unset]) rfl k) ?_
      show GoH _ _ _ _ _ _ _ _ _ _ T53 (mkF m 154 #[.val (.int p1), .val (.int p2), .val (.int p3), .val (.int p4), .val (.ref r1), .val (.ref o3), .val (.int kd), .val (.ref r5), .val (.ref r6), .val (.ref r8), .val (.ref o50), .val (.ref r52), .unset, .unset, .unset, .unset, .unset] [])
      refine GoH.step (fun t k => XS.aconstNull X53.here hx rfl (hb hby at_154) k) ?_
      show GoH _ _ _ _ _ _ _ _ _ _ T53 (mkF m 155 #[.val (.int p1), .val (.int p2), .val (.int p3), .val (.int p4), .val (.ref r1), .val (.ref o3), .val (.int kd), .val (.ref r5), .val (.ref r6), .val (.ref r8), .val (.ref o50), .val (.ref r52), .unset, .unset, .unset, .unset, .unset] [.null])
      refine GoH.step (fun t k => XS.astore X53.here hx rfl (hb hby at_155) rfl rfl (l' := #[.val (.int p1), .val (.int p2), .val (.int p3), .val (.int p4), .val (.ref r1), .val (.ref o3), .val (.int kd), .val (.ref r5), .val (.ref r6), .val (.ref r8), .val (.ref o50), .val (.ref r52), .val .null, .unset, .unset, .unset, .unset]) rfl k) ?_
      show GoH _ _ _ _ _ _ _ _ _ _ T53 (mkF m 157 #[.val (.int p1), .val (.int p2), .val (.int p3), .val (.int p4), .val (.ref r1), .val (.ref o3), .val (.int kd), .val (.ref r5), .val (.ref r6), .val (.ref r8), .val (.ref o50), .val (.ref r52), .val .null, .unset, .unset, .unset, .unset] [])
      refine GoH.step (fun t k => XS.iloadN X53.here hx rfl (hb hby at_157) rfl k) ?_
      show GoH _ _ _ _ _ _ _ _ _ _ T53 (mkF m 158 #[.val (.int p1), .val (.int p2), .val (.int p3), .val (.int p4), .val (.ref r1), .val (.ref o3), .val (.int kd), .val (.ref r5), .val (.ref r6), .val (.ref r8), .val (.ref o50), .val (.ref r52), .val .null, .unset, .unset, .unset, .unset] [(.int p4)])
      refine GoH.step (fun t k => XS.iconst X53.here hx rfl (hb hby at_158) k) ?_
      show GoH _ _ _ _ _ _ _ _ _ _ T53 (mkF m 159 #[.val (.int p1), .val (.int p2), .val (.int p3), .val (.int p4), .val (.ref r1), .val (.ref o3), .val (.int kd), .val (.ref r5), .val (.ref r6), .val (.ref r8), .val (.ref o50), .val (.ref r52), .val .null, .unset, .unset, .unset, .unset] [(.int (2 : Int32)), (.int p4)])
      refine GoH.step (fun t k => XS.iand X53.here hx rfl (hb hby at_159) rfl k) ?_
      show GoH _ _ _ _ _ _ _ _ _ _ T53 (mkF m 160 #[.val (.int p1), .val (.int p2), .val (.int p3), .val (.int p4), .val (.ref r1), .val (.ref o3), .val (.int kd), .val (.ref r5), .val (.ref r6), .val (.ref r8), .val (.ref o50), .val (.ref r52), .val .null, .unset, .unset, .unset, .unset] [(.int (p4 &&& (2 : Int32)))])
      by_cases hb160_54 : (p4 &&& (2 : Int32)) = (0 : Int32)
      · refine GoH.step (fun t k => XS.ifYes X53.here hx rfl (pc0 := 160) (pc' := 174) rfl (hb hby at_160) rfl (XT.i0_eq_t hb160_54) (by decide) (by decide) k) ?_
        show GoH _ _ _ _ _ _ _ _ _ _ T53 (mkF m 174 #[.val (.int p1), .val (.int p2), .val (.int p3), .val (.int p4), .val (.ref r1), .val (.ref o3), .val (.int kd), .val (.ref r5), .val (.ref r6), .val (.ref r8), .val (.ref o50), .val (.ref r52), .val .null, .unset, .unset, .unset, .unset] [])
        have hkk : ¬ (kd = (0 : Int32)) := by rw [hb106_49]; decide
        exact sg174_0 l Z a0 hw p1 p2 p3 p4 G1 h0 n0 Z0 O0 S_COMPACT P_COMPACT r1 o3 kd r5 r6 r8 o50 r52 (X53.mono (by decide) (by decide)) hx hby hlk hml hret hnm e53 N53 Zs53 O53 hS0 hk53 hZ0 hown0 hEL C53 hkk
      · refine GoH.step (fun t k => XS.ifNo X53.here hx rfl (hb hby at_160) rfl (XT.i0_eq_f hb160_54) k) ?_
        show GoH _ _ _ _ _ _ _ _ _ _ T53 (mkF m 163 #[.val (.int p1), .val (.int p2), .val (.int p3), .val (.int p4), .val (.ref r1), .val (.ref o3), .val (.int kd), .val (.ref r5), .val (.ref r6), .val (.ref r8), .val (.ref o50), .val (.ref r52), .val .null, .unset, .unset, .unset, .unset] [])
        obtain ⟨T55, h55, X55, e55, E55, A55, D55, -, st55⟩ := newO X53 hx hZ0 hown0 (hw _ (List.mem_of_getElem? (i := 1) rfl)) (hw _ (List.mem_of_getElem? (i := 2) rfl)) (hw _ (List.mem_of_getElem? (i := 3) rfl)) e53 (g := (mkF m 163 #[.val (.int p1), .val (.int p2), .val (.int p3), .val (.int p4), .val (.ref r1), .val (.ref o3), .val (.int kd), .val (.ref r5), .val (.ref r6), .val (.ref r8), .val (.ref o50), .val (.ref r52), .val .null, .unset, .unset, .unset, .unset] [])) rfl (hb hby at_163) (by decide) (by decide)
        obtain ⟨o55, g55⟩ : ∃ z, z = h53.size := ⟨_, rfl⟩
        rw [← g55] at A55 D55 st55
        have ne_r1_o55 : r1 ≠ o55 := Nat.ne_of_lt (Nat.lt_of_lt_of_le f53_0.lt (Nat.le_of_eq g55.symm))
        have ne_o3_o55 : o3 ≠ o55 := Nat.ne_of_lt (Nat.lt_of_lt_of_le f53_1.lt (Nat.le_of_eq g55.symm))
        have ne_tb4_o55 : tb4 ≠ o55 := Nat.ne_of_lt (Nat.lt_of_lt_of_le f53_4.lt (Nat.le_of_eq g55.symm))
        have ne_r5_o55 : r5 ≠ o55 := Nat.ne_of_lt (Nat.lt_of_lt_of_le f53_5.lt (Nat.le_of_eq g55.symm))
        have ne_r6_o55 : r6 ≠ o55 := Nat.ne_of_lt (Nat.lt_of_lt_of_le f53_6.lt (Nat.le_of_eq g55.symm))
        have ne_r8_o55 : r8 ≠ o55 := Nat.ne_of_lt (Nat.lt_of_lt_of_le f53_7.lt (Nat.le_of_eq g55.symm))
        have ne_o50_o55 : o50 ≠ o55 := Nat.ne_of_lt (Nat.lt_of_lt_of_le f53_8.lt (Nat.le_of_eq g55.symm))
        have ne_tb51_o55 : tb51 ≠ o55 := Nat.ne_of_lt (Nat.lt_of_lt_of_le f53_11.lt (Nat.le_of_eq g55.symm))
        have ne_r52_o55 : r52 ≠ o55 := Nat.ne_of_lt (Nat.lt_of_lt_of_le fA53.lt (Nat.le_of_eq g55.symm))
        have ge_o55 : n0 ≤ o55 := Nat.le_trans Zs53 (Nat.le_of_eq g55.symm)
        have f55_0 : Arv Z h55 r1 k1 .char (1 : Int32) [(.int c0)] (.int (0 : Int32)) := (f53_0.ext E55)
        have f55_1 : Exa Z h55 o3 "java/lang/String" := (f53_1.ext E55)
        have f55_2 : Fld Z h55 o3 "java/lang/String" "coder" "B" (.int (0 : Int32)) := (f53_2.ext E55)
        have f55_3 : Fld Z h55 o3 "java/lang/String" "value" "[B" (.ref tb4) := (f53_3.ext E55)
        have f55_4 : Arv Z h55 tb4 kb4 .byte (1 : Int32) ((([c0] : List Int32).map (fun c => c.toInt8.toInt32)).map Value.int) (.int (0 : Int32)) := (f53_4.ext E55)
        have f55_5 : Arv Z h55 r5 k5 .char (0 : Int32) [] (.int (0 : Int32)) := (f53_5.ext E55)
        have f55_6 : Arv Z h55 r6 k6 .char (1 : Int32) [(.int c1)] (.int (0 : Int32)) := (f53_6.ext E55)
        have f55_7 : Arv Z h55 r8 k8 .char (2 : Int32) [(.int c2), (.int c3)] (.int (0 : Int32)) := (f53_7.ext E55)
        have f55_8 : Exa Z h55 o50 "java/lang/String" := (f53_8.ext E55)
        have f55_9 : Fld Z h55 o50 "java/lang/String" "coder" "B" (.int (0 : Int32)) := (f53_9.ext E55)
        have f55_10 : Fld Z h55 o50 "java/lang/String" "value" "[B" (.ref tb51) := (f53_10.ext E55)
        have f55_11 : Arv Z h55 tb51 kb51 .byte (1 : Int32) ((([c1] : List Int32).map (fun c => c.toInt8.toInt32)).map Value.int) (.int (0 : Int32)) := (f53_11.ext E55)
        have f55_12 : Arv Z h55 r52 k52 .char (1 : Int32) [(.int c4)] (.int (0 : Int32)) := (fA53.ext E55)
        have f55_13 : Exa Z h55 o55 "java/lang/String" := A55
        have f55_14 : Fld Z h55 o55 "java/lang/String" "coder" "B" (.int (0 : Int32)) := (D55 (Or.inr (hw _ (List.mem_of_getElem? (i := 27) rfl))) (ty := .byte) (by decide))
        have f55_15 : Fld Z h55 o55 "java/lang/String" "value" "[B" .null := (D55 (Or.inr (hw _ (List.mem_of_getElem? (i := 29) rfl))) (ty := (.array .byte)) (by decide))
        have sf55_o3 : Safe Z own_EL s.vm h55 o3 := Safe.ext E55 C53.1 sf53_o3
        have sf55_o50 : Safe Z own_EL s.vm h55 o50 := Safe.ext E55 C53.1 sf53_o50
        have sf55_o55 : Safe Z own_EL s.vm h55 o55 := Safe.ext E55 C53.1 (Safe.new (Nat.le_of_eq g55.symm))
        have hk55 : _ ≤ h55.size := Nat.le_trans hk53 E55.1
        have C55 : CHr Z own_EL s.vm h0 s.vm h55 := C53.trans (CHr.ext E55 C53.1)
        have Zs55 : n0 ≤ h55.size := (Nat.le_trans Zs53 E55.1)
        have O55 : Old Z n0 h55 := O53.ext E55
        refine GoH.step st55 ?_
        show GoH _ _ _ _ _ _ _ _ _ _ T55 (mkF m 166 #[.val (.int p1), .val (.int p2), .val (.int p3), .val (.int p4), .val (.ref r1), .val (.ref o3), .val (.int kd), .val (.ref r5), .val (.ref r6), .val (.ref r8), .val (.ref o50), .val (.ref r52), .val .null, .unset, .unset, .unset, .unset] [(.ref o55)])
        refine GoH.step (fun t k => XS.dup X55.here hx rfl (hb hby at_166) rfl rfl k) ?_
        show GoH _ _ _ _ _ _ _ _ _ _ T55 (mkF m 167 #[.val (.int p1), .val (.int p2), .val (.int p3), .val (.int p4), .val (.ref r1), .val (.ref o3), .val (.int kd), .val (.ref r5), .val (.ref r6), .val (.ref r8), .val (.ref o50), .val (.ref r52), .val .null, .unset, .unset, .unset, .unset] [(.ref o55), (.ref o55)])
        refine GoH.step (fun t k => XS.aload X55.here hx rfl (hb hby at_167) rfl rfl k) ?_
        show GoH _ _ _ _ _ _ _ _ _ _ T55 (mkF m 169 #[.val (.int p1), .val (.int p2), .val (.int p3), .val (.int p4), .val (.ref r1), .val (.ref o3), .val (.int kd), .val (.ref r5), .val (.ref r6), .val (.ref r8), .val (.ref o50), .val (.ref r52), .val .null, .unset, .unset, .unset, .unset] [(.ref r52), (.ref o55), (.ref o55)])
        have hp56 : ∀ c ∈ ([c4] : List Int32), ¬ c < 0 ∧ ¬ (255 : Int32) < c := by
          intro c hc
          simp only [List.mem_cons, List.not_mem_nil, or_false] at hc
          rcases hc with rfl
          · exact hc4r.1
        obtain ⟨_, _, ⟨T56, L56, k56, n56⟩, -, X56, ⟨Lc56, hQ56, l56, y56, z56⟩, st56⟩ := X55.specialBack hx (y := (⟨"java/lang/String", "<init>", "([C)V"⟩ : MethodName)) rfl hown0 (mvT hZ0 (hw _ (List.mem_of_getElem? (i := 4) rfl))) (mvT hZ0 (hw _ (List.mem_of_getElem? (i := 5) rfl))) (mvT hZ0 (hw _ (List.mem_of_getElem? (i := 6) rfl))) (by decide) (StrChars.Road.backV (W := 1) hZ0 (own_words hw) (kI := 4) (hw _ (List.mem_of_getElem? (i := 2) rfl)) (cs := ([c4] : List Int32)) (bs := ([c4] : List Int32).map (fun c => c.toInt8.toInt32)) (n := 1) ge_o55 Zs55 f55_13 f55_15 f55_14 f55_12 (S_COMPACT.ext O55.2) P_COMPACT rfl rfl (by decide) (by decide) hp56 rfl (by decide) (by decide)) (g := (mkF m 169 #[.val (.int p1), .val (.int p2), .val (.int p3), .val (.int p4), .val (.ref r1), .val (.ref o3), .val (.int kd), .val (.ref r5), .val (.ref r6), .val (.ref r8), .val (.ref o50), .val (.ref r52), .val .null, .unset, .unset, .unset, .unset] [(.ref r52), (.ref o55), (.ref o55)])) rfl (by rw [hml]; rfl) (Steps.refl _) (a := o55) (argsL := [(.ref r52)]) (rest := [(.ref o55)]) (lenOf pd_3 rfl) rfl (by show 2 * 0 + _ ≤ _; exact Nat.le_of_eq rfl) (hb hby at_169) (fun _ _ => ⟨rfl, e55, (by decide : 0 + 1 + 1 + 1 + 1 + 1 + 1 + 1 + 1 + 1 + 1 + 1 ≤ _), (by decide : 0 + 1 + 4 + 1 + 0 + 1 + 2 + 4 + 1 + 1 + 4 + 1 ≤ _)⟩)
        dsimp only [Pt.U, Pt.locs, Pt.cells, Pt.slots] at X56 l56 y56 z56 st56 hQ56
        subst l56 y56 z56
        obtain ⟨rfl, N56q, Kq56, Eq56, Cq56, tb56, kb56, u56, v56, w56, Vq56, Aq56⟩ := hQ56
        have N56 := Fr.app N53 N56q
        have ne_r1_tb56 : r1 ≠ tb56 := Nat.ne_of_lt (Nat.lt_of_lt_of_le f55_0.lt v56)
        have ne_o3_tb56 : o3 ≠ tb56 := Nat.ne_of_lt (Nat.lt_of_lt_of_le f55_1.lt v56)
        have ne_tb4_tb56 : tb4 ≠ tb56 := Nat.ne_of_lt (Nat.lt_of_lt_of_le f55_4.lt v56)
        have ne_r5_tb56 : r5 ≠ tb56 := Nat.ne_of_lt (Nat.lt_of_lt_of_le f55_5.lt v56)
        have ne_r6_tb56 : r6 ≠ tb56 := Nat.ne_of_lt (Nat.lt_of_lt_of_le f55_6.lt v56)
        have ne_r8_tb56 : r8 ≠ tb56 := Nat.ne_of_lt (Nat.lt_of_lt_of_le f55_7.lt v56)
        have ne_o50_tb56 : o50 ≠ tb56 := Nat.ne_of_lt (Nat.lt_of_lt_of_le f55_8.lt v56)
        have ne_tb51_tb56 : tb51 ≠ tb56 := Nat.ne_of_lt (Nat.lt_of_lt_of_le f55_11.lt v56)
        have ne_r52_tb56 : r52 ≠ tb56 := Nat.ne_of_lt (Nat.lt_of_lt_of_le f55_12.lt v56)
        have ne_o55_tb56 : o55 ≠ tb56 := Nat.ne_of_lt (Nat.lt_of_lt_of_le f55_13.lt v56)
        have f56_0 : Arv Z T56.heap r1 k1 .char (1 : Int32) [(.int c0)] (.int (0 : Int32)) := (f55_0.keep Kq56 (ninS ne_r1_o55 nin0))
        have f56_1 : Exa Z T56.heap o3 "java/lang/String" := (f55_1.keep Kq56)
        have f56_2 : Fld Z T56.heap o3 "java/lang/String" "coder" "B" (.int (0 : Int32)) := (f55_2.keep Kq56 (ninS ne_o3_o55 nin0))
        have f56_3 : Fld Z T56.heap o3 "java/lang/String" "value" "[B" (.ref tb4) := (f55_3.keep Kq56 (ninS ne_o3_o55 nin0))
        have f56_4 : Arv Z T56.heap tb4 kb4 .byte (1 : Int32) ((([c0] : List Int32).map (fun c => c.toInt8.toInt32)).map Value.int) (.int (0 : Int32)) := (f55_4.keep Kq56 (ninS ne_tb4_o55 nin0))
        have f56_5 : Arv Z T56.heap r5 k5 .char (0 : Int32) [] (.int (0 : Int32)) := (f55_5.keep Kq56 (ninS ne_r5_o55 nin0))
        have f56_6 : Arv Z T56.heap r6 k6 .char (1 : Int32) [(.int c1)] (.int (0 : Int32)) := (f55_6.keep Kq56 (ninS ne_r6_o55 nin0))
        have f56_7 : Arv Z T56.heap r8 k8 .char (2 : Int32) [(.int c2), (.int c3)] (.int (0 : Int32)) := (f55_7.keep Kq56 (ninS ne_r8_o55 nin0))
        have f56_8 : Exa Z T56.heap o50 "java/lang/String" := (f55_8.keep Kq56)
        have f56_9 : Fld Z T56.heap o50 "java/lang/String" "coder" "B" (.int (0 : Int32)) := (f55_9.keep Kq56 (ninS ne_o50_o55 nin0))
        have f56_10 : Fld Z T56.heap o50 "java/lang/String" "value" "[B" (.ref tb51) := (f55_10.keep Kq56 (ninS ne_o50_o55 nin0))
        have f56_11 : Arv Z T56.heap tb51 kb51 .byte (1 : Int32) ((([c1] : List Int32).map (fun c => c.toInt8.toInt32)).map Value.int) (.int (0 : Int32)) := (f55_11.keep Kq56 (ninS ne_tb51_o55 nin0))
        have f56_12 : Arv Z T56.heap r52 k52 .char (1 : Int32) [(.int c4)] (.int (0 : Int32)) := (f55_12.keep Kq56 (ninS ne_r52_o55 nin0))
        have f56_13 : Exa Z T56.heap o55 "java/lang/String" := Eq56
        have f56_14 : Fld Z T56.heap o55 "java/lang/String" "coder" "B" (.int (0 : Int32)) := Cq56
        have f56_15 : Fld Z T56.heap o55 "java/lang/String" "value" "[B" (.ref tb56) := Vq56
        have f56_16 : Arv Z T56.heap tb56 kb56 .byte (1 : Int32) ((([c4] : List Int32).map (fun c => c.toInt8.toInt32)).map Value.int) (.int (0 : Int32)) := Aq56
        have sfk56 : ∀ x ∈ ([o55] : List Addr), Safe Z own_EL s.vm h55 x := (sfS sf55_o55 sf0)
        have sf56_o3 : Safe Z own_EL s.vm T56.heap o3 := Safe.keep Kq56 sfk56 C55.1 sf55_o3
        have sf56_o50 : Safe Z own_EL s.vm T56.heap o50 := Safe.keep Kq56 sfk56 C55.1 sf55_o50
        have sf56_o55 : Safe Z own_EL s.vm T56.heap o55 := Safe.keep Kq56 sfk56 C55.1 sf55_o55
        have hk56 : _ ≤ T56.heap.size := Nat.le_trans hk55 Kq56.1
        have C56 : CHr Z own_EL s.vm h0 s.vm T56.heap := C55.trans (CHr.keep Kq56 sfk56 C55.1)
        have Zs56 : n0 ≤ T56.heap.size := (Nat.le_trans Zs55 Kq56.1)
        have O56 : Old Z n0 T56.heap := O55.keep Kq56 (allS ge_o55 all0)
        refine GoH.step (fun t k => st56.trans k) ?_
        show GoH _ _ _ _ _ _ _ _ _ _ T56 (mkF m 172 #[.val (.int p1), .val (.int p2), .val (.int p3), .val (.int p4), .val (.ref r1), .val (.ref o3), .val (.int kd), .val (.ref r5), .val (.ref r6), .val (.ref r8), .val (.ref o50), .val (.ref r52), .val .null, .unset, .unset, .unset, .unset] [(.ref o55)])
        refine GoH.step (fun t k => XS.astore X56.here hx rfl (hb hby at_172) rfl rfl (l' := #[.val (.int p1), .val (.int p2), .val (.int p3), .val (.int p4), .val (.ref r1), .val (.ref o3), .val (.int kd), .val (.ref r5), .val (.ref r6), .val (.ref r8), .val (.ref o50), .val (.ref r52), .val (.ref o55), .unset, .unset, .unset, .unset]) rfl k) ?_
        show GoH _ _ _ _ _ _ _ _ _ _ T56 (mkF m 174 #[.val (.int p1), .val (.int p2), .val (.int p3), .val (.int p4), .val (.ref r1), .val (.ref o3), .val (.int kd), .val (.ref r5), .val (.ref r6), .val (.ref r8), .val (.ref o50), .val (.ref r52), .val (.ref o55), .unset, .unset, .unset, .unset] [])
        have hkk : ¬ (kd = (0 : Int32)) := by rw [hb106_49]; decide
        exact sg174_1 l Z a0 hw p1 p2 p3 p4 G1 h0 n0 Z0 O0 S_COMPACT P_COMPACT r1 o3 kd r5 r6 r8 o50 r52 o55 (X56.mono (by decide) (by decide)) hx hby hlk hml hret hnm rfl N56 Zs56 O56 hS0 hk56 hZ0 hown0 hEL C56 hkk
    · refine GoH.step (fun t k => XS.icmpYes X10.here hx rfl (pc0 := 106) (pc' := 123) rfl (hb hby at_106) rfl (XT.ii_ne_t hb106_49) (by decide) (by decide) k) ?_
      show GoH _ _ _ _ _ _ _ _ _ _ T10 (mkF m 123 #[.val (.int p1), .val (.int p2), .val (.int p3), .val (.int p4), .val (.ref r1), .val (.ref o3), .val (.int kd), .val (.ref r5), .val (.ref r6), .val (.ref r8), .val .null, .unset, .unset, .unset, .unset, .unset, .unset] [])
      refine GoH.step (fun t k => XS.iload X10.here hx rfl (hb hby at_123) rfl k) ?_
      show GoH _ _ _ _ _ _ _ _ _ _ T10 (mkF m 125 #[.val (.int p1), .val (.int p2), .val (.int p3), .val (.int p4), .val (.ref r1), .val (.ref o3), .val (.int kd), .val (.ref r5), .val (.ref r6), .val (.ref r8), .val .null, .unset, .unset, .unset, .unset, .unset, .unset] [(.int kd)])
      refine GoH.step (fun t k => XS.iconst X10.here hx rfl (hb hby at_125) k) ?_
      show GoH _ _ _ _ _ _ _ _ _ _ T10 (mkF m 126 #[.val (.int p1), .val (.int p2), .val (.int p3), .val (.int p4), .val (.ref r1), .val (.ref o3), .val (.int kd), .val (.ref r5), .val (.ref r6), .val (.ref r8), .val .null, .unset, .unset, .unset, .unset, .unset, .unset] [(.int (3 : Int32)), (.int kd)])
      by_cases hb126_57 : kd = (3 : Int32)
      · refine GoH.step (fun t k => XS.icmpNo X10.here hx rfl (hb hby at_126) rfl (XT.ii_ne_f hb126_57) k) ?_
        show GoH _ _ _ _ _ _ _ _ _ _ T10 (mkF m 129 #[.val (.int p1), .val (.int p2), .val (.int p3), .val (.int p4), .val (.ref r1), .val (.ref o3), .val (.int kd), .val (.ref r5), .val (.ref r6), .val (.ref r8), .val .null, .unset, .unset, .unset, .unset, .unset, .unset] [])
        obtain ⟨T58, h58, X58, e58, E58, A58, D58, -, st58⟩ := newO X10 hx hZ0 hown0 (hw _ (List.mem_of_getElem? (i := 1) rfl)) (hw _ (List.mem_of_getElem? (i := 2) rfl)) (hw _ (List.mem_of_getElem? (i := 3) rfl)) e10 (g := (mkF m 129 #[.val (.int p1), .val (.int p2), .val (.int p3), .val (.int p4), .val (.ref r1), .val (.ref o3), .val (.int kd), .val (.ref r5), .val (.ref r6), .val (.ref r8), .val .null, .unset, .unset, .unset, .unset, .unset, .unset] [])) rfl (hb hby at_129) (by decide) (by decide)
        obtain ⟨o58, g58⟩ : ∃ z, z = h10.size := ⟨_, rfl⟩
        rw [← g58] at A58 D58 st58
        have ne_r1_o58 : r1 ≠ o58 := Nat.ne_of_lt (Nat.lt_of_lt_of_le f10_0.lt (Nat.le_of_eq g58.symm))
        have ne_o3_o58 : o3 ≠ o58 := Nat.ne_of_lt (Nat.lt_of_lt_of_le f10_1.lt (Nat.le_of_eq g58.symm))
        have ne_tb4_o58 : tb4 ≠ o58 := Nat.ne_of_lt (Nat.lt_of_lt_of_le f10_4.lt (Nat.le_of_eq g58.symm))
        have ne_r5_o58 : r5 ≠ o58 := Nat.ne_of_lt (Nat.lt_of_lt_of_le f10_5.lt (Nat.le_of_eq g58.symm))
        have ne_r6_o58 : r6 ≠ o58 := Nat.ne_of_lt (Nat.lt_of_lt_of_le f10_6.lt (Nat.le_of_eq g58.symm))
        have ne_r8_o58 : r8 ≠ o58 := Nat.ne_of_lt (Nat.lt_of_lt_of_le fA10.lt (Nat.le_of_eq g58.symm))
        have ge_o58 : n0 ≤ o58 := Nat.le_trans Zs10 (Nat.le_of_eq g58.symm)
        have f58_0 : Arv Z h58 r1 k1 .char (1 : Int32) [(.int c0)] (.int (0 : Int32)) := (f10_0.ext E58)
        have f58_1 : Exa Z h58 o3 "java/lang/String" := (f10_1.ext E58)
        have f58_2 : Fld Z h58 o3 "java/lang/String" "coder" "B" (.int (0 : Int32)) := (f10_2.ext E58)
        have f58_3 : Fld Z h58 o3 "java/lang/String" "value" "[B" (.ref tb4) := (f10_3.ext E58)
        have f58_4 : Arv Z h58 tb4 kb4 .byte (1 : Int32) ((([c0] : List Int32).map (fun c => c.toInt8.toInt32)).map Value.int) (.int (0 : Int32)) := (f10_4.ext E58)
        have f58_5 : Arv Z h58 r5 k5 .char (0 : Int32) [] (.int (0 : Int32)) := (f10_5.ext E58)
        have f58_6 : Arv Z h58 r6 k6 .char (1 : Int32) [(.int c1)] (.int (0 : Int32)) := (f10_6.ext E58)
        have f58_7 : Arv Z h58 r8 k8 .char (2 : Int32) [(.int c2), (.int c3)] (.int (0 : Int32)) := (fA10.ext E58)
        have f58_8 : Exa Z h58 o58 "java/lang/String" := A58
        have f58_9 : Fld Z h58 o58 "java/lang/String" "coder" "B" (.int (0 : Int32)) := (D58 (Or.inr (hw _ (List.mem_of_getElem? (i := 27) rfl))) (ty := .byte) (by decide))
        have f58_10 : Fld Z h58 o58 "java/lang/String" "value" "[B" .null := (D58 (Or.inr (hw _ (List.mem_of_getElem? (i := 29) rfl))) (ty := (.array .byte)) (by decide))
        have sf58_o3 : Safe Z own_EL s.vm h58 o3 := Safe.ext E58 C10.1 sf10_o3
        have sf58_o58 : Safe Z own_EL s.vm h58 o58 := Safe.ext E58 C10.1 (Safe.new (Nat.le_of_eq g58.symm))
        have hk58 : _ ≤ h58.size := Nat.le_trans hk10 E58.1
        have C58 : CHr Z own_EL s.vm h0 s.vm h58 := C10.trans (CHr.ext E58 C10.1)
        have Zs58 : n0 ≤ h58.size := (Nat.le_trans Zs10 E58.1)
        have O58 : Old Z n0 h58 := O10.ext E58
        refine GoH.step st58 ?_
        show GoH _ _ _ _ _ _ _ _ _ _ T58 (mkF m 132 #[.val (.int p1), .val (.int p2), .val (.int p3), .val (.int p4), .val (.ref r1), .val (.ref o3), .val (.int kd), .val (.ref r5), .val (.ref r6), .val (.ref r8), .val .null, .unset, .unset, .unset, .unset, .unset, .unset] [(.ref o58)])
        refine GoH.step (fun t k => XS.dup X58.here hx rfl (hb hby at_132) rfl rfl k) ?_
        show GoH _ _ _ _ _ _ _ _ _ _ T58 (mkF m 133 #[.val (.int p1), .val (.int p2), .val (.int p3), .val (.int p4), .val (.ref r1), .val (.ref o3), .val (.int kd), .val (.ref r5), .val (.ref r6), .val (.ref r8), .val .null, .unset, .unset, .unset, .unset, .unset, .unset] [(.ref o58), (.ref o58)])
        refine GoH.step (fun t k => XS.aload X58.here hx rfl (hb hby at_133) rfl rfl k) ?_
        show GoH _ _ _ _ _ _ _ _ _ _ T58 (mkF m 135 #[.val (.int p1), .val (.int p2), .val (.int p3), .val (.int p4), .val (.ref r1), .val (.ref o3), .val (.int kd), .val (.ref r5), .val (.ref r6), .val (.ref r8), .val .null, .unset, .unset, .unset, .unset, .unset, .unset] [(.ref r8), (.ref o58), (.ref o58)])
        have hp59 : ∀ c ∈ ([c2, c3] : List Int32), ¬ c < 0 ∧ ¬ (255 : Int32) < c := by
          intro c hc
          simp only [List.mem_cons, List.not_mem_nil, or_false] at hc
          rcases hc with rfl | rfl
          · exact hc2r.1
          · exact hc3r.1
        obtain ⟨_, _, ⟨T59, L59, k59, n59⟩, -, X59, ⟨Lc59, hQ59, l59, y59, z59⟩, st59⟩ := X58.specialBack hx (y := (⟨"java/lang/String", "<init>", "([C)V"⟩ : MethodName)) rfl hown0 (mvT hZ0 (hw _ (List.mem_of_getElem? (i := 4) rfl))) (mvT hZ0 (hw _ (List.mem_of_getElem? (i := 5) rfl))) (mvT hZ0 (hw _ (List.mem_of_getElem? (i := 6) rfl))) (by decide) (StrChars.Road.backV (W := 1) hZ0 (own_words hw) (kI := 4) (hw _ (List.mem_of_getElem? (i := 2) rfl)) (cs := ([c2, c3] : List Int32)) (bs := ([c2, c3] : List Int32).map (fun c => c.toInt8.toInt32)) (n := 2) ge_o58 Zs58 f58_8 f58_10 f58_9 f58_7 (S_COMPACT.ext O58.2) P_COMPACT rfl rfl (by decide) (by decide) hp59 rfl (by decide) (by decide)) (g := (mkF m 135 #[.val (.int p1), .val (.int p2), .val (.int p3), .val (.int p4), .val (.ref r1), .val (.ref o3), .val (.int kd), .val (.ref r5), .val (.ref r6), .val (.ref r8), .val .null, .unset, .unset, .unset, .unset, .unset, .unset] [(.ref r8), (.ref o58), (.ref o58)])) rfl (by rw [hml]; rfl) (Steps.refl _) (a := o58) (argsL := [(.ref r8)]) (rest := [(.ref o58)]) (lenOf pd_3 rfl) rfl (by show 2 * 0 + _ ≤ _; exact Nat.le_of_eq rfl) (hb hby at_135) (fun _ _ => ⟨rfl, e58, (by decide : 0 + 1 + 1 + 1 + 1 + 1 + 1 + 1 + 1 ≤ _), (by decide : 0 + 1 + 4 + 1 + 0 + 1 + 2 + 4 + 2 ≤ _)⟩)
        dsimp only [Pt.U, Pt.locs, Pt.cells, Pt.slots] at X59 l59 y59 z59 st59 hQ59
        subst l59 y59 z59
        obtain ⟨rfl, N59q, Kq59, Eq59, Cq59, tb59, kb59, u59, v59, w59, Vq59, Aq59⟩ := hQ59
        have N59 := Fr.app N10 N59q
        have ne_r1_tb59 : r1 ≠ tb59 := Nat.ne_of_lt (Nat.lt_of_lt_of_le f58_0.lt v59)
        have ne_o3_tb59 : o3 ≠ tb59 := Nat.ne_of_lt (Nat.lt_of_lt_of_le f58_1.lt v59)
        have ne_tb4_tb59 : tb4 ≠ tb59 := Nat.ne_of_lt (Nat.lt_of_lt_of_le f58_4.lt v59)
        have ne_r5_tb59 : r5 ≠ tb59 := Nat.ne_of_lt (Nat.lt_of_lt_of_le f58_5.lt v59)
        have ne_r6_tb59 : r6 ≠ tb59 := Nat.ne_of_lt (Nat.lt_of_lt_of_le f58_6.lt v59)
        have ne_r8_tb59 : r8 ≠ tb59 := Nat.ne_of_lt (Nat.lt_of_lt_of_le f58_7.lt v59)
        have ne_o58_tb59 : o58 ≠ tb59 := Nat.ne_of_lt (Nat.lt_of_lt_of_le f58_8.lt v59)
        have f59_0 : Arv Z T59.heap r1 k1 .char (1 : Int32) [(.int c0)] (.int (0 : Int32)) := (f58_0.keep Kq59 (ninS ne_r1_o58 nin0))
        have f59_1 : Exa Z T59.heap o3 "java/lang/String" := (f58_1.keep Kq59)
        have f59_2 : Fld Z T59.heap o3 "java/lang/String" "coder" "B" (.int (0 : Int32)) := (f58_2.keep Kq59 (ninS ne_o3_o58 nin0))
        have f59_3 : Fld Z T59.heap o3 "java/lang/String" "value" "[B" (.ref tb4) := (f58_3.keep Kq59 (ninS ne_o3_o58 nin0))
        have f59_4 : Arv Z T59.heap tb4 kb4 .byte (1 : Int32) ((([c0] : List Int32).map (fun c => c.toInt8.toInt32)).map Value.int) (.int (0 : Int32)) := (f58_4.keep Kq59 (ninS ne_tb4_o58 nin0))
        have f59_5 : Arv Z T59.heap r5 k5 .char (0 : Int32) [] (.int (0 : Int32)) := (f58_5.keep Kq59 (ninS ne_r5_o58 nin0))
        have f59_6 : Arv Z T59.heap r6 k6 .char (1 : Int32) [(.int c1)] (.int (0 : Int32)) := (f58_6.keep Kq59 (ninS ne_r6_o58 nin0))
        have f59_7 : Arv Z T59.heap r8 k8 .char (2 : Int32) [(.int c2), (.int c3)] (.int (0 : Int32)) := (f58_7.keep Kq59 (ninS ne_r8_o58 nin0))
        have f59_8 : Exa Z T59.heap o58 "java/lang/String" := Eq59
        have f59_9 : Fld Z T59.heap o58 "java/lang/String" "coder" "B" (.int (0 : Int32)) := Cq59
        have f59_10 : Fld Z T59.heap o58 "java/lang/String" "value" "[B" (.ref tb59) := Vq59
        have f59_11 : Arv Z T59.heap tb59 kb59 .byte (2 : Int32) ((([c2, c3] : List Int32).map (fun c => c.toInt8.toInt32)).map Value.int) (.int (0 : Int32)) := Aq59
        have sfk59 : ∀ x ∈ ([o58] : List Addr), Safe Z own_EL s.vm h58 x := (sfS sf58_o58 sf0)
        have sf59_o3 : Safe Z own_EL s.vm T59.heap o3 := Safe.keep Kq59 sfk59 C58.1 sf58_o3
        have sf59_o58 : Safe Z own_EL s.vm T59.heap o58 := Safe.keep Kq59 sfk59 C58.1 sf58_o58
        have hk59 : _ ≤ T59.heap.size := Nat.le_trans hk58 Kq59.1
        have C59 : CHr Z own_EL s.vm h0 s.vm T59.heap := C58.trans (CHr.keep Kq59 sfk59 C58.1)
        have Zs59 : n0 ≤ T59.heap.size := (Nat.le_trans Zs58 Kq59.1)
        have O59 : Old Z n0 T59.heap := O58.keep Kq59 (allS ge_o58 all0)
        refine GoH.step (fun t k => st59.trans k) ?_
        show GoH _ _ _ _ _ _ _ _ _ _ T59 (mkF m 138 #[.val (.int p1), .val (.int p2), .val (.int p3), .val (.int p4), .val (.ref r1), .val (.ref o3), .val (.int kd), .val (.ref r5), .val (.ref r6), .val (.ref r8), .val .null, .unset, .unset, .unset, .unset, .unset, .unset] [(.ref o58)])
        refine GoH.step (fun t k => XS.astore X59.here hx rfl (hb hby at_138) rfl rfl (l' := #[.val (.int p1), .val (.int p2), .val (.int p3), .val (.int p4), .val (.ref r1), .val (.ref o3), .val (.int kd), .val (.ref r5), .val (.ref r6), .val (.ref r8), .val (.ref o58), .unset, .unset, .unset, .unset, .unset, .unset]) rfl k) ?_
        show GoH _ _ _ _ _ _ _ _ _ _ T59 (mkF m 140 #[.val (.int p1), .val (.int p2), .val (.int p3), .val (.int p4), .val (.ref r1), .val (.ref o3), .val (.int kd), .val (.ref r5), .val (.ref r6), .val (.ref r8), .val (.ref o58), .unset, .unset, .unset, .unset, .unset, .unset] [])
        refine GoH.step (fun t k => XS.iconst X59.here hx rfl (hb hby at_140) k) ?_
        show GoH _ _ _ _ _ _ _ _ _ _ T59 (mkF m 141 #[.val (.int p1), .val (.int p2), .val (.int p3), .val (.int p4), .val (.ref r1), .val (.ref o3), .val (.int kd), .val (.ref r5), .val (.ref r6), .val (.ref r8), .val (.ref o58), .unset, .unset, .unset, .unset, .unset, .unset] [(.int (1 : Int32))])
        obtain ⟨T60, h60, k60, X60, e60, E60, A60, st60⟩ := newP X59 hx hZ0 (hw _ (List.mem_of_getElem? (i := 0) rfl)) rfl (g := (mkF m 141 #[.val (.int p1), .val (.int p2), .val (.int p3), .val (.int p4), .val (.ref r1), .val (.ref o3), .val (.int kd), .val (.ref r5), .val (.ref r6), .val (.ref r8), .val (.ref o58), .unset, .unset, .unset, .unset, .unset, .unset] [(.int (1 : Int32))])) rfl (hb hby at_141) rfl (by decide) (cap := 1) (by decide) (by decide) (by decide) (by decide)
        obtain ⟨r60, g60⟩ : ∃ z, z = T59.heap.size := ⟨_, rfl⟩
        rw [← g60] at A60 st60
        have ne_r1_r60 : r1 ≠ r60 := Nat.ne_of_lt (Nat.lt_of_lt_of_le f59_0.lt (Nat.le_of_eq g60.symm))
        have ne_o3_r60 : o3 ≠ r60 := Nat.ne_of_lt (Nat.lt_of_lt_of_le f59_1.lt (Nat.le_of_eq g60.symm))
        have ne_tb4_r60 : tb4 ≠ r60 := Nat.ne_of_lt (Nat.lt_of_lt_of_le f59_4.lt (Nat.le_of_eq g60.symm))
        have ne_r5_r60 : r5 ≠ r60 := Nat.ne_of_lt (Nat.lt_of_lt_of_le f59_5.lt (Nat.le_of_eq g60.symm))
        have ne_r6_r60 : r6 ≠ r60 := Nat.ne_of_lt (Nat.lt_of_lt_of_le f59_6.lt (Nat.le_of_eq g60.symm))
        have ne_r8_r60 : r8 ≠ r60 := Nat.ne_of_lt (Nat.lt_of_lt_of_le f59_7.lt (Nat.le_of_eq g60.symm))
        have ne_o58_r60 : o58 ≠ r60 := Nat.ne_of_lt (Nat.lt_of_lt_of_le f59_8.lt (Nat.le_of_eq g60.symm))
        have ne_tb59_r60 : tb59 ≠ r60 := Nat.ne_of_lt (Nat.lt_of_lt_of_le f59_11.lt (Nat.le_of_eq g60.symm))
        have ge_r60 : n0 ≤ r60 := Nat.le_trans Zs59 (Nat.le_of_eq g60.symm)
        have f60_0 : Arv Z h60 r1 k1 .char (1 : Int32) [(.int c0)] (.int (0 : Int32)) := (f59_0.ext E60)
        have f60_1 : Exa Z h60 o3 "java/lang/String" := (f59_1.ext E60)
        have f60_2 : Fld Z h60 o3 "java/lang/String" "coder" "B" (.int (0 : Int32)) := (f59_2.ext E60)
        have f60_3 : Fld Z h60 o3 "java/lang/String" "value" "[B" (.ref tb4) := (f59_3.ext E60)
        have f60_4 : Arv Z h60 tb4 kb4 .byte (1 : Int32) ((([c0] : List Int32).map (fun c => c.toInt8.toInt32)).map Value.int) (.int (0 : Int32)) := (f59_4.ext E60)
        have f60_5 : Arv Z h60 r5 k5 .char (0 : Int32) [] (.int (0 : Int32)) := (f59_5.ext E60)
        have f60_6 : Arv Z h60 r6 k6 .char (1 : Int32) [(.int c1)] (.int (0 : Int32)) := (f59_6.ext E60)
        have f60_7 : Arv Z h60 r8 k8 .char (2 : Int32) [(.int c2), (.int c3)] (.int (0 : Int32)) := (f59_7.ext E60)
        have f60_8 : Exa Z h60 o58 "java/lang/String" := (f59_8.ext E60)
        have f60_9 : Fld Z h60 o58 "java/lang/String" "coder" "B" (.int (0 : Int32)) := (f59_9.ext E60)
        have f60_10 : Fld Z h60 o58 "java/lang/String" "value" "[B" (.ref tb59) := (f59_10.ext E60)
        have f60_11 : Arv Z h60 tb59 kb59 .byte (2 : Int32) ((([c2, c3] : List Int32).map (fun c => c.toInt8.toInt32)).map Value.int) (.int (0 : Int32)) := (f59_11.ext E60)
        have f60_12 : Arv Z h60 r60 k60 .char (1 : Int32) [(.int (0 : Int32))] (.int (0 : Int32)) := ((Arv.new A60 (by decide)).pad (pad_rep [] (.int (0 : Int32)) 1))
        have sf60_o3 : Safe Z own_EL s.vm h60 o3 := Safe.ext E60 C59.1 sf59_o3
        have sf60_o58 : Safe Z own_EL s.vm h60 o58 := Safe.ext E60 C59.1 sf59_o58
        have hk60 : _ ≤ h60.size := Nat.le_trans hk59 E60.1
        have C60 : CHr Z own_EL s.vm h0 s.vm h60 := C59.trans (CHr.ext E60 C59.1)
        have Zs60 : n0 ≤ h60.size := (Nat.le_trans Zs59 E60.1)
        have O60 : Old Z n0 h60 := O59.ext E60
        refine GoH.step st60 ?_
        show GoH _ _ _ _ _ _ _ _ _ _ T60 (mkF m 143 #[.val (.int p1), .val (.int p2), .val (.int p3), .val (.int p4), .val (.ref r1), .val (.ref o3), .val (.int kd), .val (.ref r5), .val (.ref r6), .val (.ref r8), .val (.ref o58), .unset, .unset, .unset, .unset, .unset, .unset] [(.ref r60)])
        refine GoH.step (fun t k => XS.dup X60.here hx rfl (hb hby at_143) rfl rfl k) ?_
        show GoH _ _ _ _ _ _ _ _ _ _ T60 (mkF m 144 #[.val (.int p1), .val (.int p2), .val (.int p3), .val (.int p4), .val (.ref r1), .val (.ref o3), .val (.int kd), .val (.ref r5), .val (.ref r6), .val (.ref r8), .val (.ref o58), .unset, .unset, .unset, .unset, .unset, .unset] [(.ref r60), (.ref r60)])
        refine GoH.step (fun t k => XS.iconst X60.here hx rfl (hb hby at_144) k) ?_
        show GoH _ _ _ _ _ _ _ _ _ _ T60 (mkF m 145 #[.val (.int p1), .val (.int p2), .val (.int p3), .val (.int p4), .val (.ref r1), .val (.ref o3), .val (.int kd), .val (.ref r5), .val (.ref r6), .val (.ref r8), .val (.ref o58), .unset, .unset, .unset, .unset, .unset, .unset] [(.int (0 : Int32)), (.ref r60), (.ref r60)])
        refine GoH.step (fun t k => XS.iloadN X60.here hx rfl (hb hby at_145) rfl k) ?_
        show GoH _ _ _ _ _ _ _ _ _ _ T60 (mkF m 146 #[.val (.int p1), .val (.int p2), .val (.int p3), .val (.int p4), .val (.ref r1), .val (.ref o3), .val (.int kd), .val (.ref r5), .val (.ref r6), .val (.ref r8), .val (.ref o58), .unset, .unset, .unset, .unset, .unset, .unset] [(.int p3), (.int (0 : Int32)), (.ref r60), (.ref r60)])
        refine GoH.step (fun t k => XS.sipush X60.here hx rfl (hb hby at_146) k) ?_
        show GoH _ _ _ _ _ _ _ _ _ _ T60 (mkF m 149 #[.val (.int p1), .val (.int p2), .val (.int p3), .val (.int p4), .val (.ref r1), .val (.ref o3), .val (.int kd), .val (.ref r5), .val (.ref r6), .val (.ref r8), .val (.ref o58), .unset, .unset, .unset, .unset, .unset, .unset] [(.int (255 : Int32)), (.int p3), (.int (0 : Int32)), (.ref r60), (.ref r60)])
        refine GoH.step (fun t k => XS.iand X60.here hx rfl (hb hby at_149) rfl k) ?_
        show GoH _ _ _ _ _ _ _ _ _ _ T60 (mkF m 150 #[.val (.int p1), .val (.int p2), .val (.int p3), .val (.int p4), .val (.ref r1), .val (.ref o3), .val (.int kd), .val (.ref r5), .val (.ref r6), .val (.ref r8), .val (.ref o58), .unset, .unset, .unset, .unset, .unset, .unset] [(.int (p3 &&& (255 : Int32))), (.int (0 : Int32)), (.ref r60), (.ref r60)])
        refine GoH.step (fun t k => XT.i2c X60.here hx rfl (hb hby at_150) rfl k) ?_
        show GoH _ _ _ _ _ _ _ _ _ _ T60 (mkF m 151 #[.val (.int p1), .val (.int p2), .val (.int p3), .val (.int p4), .val (.ref r1), .val (.ref o3), .val (.int kd), .val (.ref r5), .val (.ref r6), .val (.ref r8), .val (.ref o58), .unset, .unset, .unset, .unset, .unset, .unset] [(.int ((p3 &&& (255 : Int32)).toUInt32.toUInt16.toUInt32.toInt32)), (.int (0 : Int32)), (.ref r60), (.ref r60)])
        generalize hc4 : ((p3 &&& (255 : Int32)).toUInt32.toUInt16.toUInt32.toInt32) = c4
        show GoH _ _ _ _ _ _ _ _ _ _ T60 (mkF m 151 #[.val (.int p1), .val (.int p2), .val (.int p3), .val (.int p4), .val (.ref r1), .val (.ref o3), .val (.int kd), .val (.ref r5), .val (.ref r6), .val (.ref r8), .val (.ref o58), .unset, .unset, .unset, .unset, .unset, .unset] [(.int c4), (.int (0 : Int32)), (.ref r60), (.ref r60)])
        have hc4r : (¬ c4 < 0 ∧ ¬ (255 : Int32) < c4) ∧ nar .char c4 = c4 := by rw [← hc4]; exact own_c255 _
        obtain ⟨c61, Ar61, q61, S61, M61, H61, U61⟩ := id f60_12
        obtain ⟨T61, h61, X61, e61, W61, st61⟩ := stC X60 hx hZ0 e60 Ar61 (j := (0 : Int32)) (inb_of S61 ⟨(by decide), (by decide)⟩) (g := (mkF m 151 #[.val (.int p1), .val (.int p2), .val (.int p3), .val (.int p4), .val (.ref r1), .val (.ref o3), .val (.int kd), .val (.ref r5), .val (.ref r6), .val (.ref r8), .val (.ref o58), .unset, .unset, .unset, .unset, .unset, .unset] [(.int c4), (.int (0 : Int32)), (.ref r60), (.ref r60)])) rfl rfl (hb hby at_151)
        have N61 := Fr.snoc X61 N59 ge_r60
        refine GoH.step st61 ?_
        have f61_0 : Arv Z h61 r1 k1 .char (1 : Int32) [(.int c0)] (.int (0 : Int32)) := (f60_0.other W61 ne_r1_r60)
        have f61_1 : Exa Z h61 o3 "java/lang/String" := (f60_1.wr W61)
        have f61_2 : Fld Z h61 o3 "java/lang/String" "coder" "B" (.int (0 : Int32)) := (f60_2.other W61 (Or.inl ne_o3_r60))
        have f61_3 : Fld Z h61 o3 "java/lang/String" "value" "[B" (.ref tb4) := (f60_3.other W61 (Or.inl ne_o3_r60))
        have f61_4 : Arv Z h61 tb4 kb4 .byte (1 : Int32) ((([c0] : List Int32).map (fun c => c.toInt8.toInt32)).map Value.int) (.int (0 : Int32)) := (f60_4.other W61 ne_tb4_r60)
        have f61_5 : Arv Z h61 r5 k5 .char (0 : Int32) [] (.int (0 : Int32)) := (f60_5.other W61 ne_r5_r60)
        have f61_6 : Arv Z h61 r6 k6 .char (1 : Int32) [(.int c1)] (.int (0 : Int32)) := (f60_6.other W61 ne_r6_r60)
        have f61_7 : Arv Z h61 r8 k8 .char (2 : Int32) [(.int c2), (.int c3)] (.int (0 : Int32)) := (f60_7.other W61 ne_r8_r60)
        have f61_8 : Exa Z h61 o58 "java/lang/String" := (f60_8.wr W61)
        have f61_9 : Fld Z h61 o58 "java/lang/String" "coder" "B" (.int (0 : Int32)) := (f60_9.other W61 (Or.inl ne_o58_r60))
        have f61_10 : Fld Z h61 o58 "java/lang/String" "value" "[B" (.ref tb59) := (f60_10.other W61 (Or.inl ne_o58_r60))
        have f61_11 : Arv Z h61 tb59 kb59 .byte (2 : Int32) ((([c2, c3] : List Int32).map (fun c => c.toInt8.toInt32)).map Value.int) (.int (0 : Int32)) := (f60_11.other W61 ne_tb59_r60)
        have sfw61 : Safe Z own_EL s.vm _ r60 := (Safe.arv hZ0.alike f60_12 (by decide))
        have sf61_o3 : Safe Z own_EL s.vm h61 o3 := Safe.wr W61 sfw61 C60.1 sf60_o3
        have sf61_o58 : Safe Z own_EL s.vm h61 o58 := Safe.wr W61 sfw61 C60.1 sf60_o58
        have hk61 : _ ≤ h61.size := Nat.le_trans hk60 (Keep.of_wr W61).1
        have C61 : CHr Z own_EL s.vm h0 s.vm h61 := C60.trans (CHr.wr W61 sfw61 C60.1)
        have Zs61 : n0 ≤ h61.size := (Nat.le_trans Zs60 (Keep.of_wr W61).1)
        have O61 : Old Z n0 h61 := O60.wr W61 ge_r60
        have fA61 : Arv Z h61 r60 k60 .char (1 : Int32) [(.int c4)] (.int (0 : Int32)) := by have q := (Arv.set Ar61 q61 S61 M61 H61 U61 (fits_nar_char _) W61 0 rfl (Nat.le_of_ble_eq_true rfl)); rw [hc4r.2] at q; exact q
        show GoH _ _ _ _ _ _ _ _ _ _ T61 (mkF m 152 #[.val (.int p1), .val (.int p2), .val (.int p3), .val (.int p4), .val (.ref r1), .val (.ref o3), .val (.int kd), .val (.ref r5), .val (.ref r6), .val (.ref r8), .val (.ref o58), .unset, .unset, .unset, .unset, .unset, .unset] [(.ref r60)])
        refine GoH.step (fun t k => XS.astore X61.here hx rfl (hb hby at_152) rfl rfl (l' := #[.val (.int p1), .val (.int p2), .val (.int p3), .val (.int p4), .val (.ref r1), .val (.ref o3), .val (.int kd), .val (.ref r5), .val (.ref r6), .val (.ref r8), .val (.ref o58), .val (.ref r60), .unset, .unset, .unset, .unset, .unset]) rfl k) ?_
        show GoH _ _ _ _ _ _ _ _ _ _ T61 (mkF m 154 #[.val (.int p1), .val (.int p2), .val (.int p3), .val (.int p4), .val (.ref r1), .val (.ref o3), .val (.int kd), .val (.ref r5), .val (.ref r6), .val (.ref r8), .val (.ref o58), .val (.ref r60), .unset, .unset, .unset, .unset, .unset] [])
        refine GoH.step (fun t k => XS.aconstNull X61.here hx rfl (hb hby at_154) k) ?_
        show GoH _ _ _ _ _ _ _ _ _ _ T61 (mkF m 155 #[.val (.int p1), .val (.int p2), .val (.int p3), .val (.int p4), .val (.ref r1), .val (.ref o3), .val (.int kd), .val (.ref r5), .val (.ref r6), .val (.ref r8), .val (.ref o58), .val (.ref r60), .unset, .unset, .unset, .unset, .unset] [.null])
        refine GoH.step (fun t k => XS.astore X61.here hx rfl (hb hby at_155) rfl rfl (l' := #[.val (.int p1), .val (.int p2), .val (.int p3), .val (.int p4), .val (.ref r1), .val (.ref o3), .val (.int kd), .val (.ref r5), .val (.ref r6), .val (.ref r8), .val (.ref o58), .val (.ref r60), .val .null, .unset, .unset, .unset, .unset]) rfl k) ?_
        show GoH _ _ _ _ _ _ _ _ _ _ T61 (mkF m 157 #[.val (.int p1), .val (.int p2), .val (.int p3), .val (.int p4), .val (.ref r1), .val (.ref o3), .val (.int kd), .val (.ref r5), .val (.ref r6), .val (.ref r8), .val (.ref o58), .val (.ref r60), .val .null, .unset, .unset, .unset, .unset] [])
        refine GoH.step (fun t k => XS.iloadN X61.here hx rfl (hb hby at_157) rfl k) ?_
        show GoH _ _ _ _ _ _ _ _ _ _ T61 (mkF m 158 #[.val (.int p1), .val (.int p2), .val (.int p3), .val (.int p4), .val (.ref r1), .val (.ref o3), .val (.int kd), .val (.ref r5), .val (.ref r6), .val (.ref r8), .val (.ref o58), .val (.ref r60), .val .null, .unset, .unset, .unset, .unset] [(.int p4)])
        refine GoH.step (fun t k => XS.iconst X61.here hx rfl (hb hby at_158) k) ?_
        show GoH _ _ _ _ _ _ _ _ _ _ T61 (mkF m 159 #[.val (.int p1), .val (.int p2), .val (.int p3), .val (.int p4), .val (.ref r1), .val (.ref o3), .val (.int kd), .val (.ref r5), .val (.ref r6), .val (.ref r8), .val (.ref o58), .val (.ref r60), .val .null, .unset, .unset, .unset, .unset] [(.int (2 : Int32)), (.int p4)])
        refine GoH.step (fun t k => XS.iand X61.here hx rfl (hb hby at_159) rfl k) ?_
        show GoH _ _ _ _ _ _ _ _ _ _ T61 (mkF m 160 #[.val (.int p1), .val (.int p2), .val (.int p3), .val (.int p4), .val (.ref r1), .val (.ref o3), .val (.int kd), .val (.ref r5), .val (.ref r6), .val (.ref r8), .val (.ref o58), .val (.ref r60), .val .null, .unset, .unset, .unset, .unset] [(.int (p4 &&& (2 : Int32)))])
        by_cases hb160_62 : (p4 &&& (2 : Int32)) = (0 : Int32)
        · refine GoH.step (fun t k => XS.ifYes X61.here hx rfl (pc0 := 160) (pc' := 174) rfl (hb hby at_160) rfl (XT.i0_eq_t hb160_62) (by decide) (by decide) k) ?_
          show GoH _ _ _ _ _ _ _ _ _ _ T61 (mkF m 174 #[.val (.int p1), .val (.int p2), .val (.int p3), .val (.int p4), .val (.ref r1), .val (.ref o3), .val (.int kd), .val (.ref r5), .val (.ref r6), .val (.ref r8), .val (.ref o58), .val (.ref r60), .val .null, .unset, .unset, .unset, .unset] [])
          have hkk : ¬ (kd = (0 : Int32)) := by rw [hb126_57]; decide
          exact sg174_0 l Z a0 hw p1 p2 p3 p4 G1 h0 n0 Z0 O0 S_COMPACT P_COMPACT r1 o3 kd r5 r6 r8 o58 r60 (X61.mono (by decide) (by decide)) hx hby hlk hml hret hnm e61 N61 Zs61 O61 hS0 hk61 hZ0 hown0 hEL C61 hkk
        · refine GoH.step (fun t k => XS.ifNo X61.here hx rfl (hb hby at_160) rfl (XT.i0_eq_f hb160_62) k) ?_
          show GoH _ _ _ _ _ _ _ _ _ _ T61 (mkF m 163 #[.val (.int p1), .val (.int p2), .val (.int p3), .val (.int p4), .val (.ref r1), .val (.ref o3), .val (.int kd), .val (.ref r5), .val (.ref r6), .val (.ref r8), .val (.ref o58), .val (.ref r60), .val .null, .unset, .unset, .unset, .unset] [])
          obtain ⟨T63, h63, X63, e63, E63, A63, D63, -, st63⟩ := newO X61 hx hZ0 hown0 (hw _ (List.mem_of_getElem? (i := 1) rfl)) (hw _ (List.mem_of_getElem? (i := 2) rfl)) (hw _ (List.mem_of_getElem? (i := 3) rfl)) e61 (g := (mkF m 163 #[.val (.int p1), .val (.int p2), .val (.int p3), .val (.int p4), .val (.ref r1), .val (.ref o3), .val (.int kd), .val (.ref r5), .val (.ref r6), .val (.ref r8), .val (.ref o58), .val (.ref r60), .val .null, .unset, .unset, .unset, .unset] [])) rfl (hb hby at_163) (by decide) (by decide)
          obtain ⟨o63, g63⟩ : ∃ z, z = h61.size := ⟨_, rfl⟩
          rw [← g63] at A63 D63 st63
          have ne_r1_o63 : r1 ≠ o63 := Nat.ne_of_lt (Nat.lt_of_lt_of_le f61_0.lt (Nat.le_of_eq g63.symm))
          have ne_o3_o63 : o3 ≠ o63 := Nat.ne_of_lt (Nat.lt_of_lt_of_le f61_1.lt (Nat.le_of_eq g63.symm))
          have ne_tb4_o63 : tb4 ≠ o63 := Nat.ne_of_lt (Nat.lt_of_lt_of_le f61_4.lt (Nat.le_of_eq g63.symm))
          have ne_r5_o63 : r5 ≠ o63 := Nat.ne_of_lt (Nat.lt_of_lt_of_le f61_5.lt (Nat.le_of_eq g63.symm))
          have ne_r6_o63 : r6 ≠ o63 := Nat.ne_of_lt (Nat.lt_of_lt_of_le f61_6.lt (Nat.le_of_eq g63.symm))
          have ne_r8_o63 : r8 ≠ o63 := Nat.ne_of_lt (Nat.lt_of_lt_of_le f61_7.lt (Nat.le_of_eq g63.symm))
          have ne_o58_o63 : o58 ≠ o63 := Nat.ne_of_lt (Nat.lt_of_lt_of_le f61_8.lt (Nat.le_of_eq g63.symm))
          have ne_tb59_o63 : tb59 ≠ o63 := Nat.ne_of_lt (Nat.lt_of_lt_of_le f61_11.lt (Nat.le_of_eq g63.symm))
          have ne_r60_o63 : r60 ≠ o63 := Nat.ne_of_lt (Nat.lt_of_lt_of_le fA61.lt (Nat.le_of_eq g63.symm))
          have ge_o63 : n0 ≤ o63 := Nat.le_trans Zs61 (Nat.le_of_eq g63.symm)
          have f63_0 : Arv Z h63 r1 k1 .char (1 : Int32) [(.int c0)] (.int (0 : Int32)) := (f61_0.ext E63)
          have f63_1 : Exa Z h63 o3 "java/lang/String" := (f61_1.ext E63)
          have f63_2 : Fld Z h63 o3 "java/lang/String" "coder" "B" (.int (0 : Int32)) := (f61_2.ext E63)
          have f63_3 : Fld Z h63 o3 "java/lang/String" "value" "[B" (.ref tb4) := (f61_3.ext E63)
          have f63_4 : Arv Z h63 tb4 kb4 .byte (1 : Int32) ((([c0] : List Int32).map (fun c => c.toInt8.toInt32)).map Value.int) (.int (0 : Int32)) := (f61_4.ext E63)
          have f63_5 : Arv Z h63 r5 k5 .char (0 : Int32) [] (.int (0 : Int32)) := (f61_5.ext E63)
          have f63_6 : Arv Z h63 r6 k6 .char (1 : Int32) [(.int c1)] (.int (0 : Int32)) := (f61_6.ext E63)
          have f63_7 : Arv Z h63 r8 k8 .char (2 : Int32) [(.int c2), (.int c3)] (.int (0 : Int32)) := (f61_7.ext E63)
          have f63_8 : Exa Z h63 o58 "java/lang/String" := (f61_8.ext E63)
          have f63_9 : Fld Z h63 o58 "java/lang/String" "coder" "B" (.int (0 : Int32)) := (f61_9.ext E63)
          have f63_10 : Fld Z h63 o58 "java/lang/String" "value" "[B" (.ref tb59) := (f61_10.ext E63)
          have f63_11 : Arv Z h63 tb59 kb59 .byte (2 : Int32) ((([c2, c3] : List Int32).map (fun c => c.toInt8.toInt32)).map Value.int) (.int (0 : Int32)) := (f61_11.ext E63)
          have f63_12 : Arv Z h63 r60 k60 .char (1 : Int32) [(.int c4)] (.int (0 : Int32)) := (fA61.ext E63)
          have f63_13 : Exa Z h63 o63 "java/lang/String" := A63
          have f63_14 : Fld Z h63 o63 "java/lang/String" "coder" "B" (.int (0 : Int32)) := (D63 (Or.inr (hw _ (List.mem_of_getElem? (i := 27) rfl))) (ty := .byte) (by decide))
          have f63_15 : Fld Z h63 o63 "java/lang/String" "value" "[B" .null := (D63 (Or.inr (hw _ (List.mem_of_getElem? (i := 29) rfl))) (ty := (.array .byte)) (by decide))
          have sf63_o3 : Safe Z own_EL s.vm h63 o3 := Safe.ext E63 C61.1 sf61_o3
          have sf63_o58 : Safe Z own_EL s.vm h63 o58 := Safe.ext E63 C61.1 sf61_o58
          have sf63_o63 : Safe Z own_EL s.vm h63 o63 := Safe.ext E63 C61.1 (Safe.new (Nat.le_of_eq g63.symm))
          have hk63 : _ ≤ h63.size := Nat.le_trans hk61 E63.1
          have C63 : CHr Z own_EL s.vm h0 s.vm h63 := C61.trans (CHr.ext E63 C61.1)
          have Zs63 : n0 ≤ h63.size := (Nat.le_trans Zs61 E63.1)
          have O63 : Old Z n0 h63 := O61.ext E63
          refine GoH.step st63 ?_
          show GoH _ _ _ _ _ _ _ _ _ _ T63 (mkF m 166 #[.val (.int p1), .val (.int p2), .val (.int p3), .val (.int p4), .val (.ref r1), .val (.ref o3), .val (.int kd), .val (.ref r5), .val (.ref r6), .val (.ref r8), .val (.ref o58), .val (.ref r60), .val .null, .unset, .unset, .unset, .unset] [(.ref o63)])
          refine GoH.step (fun t k => XS.dup X63.here hx rfl (hb hby at_166) rfl rfl k) ?_
          show GoH _ _ _ _ _ _ _ _ _ _ T63 (mkF m 167 #[.val (.int p1), .val (.int p2), .val (.int p3), .val (.int p4), .val (.ref r1), .val (.ref o3), .val (.int kd), .val (.ref r5), .val (.ref r6), .val (.ref r8), .val (.ref o58), .val (.ref r60), .val .null, .unset, .unset, .unset, .unset] [(.ref o63), (.ref o63)])
          refine GoH.step (fun t k => XS.aload X63.here hx rfl (hb hby at_167) rfl rfl k) ?_
          show GoH _ _ _ _ _ _ _ _ _ _ T63 (mkF m 169 #[.val (.int p1), .val (.int p2), .val (.int p3), .val (.int p4), .val (.ref r1), .val (.ref o3), .val (.int kd), .val (.ref r5), .val (.ref r6), .val (.ref r8), .val (.ref o58), .val (.ref r60), .val .null, .unset, .unset, .unset, .unset] [(.ref r60), (.ref o63), (.ref o63)])
          have hp64 : ∀ c ∈ ([c4] : List Int32), ¬ c < 0 ∧ ¬ (255 : Int32) < c := by
            intro c hc
            simp only [List.mem_cons, List.not_mem_nil, or_false] at hc
            rcases hc with rfl
            · exact hc4r.1
          obtain ⟨_, _, ⟨T64, L64, k64, n64⟩, -, X64, ⟨Lc64, hQ64, l64, y64, z64⟩, st64⟩ := X63.specialBack hx (y := (⟨"java/lang/String", "<init>", "([C)V"⟩ : MethodName)) rfl hown0 (mvT hZ0 (hw _ (List.mem_of_getElem? (i := 4) rfl))) (mvT hZ0 (hw _ (List.mem_of_getElem? (i := 5) rfl))) (mvT hZ0 (hw _ (List.mem_of_getElem? (i := 6) rfl))) (by decide) (StrChars.Road.backV (W := 1) hZ0 (own_words hw) (kI := 4) (hw _ (List.mem_of_getElem? (i := 2) rfl)) (cs := ([c4] : List Int32)) (bs := ([c4] : List Int32).map (fun c => c.toInt8.toInt32)) (n := 1) ge_o63 Zs63 f63_13 f63_15 f63_14 f63_12 (S_COMPACT.ext O63.2) P_COMPACT rfl rfl (by decide) (by decide) hp64 rfl (by decide) (by decide)) (g := (mkF m 169 #[.val (.int p1), .val (.int p2), .val (.int p3), .val (.int p4), .val (.ref r1), .val (.ref o3), .val (.int kd), .val (.ref r5), .val (.ref r6), .val (.ref r8), .val (.ref o58), .val (.ref r60), .val .null, .unset, .unset, .unset, .unset] [(.ref r60), (.ref o63), (.ref o63)])) rfl (by rw [hml]; rfl) (Steps.refl _) (a := o63) (argsL := [(.ref r60)]) (rest := [(.ref o63)]) (lenOf pd_3 rfl) rfl (by show 2 * 0 + _ ≤ _; exact Nat.le_of_eq rfl) (hb hby at_169) (fun _ _ => ⟨rfl, e63, (by decide : 0 + 1 + 1 + 1 + 1 + 1 + 1 + 1 + 1 + 1 + 1 + 1 ≤ _), (by decide : 0 + 1 + 4 + 1 + 0 + 1 + 2 + 4 + 2 + 1 + 4 + 1 ≤ _)⟩)
          dsimp only [Pt.U, Pt.locs, Pt.cells, Pt.slots] at X64 l64 y64 z64 st64 hQ64
          subst l64 y64 z64
          obtain ⟨rfl, N64q, Kq64, Eq64, Cq64, tb64, kb64, u64, v64, w64, Vq64, Aq64⟩ := hQ64
          have N64 := Fr.app N61 N64q
          have ne_r1_tb64 : r1 ≠ tb64 := Nat.ne_of_lt (Nat.lt_of_lt_of_le f63_0.lt v64)
          have ne_o3_tb64 : o3 ≠ tb64 := Nat.ne_of_lt (Nat.lt_of_lt_of_le f63_1.lt v64)
          have ne_tb4_tb64 : tb4 ≠ tb64 := Nat.ne_of_lt (Nat.lt_of_lt_of_le f63_4.lt v64)
          have ne_r5_tb64 : r5 ≠ tb64 := Nat.ne_of_lt (Nat.lt_of_lt_of_le f63_5.lt v64)
          have ne_r6_tb64 : r6 ≠ tb64 := Nat.ne_of_lt (Nat.lt_of_lt_of_le f63_6.lt v64)
          have ne_r8_tb64 : r8 ≠ tb64 := Nat.ne_of_lt (Nat.lt_of_lt_of_le f63_7.lt v64)
          have ne_o58_tb64 : o58 ≠ tb64 := Nat.ne_of_lt (Nat.lt_of_lt_of_le f63_8.lt v64)
          have ne_tb59_tb64 : tb59 ≠ tb64 := Nat.ne_of_lt (Nat.lt_of_lt_of_le f63_11.lt v64)
          have ne_r60_tb64 : r60 ≠ tb64 := Nat.ne_of_lt (Nat.lt_of_lt_of_le f63_12.lt v64)
          have ne_o63_tb64 : o63 ≠ tb64 := Nat.ne_of_lt (Nat.lt_of_lt_of_le f63_13.lt v64)
          have f64_0 : Arv Z T64.heap r1 k1 .char (1 : Int32) [(.int c0)] (.int (0 : Int32)) := (f63_0.keep Kq64 (ninS ne_r1_o63 nin0))
          have f64_1 : Exa Z T64.heap o3 "java/lang/String" := (f63_1.keep Kq64)
          have f64_2 : Fld Z T64.heap o3 "java/lang/String" "coder" "B" (.int (0 : Int32)) := (f63_2.keep Kq64 (ninS ne_o3_o63 nin0))
          have f64_3 : Fld Z T64.heap o3 "java/lang/String" "value" "[B" (.ref tb4) := (f63_3.keep Kq64 (ninS ne_o3_o63 nin0))
          have f64_4 : Arv Z T64.heap tb4 kb4 .byte (1 : Int32) ((([c0] : List Int32).map (fun c => c.toInt8.toInt32)).map Value.int) (.int (0 : Int32)) := (f63_4.keep Kq64 (ninS ne_tb4_o63 nin0))
          have f64_5 : Arv Z T64.heap r5 k5 .char (0 : Int32) [] (.int (0 : Int32)) := (f63_5.keep Kq64 (ninS ne_r5_o63 nin0))
          have f64_6 : Arv Z T64.heap r6 k6 .char (1 : Int32) [(.int c1)] (.int (0 : Int32)) := (f63_6.keep Kq64 (ninS ne_r6_o63 nin0))
          have f64_7 : Arv Z T64.heap r8 k8 .char (2 : Int32) [(.int c2), (.int c3)] (.int (0 : Int32)) := (f63_7.keep Kq64 (ninS ne_r8_o63 nin0))
          have f64_8 : Exa Z T64.heap o58 "java/lang/String" := (f63_8.keep Kq64)
          have f64_9 : Fld Z T64.heap o58 "java/lang/String" "coder" "B" (.int (0 : Int32)) := (f63_9.keep Kq64 (ninS ne_o58_o63 nin0))
          have f64_10 : Fld Z T64.heap o58 "java/lang/String" "value" "[B" (.ref tb59) := (f63_10.keep Kq64 (ninS ne_o58_o63 nin0))
          have f64_11 : Arv Z T64.heap tb59 kb59 .byte (2 : Int32) ((([c2, c3] : List Int32).map (fun c => c.toInt8.toInt32)).map Value.int) (.int (0 : Int32)) := (f63_11.keep Kq64 (ninS ne_tb59_o63 nin0))
          have f64_12 : Arv Z T64.heap r60 k60 .char (1 : Int32) [(.int c4)] (.int (0 : Int32)) := (f63_12.keep Kq64 (ninS ne_r60_o63 nin0))
          have f64_13 : Exa Z T64.heap o63 "java/lang/String" := Eq64
          have f64_14 : Fld Z T64.heap o63 "java/lang/String" "coder" "B" (.int (0 : Int32)) := Cq64
          have f64_15 : Fld Z T64.heap o63 "java/lang/String" "value" "[B" (.ref tb64) := Vq64
          have f64_16 : Arv Z T64.heap tb64 kb64 .byte (1 : Int32) ((([c4] : List Int32).map (fun c => c.toInt8.toInt32)).map Value.int) (.int (0 : Int32)) := Aq64
          have sfk64 : ∀ x ∈ ([o63] : List Addr), Safe Z own_EL s.vm h63 x := (sfS sf63_o63 sf0)
          have sf64_o3 : Safe Z own_EL s.vm T64.heap o3 := Safe.keep Kq64 sfk64 C63.1 sf63_o3
          have sf64_o58 : Safe Z own_EL s.vm T64.heap o58 := Safe.keep Kq64 sfk64 C63.1 sf63_o58
          have sf64_o63 : Safe Z own_EL s.vm T64.heap o63 := Safe.keep Kq64 sfk64 C63.1 sf63_o63
          have hk64 : _ ≤ T64.heap.size := Nat.le_trans hk63 Kq64.1
          have C64 : CHr Z own_EL s.vm h0 s.vm T64.heap := C63.trans (CHr.keep Kq64 sfk64 C63.1)
          have Zs64 : n0 ≤ T64.heap.size := (Nat.le_trans Zs63 Kq64.1)
          have O64 : Old Z n0 T64.heap := O63.keep Kq64 (allS ge_o63 all0)
          refine GoH.step (fun t k => st64.trans k) ?_
          show GoH _ _ _ _ _ _ _ _ _ _ T64 (mkF m 172 #[.val (.int p1), .val (.int p2), .val (.int p3), .val (.int p4), .val (.ref r1), .val (.ref o3), .val (.int kd), .val (.ref r5), .val (.ref r6), .val (.ref r8), .val (.ref o58), .val (.ref r60), .val .null, .unset, .unset, .unset, .unset] [(.ref o63)])
          refine GoH.step (fun t k => XS.astore X64.here hx rfl (hb hby at_172) rfl rfl (l' := #[.val (.int p1), .val (.int p2), .val (.int p3), .val (.int p4), .val (.ref r1), .val (.ref o3), .val (.int kd), .val (.ref r5), .val (.ref r6), .val (.ref r8), .val (.ref o58), .val (.ref r60), .val (.ref o63), .unset, .unset, .unset, .unset]) rfl k) ?_
          show GoH _ _ _ _ _ _ _ _ _ _ T64 (mkF m 174 #[.val (.int p1), .val (.int p2), .val (.int p3), .val (.int p4), .val (.ref r1), .val (.ref o3), .val (.int kd), .val (.ref r5), .val (.ref r6), .val (.ref r8), .val (.ref o58), .val (.ref r60), .val (.ref o63), .unset, .unset, .unset, .unset] [])
          have hkk : ¬ (kd = (0 : Int32)) := by rw [hb126_57]; decide
          exact sg174_1 l Z a0 hw p1 p2 p3 p4 G1 h0 n0 Z0 O0 S_COMPACT P_COMPACT r1 o3 kd r5 r6 r8 o58 r60 o63 (X64.mono (by decide) (by decide)) hx hby hlk hml hret hnm rfl N64 Zs64 O64 hS0 hk64 hZ0 hown0 hEL C64 hkk
      · refine GoH.step (fun t k => XS.icmpYes X10.here hx rfl (pc0 := 126) (pc' := 140) rfl (hb hby at_126) rfl (XT.ii_ne_t hb126_57) (by decide) (by decide) k) ?_
        show GoH _ _ _ _ _ _ _ _ _ _ T10 (mkF m 140 #[.val (.int p1), .val (.int p2), .val (.int p3), .val (.int p4), .val (.ref r1), .val (.ref o3), .val (.int kd), .val (.ref r5), .val (.ref r6), .val (.ref r8), .val .null, .unset, .unset, .unset, .unset, .unset, .unset] [])
        refine GoH.step (fun t k => XS.iconst X10.here hx rfl (hb hby at_140) k) ?_
        show GoH _ _ _ _ _ _ _ _ _ _ T10 (mkF m 141 #[.val (.int p1), .val (.int p2), .val (.int p3), .val (.int p4), .val (.ref r1), .val (.ref o3), .val (.int kd), .val (.ref r5), .val (.ref r6), .val (.ref r8), .val .null, .unset, .unset, .unset, .unset, .unset, .unset] [(.int (1 : Int32))])
        obtain ⟨T65, h65, k65, X65, e65, E65, A65, st65⟩ := newP X10 hx hZ0 (hw _ (List.mem_of_getElem? (i := 0) rfl)) e10 (g := (mkF m 141 #[.val (.int p1), .val (.int p2), .val (.int p3), .val (.int p4), .val (.ref r1), .val (.ref o3), .val (.int kd), .val (.ref r5), .val (.ref r6), .val (.ref r8), .val .null, .unset, .unset, .unset, .unset, .unset, .unset] [(.int (1 : Int32))])) rfl (hb hby at_141) rfl (by decide) (cap := 1) (by decide) (by decide) (by decide) (by decide)
        obtain ⟨r65, g65⟩ : ∃ z, z = h10.size := ⟨_, rfl⟩
        rw [← g65] at A65 st65
        have ne_r1_r65 : r1 ≠ r65 := Nat.ne_of_lt (Nat.lt_of_lt_of_le f10_0.lt (Nat.le_of_eq g65.symm))
        have ne_o3_r65 : o3 ≠ r65 := Nat.ne_of_lt (Nat.lt_of_lt_of_le f10_1.lt (Nat.le_of_eq g65.symm))
        have ne_tb4_r65 : tb4 ≠ r65 := Nat.ne_of_lt (Nat.lt_of_lt_of_le f10_4.lt (Nat.le_of_eq g65.symm))
        have ne_r5_r65 : r5 ≠ r65 := Nat.ne_of_lt (Nat.lt_of_lt_of_le f10_5.lt (Nat.le_of_eq g65.symm))
        have ne_r6_r65 : r6 ≠ r65 := Nat.ne_of_lt (Nat.lt_of_lt_of_le f10_6.lt (Nat.le_of_eq g65.symm))
        have ne_r8_r65 : r8 ≠ r65 := Nat.ne_of_lt (Nat.lt_of_lt_of_le fA10.lt (Nat.le_of_eq g65.symm))
        have ge_r65 : n0 ≤ r65 := Nat.le_trans Zs10 (Nat.le_of_eq g65.symm)
        have f65_0 : Arv Z h65 r1 k1 .char (1 : Int32) [(.int c0)] (.int (0 : Int32)) := (f10_0.ext E65)
        have f65_1 : Exa Z h65 o3 "java/lang/String" := (f10_1.ext E65)
        have f65_2 : Fld Z h65 o3 "java/lang/String" "coder" "B" (.int (0 : Int32)) := (f10_2.ext E65)
        have f65_3 : Fld Z h65 o3 "java/lang/String" "value" "[B" (.ref tb4) := (f10_3.ext E65)
        have f65_4 : Arv Z h65 tb4 kb4 .byte (1 : Int32) ((([c0] : List Int32).map (fun c => c.toInt8.toInt32)).map Value.int) (.int (0 : Int32)) := (f10_4.ext E65)
        have f65_5 : Arv Z h65 r5 k5 .char (0 : Int32) [] (.int (0 : Int32)) := (f10_5.ext E65)
        have f65_6 : Arv Z h65 r6 k6 .char (1 : Int32) [(.int c1)] (.int (0 : Int32)) := (f10_6.ext E65)
        have f65_7 : Arv Z h65 r8 k8 .char (2 : Int32) [(.int c2), (.int c3)] (.int (0 : Int32)) := (fA10.ext E65)
        have f65_8 : Arv Z h65 r65 k65 .char (1 : Int32) [(.int (0 : Int32))] (.int (0 : Int32)) := ((Arv.new A65 (by decide)).pad (pad_rep [] (.int (0 : Int32)) 1))
        have sf65_o3 : Safe Z own_EL s.vm h65 o3 := Safe.ext E65 C10.1 sf10_o3
        have hk65 : _ ≤ h65.size := Nat.le_trans hk10 E65.1
        have C65 : CHr Z own_EL s.vm h0 s.vm h65 := C10.trans (CHr.ext E65 C10.1)
        have Zs65 : n0 ≤ h65.size := (Nat.le_trans Zs10 E65.1)
        have O65 : Old Z n0 h65 := O10.ext E65
        refine GoH.step st65 ?_
        show GoH _ _ _ _ _ _ _ _ _ _ T65 (mkF m 143 #[.val (.int p1), .val (.int p2), .val (.int p3), .val (.int p4), .val (.ref r1), .val (.ref o3), .val (.int kd), .val (.ref r5), .val (.ref r6), .val (.ref r8), .val .null, .unset, .unset, .unset, .unset, .unset, .unset] [(.ref r65)])
        refine GoH.step (fun t k => XS.dup X65.here hx rfl (hb hby at_143) rfl rfl k) ?_
        show GoH _ _ _ _ _ _ _ _ _ _ T65 (mkF m 144 #[.val (.int p1), .val (.int p2), .val (.int p3), .val (.int p4), .val (.ref r1), .val (.ref o3), .val (.int kd), .val (.ref r5), .val (.ref r6), .val (.ref r8), .val .null, .unset, .unset, .unset, .unset, .unset, .unset] [(.ref r65), (.ref r65)])
        refine GoH.step (fun t k => XS.iconst X65.here hx rfl (hb hby at_144) k) ?_
        show GoH _ _ _ _ _ _ _ _ _ _ T65 (mkF m 145 #[.val (.int p1), .val (.int p2), .val (.int p3), .val (.int p4), .val (.ref r1), .val (.ref o3), .val (.int kd), .val (.ref r5), .val (.ref r6), .val (.ref r8), .val .null, .unset, .unset, .unset, .unset, .unset, .unset] [(.int (0 : Int32)), (.ref r65), (.ref r65)])
        refine GoH.step (fun t k => XS.iloadN X65.here hx rfl (hb hby at_145) rfl k) ?_
        show GoH _ _ _ _ _ _ _ _ _ _ T65 (mkF m 146 #[.val (.int p1), .val (.int p2), .val (.int p3), .val (.int p4), .val (.ref r1), .val (.ref o3), .val (.int kd), .val (.ref r5), .val (.ref r6), .val (.ref r8), .val .null, .unset, .unset, .unset, .unset, .unset, .unset] [(.int p3), (.int (0 : Int32)), (.ref r65), (.ref r65)])
        refine GoH.step (fun t k => XS.sipush X65.here hx rfl (hb hby at_146) k) ?_
        show GoH _ _ _ _ _ _ _ _ _ _ T65 (mkF m 149 #[.val (.int p1), .val (.int p2), .val (.int p3), .val (.int p4), .val (.ref r1), .val (.ref o3), .val (.int kd), .val (.ref r5), .val (.ref r6), .val (.ref r8), .val .null, .unset, .unset, .unset, .unset, .unset, .unset] [(.int (255 : Int32)), (.int p3), (.int (0 : Int32)), (.ref r65), (.ref r65)])
        refine GoH.step (fun t k => XS.iand X65.here hx rfl (hb hby at_149) rfl k) ?_
        show GoH _ _ _ _ _ _ _ _ _ _ T65 (mkF m 150 #[.val (.int p1), .val (.int p2), .val (.int p3), .val (.int p4), .val (.ref r1), .val (.ref o3), .val (.int kd), .val (.ref r5), .val (.ref r6), .val (.ref r8), .val .null, .unset, .unset, .unset, .unset, .unset, .unset] [(.int (p3 &&& (255 : Int32))), (.int (0 : Int32)), (.ref r65), (.ref r65)])
        refine GoH.step (fun t k => XT.i2c X65.here hx rfl (hb hby at_150) rfl k) ?_
        show GoH _ _ _ _ _ _ _ _ _ _ T65 (mkF m 151 #[.val (.int p1), .val (.int p2), .val (.int p3), .val (.int p4), .val (.ref r1), .val (.ref o3), .val (.int kd), .val (.ref r5), .val (.ref r6), .val (.ref r8), .val .null, .unset, .unset, .unset, .unset, .unset, .unset] [(.int ((p3 &&& (255 : Int32)).toUInt32.toUInt16.toUInt32.toInt32)), (.int (0 : Int32)), (.ref r65), (.ref r65)])
        generalize hc4 : ((p3 &&& (255 : Int32)).toUInt32.toUInt16.toUInt32.toInt32) = c4
        show GoH _ _ _ _ _ _ _ _ _ _ T65 (mkF m 151 #[.val (.int p1), .val (.int p2), .val (.int p3), .val (.int p4), .val (.ref r1), .val (.ref o3), .val (.int kd), .val (.ref r5), .val (.ref r6), .val (.ref r8), .val .null, .unset, .unset, .unset, .unset, .unset, .unset] [(.int c4), (.int (0 : Int32)), (.ref r65), (.ref r65)])
        have hc4r : (¬ c4 < 0 ∧ ¬ (255 : Int32) < c4) ∧ nar .char c4 = c4 := by rw [← hc4]; exact own_c255 _
        obtain ⟨c66, Ar66, q66, S66, M66, H66, U66⟩ := id f65_8
        obtain ⟨T66, h66, X66, e66, W66, st66⟩ := stC X65 hx hZ0 e65 Ar66 (j := (0 : Int32)) (inb_of S66 ⟨(by decide), (by decide)⟩) (g := (mkF m 151 #[.val (.int p1), .val (.int p2), .val (.int p3), .val (.int p4), .val (.ref r1), .val (.ref o3), .val (.int kd), .val (.ref r5), .val (.ref r6), .val (.ref r8), .val .null, .unset, .unset, .unset, .unset, .unset, .unset] [(.int c4), (.int (0 : Int32)), (.ref r65), (.ref r65)])) rfl rfl (hb hby at_151)
        have N66 := Fr.snoc X66 N10 ge_r65
        refine GoH.step st66 ?_
        have f66_0 : Arv Z h66 r1 k1 .char (1 : Int32) [(.int c0)] (.int (0 : Int32)) := (f65_0.other W66 ne_r1_r65)
        have f66_1 : Exa Z h66 o3 "java/lang/String" := (f65_1.wr W66)
        have f66_2 : Fld Z h66 o3 "java/lang/String" "coder" "B" (.int (0 : Int32)) := (f65_2.other W66 (Or.inl ne_o3_r65))
        have f66_3 : Fld Z h66 o3 "java/lang/String" "value" "[B" (.ref tb4) := (f65_3.other W66 (Or.inl ne_o3_r65))
        have f66_4 : Arv Z h66 tb4 kb4 .byte (1 : Int32) ((([c0] : List Int32).map (fun c => c.toInt8.toInt32)).map Value.int) (.int (0 : Int32)) := (f65_4.other W66 ne_tb4_r65)
        have f66_5 : Arv Z h66 r5 k5 .char (0 : Int32) [] (.int (0 : Int32)) := (f65_5.other W66 ne_r5_r65)
        have f66_6 : Arv Z h66 r6 k6 .char (1 : Int32) [(.int c1)] (.int (0 : Int32)) := (f65_6.other W66 ne_r6_r65)
        have f66_7 : Arv Z h66 r8 k8 .char (2 : Int32) [(.int c2), (.int c3)] (.int (0 : Int32)) := (f65_7.other W66 ne_r8_r65)
        have sfw66 : Safe Z own_EL s.vm _ r65 := (Safe.arv hZ0.alike f65_8 (by decide))
        have sf66_o3 : Safe Z own_EL s.vm h66 o3 := Safe.wr W66 sfw66 C65.1 sf65_o3
        have hk66 : _ ≤ h66.size := Nat.le_trans hk65 (Keep.of_wr W66).1
        have C66 : CHr Z own_EL s.vm h0 s.vm h66 := C65.trans (CHr.wr W66 sfw66 C65.1)
        have Zs66 : n0 ≤ h66.size := (Nat.le_trans Zs65 (Keep.of_wr W66).1)
        have O66 : Old Z n0 h66 := O65.wr W66 ge_r65
        have fA66 : Arv Z h66 r65 k65 .char (1 : Int32) [(.int c4)] (.int (0 : Int32)) := by have q := (Arv.set Ar66 q66 S66 M66 H66 U66 (fits_nar_char _) W66 0 rfl (Nat.le_of_ble_eq_true rfl)); rw [hc4r.2] at q; exact q
        show GoH _ _ _ _ _ _ _ _ _ _ T66 (mkF m 152 #[.val (.int p1), .val (.int p2), .val (.int p3), .val (.int p4), .val (.ref r1), .val (.ref o3), .val (.int kd), .val (.ref r5), .val (.ref r6), .val (.ref r8), .val .null, .unset, .unset, .unset, .unset, .unset, .unset] [(.ref r65)])
        refine GoH.step (fun t k => XS.astore X66.here hx rfl (hb hby at_152) rfl rfl (l' := #[.val (.int p1), .val (.int p2), .val (.int p3), .val (.int p4), .val (.ref r1), .val (.ref o3), .val (.int kd), .val (.ref r5), .val (.ref r6), .val (.ref r8), .val .null, .val (.ref r65), .unset, .unset, .unset, .unset, .unset]) rfl k) ?_
        show GoH _ _ _ _ _ _ _ _ _ _ T66 (mkF m 154 #[.val (.int p1), .val (.int p2), .val (.int p3), .val (.int p4), .val (.ref r1), .val (.ref o3), .val (.int kd), .val (.ref r5), .val (.ref r6), .val (.ref r8), .val .null, .val (.ref r65), .unset, .unset, .unset, .unset, .unset] [])
        refine GoH.step (fun t k => XS.aconstNull X66.here hx rfl (hb hby at_154) k) ?_
        show GoH _ _ _ _ _ _ _ _ _ _ T66 (mkF m 155 #[.val (.int p1), .val (.int p2), .val (.int p3), .val (.int p4), .val (.ref r1), .val (.ref o3), .val (.int kd), .val (.ref r5), .val (.ref r6), .val (.ref r8), .val .null, .val (.ref r65), .unset, .unset, .unset, .unset, .unset] [.null])
        refine GoH.step (fun t k => XS.astore X66.here hx rfl (hb hby at_155) rfl rfl (l' := #[.val (.int p1), .val (.int p2), .val (.int p3), .val (.int p4), .val (.ref r1), .val (.ref o3), .val (.int kd), .val (.ref r5), .val (.ref r6), .val (.ref r8), .val .null, .val (.ref r65), .val .null, .unset, .unset, .unset, .unset]) rfl k) ?_
        show GoH _ _ _ _ _ _ _ _ _ _ T66 (mkF m 157 #[.val (.int p1), .val (.int p2), .val (.int p3), .val (.int p4), .val (.ref r1), .val (.ref o3), .val (.int kd), .val (.ref r5), .val (.ref r6), .val (.ref r8), .val .null, .val (.ref r65), .val .null, .unset, .unset, .unset, .unset] [])
        refine GoH.step (fun t k => XS.iloadN X66.here hx rfl (hb hby at_157) rfl k) ?_
        show GoH _ _ _ _ _ _ _ _ _ _ T66 (mkF m 158 #[.val (.int p1), .val (.int p2), .val (.int p3), .val (.int p4), .val (.ref r1), .val (.ref o3), .val (.int kd), .val (.ref r5), .val (.ref r6), .val (.ref r8), .val .null, .val (.ref r65), .val .null, .unset, .unset, .unset, .unset] [(.int p4)])
        refine GoH.step (fun t k => XS.iconst X66.here hx rfl (hb hby at_158) k) ?_
        show GoH _ _ _ _ _ _ _ _ _ _ T66 (mkF m 159 #[.val (.int p1), .val (.int p2), .val (.int p3), .val (.int p4), .val (.ref r1), .val (.ref o3), .val (.int kd), .val (.ref r5), .val (.ref r6), .val (.ref r8), .val .null, .val (.ref r65), .val .null, .unset, .unset, .unset, .unset] [(.int (2 : Int32)), (.int p4)])
        refine GoH.step (fun t k => XS.iand X66.here hx rfl (hb hby at_159) rfl k) ?_
        show GoH _ _ _ _ _ _ _ _ _ _ T66 (mkF m 160 #[.val (.int p1), .val (.int p2), .val (.int p3), .val (.int p4), .val (.ref r1), .val (.ref o3), .val (.int kd), .val (.ref r5), .val (.ref r6), .val (.ref r8), .val .null, .val (.ref r65), .val .null, .unset, .unset, .unset, .unset] [(.int (p4 &&& (2 : Int32)))])
        by_cases hb160_67 : (p4 &&& (2 : Int32)) = (0 : Int32)
        · refine GoH.step (fun t k => XS.ifYes X66.here hx rfl (pc0 := 160) (pc' := 174) rfl (hb hby at_160) rfl (XT.i0_eq_t hb160_67) (by decide) (by decide) k) ?_
          show GoH _ _ _ _ _ _ _ _ _ _ T66 (mkF m 174 #[.val (.int p1), .val (.int p2), .val (.int p3), .val (.int p4), .val (.ref r1), .val (.ref o3), .val (.int kd), .val (.ref r5), .val (.ref r6), .val (.ref r8), .val .null, .val (.ref r65), .val .null, .unset, .unset, .unset, .unset] [])
          have hkk : kd = (0 : Int32) := own_k3 _ _ hkd hb86_11 hb106_49 hb126_57
          exact sg174_2 l Z a0 hw p1 p2 p3 p4 G1 h0 n0 Z0 O0 S_COMPACT P_COMPACT r1 o3 kd r5 r6 r8 r65 (X66.mono (by decide) (by decide)) hx hby hlk hml hret hnm e66 N66 Zs66 O66 hS0 hk66 hZ0 hown0 hEL C66 hkk
        · refine GoH.step (fun t k => XS.ifNo X66.here hx rfl (hb hby at_160) rfl (XT.i0_eq_f hb160_67) k) ?_
          show GoH _ _ _ _ _ _ _ _ _ _ T66 (mkF m 163 #[.val (.int p1), .val (.int p2), .val (.int p3), .val (.int p4), .val (.ref r1), .val (.ref o3), .val (.int kd), .val (.ref r5), .val (.ref r6), .val (.ref r8), .val .null, .val (.ref r65), .val .null, .unset, .unset, .unset, .unset] [])
          obtain ⟨T79, h79, X79, e79, E79, A79, D79, -, st79⟩ := newO X66 hx hZ0 hown0 (hw _ (List.mem_of_getElem? (i := 1) rfl)) (hw _ (List.mem_of_getElem? (i := 2) rfl)) (hw _ (List.mem_of_getElem? (i := 3) rfl)) e66 (g := (mkF m 163 #[.val (.int p1), .val (.int p2), .val (.int p3), .val (.int p4), .val (.ref r1), .val (.ref o3), .val (.int kd), .val (.ref r5), .val (.ref r6), .val (.ref r8), .val .null, .val (.ref r65), .val .null, .unset, .unset, .unset, .unset] [])) rfl (hb hby at_163) (by decide) (by decide)
          obtain ⟨o79, g79⟩ : ∃ z, z = h66.size := ⟨_, rfl⟩
          rw [← g79] at A79 D79 st79
          have ne_r1_o79 : r1 ≠ o79 := Nat.ne_of_lt (Nat.lt_of_lt_of_le f66_0.lt (Nat.le_of_eq g79.symm))
          have ne_o3_o79 : o3 ≠ o79 := Nat.ne_of_lt (Nat.lt_of_lt_of_le f66_1.lt (Nat.le_of_eq g79.symm))
          have ne_tb4_o79 : tb4 ≠ o79 := Nat.ne_of_lt (Nat.lt_of_lt_of_le f66_4.lt (Nat.le_of_eq g79.symm))
          have ne_r5_o79 : r5 ≠ o79 := Nat.ne_of_lt (Nat.lt_of_lt_of_le f66_5.lt (Nat.le_of_eq g79.symm))
          have ne_r6_o79 : r6 ≠ o79 := Nat.ne_of_lt (Nat.lt_of_lt_of_le f66_6.lt (Nat.le_of_eq g79.symm))
          have ne_r8_o79 : r8 ≠ o79 := Nat.ne_of_lt (Nat.lt_of_lt_of_le f66_7.lt (Nat.le_of_eq g79.symm))
          have ne_r65_o79 : r65 ≠ o79 := Nat.ne_of_lt (Nat.lt_of_lt_of_le fA66.lt (Nat.le_of_eq g79.symm))
          have ge_o79 : n0 ≤ o79 := Nat.le_trans Zs66 (Nat.le_of_eq g79.symm)
          have f79_0 : Arv Z h79 r1 k1 .char (1 : Int32) [(.int c0)] (.int (0 : Int32)) := (f66_0.ext E79)
          have f79_1 : Exa Z h79 o3 "java/lang/String" := (f66_1.ext E79)
          have f79_2 : Fld Z h79 o3 "java/lang/String" "coder" "B" (.int (0 : Int32)) := (f66_2.ext E79)
          have f79_3 : Fld Z h79 o3 "java/lang/String" "value" "[B" (.ref tb4) := (f66_3.ext E79)
          have f79_4 : Arv Z h79 tb4 kb4 .byte (1 : Int32) ((([c0] : List Int32).map (fun c => c.toInt8.toInt32)).map Value.int) (.int (0 : Int32)) := (f66_4.ext E79)
          have f79_5 : Arv Z h79 r5 k5 .char (0 : Int32) [] (.int (0 : Int32)) := (f66_5.ext E79)
          have f79_6 : Arv Z h79 r6 k6 .char (1 : Int32) [(.int c1)] (.int (0 : Int32)) := (f66_6.ext E79)
          have f79_7 : Arv Z h79 r8 k8 .char (2 : Int32) [(.int c2), (.int c3)] (.int (0 : Int32)) := (f66_7.ext E79)
          have f79_8 : Arv Z h79 r65 k65 .char (1 : Int32) [(.int c4)] (.int (0 : Int32)) := (fA66.ext E79)
          have f79_9 : Exa Z h79 o79 "java/lang/String" := A79
          have f79_10 : Fld Z h79 o79 "java/lang/String" "coder" "B" (.int (0 : Int32)) := (D79 (Or.inr (hw _ (List.mem_of_getElem? (i := 27) rfl))) (ty := .byte) (by decide))
          have f79_11 : Fld Z h79 o79 "java/lang/String" "value" "[B" .null := (D79 (Or.inr (hw _ (List.mem_of_getElem? (i := 29) rfl))) (ty := (.array .byte)) (by decide))
          have sf79_o3 : Safe Z own_EL s.vm h79 o3 := Safe.ext E79 C66.1 sf66_o3
          have sf79_o79 : Safe Z own_EL s.vm h79 o79 := Safe.ext E79 C66.1 (Safe.new (Nat.le_of_eq g79.symm))
          have hk79 : _ ≤ h79.size := Nat.le_trans hk66 E79.1
          have C79 : CHr Z own_EL s.vm h0 s.vm h79 := C66.trans (CHr.ext E79 C66.1)
          have Zs79 : n0 ≤ h79.size := (Nat.le_trans Zs66 E79.1)
          have O79 : Old Z n0 h79 := O66.ext E79
          refine GoH.step st79 ?_
          show GoH _ _ _ _ _ _ _ _ _ _ T79 (mkF m 166 #[.val (.int p1), .val (.int p2), .val (.int p3), .val (.int p4), .val (.ref r1), .val (.ref o3), .val (.int kd), .val (.ref r5), .val (.ref r6), .val (.ref r8), .val .null, .val (.ref r65), .val .null, .unset, .unset, .unset, .unset] [(.ref o79)])
          refine GoH.step (fun t k => XS.dup X79.here hx rfl (hb hby at_166) rfl rfl k) ?_
          show GoH _ _ _ _ _ _ _ _ _ _ T79 (mkF m 167 #[.val (.int p1), .val (.int p2), .val (.int p3), .val (.int p4), .val (.ref r1), .val (.ref o3), .val (.int kd), .val (.ref r5), .val (.ref r6), .val (.ref r8), .val .null, .val (.ref r65), .val .null, .unset, .unset, .unset, .unset] [(.ref o79), (.ref o79)])
          refine GoH.step (fun t k => XS.aload X79.here hx rfl (hb hby at_167) rfl rfl k) ?_
          show GoH _ _ _ _ _ _ _ _ _ _ T79 (mkF m 169 #[.val (.int p1), .val (.int p2), .val (.int p3), .val (.int p4), .val (.ref r1), .val (.ref o3), .val (.int kd), .val (.ref r5), .val (.ref r6), .val (.ref r8), .val .null, .val (.ref r65), .val .null, .unset, .unset, .unset, .unset] [(.ref r65), (.ref o79), (.ref o79)])
          have hp80 : ∀ c ∈ ([c4] : List Int32), ¬ c < 0 ∧ ¬ (255 : Int32) < c := by
            intro c hc
            simp only [List.mem_cons, List.not_mem_nil, or_false] at hc
            rcases hc with rfl
            · exact hc4r.1
          obtain ⟨_, _, ⟨T80, L80, k80, n80⟩, -, X80, ⟨Lc80, hQ80, l80, y80, z80⟩, st80⟩ := X79.specialBack hx (y := (⟨"java/lang/String", "<init>", "([C)V"⟩ : MethodName)) rfl hown0 (mvT hZ0 (hw _ (List.mem_of_getElem? (i := 4) rfl))) (mvT hZ0 (hw _ (List.mem_of_getElem? (i := 5) rfl))) (mvT hZ0 (hw _ (List.mem_of_getElem? (i := 6) rfl))) (by decide) (StrChars.Road.backV (W := 1) hZ0 (own_words hw) (kI := 4) (hw _ (List.mem_of_getElem? (i := 2) rfl)) (cs := ([c4] : List Int32)) (bs := ([c4] : List Int32).map (fun c => c.toInt8.toInt32)) (n := 1) ge_o79 Zs79 f79_9 f79_11 f79_10 f79_8 (S_COMPACT.ext O79.2) P_COMPACT rfl rfl (by decide) (by decide) hp80 rfl (by decide) (by decide)) (g := (mkF m 169 #[.val (.int p1), .val (.int p2), .val (.int p3), .val (.int p4), .val (.ref r1), .val (.ref o3), .val (.int kd), .val (.ref r5), .val (.ref r6), .val (.ref r8), .val .null, .val (.ref r65), .val .null, .unset, .unset, .unset, .unset] [(.ref r65), (.ref o79), (.ref o79)])) rfl (by rw [hml]; rfl) (Steps.refl _) (a := o79) (argsL := [(.ref r65)]) (rest := [(.ref o79)]) (lenOf pd_3 rfl) rfl (by show 2 * 0 + _ ≤ _; exact Nat.le_of_eq rfl) (hb hby at_169) (fun _ _ => ⟨rfl, e79, (by decide : 0 + 1 + 1 + 1 + 1 + 1 + 1 + 1 + 1 + 1 ≤ _), (by decide : 0 + 1 + 4 + 1 + 0 + 1 + 2 + 1 + 4 + 1 ≤ _)⟩)
          dsimp only [Pt.U, Pt.locs, Pt.cells, Pt.slots] at X80 l80 y80 z80 st80 hQ80
          subst l80 y80 z80
          obtain ⟨rfl, N80q, Kq80, Eq80, Cq80, tb80, kb80, u80, v80, w80, Vq80, Aq80⟩ := hQ80
          have N80 := Fr.app N66 N80q
          have ne_r1_tb80 : r1 ≠ tb80 := Nat.ne_of_lt (Nat.lt_of_lt_of_le f79_0.lt v80)
          have ne_o3_tb80 : o3 ≠ tb80 := Nat.ne_of_lt (Nat.lt_of_lt_of_le f79_1.lt v80)
          have ne_tb4_tb80 : tb4 ≠ tb80 := Nat.ne_of_lt (Nat.lt_of_lt_of_le f79_4.lt v80)
          have ne_r5_tb80 : r5 ≠ tb80 := Nat.ne_of_lt (Nat.lt_of_lt_of_le f79_5.lt v80)
          have ne_r6_tb80 : r6 ≠ tb80 := Nat.ne_of_lt (Nat.lt_of_lt_of_le f79_6.lt v80)
          have ne_r8_tb80 : r8 ≠ tb80 := Nat.ne_of_lt (Nat.lt_of_lt_of_le f79_7.lt v80)
          have ne_r65_tb80 : r65 ≠ tb80 := Nat.ne_of_lt (Nat.lt_of_lt_of_le f79_8.lt v80)
          have ne_o79_tb80 : o79 ≠ tb80 := Nat.ne_of_lt (Nat.lt_of_lt_of_le f79_9.lt v80)
          have f80_0 : Arv Z T80.heap r1 k1 .char (1 : Int32) [(.int c0)] (.int (0 : Int32)) := (f79_0.keep Kq80 (ninS ne_r1_o79 nin0))
          have f80_1 : Exa Z T80.heap o3 "java/lang/String" := (f79_1.keep Kq80)
          have f80_2 : Fld Z T80.heap o3 "java/lang/String" "coder" "B" (.int (0 : Int32)) := (f79_2.keep Kq80 (ninS ne_o3_o79 nin0))
          have f80_3 : Fld Z T80.heap o3 "java/lang/String" "value" "[B" (.ref tb4) := (f79_3.keep Kq80 (ninS ne_o3_o79 nin0))
          have f80_4 : Arv Z T80.heap tb4 kb4 .byte (1 : Int32) ((([c0] : List Int32).map (fun c => c.toInt8.toInt32)).map Value.int) (.int (0 : Int32)) := (f79_4.keep Kq80 (ninS ne_tb4_o79 nin0))
          have f80_5 : Arv Z T80.heap r5 k5 .char (0 : Int32) [] (.int (0 : Int32)) := (f79_5.keep Kq80 (ninS ne_r5_o79 nin0))
          have f80_6 : Arv Z T80.heap r6 k6 .char (1 : Int32) [(.int c1)] (.int (0 : Int32)) := (f79_6.keep Kq80 (ninS ne_r6_o79 nin0))
          have f80_7 : Arv Z T80.heap r8 k8 .char (2 : Int32) [(.int c2), (.int c3)] (.int (0 : Int32)) := (f79_7.keep Kq80 (ninS ne_r8_o79 nin0))
          have f80_8 : Arv Z T80.heap r65 k65 .char (1 : Int32) [(.int c4)] (.int (0 : Int32)) := (f79_8.keep Kq80 (ninS ne_r65_o79 nin0))
          have f80_9 : Exa Z T80.heap o79 "java/lang/String" := Eq80
          have f80_10 : Fld Z T80.heap o79 "java/lang/String" "coder" "B" (.int (0 : Int32)) := Cq80
          have f80_11 : Fld Z T80.heap o79 "java/lang/String" "value" "[B" (.ref tb80) := Vq80
          have f80_12 : Arv Z T80.heap tb80 kb80 .byte (1 : Int32) ((([c4] : List Int32).map (fun c => c.toInt8.toInt32)).map Value.int) (.int (0 : Int32)) := Aq80
          have sfk80 : ∀ x ∈ ([o79] : List Addr), Safe Z own_EL s.vm h79 x := (sfS sf79_o79 sf0)
          have sf80_o3 : Safe Z own_EL s.vm T80.heap o3 := Safe.keep Kq80 sfk80 C79.1 sf79_o3
          have sf80_o79 : Safe Z own_EL s.vm T80.heap o79 := Safe.keep Kq80 sfk80 C79.1 sf79_o79
          have hk80 : _ ≤ T80.heap.size := Nat.le_trans hk79 Kq80.1
          have C80 : CHr Z own_EL s.vm h0 s.vm T80.heap := C79.trans (CHr.keep Kq80 sfk80 C79.1)
          have Zs80 : n0 ≤ T80.heap.size := (Nat.le_trans Zs79 Kq80.1)
          have O80 : Old Z n0 T80.heap := O79.keep Kq80 (allS ge_o79 all0)
          refine GoH.step (fun t k => st80.trans k) ?_
          show GoH _ _ _ _ _ _ _ _ _ _ T80 (mkF m 172 #[.val (.int p1), .val (.int p2), .val (.int p3), .val (.int p4), .val (.ref r1), .val (.ref o3), .val (.int kd), .val (.ref r5), .val (.ref r6), .val (.ref r8), .val .null, .val (.ref r65), .val .null, .unset, .unset, .unset, .unset] [(.ref o79)])
          refine GoH.step (fun t k => XS.astore X80.here hx rfl (hb hby at_172) rfl rfl (l' := #[.val (.int p1), .val (.int p2), .val (.int p3), .val (.int p4), .val (.ref r1), .val (.ref o3), .val (.int kd), .val (.ref r5), .val (.ref r6), .val (.ref r8), .val .null, .val (.ref r65), .val (.ref o79), .unset, .unset, .unset, .unset]) rfl k) ?_
          show GoH _ _ _ _ _ _ _ _ _ _ T80 (mkF m 174 #[.val (.int p1), .val (.int p2), .val (.int p3), .val (.int p4), .val (.ref r1), .val (.ref o3), .val (.int kd), .val (.ref r5), .val (.ref r6), .val (.ref r8), .val .null, .val (.ref r65), .val (.ref o79), .unset, .unset, .unset, .unset] [])
          have hkk : kd = (0 : Int32) := own_k3 _ _ hkd hb86_11 hb106_49 hb126_57
          exact sg174_3 l Z a0 hw p1 p2 p3 p4 G1 h0 n0 Z0 O0 S_COMPACT P_COMPACT r1 o3 kd r5 r6 r8 r65 o79 (X80.mono (by decide) (by decide)) hx hby hlk hml hret hnm rfl N80 Zs80 O80 hS0 hk80 hZ0 hown0 hEL C80 hkk
set_option maxRecDepth 65536 in
set_option maxHeartbeats 40000000 in
theorem comes_1 {Post : Tables → Env → Array Value → State → Outcome → State → Prop} (hpost : ∀ tb e args s v u, (limb_1_1.after args s (.returned v) u = true ∧ limb_1_2.after args s (.returned v) u = true ∧ True) → ReturnedEndW s (.returned v) u (Jvm.fieldLocs frame_1_writes args s ++ Jvm.arrayLocs frame_1_arrays args s ++ Jvm.staticLocs frame_1_statics s) 40 1216 → Post tb e args s (.returned v) u) :
    ArmFor flags0 classFile x code maxLocals ret World_1 tables_1 room_1 Calls_1 rest_1 Pre_1 Post := by
  intro l hfl _ _ p e ha hc hk s m args below hf hA hF happ hP
  obtain ⟨hcalls, hrest, hpre⟩ := hP
  obtain ⟨-, -, -, hnamed, -, -, -, hat⟩ := (Spec.applies_iff hf).mp happ
  obtain ⟨hg, hn⟩ := and_e (Cond.before_iff.mp (show (Jvm.Cond.and given_1 narrow_1).before args s = true from hpre))
  obtain ⟨gc, gA0⟩ := and_e hg
  obtain ⟨gi0, gA1⟩ := and_e gA0
  obtain ⟨gi1, gA2⟩ := and_e gA1
  obtain ⟨gi2, gA3⟩ := and_e gA2
  obtain ⟨w0, w1, w2, w3, rfl⟩ : ∃ w0 w1 w2 w3 : Value, args = #[w0, w1, w2, w3] := by
    have hs : args.size = 4 := by simpa [Cond.value, given_1] using gc
    obtain ⟨L⟩ := args
    match L, hs with
    | [w0, w1, w2, w3], _ => exact ⟨w0, w1, w2, w3, rfl⟩
  have hw := fun d (hd : d ∈ tables_1) => atoms_spec (ws := Jvm.Cond.code x code maxLocals ret :: tables_1) hat d (List.mem_cons_of_mem _ hd)
  have hfit : Fit s := fun {y c} hc i hi => by
    obtain ⟨ha, rfl⟩ := Array.getElem?_eq_some_iff.mp hc
    have q := List.all_eq_true.mp ((Array.all_eq_true_iff_forall_mem.mp hF) _ (Array.getElem_mem ha)) i (List.mem_range.mpr hi)
    simpa [Array.getElem?_eq_getElem hi] using q
  obtain ⟨i0, ei0⟩ := is_v gi0
  obtain rfl : w0 = (.int i0) := Option.some.inj ei0
  obtain ⟨i1, ei1⟩ := is_v gi1
  obtain rfl : w1 = (.int i1) := Option.some.inj ei1
  obtain ⟨i2, ei2⟩ := is_v gi2
  obtain rfl : w2 = (.int i2) := Option.some.inj ei2
  obtain ⟨i3, ei3⟩ := is_v gA3
  obtain rfl : w3 = (.int i3) := Option.some.inj ei3
  obtain ⟨hsets, hown0⟩ := atoms_of _ (rest_1_c_eq ▸ (show rest_1_c.before _ s = true from hrest))
  have nCS := not_v (Cond.before_iff.mp (hsets _ (List.mem_of_getElem? (i := 2) rfl)))
  have hcompact : Jvm.Lit.compactW.before _ s = true := hsets _ (List.mem_of_getElem? (i := 2) rfl)
  obtain ⟨iCS, eCS⟩ := is_v (Cond.before_iff.mp (hsets _ (List.mem_of_getElem? (i := 1) rfl)))
  have S_COMPACT : Sta s s.heap "java/lang/String" "COMPACT_STRINGS" "Z" (.int iCS) := Sta.start eCS (Or.inl (hsets _ (List.mem_of_getElem? (i := 0) rfl)))
  have P_COMPACT : ¬ (iCS = (0 : Int32)) := gotF (Cond.eq_ints eCS (Term.int_eval (0))) nCS
  obtain ⟨n, o, h1, h2, h3, _, L, rfl, ⟨rfl, N⟩, -, hq⟩ := rm0 l s _ hw tables_1 i0 i1 i2 i3 iCS s.heap s.heap.size (Nat.le_refl _) (Old.start s) S_COMPACT P_COMPACT p e ha hc hk s m _ below hf ((Spec.applies_iff_loose hf).mp happ).1 ⟨rfl, State.Warmed39.refl s, rfl, (CHv.start (own_EW hw) (fun p hp => hcalls.1 p hp) hcompact (hw _ (List.mem_of_getElem? (i := 19) rfl)) (hw _ (List.mem_of_getElem? (i := 2) rfl)))⟩ trivial
  refine ⟨n, _, h1, h2, h3, hpost _ _ _ _ _ _ ⟨Cond.after_iff.mpr rfl, Cond.after_iff.mpr (eq_i res_at (Term.int_eval (1)) rfl), trivial⟩ ⟨hq.1, hq.2.1, hq.2.2.1, (hq.2.2.2.sift fun y hy => Or.inr (N y hy)).mono (by decide) (by decide)⟩⟩
theorem main_1_1 : Claimed_1_1 := comes_1 fun _ _ _ _ _ _ h hF => ⟨h.1, hF⟩
theorem main_1_2 : Claimed_1_2 := comes_1 fun _ _ _ _ _ _ h hF => ⟨h.2.1, hF⟩
end Jvm.Pilot.@@N@@
namespace Jvm.Pilot.@@N@@
open Jvm Jvm.ClassFile Sem Op Lib Jvm.Free Jvm.Stand Jvm.Pilot.@@N@@.Jvm.D
/-! MADE BY PROGRAM (witnessworld.py) out of the Statement's table words and the real class files: 21 classes; the members and pool entries that the words name. The judged class is class 1, her method 1. -/
namespace start1
open Jvm.ClassFile
def u (s : String) : CpInfo := .utf8 (stringToUtf16 s)
/-- a pool by its gaps: so many unusable entries, then the entry; so many at the end -/
def gap : Nat → List CpInfo → List CpInfo
  | 0, r => r
  | n + 1, r => .unusable :: gap n r
def poolList (es : List (Nat × CpInfo)) (last : Nat) : List CpInfo := es.foldr (fun e r => gap e.1 (e.2 :: r)) (gap last [])
def pool (es : List (Nat × CpInfo)) (last : Nat) : Array CpInfo := ⟨poolList es last⟩
def fileOf (pool : Array CpInfo) (this : Nat) (attrs : Array Attribute := #[]) (ms : Array MethodInfo := #[]) (fl : Nat := 33) (sup : Nat := 0) (ifs : Array Nat := #[]) (fds : Array FieldInfo := #[]) : ClassFile where
  minorVersion := 0
  majorVersion := 65
  constantPool := pool
  accessFlags := fl
  thisClass := this
  superClass := sup
  interfaces := ifs
  fields := fds
  methods := ms
  attributes := attrs
def plain (name : String) (sup : Option ClassId) : Class where
  name := name
  kind := .ordinary
  loader := none
  accessFlags := 33
  super := sup
  interfaces := #[]
  cf := none
  fields := #[]
  methods := #[]
  instanceTypes := #[]
  staticTypes := #[]
  resolved := #[]
  callSites := []
  init := .initialized
  statics := none
  mirror := none

def pool0 : Array CpInfo := pool [(5, u "<init>"), (0, u "()V"), (1, .class_ 10), (1, u "java/lang/Object")] 113

def k0c0 : Code := { maxStack := 0, maxLocals := 1, code := object_method_1_code, exceptionTable := #[], attributes := #[] }
def k0m0 : Method := { name := "<init>", desc := "()V", sig := { parameters := [], returnType := none }, accessFlags := 1, code := some k0c0 }
/-- java/lang/Object -/
def k0 : Class := { plain "java/lang/Object" none with
  accessFlags := 33
  interfaces := #[]
  cf := some (fileOf pool0 8 #[] #[{ accessFlags := 1, nameIndex := 5, descriptorIndex := 6, attributes := #[] }] 33 0 #[] #[])
  fields := #[]
  methods := #[k0m0]
  instanceTypes := #[]
  staticTypes := #[]
  resolved := Array.replicate 124 none
  statics := none }

def pool1 : Array CpInfo := pool [(2, .class_ 4), (1, u "java/lang/Object"), (0, u "<init>"), (0, u "()V"), (0, .class_ 8), (0, u "java/lang/String"), (0, .methodref 7 10), (0, .nameAndType 5 11), (0, u "([C)V"), (0, .class_ 13), (0, u "com/example/grab1/grab1/cli/Command$Option"), (0, .methodref 12 15), (0, .nameAndType 5 16), (0, u "(Ljava/lang/String;Ljava/lang/String;Ljava/lang/String;Z)V"), (0, .methodref 12 18), (0, .nameAndType 19 20), (0, u "isFlag"), (0, u "()Z"), (0, .methodref 12 22), (0, .nameAndType 23 24), (0, u "flag"), (0, u "(Ljava/lang/String;)Lcom/example/grab1/grab1/cli/Command$Option;"), (0, .methodref 12 26), (0, .nameAndType 27 28), (0, u "optional"), (0, u "(Ljava/lang/String;Ljava/lang/String;)Lcom/example/grab1/grab1/cli/Command$Option;"), (0, .class_ 30), (0, u "com/example/grab1/grab1/cli/OptionIsFlagPinLaw"), (2, u "law"), (0, u "(IIII)Z")] 9

def k1m0 : Method := { name := "<init>", desc := "()V", sig := { parameters := [], returnType := none }, accessFlags := 1, code := none }
def k1c1 : Code := { maxStack := 6, maxLocals := 17, code := code, exceptionTable := #[], attributes := #[] }
def k1m1 : Method := { name := "law", desc := "(IIII)Z", sig := { parameters := [.int, .int, .int, .int], returnType := some .boolean }, accessFlags := 9, code := some k1c1 }
/-- com/example/grab1/grab1/cli/OptionIsFlagPinLaw -/
def k1 : Class := { plain "com/example/grab1/grab1/cli/OptionIsFlagPinLaw" (some 0) with
  accessFlags := 49
  interfaces := #[]
  cf := some (fileOf pool1 29 #[] #[{ accessFlags := 1, nameIndex := 5, descriptorIndex := 6, attributes := #[] }, { accessFlags := 9, nameIndex := 33, descriptorIndex := 34, attributes := #[] }] 49 2 #[] #[])
  fields := #[]
  methods := #[k1m0, k1m1]
  instanceTypes := #[]
  staticTypes := #[]
  resolved := Array.replicate 44 none
  statics := none }

def pool2 : Array CpInfo := pool [(1, .class_ 2), (0, u "java/io/Serializable"), (0, .class_ 4), (0, u "java/lang/Object")] 2

/-- java/io/Serializable -/
def k2 : Class := { plain "java/io/Serializable" (some 0) with
  accessFlags := 1537
  interfaces := #[]
  cf := some (fileOf pool2 1 #[] #[] 1537 3 #[] #[])
  fields := #[]
  methods := #[]
  instanceTypes := #[]
  staticTypes := #[]
  resolved := Array.replicate 7 none
  statics := none }

def pool3 : Array CpInfo := pool [(1, .class_ 2), (0, u "java/lang/Comparable"), (0, .class_ 4), (0, u "java/lang/Object")] 7

/-- java/lang/Comparable -/
def k3 : Class := { plain "java/lang/Comparable" (some 0) with
  accessFlags := 1537
  interfaces := #[]
  cf := some (fileOf pool3 1 #[] #[] 1537 3 #[] #[])
  fields := #[]
  methods := #[]
  instanceTypes := #[]
  staticTypes := #[]
  resolved := Array.replicate 12 none
  statics := none }

def pool4 : Array CpInfo := pool [(2, .class_ 4), (1, u "java/lang/CharSequence"), (42, .class_ 48), (0, u "java/lang/CharSequence$1CodePointIterator"), (10, .class_ 60), (0, u "java/lang/CharSequence$1CharIterator"), (5, .class_ 67), (0, u "java/lang/Object")] 63

/-- java/lang/CharSequence -/
def k4 : Class := { plain "java/lang/CharSequence" (some 0) with
  accessFlags := 1537
  interfaces := #[]
  cf := some (fileOf pool4 2 #[.nestMembers #[47, 59]] #[] 1537 66 #[] #[])
  fields := #[]
  methods := #[]
  instanceTypes := #[]
  staticTypes := #[]
  resolved := Array.replicate 131 none
  statics := none }

def pool5 : Array CpInfo := pool [(1, .class_ 2), (0, u "java/lang/constant/Constable"), (0, .class_ 4), (0, u "java/lang/Object")] 6

/-- java/lang/constant/Constable -/
def k5 : Class := { plain "java/lang/constant/Constable" (some 0) with
  accessFlags := 1537
  interfaces := #[]
  cf := some (fileOf pool5 1 #[] #[] 1537 3 #[] #[])
  fields := #[]
  methods := #[]
  instanceTypes := #[]
  staticTypes := #[]
  resolved := Array.replicate 11 none
  statics := none }

def pool6 : Array CpInfo := pool [(1, .class_ 2), (0, u "java/lang/constant/ConstantDesc"), (0, .class_ 4), (0, u "java/lang/Object")] 32

/-- java/lang/constant/ConstantDesc -/
def k6 : Class := { plain "java/lang/constant/ConstantDesc" (some 0) with
  accessFlags := 1537
  interfaces := #[]
  cf := some (fileOf pool6 1 #[] #[] 1537 3 #[] #[])
  fields := #[]
  methods := #[]
  instanceTypes := #[]
  staticTypes := #[]
  resolved := Array.replicate 37 none
  statics := none }

def pool7 : Array CpInfo := pool [(1, .methodref 2 3), (0, .class_ 4), (0, .nameAndType 5 6), (0, u "java/lang/Object"), (0, u "<init>"), (0, u "()V"), (0, .string 8), (0, u ""), (0, .fieldref 10 11), (0, .class_ 12), (0, .nameAndType 13 14), (0, u "java/lang/String"), (0, u "value"), (0, u "[B"), (0, .fieldref 10 16), (0, .nameAndType 17 18), (0, u "coder"), (0, u "B"), (2, u "hash"), (0, u "I"), (2, u "hashIsZero"), (0, u "Z"), (0, .methodref 10 28), (0, .nameAndType 5 29), (0, u "([CIILjava/lang/Void;)V"), (8, .fieldref 10 39), (0, .nameAndType 40 26), (0, u "COMPACT_STRINGS"), (1, .class_ 44), (1, u "java/lang/StringUTF16"), (0, u "compress"), (1, .methodref 42 48), (0, .nameAndType 49 50), (0, u "coderFromArrayLen"), (0, u "([BI)B"), (126, .methodref 42 178), (0, .nameAndType 45 179), (0, u "([CII)[B"), (395, .class_ 576), (0, u "java/lang/CharSequence"), (22, u "CASE_INSENSITIVE_ORDER"), (0, u "Ljava/util/Comparator;"), (409, u "([C)V"), (90, u "serialPersistentFields"), (0, u "[Ljava/io/ObjectStreamField;"), (0, .class_ 1104), (0, u "java/lang/String$CaseInsensitiveComparator"), (1, .class_ 1107), (0, u "java/io/Serializable"), (0, .class_ 1109), (0, u "java/lang/Comparable"), (0, .class_ 1111), (0, u "java/lang/constant/Constable"), (0, .class_ 1113), (0, u "java/lang/constant/ConstantDesc"), (2, u "serialVersionUID"), (0, u "J"), (3, u "REPL"), (0, u "C"), (2, u "LATIN1"), (1, u "UTF16")] 323

def k7m0 : Method := { name := "<init>", desc := "()V", sig := { parameters := [], returnType := none }, accessFlags := 1, code := none }
def k7c1 : Code := { maxStack := 5, maxLocals := 2, code := jdk_42_method_3_code, exceptionTable := #[], attributes := #[] }
def k7m1 : Method := { name := "<init>", desc := "([C)V", sig := { parameters := [(.array .char)], returnType := none }, accessFlags := 1, code := some k7c1 }
def k7c2 : Code := { maxStack := 4, maxLocals := 6, code := jdk_42_method_149_code, exceptionTable := #[], attributes := #[] }
def k7m2 : Method := { name := "<init>", desc := "([CIILjava/lang/Void;)V", sig := { parameters := [(.array .char), .int, .int, (.object "java/lang/Void")], returnType := none }, accessFlags := 2, code := some k7c2 }
/-- java/lang/String -/
def k7 : Class := { plain "java/lang/String" (some 0) with
  accessFlags := 49
  interfaces := #[2, 3, 4, 5, 6]
  cf := some (fileOf pool7 10 #[.nestMembers #[1103]] #[{ accessFlags := 1, nameIndex := 5, descriptorIndex := 6, attributes := #[] }, { accessFlags := 1, nameIndex := 5, descriptorIndex := 1010, attributes := #[] }, { accessFlags := 2, nameIndex := 5, descriptorIndex := 29, attributes := #[] }] 49 2 #[1106, 1108, 575, 1110, 1112] #[{ accessFlags := 18, nameIndex := 13, descriptorIndex := 14, attributes := #[] }, { accessFlags := 18, nameIndex := 17, descriptorIndex := 18, attributes := #[] }, { accessFlags := 2, nameIndex := 21, descriptorIndex := 22, attributes := #[] }, { accessFlags := 2, nameIndex := 25, descriptorIndex := 26, attributes := #[] }, { accessFlags := 26, nameIndex := 1116, descriptorIndex := 1117, attributes := #[] }, { accessFlags := 24, nameIndex := 40, descriptorIndex := 26, attributes := #[] }, { accessFlags := 26, nameIndex := 1101, descriptorIndex := 1102, attributes := #[] }, { accessFlags := 26, nameIndex := 1121, descriptorIndex := 1122, attributes := #[] }, { accessFlags := 25, nameIndex := 599, descriptorIndex := 600, attributes := #[] }, { accessFlags := 24, nameIndex := 1125, descriptorIndex := 18, attributes := #[] }, { accessFlags := 24, nameIndex := 1127, descriptorIndex := 18, attributes := #[] }])
  fields := #[{ name := "value", type := (.array .byte), accessFlags := 18, slot := 0, constantValue := 0 }, { name := "coder", type := .byte, accessFlags := 18, slot := 1, constantValue := 0 }, { name := "hash", type := .int, accessFlags := 2, slot := 2, constantValue := 0 }, { name := "hashIsZero", type := .boolean, accessFlags := 2, slot := 3, constantValue := 0 }, { name := "serialVersionUID", type := .long, accessFlags := 26, slot := 0, constantValue := 0 }, { name := "COMPACT_STRINGS", type := .boolean, accessFlags := 24, slot := 1, constantValue := 0 }, { name := "serialPersistentFields", type := (.array (.object "java/io/ObjectStreamField")), accessFlags := 26, slot := 2, constantValue := 0 }, { name := "REPL", type := .char, accessFlags := 26, slot := 3, constantValue := 0 }, { name := "CASE_INSENSITIVE_ORDER", type := (.object "java/util/Comparator"), accessFlags := 25, slot := 4, constantValue := 0 }, { name := "LATIN1", type := .byte, accessFlags := 24, slot := 5, constantValue := 0 }, { name := "UTF16", type := .byte, accessFlags := 24, slot := 6, constantValue := 0 }]
  methods := #[k7m0, k7m1, k7m2]
  instanceTypes := #[(.array .byte), .byte, .int, .boolean]
  staticTypes := #[.long, .boolean, (.array (.object "java/io/ObjectStreamField")), .char, (.object "java/util/Comparator"), .byte, .byte]
  resolved := Array.replicate 1451 none
  statics := some 0 }

def pool8 : Array CpInfo := pool [(6, .class_ 8), (1, u "java/lang/Object"), (0, u "<init>"), (0, u "()V"), (1, .class_ 14), (1, u "java/lang/StringUTF16"), (31, u "$assertionsDisabled"), (0, u "Z"), (13, u "HI_BYTE_SHIFT"), (0, u "I"), (2, u "LO_BYTE_SHIFT"), (49, .methodref 12 116), (0, .nameAndType 117 118), (0, u "compress"), (0, u "([CI[BII)I"), (3, u "([CII)[B"), (138, u "coderFromArrayLen"), (0, u "([BI)B"), (106, .class_ 371), (1, u "java/lang/StringUTF16$LinesSpliterator"), (58, u "MAX_LENGTH"), (196, .class_ 628), (0, u "java/lang/StringUTF16$CodePointsSpliterator"), (0, .class_ 630), (0, u "java/lang/StringUTF16$CharsSpliterator")] 4

def k8m0 : Method := { name := "<init>", desc := "()V", sig := { parameters := [], returnType := none }, accessFlags := 0, code := none }
def k8c1 : Code := { maxStack := 2, maxLocals := 2, code := jdk_52_method_15_code, exceptionTable := #[], attributes := #[] }
def k8m1 : Method := { name := "coderFromArrayLen", desc := "([BI)B", sig := { parameters := [(.array .byte), .int], returnType := some .byte }, accessFlags := 8, code := some k8c1 }
def k8c2 : Code := { maxStack := 5, maxLocals := 6, code := jdk_52_method_16_code, exceptionTable := #[], attributes := #[] }
def k8m2 : Method := { name := "compress", desc := "([CII)[B", sig := { parameters := [(.array .char), .int, .int], returnType := some (.array .byte) }, accessFlags := 9, code := some k8c2 }
def k8c3 : Code := { maxStack := 3, maxLocals := 7, code := jdk_52_method_21_code, exceptionTable := #[], attributes := #[] }
def k8m3 : Method := { name := "compress", desc := "([CI[BII)I", sig := { parameters := [(.array .char), .int, (.array .byte), .int, .int], returnType := some .int }, accessFlags := 9, code := some k8c3 }
/-- java/lang/StringUTF16 -/
def k8 : Class := { plain "java/lang/StringUTF16" (some 0) with
  accessFlags := 48
  interfaces := #[]
  cf := some (fileOf pool8 12 #[.nestMembers #[627, 629, 369]] #[{ accessFlags := 0, nameIndex := 9, descriptorIndex := 10, attributes := #[] }, { accessFlags := 8, nameIndex := 261, descriptorIndex := 262, attributes := #[] }, { accessFlags := 9, nameIndex := 117, descriptorIndex := 122, attributes := #[] }, { accessFlags := 9, nameIndex := 117, descriptorIndex := 118, attributes := #[] }] 48 6 #[] #[{ accessFlags := 26, nameIndex := 61, descriptorIndex := 62, attributes := #[] }, { accessFlags := 26, nameIndex := 65, descriptorIndex := 62, attributes := #[] }, { accessFlags := 24, nameIndex := 430, descriptorIndex := 62, attributes := #[] }, { accessFlags := 4120, nameIndex := 46, descriptorIndex := 47, attributes := #[] }])
  fields := #[{ name := "HI_BYTE_SHIFT", type := .int, accessFlags := 26, slot := 0, constantValue := 0 }, { name := "LO_BYTE_SHIFT", type := .int, accessFlags := 26, slot := 1, constantValue := 0 }, { name := "MAX_LENGTH", type := .int, accessFlags := 24, slot := 2, constantValue := 0 }, { name := "$assertionsDisabled", type := .boolean, accessFlags := 4120, slot := 3, constantValue := 0 }]
  methods := #[k8m0, k8m1, k8m2, k8m3]
  instanceTypes := #[]
  staticTypes := #[.int, .int, .int, .boolean]
  resolved := Array.replicate 635 none
  statics := none }

def pool9 : Array CpInfo := pool [(1, .methodref 2 3), (0, .class_ 4), (0, .nameAndType 5 6), (0, u "java/lang/Object"), (0, u "<init>"), (0, u "()V"), (0, .class_ 8), (0, u "java/lang/Record")] 13

def k9c0 : Code := { maxStack := 1, maxLocals := 1, code := jdk_30_method_1_code, exceptionTable := #[], attributes := #[] }
def k9m0 : Method := { name := "<init>", desc := "()V", sig := { parameters := [], returnType := none }, accessFlags := 4, code := some k9c0 }
/-- java/lang/Record -/
def k9 : Class := { plain "java/lang/Record" (some 0) with
  accessFlags := 1057
  interfaces := #[]
  cf := some (fileOf pool9 7 #[] #[{ accessFlags := 4, nameIndex := 5, descriptorIndex := 6, attributes := #[] }] 1057 2 #[] #[])
  fields := #[]
  methods := #[k9m0]
  instanceTypes := #[]
  staticTypes := #[]
  resolved := Array.replicate 22 none
  statics := none }

def pool10 : Array CpInfo := pool [(1, .methodref 2 3), (0, .class_ 4), (0, .nameAndType 5 6), (0, u "java/lang/Record"), (0, u "<init>"), (0, u "()V"), (0, .fieldref 8 9), (0, .class_ 10), (0, .nameAndType 11 12), (0, u "com/example/grab1/grab1/cli/Command$Option"), (0, u "name"), (0, u "Ljava/lang/String;"), (0, .fieldref 8 14), (0, .nameAndType 15 12), (0, u "value"), (0, .fieldref 8 17), (0, .nameAndType 18 12), (0, u "fallback"), (0, .fieldref 8 20), (0, .nameAndType 21 22), (0, u "required"), (0, u "Z"), (0, .methodref 8 24), (0, .nameAndType 5 25), (0, u "(Ljava/lang/String;Ljava/lang/String;Ljava/lang/String;Z)V"), (19, u "(Ljava/lang/String;Ljava/lang/String;)Lcom/example/grab1/grab1/cli/Command$Option;"), (0, u "optional"), (0, u "flag"), (0, u "(Ljava/lang/String;)Lcom/example/grab1/grab1/cli/Command$Option;"), (0, u "isFlag"), (0, u "()Z"), (6, .class_ 58), (0, u "com/example/grab1/grab1/cli/Command")] 22

def k10c0 : Code := { maxStack := 2, maxLocals := 5, code := prog_17_method_2_code, exceptionTable := #[], attributes := #[] }
def k10m0 : Method := { name := "<init>", desc := "(Ljava/lang/String;Ljava/lang/String;Ljava/lang/String;Z)V", sig := { parameters := [(.object "java/lang/String"), (.object "java/lang/String"), (.object "java/lang/String"), .boolean], returnType := none }, accessFlags := 1, code := some k10c0 }
def k10c1 : Code := { maxStack := 6, maxLocals := 2, code := prog_17_method_4_code, exceptionTable := #[], attributes := #[] }
def k10m1 : Method := { name := "optional", desc := "(Ljava/lang/String;Ljava/lang/String;)Lcom/example/grab1/grab1/cli/Command$Option;", sig := { parameters := [(.object "java/lang/String"), (.object "java/lang/String")], returnType := some (.object "com/example/grab1/grab1/cli/Command$Option") }, accessFlags := 8, code := some k10c1 }
def k10c2 : Code := { maxStack := 6, maxLocals := 1, code := prog_17_method_5_code, exceptionTable := #[], attributes := #[] }
def k10m2 : Method := { name := "flag", desc := "(Ljava/lang/String;)Lcom/example/grab1/grab1/cli/Command$Option;", sig := { parameters := [(.object "java/lang/String")], returnType := some (.object "com/example/grab1/grab1/cli/Command$Option") }, accessFlags := 8, code := some k10c2 }
def k10c3 : Code := { maxStack := 1, maxLocals := 1, code := prog_17_method_6_code, exceptionTable := #[], attributes := #[] }
def k10m3 : Method := { name := "isFlag", desc := "()Z", sig := { parameters := [], returnType := some .boolean }, accessFlags := 0, code := some k10c3 }
/-- com/example/grab1/grab1/cli/Command$Option -/
def k10 : Class := { plain "com/example/grab1/grab1/cli/Command$Option" (some 9) with
  accessFlags := 49
  interfaces := #[]
  cf := some (fileOf pool10 8 #[.nestHost 57] #[{ accessFlags := 1, nameIndex := 5, descriptorIndex := 25, attributes := #[] }, { accessFlags := 8, nameIndex := 46, descriptorIndex := 45, attributes := #[] }, { accessFlags := 8, nameIndex := 47, descriptorIndex := 48, attributes := #[] }, { accessFlags := 0, nameIndex := 49, descriptorIndex := 50, attributes := #[] }] 49 2 #[] #[{ accessFlags := 18, nameIndex := 11, descriptorIndex := 12, attributes := #[] }, { accessFlags := 18, nameIndex := 15, descriptorIndex := 12, attributes := #[] }, { accessFlags := 18, nameIndex := 18, descriptorIndex := 12, attributes := #[] }, { accessFlags := 18, nameIndex := 21, descriptorIndex := 22, attributes := #[] }])
  fields := #[{ name := "name", type := (.object "java/lang/String"), accessFlags := 18, slot := 0, constantValue := 0 }, { name := "value", type := (.object "java/lang/String"), accessFlags := 18, slot := 1, constantValue := 0 }, { name := "fallback", type := (.object "java/lang/String"), accessFlags := 18, slot := 2, constantValue := 0 }, { name := "required", type := .boolean, accessFlags := 18, slot := 3, constantValue := 0 }]
  methods := #[k10m0, k10m1, k10m2, k10m3]
  instanceTypes := #[(.object "java/lang/String"), (.object "java/lang/String"), (.object "java/lang/String"), .boolean]
  staticTypes := #[]
  resolved := Array.replicate 81 none
  statics := none }

def pool11 : Array CpInfo := pool [(4, .class_ 6), (1, u "java/lang/Object"), (0, u "<init>"), (0, u "()V"), (5, .class_ 16), (1, u "java/lang/StringLatin1"), (104, u "$assertionsDisabled"), (0, u "Z"), (98, .class_ 223), (1, u "java/lang/StringLatin1$LinesSpliterator"), (166, .class_ 391), (0, u "java/lang/StringLatin1$CharsSpliterator")] 3

def k11m0 : Method := { name := "<init>", desc := "()V", sig := { parameters := [], returnType := none }, accessFlags := 0, code := none }
/-- java/lang/StringLatin1 -/
def k11 : Class := { plain "java/lang/StringLatin1" (some 0) with
  accessFlags := 48
  interfaces := #[]
  cf := some (fileOf pool11 14 #[.nestMembers #[390, 221]] #[{ accessFlags := 0, nameIndex := 7, descriptorIndex := 8, attributes := #[] }] 48 4 #[] #[{ accessFlags := 4120, nameIndex := 121, descriptorIndex := 122, attributes := #[] }])
  fields := #[{ name := "$assertionsDisabled", type := .boolean, accessFlags := 4120, slot := 0, constantValue := 0 }]
  methods := #[k11m0]
  instanceTypes := #[]
  staticTypes := #[.boolean]
  resolved := Array.replicate 395 none
  statics := none }

def pool12 : Array CpInfo := pool [(2, .class_ 4), (1, u "java/lang/Object"), (0, u "<init>"), (0, u "()V"), (17, .class_ 26), (1, u "jdk/internal/util/Preconditions"), (28, .class_ 56), (0, u "jdk/internal/util/Preconditions$4"), (57, .class_ 115), (0, u "jdk/internal/util/Preconditions$1"), (7, u "SIOOBE_FORMATTER"), (0, u "Ljava/util/function/BiFunction;"), (0, .class_ 126), (0, u "jdk/internal/util/Preconditions$2"), (3, u "AIOOBE_FORMATTER"), (0, .class_ 132), (0, u "jdk/internal/util/Preconditions$3"), (3, u "IOOBE_FORMATTER")] 57

def k12m0 : Method := { name := "<init>", desc := "()V", sig := { parameters := [], returnType := none }, accessFlags := 1, code := none }
/-- jdk/internal/util/Preconditions -/
def k12 : Class := { plain "jdk/internal/util/Preconditions" (some 0) with
  accessFlags := 33
  interfaces := #[]
  cf := some (fileOf pool12 24 #[.nestMembers #[55, 131, 125, 114]] #[{ accessFlags := 1, nameIndex := 5, descriptorIndex := 6, attributes := #[] }] 33 2 #[] #[{ accessFlags := 25, nameIndex := 123, descriptorIndex := 124, attributes := #[] }, { accessFlags := 25, nameIndex := 130, descriptorIndex := 124, attributes := #[] }, { accessFlags := 25, nameIndex := 136, descriptorIndex := 124, attributes := #[] }])
  fields := #[{ name := "SIOOBE_FORMATTER", type := (.object "java/util/function/BiFunction"), accessFlags := 25, slot := 0, constantValue := 0 }, { name := "AIOOBE_FORMATTER", type := (.object "java/util/function/BiFunction"), accessFlags := 25, slot := 1, constantValue := 0 }, { name := "IOOBE_FORMATTER", type := (.object "java/util/function/BiFunction"), accessFlags := 25, slot := 2, constantValue := 0 }]
  methods := #[k12m0]
  instanceTypes := #[]
  staticTypes := #[(.object "java/util/function/BiFunction"), (.object "java/util/function/BiFunction"), (.object "java/util/function/BiFunction")]
  resolved := Array.replicate 194 none
  statics := some 1 }

def pool13 : Array CpInfo := pool [(9, u "<init>"), (6, .class_ 18), (1, u "java/lang/Object"), (0, u "()V"), (1, .class_ 23), (1, u "jdk/internal/util/ArraysSupport"), (0, u "LOG2_ARRAY_LONG_INDEX_SCALE"), (0, u "I"), (2, u "U"), (0, u "Ljdk/internal/misc/Unsafe;"), (8, u "BIG_ENDIAN"), (0, u "Z"), (8, u "LOG2_BYTE_BIT_SIZE"), (4, u "LOG2_ARRAY_INT_INDEX_SCALE"), (54, u "JLA"), (0, u "Ljdk/internal/access/JavaLangAccess;"), (11, u "LOG2_ARRAY_BOOLEAN_INDEX_SCALE"), (9, u "LOG2_ARRAY_BYTE_INDEX_SCALE"), (5, u "LOG2_ARRAY_CHAR_INDEX_SCALE"), (5, u "LOG2_ARRAY_SHORT_INDEX_SCALE"), (18, u "LOG2_ARRAY_FLOAT_INDEX_SCALE"), (24, u "LOG2_ARRAY_DOUBLE_INDEX_SCALE"), (89, u "T_BOOLEAN"), (2, u "T_CHAR"), (1, u "T_FLOAT"), (1, u "T_DOUBLE"), (1, u "T_BYTE"), (1, u "T_SHORT"), (1, u "T_INT"), (1, u "T_LONG"), (1, u "SOFT_MAX_ARRAY_LENGTH")] 83

def k13m0 : Method := { name := "<init>", desc := "()V", sig := { parameters := [], returnType := none }, accessFlags := 2, code := none }
/-- jdk/internal/util/ArraysSupport -/
def k13 : Class := { plain "jdk/internal/util/ArraysSupport" (some 0) with
  accessFlags := 33
  interfaces := #[]
  cf := some (fileOf pool13 21 #[] #[{ accessFlags := 2, nameIndex := 9, descriptorIndex := 19, attributes := #[] }] 33 16 #[] #[{ accessFlags := 24, nameIndex := 28, descriptorIndex := 29, attributes := #[] }, { accessFlags := 26, nameIndex := 38, descriptorIndex := 39, attributes := #[] }, { accessFlags := 25, nameIndex := 121, descriptorIndex := 25, attributes := #[] }, { accessFlags := 25, nameIndex := 131, descriptorIndex := 25, attributes := #[] }, { accessFlags := 25, nameIndex := 137, descriptorIndex := 25, attributes := #[] }, { accessFlags := 25, nameIndex := 143, descriptorIndex := 25, attributes := #[] }, { accessFlags := 25, nameIndex := 53, descriptorIndex := 25, attributes := #[] }, { accessFlags := 25, nameIndex := 24, descriptorIndex := 25, attributes := #[] }, { accessFlags := 25, nameIndex := 162, descriptorIndex := 25, attributes := #[] }, { accessFlags := 25, nameIndex := 187, descriptorIndex := 25, attributes := #[] }, { accessFlags := 26, nameIndex := 48, descriptorIndex := 25, attributes := #[] }, { accessFlags := 25, nameIndex := 277, descriptorIndex := 25, attributes := #[] }, { accessFlags := 25, nameIndex := 280, descriptorIndex := 25, attributes := #[] }, { accessFlags := 25, nameIndex := 282, descriptorIndex := 25, attributes := #[] }, { accessFlags := 25, nameIndex := 284, descriptorIndex := 25, attributes := #[] }, { accessFlags := 25, nameIndex := 286, descriptorIndex := 25, attributes := #[] }, { accessFlags := 25, nameIndex := 288, descriptorIndex := 25, attributes := #[] }, { accessFlags := 25, nameIndex := 290, descriptorIndex := 25, attributes := #[] }, { accessFlags := 25, nameIndex := 292, descriptorIndex := 25, attributes := #[] }, { accessFlags := 26, nameIndex := 108, descriptorIndex := 109, attributes := #[] }, { accessFlags := 25, nameIndex := 294, descriptorIndex := 25, attributes := #[] }])
  fields := #[{ name := "U", type := (.object "jdk/internal/misc/Unsafe"), accessFlags := 24, slot := 0, constantValue := 0 }, { name := "BIG_ENDIAN", type := .boolean, accessFlags := 26, slot := 1, constantValue := 0 }, { name := "LOG2_ARRAY_BOOLEAN_INDEX_SCALE", type := .int, accessFlags := 25, slot := 2, constantValue := 0 }, { name := "LOG2_ARRAY_BYTE_INDEX_SCALE", type := .int, accessFlags := 25, slot := 3, constantValue := 0 }, { name := "LOG2_ARRAY_CHAR_INDEX_SCALE", type := .int, accessFlags := 25, slot := 4, constantValue := 0 }, { name := "LOG2_ARRAY_SHORT_INDEX_SCALE", type := .int, accessFlags := 25, slot := 5, constantValue := 0 }, { name := "LOG2_ARRAY_INT_INDEX_SCALE", type := .int, accessFlags := 25, slot := 6, constantValue := 0 }, { name := "LOG2_ARRAY_LONG_INDEX_SCALE", type := .int, accessFlags := 25, slot := 7, constantValue := 0 }, { name := "LOG2_ARRAY_FLOAT_INDEX_SCALE", type := .int, accessFlags := 25, slot := 8, constantValue := 0 }, { name := "LOG2_ARRAY_DOUBLE_INDEX_SCALE", type := .int, accessFlags := 25, slot := 9, constantValue := 0 }, { name := "LOG2_BYTE_BIT_SIZE", type := .int, accessFlags := 26, slot := 10, constantValue := 0 }, { name := "T_BOOLEAN", type := .int, accessFlags := 25, slot := 11, constantValue := 0 }, { name := "T_CHAR", type := .int, accessFlags := 25, slot := 12, constantValue := 0 }, { name := "T_FLOAT", type := .int, accessFlags := 25, slot := 13, constantValue := 0 }, { name := "T_DOUBLE", type := .int, accessFlags := 25, slot := 14, constantValue := 0 }, { name := "T_BYTE", type := .int, accessFlags := 25, slot := 15, constantValue := 0 }, { name := "T_SHORT", type := .int, accessFlags := 25, slot := 16, constantValue := 0 }, { name := "T_INT", type := .int, accessFlags := 25, slot := 17, constantValue := 0 }, { name := "T_LONG", type := .int, accessFlags := 25, slot := 18, constantValue := 0 }, { name := "JLA", type := (.object "jdk/internal/access/JavaLangAccess"), accessFlags := 26, slot := 19, constantValue := 0 }, { name := "SOFT_MAX_ARRAY_LENGTH", type := .int, accessFlags := 25, slot := 20, constantValue := 0 }]
  methods := #[k13m0]
  instanceTypes := #[]
  staticTypes := #[(.object "jdk/internal/misc/Unsafe"), .boolean, .int, .int, .int, .int, .int, .int, .int, .int, .int, .int, .int, .int, .int, .int, .int, .int, .int, (.object "jdk/internal/access/JavaLangAccess"), .int]
  resolved := Array.replicate 378 none
  statics := none }

def pool14 : Array CpInfo := pool [(1, u "java/lang/Cloneable"), (0, .class_ 1), (0, u "java/lang/Object"), (0, .class_ 3)] 3

/-- java/lang/Cloneable -/
def k14 : Class := { plain "java/lang/Cloneable" (some 0) with
  accessFlags := 1537
  interfaces := #[]
  cf := some (fileOf pool14 2 #[] #[] 1537 4 #[] #[])
  fields := #[]
  methods := #[]
  instanceTypes := #[]
  staticTypes := #[]
  resolved := Array.replicate 8 none
  statics := none }

/-- the primitive byte -/
def k15 : Class := { plain "byte" none with kind := .primitive 'B', accessFlags := 0x411 }
/-- [B -/
def k16 : Class := { plain "[B" (some 0) with kind := .array 15 .byte, interfaces := #[14, 2], accessFlags := 1041 }

/-- the primitive char -/
def k17 : Class := { plain "char" none with kind := .primitive 'C', accessFlags := 0x411 }
/-- [C -/
def k18 : Class := { plain "[C" (some 0) with kind := .array 17 .char, interfaces := #[14, 2], accessFlags := 1041 }

/-- the primitive int -/
def k19 : Class := { plain "int" none with kind := .primitive 'I', accessFlags := 0x411 }
/-- [I -/
def k20 : Class := { plain "[I" (some 0) with kind := .array 19 .int, interfaces := #[14, 2], accessFlags := 1041 }

def heap : Heap := #[{ cls := 7, slots := #[.long 0, .int 1, .null, .int 0, .null, .int 0, .int 0], vm := .statics 7 },
  { cls := 12, slots := #[.null, .null, .null], vm := .statics 12 }]
def classes : Array Class := #[k0, k1, k2, k3, k4, k5, k6, k7, k8, k9, k10, k11, k12, k13, k14, k15, k16, k17, k18, k19, k20]
def interned : List (Array UInt16 × Addr) := []
def slotsUsed : Nat := 10
def theMethod : MethodId := ⟨1, 1⟩
def args0 : Array Value := #[.int 5, .int 6, .int 7, .int 3]
def aboutOver (below : List Frame) : State where
  vm := { classes := classes, interned := interned.toArray }
  heap := heap
  slotsUsed := slotsUsed
  threads := #[{ frames := .invoking theMethod args0 :: below }]
def below0 : List Frame := [.native { method := ⟨0, 0⟩, args := #[] }]
def about1 : State := aboutOver below0
def p0 : Program := .bare "" "" ""
def e0 : Env := launch0.env 0 0 0
theorem w_frames : about1.frames = Frame.invoking theMethod args0 :: below0 := rfl
set_option maxRecDepth 65536 in
theorem w_args : argsFit about1.vm theMethod args0 = true := by decide +kernel
set_option maxRecDepth 65536 in
theorem w_heap : heapFits about1 = true := by decide +kernel
set_option maxRecDepth 65536 in
theorem w_runnable : about1.curStatus? = some .runnable := by decide +kernel
set_option maxRecDepth 65536 in
theorem w_alone : about1.alone = true := by decide +kernel
set_option maxRecDepth 65536 in
theorem w_named : about1.methodNamed? x = some theMethod := by decide +kernel
set_option maxRecDepth 65536 in
theorem w_hears : about1.hears theMethod below0 = true := by decide +kernel
set_option maxRecDepth 65536 in
theorem w_ripe : about1.ripe theMethod args0 below0 = true := by decide +kernel
theorem w_running : about1.status = .running := rfl
set_option maxRecDepth 65536 in
theorem w_room : about1.hasRoom e0.platform room_1 = true :=
  launch0.hasRoom_least _ room_1 (by decide +kernel) (by decide +kernel) (by decide +kernel) (by decide +kernel) (by decide +kernel) (by decide +kernel)
theorem allAtoms_all (ts : List Jvm.Cond) (a : Array Jvm.Value) (st : Jvm.State) : (allAtoms ts).before a st = ts.all (fun c => c.before a st) := by
  induction ts with
  | nil => rfl
  | cons c t ih =>
    show (Jvm.Cond.and c (allAtoms t)).before a st = _
    rw [Jvm.Cond.before_and, ih, List.all_cons]
def words1 : List Jvm.Cond := Jvm.Cond.code x code maxLocals ret :: tables_1
/-- a 'code' word, met by the world's own term for the bytes: nothing is compared byte by byte -/
theorem code_word {y : MethodName} {bytes : ByteArray} {mx : Nat} {rt : Option FieldType} {a : Array Value} {s : State} {m : MethodId} {meth : Method} {c : Code} (h1 : s.methodNamed? y = some m) (h2 : s.vm.method? m = some meth) (h3 : meth.code = some c) (h4 : c.code = bytes)
    (h5 : (c.maxLocals == mx && c.exceptionTable.isEmpty && decide (c.maxStack ≤ mostOperands) && decide (meth.sig.returnType = rt) && !meth.locks && decide (parseMethodDescriptor y.desc = some meth.sig)) = true) : (Jvm.Cond.code y bytes mx rt).before a s = true := by
  simp only [Bool.and_eq_true, beq_iff_eq, Bool.not_eq_true', decide_eq_true_eq] at h5
  obtain ⟨⟨⟨⟨⟨g1, g2⟩, g3⟩, g4⟩, g5⟩, g6⟩ := h5
  simp [Cond.before, Cond.holds, Cond.value, h1, h2, h3, h4, g1, g2, g3, g4, g5, g6]
def isCode : Jvm.Cond → Bool
  | .code _ _ _ _ => true
  | _ => false
theorem all_split {L : List Jvm.Cond} {P : Jvm.Cond → Bool} (h1 : L.all (fun c => isCode c || P c) = true) (h2 : ∀ c ∈ L.filter isCode, P c = true) : L.all P = true := by
  refine List.all_eq_true.mpr fun c hc => ?_
  have h := List.all_eq_true.mp h1 c hc
  rcases Bool.eq_false_or_eq_true (isCode c) with hi | hi
  · exact h2 c (List.mem_filter.mpr ⟨hc, hi⟩)
  · simpa [hi] using h
set_option maxRecDepth 65536 in
theorem w_c0 : (Jvm.Cond.code x code maxLocals ret).before args0 about1 = true := code_word (m := ⟨1, 1⟩) (meth := k1m1) (c := k1c1) (by decide +kernel) rfl rfl rfl (by decide +kernel)
set_option maxRecDepth 65536 in
theorem w_c1 : (Jvm.Cond.code ({ cls := "java/lang/String", name := "<init>", desc := "([C)V" } : Jvm.MethodName) jdk_42_method_3_code (2 : Nat) (Option.none : Option Jvm.ClassFile.FieldType)).before args0 about1 = true := code_word (m := ⟨7, 1⟩) (meth := k7m1) (c := k7c1) (by decide +kernel) rfl rfl rfl (by decide +kernel)
set_option maxRecDepth 65536 in
theorem w_c2 : (Jvm.Cond.code ({ cls := "java/lang/String", name := "<init>", desc := "([CIILjava/lang/Void;)V" } : Jvm.MethodName) jdk_42_method_149_code (6 : Nat) (Option.none : Option Jvm.ClassFile.FieldType)).before args0 about1 = true := code_word (m := ⟨7, 2⟩) (meth := k7m2) (c := k7c2) (by decide +kernel) rfl rfl rfl (by decide +kernel)
set_option maxRecDepth 65536 in
theorem w_c3 : (Jvm.Cond.code ({ cls := "java/lang/Object", name := "<init>", desc := "()V" } : Jvm.MethodName) object_method_1_code (1 : Nat) (Option.none : Option Jvm.ClassFile.FieldType)).before args0 about1 = true := code_word (m := ⟨0, 0⟩) (meth := k0m0) (c := k0c0) (by decide +kernel) rfl rfl rfl (by decide +kernel)
set_option maxRecDepth 65536 in
theorem w_c4 : (Jvm.Cond.code ({ cls := "java/lang/StringUTF16", name := "compress", desc := "([CII)[B" } : Jvm.MethodName) jdk_52_method_16_code (6 : Nat) (Option.some (Jvm.ClassFile.FieldType.array Jvm.ClassFile.FieldType.byte))).before args0 about1 = true := code_word (m := ⟨8, 2⟩) (meth := k8m2) (c := k8c2) (by decide +kernel) rfl rfl rfl (by decide +kernel)
set_option maxRecDepth 65536 in
theorem w_c5 : (Jvm.Cond.code ({ cls := "java/lang/StringUTF16", name := "compress", desc := "([CI[BII)I" } : Jvm.MethodName) jdk_52_method_21_code (7 : Nat) (Option.some Jvm.ClassFile.FieldType.int)).before args0 about1 = true := code_word (m := ⟨8, 3⟩) (meth := k8m3) (c := k8c3) (by decide +kernel) rfl rfl rfl (by decide +kernel)
set_option maxRecDepth 65536 in
theorem w_c6 : (Jvm.Cond.code ({ cls := "java/lang/StringUTF16", name := "coderFromArrayLen", desc := "([BI)B" } : Jvm.MethodName) jdk_52_method_15_code (2 : Nat) (Option.some Jvm.ClassFile.FieldType.byte)).before args0 about1 = true := code_word (m := ⟨8, 1⟩) (meth := k8m1) (c := k8c1) (by decide +kernel) rfl rfl rfl (by decide +kernel)
set_option maxRecDepth 65536 in
theorem w_c7 : (Jvm.Cond.code ({ cls := "com/example/grab1/grab1/cli/Command$Option", name := "<init>", desc := "(Ljava/lang/String;Ljava/lang/String;Ljava/lang/String;Z)V" } : Jvm.MethodName) prog_17_method_2_code (5 : Nat) (Option.none : Option Jvm.ClassFile.FieldType)).before args0 about1 = true := code_word (m := ⟨10, 0⟩) (meth := k10m0) (c := k10c0) (by decide +kernel) rfl rfl rfl (by decide +kernel)
set_option maxRecDepth 65536 in
theorem w_c8 : (Jvm.Cond.code ({ cls := "java/lang/Record", name := "<init>", desc := "()V" } : Jvm.MethodName) jdk_30_method_1_code (1 : Nat) (Option.none : Option Jvm.ClassFile.FieldType)).before args0 about1 = true := code_word (m := ⟨9, 0⟩) (meth := k9m0) (c := k9c0) (by decide +kernel) rfl rfl rfl (by decide +kernel)
set_option maxRecDepth 65536 in
theorem w_c9 : (Jvm.Cond.code ({ cls := "com/example/grab1/grab1/cli/Command$Option", name := "isFlag", desc := "()Z" } : Jvm.MethodName) prog_17_method_6_code (1 : Nat) (Option.some Jvm.ClassFile.FieldType.boolean)).before args0 about1 = true := code_word (m := ⟨10, 3⟩) (meth := k10m3) (c := k10c3) (by decide +kernel) rfl rfl rfl (by decide +kernel)
set_option maxRecDepth 65536 in
theorem w_c10 : (Jvm.Cond.code ({ cls := "com/example/grab1/grab1/cli/Command$Option", name := "flag", desc := "(Ljava/lang/String;)Lcom/example/grab1/grab1/cli/Command$Option;" } : Jvm.MethodName) prog_17_method_5_code (1 : Nat) (Option.some (Jvm.ClassFile.FieldType.object "com/example/grab1/grab1/cli/Command$Option"))).before args0 about1 = true := code_word (m := ⟨10, 2⟩) (meth := k10m2) (c := k10c2) (by decide +kernel) rfl rfl rfl (by decide +kernel)
set_option maxRecDepth 65536 in
theorem w_c11 : (Jvm.Cond.code ({ cls := "com/example/grab1/grab1/cli/Command$Option", name := "optional", desc := "(Ljava/lang/String;Ljava/lang/String;)Lcom/example/grab1/grab1/cli/Command$Option;" } : Jvm.MethodName) prog_17_method_4_code (2 : Nat) (Option.some (Jvm.ClassFile.FieldType.object "com/example/grab1/grab1/cli/Command$Option"))).before args0 about1 = true := code_word (m := ⟨10, 1⟩) (meth := k10m1) (c := k10c1) (by decide +kernel) rfl rfl rfl (by decide +kernel)
def codes1 : List Jvm.Cond := [Jvm.Cond.code x code maxLocals ret, Jvm.Cond.code ({ cls := "java/lang/String", name := "<init>", desc := "([C)V" } : Jvm.MethodName) jdk_42_method_3_code (2 : Nat) (Option.none : Option Jvm.ClassFile.FieldType), Jvm.Cond.code ({ cls := "java/lang/String", name := "<init>", desc := "([CIILjava/lang/Void;)V" } : Jvm.MethodName) jdk_42_method_149_code (6 : Nat) (Option.none : Option Jvm.ClassFile.FieldType), Jvm.Cond.code ({ cls := "java/lang/Object", name := "<init>", desc := "()V" } : Jvm.MethodName) object_method_1_code (1 : Nat) (Option.none : Option Jvm.ClassFile.FieldType), Jvm.Cond.code ({ cls := "java/lang/StringUTF16", name := "compress", desc := "([CII)[B" } : Jvm.MethodName) jdk_52_method_16_code (6 : Nat) (Option.some (Jvm.ClassFile.FieldType.array Jvm.ClassFile.FieldType.byte)), Jvm.Cond.code ({ cls := "java/lang/StringUTF16", name := "compress", desc := "([CI[BII)I" } : Jvm.MethodName) jdk_52_method_21_code (7 : Nat) (Option.some Jvm.ClassFile.FieldType.int), Jvm.Cond.code ({ cls := "java/lang/StringUTF16", name := "coderFromArrayLen", desc := "([BI)B" } : Jvm.MethodName) jdk_52_method_15_code (2 : Nat) (Option.some Jvm.ClassFile.FieldType.byte), Jvm.Cond.code ({ cls := "com/example/grab1/grab1/cli/Command$Option", name := "<init>", desc := "(Ljava/lang/String;Ljava/lang/String;Ljava/lang/String;Z)V" } : Jvm.MethodName) prog_17_method_2_code (5 : Nat) (Option.none : Option Jvm.ClassFile.FieldType), Jvm.Cond.code ({ cls := "java/lang/Record", name := "<init>", desc := "()V" } : Jvm.MethodName) jdk_30_method_1_code (1 : Nat) (Option.none : Option Jvm.ClassFile.FieldType), Jvm.Cond.code ({ cls := "com/example/grab1/grab1/cli/Command$Option", name := "isFlag", desc := "()Z" } : Jvm.MethodName) prog_17_method_6_code (1 : Nat) (Option.some Jvm.ClassFile.FieldType.boolean), Jvm.Cond.code ({ cls := "com/example/grab1/grab1/cli/Command$Option", name := "flag", desc := "(Ljava/lang/String;)Lcom/example/grab1/grab1/cli/Command$Option;" } : Jvm.MethodName) prog_17_method_5_code (1 : Nat) (Option.some (Jvm.ClassFile.FieldType.object "com/example/grab1/grab1/cli/Command$Option")), Jvm.Cond.code ({ cls := "com/example/grab1/grab1/cli/Command$Option", name := "optional", desc := "(Ljava/lang/String;Ljava/lang/String;)Lcom/example/grab1/grab1/cli/Command$Option;" } : Jvm.MethodName) prog_17_method_4_code (2 : Nat) (Option.some (Jvm.ClassFile.FieldType.object "com/example/grab1/grab1/cli/Command$Option"))]
set_option maxRecDepth 65536 in
theorem codes_eq : words1.filter isCode = codes1 := rfl
theorem w_codes : ∀ c ∈ words1.filter isCode, c.before args0 about1 = true := by
  rw [codes_eq]
  intro c hc
  simp only [codes1, List.mem_cons, List.not_mem_nil, or_false] at hc
  rcases hc with rfl | rfl | rfl | rfl | rfl | rfl | rfl | rfl | rfl | rfl | rfl | rfl
  · exact w_c0
  · exact w_c1
  · exact w_c2
  · exact w_c3
  · exact w_c4
  · exact w_c5
  · exact w_c6
  · exact w_c7
  · exact w_c8
  · exact w_c9
  · exact w_c10
  · exact w_c11
set_option maxRecDepth 65536 in
theorem w_t1 : (words1.take 24).all (fun c => isCode c || c.before args0 about1) = true := by decide +kernel
set_option maxRecDepth 65536 in
theorem w_t2 : ((words1.drop 24).take 24).all (fun c => isCode c || c.before args0 about1) = true := by decide +kernel
set_option maxRecDepth 65536 in
theorem w_t3 : ((words1.drop 24).drop 24).all (fun c => isCode c || c.before args0 about1) = true := by decide +kernel
theorem w_tables : (allAtoms (Jvm.Cond.code x code maxLocals ret :: tables_1)).before args0 about1 = true := by
  rw [allAtoms_all]
  show words1.all (fun c => c.before args0 about1) = true
  refine all_split ?_ w_codes
  rw [← List.take_append_drop 24 words1, List.all_append, w_t1, ← List.take_append_drop 24 (words1.drop 24), List.all_append, w_t2, w_t3]
  rfl
set_option maxRecDepth 65536 in
theorem w_rest : rest_1_c.before args0 about1 = true := by decide +kernel
set_option maxRecDepth 65536 in
theorem w_case : (Jvm.Cond.and given_1 narrow_1).before args0 about1 = true := by decide +kernel
set_option maxRecDepth 65536 in
theorem w_consts : constsHeld consts_1 about1 := Jvm.Lit.constsHeldB_iff.mp (by decide +kernel)
theorem w_applies : (headSpec (Jvm.Cond.code x code maxLocals ret :: tables_1) room_1).applies x e0.platform about1 = true :=
  (Spec.applies_iff w_frames).mpr ⟨w_running, w_runnable, w_alone, w_named, w_hears, w_ripe, w_room, w_tables⟩
theorem atStart : AtStart classFile x code maxLocals ret World_1 tables_1 room_1 Calls_1 rest_1 Pre_1 launch0 p0 e0 about1 theMethod args0 below0 :=
  ⟨lists_1, trivial, launch0.admits_env _ _ _, launch0.least_env, fairChoices_fair.cas, fairChoices_fair.clock, w_frames, w_args, w_heap, w_applies, ⟨w_consts, trivial⟩, w_rest, w_case⟩
end start1
theorem witness_1 : WitnessClaimed_1 := ⟨start1.p0, start1.e0, start1.about1, start1.theMethod, start1.args0, start1.below0, start1.atStart⟩
end Jvm.Pilot.@@N@@
