import JvmDerived
import JvmDerived.Pilot.@@N@@Statement
import JvmDerived.Pilot.@@N@@Code
set_option linter.unusedVariables false
set_option linter.unusedSimpArgs false
/- laws to paste: Road.backV, Road.lenW, Road.chN, Road.codOf (cut by pick.py; bodies as the Statement names them) -/
namespace Jvm.Pilot.@@N@@
namespace StrChars
open Jvm Sem ClassFile Op Lib Jvm.Stand Jvm.Free.XT Jvm.Free.ALB Jvm.Free.JM Jvm.Free
open Jvm.Lib.Cold (StaticIs)
/-- a char array whose places are chars -/
def Ch (a : Addr) (A : Cell) (U : State) : Prop := Arr .char a A U ∧ Typed .char A
theorem Ch.mv {a : Addr} {A : Cell} {U U' : State} (h : Ch a A U) (hal : U.vm.Alike U'.vm) (hh : U'.heap = U.heap) : Ch a A U' := ⟨h.1.mv hal hh, h.2⟩
theorem Ch.keep {a : Addr} {A : Cell} {U U' : State} (h : Ch a A U) (hal : U.vm.Alike U'.vm) (hk : U'.heap[a]? = some A) : Ch a A U' := ⟨h.1.keep hal hk, h.2⟩
/-- what place i of a char[]'s cell holds -/
def cv (A : Cell) (i : Nat) : Int32 := match A.slots[i]? with | some (.int x) => x | _ => 0
theorem Ch.get {a : Addr} {A : Cell} {U : State} (h : Ch a A U) {i : Nat} (hi : i < A.slots.size) : A.slots[i]? = some (.int (cv A i)) := by
  have e := Array.getElem?_eq_getElem hi
  have f := h.2 i _ e
  unfold cv; rw [e]
  generalize A.slots[i] = v at f
  cases v <;> simp [fits] at f ⊢
/-- the byte that i2b leaves of a char -/
def lo8 (x : Int32) : Int32 := x.toInt8.toInt32
theorem fits_lo8 (y : Int32) : fits .byte (.int (lo8 y)) = true := by
  have h1 := y.toInt8.le_toInt
  have h2 := y.toInt8.toInt_lt
  simp only [lo8, fits, Bool.and_eq_true, decide_eq_true_eq, Int32.le_iff_toInt_le, Int8.toInt_toInt32, show (-128 : Int32).toInt = -128 from by decide, show (127 : Int32).toInt = 127 from by decide]
  omega
/-- A' is A but that each place j of lo .. hi - 1 holds f j -/
def Laid (A A' : Cell) (lo hi : Nat) (f : Nat → Value) : Prop := A'.cls = A.cls ∧ A'.vm = A.vm ∧ A'.slots.size = A.slots.size ∧ ∀ i, A'.slots[i]? = if lo ≤ i ∧ i < hi then some (f i) else A.slots[i]?
theorem Laid.zero (A : Cell) (lo : Nat) (f : Nat → Value) : Laid A A lo (lo + 0) f := ⟨rfl, rfl, rfl, fun i => by rw [if_neg (by omega)]⟩
theorem Laid.step {A Ak : Cell} {lo k : Nat} {f : Nat → Value} {v : Value} (h : Laid A Ak lo k f) (hlo : lo ≤ k) (hk : k < Ak.slots.size) (hv : v = f k) : Laid A (Ak.setSlot k v) lo (k + 1) f := by
  refine ⟨h.1, h.2.1, by simpa [Cell.setSlot] using h.2.2.1, fun i => ?_⟩
  by_cases e : k = i
  · subst e; rw [Cell.slots_setSlot_self v hk, if_pos (by omega), hv]
  · rw [Cell.slots_setSlot_ne v e, h.2.2.2 i]
    by_cases q : lo ≤ i ∧ i < k
    · rw [if_pos q, if_pos (by omega)]
    · rw [if_neg q, if_neg (by omega)]
def U16 : String := "java/lang/StringUTF16"
namespace Cmp5
def yN : MethodName := ⟨"java/lang/StringUTF16", "compress", "([CI[BII)I"⟩
abbrev yB : ByteArray := jdk_52_method_21_code
theorem d0 : decode yB 0 = .ok (.iconst 0, 1) := by decide +kernel
theorem d1 : decode yB 1 = .ok (.istore 5, 2) := by decide +kernel
theorem d3 : decode yB 3 = .ok (.iload 5, 2) := by decide +kernel
theorem d5 : decode yB 5 = .ok (.iload 4, 2) := by decide +kernel
theorem d7 : decode yB 7 = .ok (.if_icmp (.ge) 37, 3) := by decide +kernel
theorem d10 : decode yB 10 = .ok (.aload_n 0, 1) := by decide +kernel
theorem d11 : decode yB 11 = .ok (.iload_n 1, 1) := by decide +kernel
theorem d12 : decode yB 12 = .ok (.caload, 1) := by decide +kernel
theorem d13 : decode yB 13 = .ok (.istore 6, 2) := by decide +kernel
theorem d15 : decode yB 15 = .ok (.iload 6, 2) := by decide +kernel
theorem d17 : decode yB 17 = .ok (.sipush 255, 3) := by decide +kernel
theorem d20 : decode yB 20 = .ok (.if_icmp (.le) 6, 3) := by decide +kernel
theorem d26 : decode yB 26 = .ok (.aload_n 2, 1) := by decide +kernel
theorem d27 : decode yB 27 = .ok (.iload_n 3, 1) := by decide +kernel
theorem d28 : decode yB 28 = .ok (.iload 6, 2) := by decide +kernel
theorem d30 : decode yB 30 = .ok (.i2b, 1) := by decide +kernel
theorem d31 : decode yB 31 = .ok (.bastore, 1) := by decide +kernel
theorem d32 : decode yB 32 = .ok (.iinc 1 1, 3) := by decide +kernel
theorem d35 : decode yB 35 = .ok (.iinc 3 1, 3) := by decide +kernel
theorem d38 : decode yB 38 = .ok (.iinc 5 1, 3) := by decide +kernel
theorem d41 : decode yB 41 = .ok (.goto (-38), 3) := by decide +kernel
theorem d44 : decode yB 44 = .ok (.iload 4, 2) := by decide +kernel
theorem d46 : decode yB 46 = .ok (.ireturn, 1) := by decide +kernel
def site : List Cond := []
def tab : Cond := tabOf yN yB 7 (some .int) site
def P (b : Addr) (A : Cell) (d : Addr) (B : Cell) (o q len : Nat) (args : Array Value) (s : State) : Prop := args = #[.ref b, .int (Int32.ofNat o), .ref d, .int (Int32.ofNat q), .int (Int32.ofNat len)] ∧ Ch b A s ∧ Arr .byte d B s ∧ b ≠ d ∧ o + len ≤ A.slots.size ∧ q + len ≤ B.slots.size ∧ ∀ i, i < len → ¬ 255 < cv A (o + i)
def E (b : Addr) (A : Cell) (d : Addr) (B : Cell) (o q len : Nat) (r : Option Value) (s u : State) : Prop := r = some (.int (Int32.ofNat len)) ∧ ∃ B', Put d B' s u ∧ Laid B B' q (q + len) (fun j => Value.int (lo8 (cv A (o + (j - q)))))
/-- no char of the range above 255: len; the places written hold each char's low byte -/
theorem law (l : Launch) (b : Addr) (A : Cell) (d : Addr) (B : Cell) (o q len : Nat) : Law l yN 5 5 0 0 yB 7 (some .int) site (P b A d B o q len) (E b A d B o q len) (copyLocs d q len) 0 0 := by
  refine Law.of_walk (plainFor_of_name (by decide +kernel)) (by decide +kernel) (by decide +kernel) (by decide) (fun _ _ h => by rw [h.1]; rfl) (fun _ U U' hal hh h => ⟨h.1, h.2.1.mv hal hh, h.2.2.1.mv hal hh, h.2.2.2⟩) (fun r U U' V V' h1 hal h2 h => ⟨h.1, h.2.elim fun B' q => ⟨B', q.1.mv h1 h2, q.2⟩⟩) ?_
  intro p e s m args below meth c s₁ X0 hexec hbytes hml hret hlk hnm hown hh0 W hP
  obtain ⟨rfl, hA, hB, hne, l1, l2, hp⟩ := hP
  have c1 : Steps p.tables e below (s₁.setTop (entryFrame m #[.ref b, .int (Int32.ofNat o), .ref d, .int (Int32.ofNat q), .int (Int32.ofNat len)] 7)) (s₁.setTop (mkF m 0 #[.val (.ref b), .val (.int (Int32.ofNat o)), .val (.ref d), .val (.int (Int32.ofNat q)), .val (.int (Int32.ofNat len)), .unset, .unset] [])) := entry rfl
  have hA0 := hA.1.mv X0.warmed.alike hh0
  have hB0 := hB.mv X0.warmed.alike hh0
  have a31 := hA.1.2.2.2
  have c2 : Steps p.tables e below (s₁.setTop (entryFrame m #[.ref b, .int (Int32.ofNat o), .ref d, .int (Int32.ofNat q), .int (Int32.ofNat len)] 7)) (s₁.setTop (mkF m 3 #[.val (.ref b), .val (.int (Int32.ofNat o)), .val (.ref d), .val (.int (Int32.ofNat q)), .val (.int (Int32.ofNat len)), .val (.int 0), .unset] [])) := c1.trans (by
    refine iconstV X0.here hexec rfl 0 (hb hbytes d0) (by decide) ?_
    refine XS.istore X0.here hexec rfl (hb hbytes d1) rfl rfl ?_
    exact Steps.refl _)
  have loop : ∀ (r i : Nat), i + r = len → ∀ (z : Slot), (z = .unset ∨ ∃ w, z = .val w ∧ w.category = 1) → ∀ (Tl : State) (Bk : Cell), Stand p l e { frames := 0, locals := 0, cells := 0, slots := 0 } s m #[.ref b, .int (Int32.ofNat o), .ref d, .int (Int32.ofNat q), .int (Int32.ofNat len)] below meth c Tl ([] ++ copyLocs d q i) 0 0 → Put d Bk s₁ Tl → Laid B Bk q (q + i) (fun j => Value.int (lo8 (cv A (o + (j - q))))) →
      Steps p.tables e below (s₁.setTop (entryFrame m #[.ref b, .int (Int32.ofNat o), .ref d, .int (Int32.ofNat q), .int (Int32.ofNat len)] 7)) (Tl.setTop (mkF m 3 #[.val (.ref b), .val (.int (Int32.ofNat (o + i))), .val (.ref d), .val (.int (Int32.ofNat (q + i))), .val (.int (Int32.ofNat len)), .val (.int (Int32.ofNat i)), z] [])) → ∃ (T' : State) (B' : Cell) (z' : Slot), Stand p l e { frames := 0, locals := 0, cells := 0, slots := 0 } s m #[.ref b, .int (Int32.ofNat o), .ref d, .int (Int32.ofNat q), .int (Int32.ofNat len)] below meth c T' ([] ++ copyLocs d q len) 0 0 ∧ Put d B' s₁ T' ∧ Laid B B' q (q + len) (fun j => Value.int (lo8 (cv A (o + (j - q))))) ∧
      Steps p.tables e below (s₁.setTop (entryFrame m #[.ref b, .int (Int32.ofNat o), .ref d, .int (Int32.ofNat q), .int (Int32.ofNat len)] 7)) (T'.setTop (mkF m 3 #[.val (.ref b), .val (.int (Int32.ofNat (o + len))), .val (.ref d), .val (.int (Int32.ofNat (q + len))), .val (.int (Int32.ofNat len)), .val (.int (Int32.ofNat len)), z'] [])) := by
    intro r
    induction r with
    | zero =>
      intro i hi z hz Tl Bk Xl pl fl cl
      have hil : i = len := by omega
      rw [hil] at Xl fl cl
      exact ⟨Tl, Bk, z, Xl, pl, fl, cl⟩
    | succ r ih =>
      intro i hi z hz Tl Bk Xl pl fl cl
      have all := X0.warmed.alike.symm.trans Xl.warmed.alike
      have hAl := hA0.keep all (pl.other hne hA0.1)
      have hBk := hB0.like all pl.1 fl.1 fl.2.1 fl.2.2.1
      have hlt : q + i < Bk.slots.size := by rw [fl.2.2.1]; omega
      have c3 : Steps p.tables e below (s₁.setTop (entryFrame m #[.ref b, .int (Int32.ofNat o), .ref d, .int (Int32.ofNat q), .int (Int32.ofNat len)] 7)) (Tl.setTop (mkF m 12 #[.val (.ref b), .val (.int (Int32.ofNat (o + i))), .val (.ref d), .val (.int (Int32.ofNat (q + i))), .val (.int (Int32.ofNat len)), .val (.int (Int32.ofNat i)), z] [.int (Int32.ofNat (o + i)), .ref b])) := cl.trans (by
        refine XS.iload Xl.here hexec rfl (hb hbytes d3) rfl ?_
        refine XS.iload Xl.here hexec rfl (hb hbytes d5) rfl ?_
        refine XS.icmpNo Xl.here hexec rfl (hb hbytes d7) rfl (ii_ge_f (lt32 (by omega) (by omega))) ?_
        refine XS.aloadN Xl.here hexec rfl (hb hbytes d10) rfl rfl ?_
        refine XS.iloadN Xl.here hexec rfl (hb hbytes d11) rfl ?_
        exact Steps.refl _)
      have c4 : Steps p.tables e below (s₁.setTop (entryFrame m #[.ref b, .int (Int32.ofNat o), .ref d, .int (Int32.ofNat q), .int (Int32.ofNat len)] 7)) (Tl.setTop (mkF m 13 #[.val (.ref b), .val (.int (Int32.ofNat (o + i))), .val (.ref d), .val (.int (Int32.ofNat (q + i))), .val (.int (Int32.ofNat len)), .val (.int (Int32.ofNat i)), z] [.int (cv A (o + i))])) := c3.trans (by
        refine Xl.aget hexec hAl rfl (hA.get (i := o + i) (by omega)) rfl rfl (hb hbytes d12) ?_
        exact Steps.refl _)
      have c5 : Steps p.tables e below (s₁.setTop (entryFrame m #[.ref b, .int (Int32.ofNat o), .ref d, .int (Int32.ofNat q), .int (Int32.ofNat len)] 7)) (Tl.setTop (mkF m 15 #[.val (.ref b), .val (.int (Int32.ofNat (o + i))), .val (.ref d), .val (.int (Int32.ofNat (q + i))), .val (.int (Int32.ofNat len)), .val (.int (Int32.ofNat i)), .val (.int (cv A (o + i)))] [])) := c4.trans (by
        refine XS.istoreS Xl.here hexec rfl (hb hbytes d13) rfl rfl hz ?_
        exact Steps.refl _)
      have c6 : Steps p.tables e below (s₁.setTop (entryFrame m #[.ref b, .int (Int32.ofNat o), .ref d, .int (Int32.ofNat q), .int (Int32.ofNat len)] 7)) (Tl.setTop (mkF m 31 #[.val (.ref b), .val (.int (Int32.ofNat (o + i))), .val (.ref d), .val (.int (Int32.ofNat (q + i))), .val (.int (Int32.ofNat len)), .val (.int (Int32.ofNat i)), .val (.int (cv A (o + i)))] [.int (lo8 (cv A (o + i))), .int (Int32.ofNat (q + i)), .ref d])) := c5.trans (by
        refine XS.iload Xl.here hexec rfl (hb hbytes d15) rfl ?_
        refine sipushV Xl.here hexec rfl 255 (hb hbytes d17) (by decide) ?_
        refine XS.icmpYes Xl.here hexec rfl (pc0 := 20) rfl (hb hbytes d20) rfl (ii_le_t (hp i (by omega))) (by decide) rfl ?_
        refine XS.aloadN Xl.here hexec rfl (hb hbytes d26) rfl rfl ?_
        refine XS.iloadN Xl.here hexec rfl (hb hbytes d27) rfl ?_
        refine XS.iload Xl.here hexec rfl (hb hbytes d28) rfl ?_
        refine i2b Xl.here hexec rfl (hb hbytes d30) rfl ?_
        exact Steps.refl _)
      obtain ⟨T7, X7, p7, st7⟩ := Xl.aput hexec hBk rfl hlt rfl (fits_lo8 (cv A (o + i))) (g := (mkF m 31 #[.val (.ref b), .val (.int (Int32.ofNat (o + i))), .val (.ref d), .val (.int (Int32.ofNat (q + i))), .val (.int (Int32.ofNat len)), .val (.int (Int32.ofNat i)), .val (.int (cv A (o + i)))] [.int (lo8 (cv A (o + i))), .int (Int32.ofNat (q + i)), .ref d])) rfl (rest := []) rfl (hb hbytes d31)
      have c8 : Steps p.tables e below (s₁.setTop (entryFrame m #[.ref b, .int (Int32.ofNat o), .ref d, .int (Int32.ofNat q), .int (Int32.ofNat len)] 7)) (T7.setTop (mkF m 32 #[.val (.ref b), .val (.int (Int32.ofNat (o + i))), .val (.ref d), .val (.int (Int32.ofNat (q + i))), .val (.int (Int32.ofNat len)), .val (.int (Int32.ofNat i)), .val (.int (cv A (o + i)))] [])) := c6.trans (st7 _ (Steps.refl _))
      have c9 : Steps p.tables e below (s₁.setTop (entryFrame m #[.ref b, .int (Int32.ofNat o), .ref d, .int (Int32.ofNat q), .int (Int32.ofNat len)] 7)) (T7.setTop (mkF m 3 #[.val (.ref b), .val (.int (Int32.ofNat (o + i) + 1)), .val (.ref d), .val (.int (Int32.ofNat (q + i) + 1)), .val (.int (Int32.ofNat len)), .val (.int (Int32.ofNat i + 1)), .val (.int (cv A (o + i)))] [])) := c8.trans (by
        refine iincV X7.here hexec rfl 1 (hb hbytes d32) (by decide) rfl rfl ?_
        refine iincV X7.here hexec rfl 1 (hb hbytes d35) (by decide) rfl rfl ?_
        refine iincV X7.here hexec rfl 1 (hb hbytes d38) (by decide) rfl rfl ?_
        refine XS.goto X7.here hexec rfl (pc0 := 41) rfl (hb hbytes d41) (by decide) rfl ?_
        exact Steps.refl _)
      have c10 : Steps p.tables e below (s₁.setTop (entryFrame m #[.ref b, .int (Int32.ofNat o), .ref d, .int (Int32.ofNat q), .int (Int32.ofNat len)] 7)) (T7.setTop (mkF m 3 #[.val (.ref b), .val (.int (Int32.ofNat (o + (i + 1)))), .val (.ref d), .val (.int (Int32.ofNat (q + (i + 1)))), .val (.int (Int32.ofNat len)), .val (.int (Int32.ofNat (i + 1))), .val (.int (cv A (o + i)))] [])) := by
        have := c9
        rw [succ32, succ32, succ32] at this
        exact this
      exact ih (i + 1) (by omega) _ (Or.inr ⟨_, rfl, rfl⟩) T7 _ (by rw [copyLocs_step, ← List.append_assoc]; exact X7) (pl.trans p7) (fl.step (by omega) hlt (by simp)) c10
  obtain ⟨T9, B9, z9, X9, p9, f9, g9⟩ := loop len 0 (by omega) .unset (Or.inl rfl) s₁ B (by simpa [copyLocs] using X0) ⟨hB0.1, fun _ _ => rfl, rfl⟩ (Laid.zero _ _ _) c2
  have c11 : Steps p.tables e below (s₁.setTop (entryFrame m #[.ref b, .int (Int32.ofNat o), .ref d, .int (Int32.ofNat q), .int (Int32.ofNat len)] 7)) (T9.setTop (mkF m 46 #[.val (.ref b), .val (.int (Int32.ofNat (o + len))), .val (.ref d), .val (.int (Int32.ofNat (q + len))), .val (.int (Int32.ofNat len)), .val (.int (Int32.ofNat len)), z9] [.int (Int32.ofNat len)])) := g9.trans (by
    refine XS.iload X9.here hexec rfl (hb hbytes d3) rfl ?_
    refine XS.iload X9.here hexec rfl (hb hbytes d5) rfl ?_
    refine XS.icmpYes X9.here hexec rfl (pc0 := 7) rfl (hb hbytes d7) rfl (ii_ge_t (nlt32 (by omega) (Nat.le_refl _))) (by decide) rfl ?_
    refine XS.iload X9.here hexec rfl (hb hbytes d44) rfl ?_
    exact Steps.refl _)
  exact ⟨T9, some (.int (Int32.ofNat len)), _, _, _, X9, by simp, rfl, rfl, (fun h => by cases h), ⟨rfl, B9, p9.from hh0, f9⟩, fun fs hl => c11.trans (X9.ireturnOut hexec hret rfl (Or.inl rfl) (hb hbytes d46) hl)⟩
end Cmp5
namespace Cmp3
def yN : MethodName := ⟨"java/lang/StringUTF16", "compress", "([CII)[B"⟩
abbrev yB : ByteArray := jdk_52_method_16_code
theorem d0 : decode yB 0 = .ok (.iload_n 2, 1) := by decide +kernel
theorem d1 : decode yB 1 = .ok (.newarray .byte, 2) := by decide +kernel
theorem d3 : decode yB 3 = .ok (.astore_n 3, 1) := by decide +kernel
theorem d4 : decode yB 4 = .ok (.aload_n 0, 1) := by decide +kernel
theorem d5 : decode yB 5 = .ok (.iload_n 1, 1) := by decide +kernel
theorem d6 : decode yB 6 = .ok (.aload_n 3, 1) := by decide +kernel
theorem d7 : decode yB 7 = .ok (.iconst 0, 1) := by decide +kernel
theorem d8 : decode yB 8 = .ok (.iload_n 2, 1) := by decide +kernel
theorem d9 : decode yB 9 = .ok (.invokestatic 115, 3) := by decide +kernel
theorem d12 : decode yB 12 = .ok (.istore 4, 2) := by decide +kernel
theorem d14 : decode yB 14 = .ok (.iload 4, 2) := by decide +kernel
theorem d16 : decode yB 16 = .ok (.iload_n 2, 1) := by decide +kernel
theorem d17 : decode yB 17 = .ok (.if_icmp (.eq) 40, 3) := by decide +kernel
theorem d57 : decode yB 57 = .ok (.aload_n 3, 1) := by decide +kernel
theorem d58 : decode yB 58 = .ok (.areturn, 1) := by decide +kernel
def site : List Cond := [.arrayClass .byte, Cmp5.tab] ++ staticW U16 115 Cmp5.yN
def tab : Cond := tabOf yN yB 6 (some (.array .byte)) site
def P (b : Addr) (A : Cell) (o len : Nat) (args : Array Value) (s : State) : Prop := args = #[.ref b, .int (Int32.ofNat o), .int (Int32.ofNat len)] ∧ Ch b A s ∧ o + len ≤ A.slots.size ∧ len ≤ 536870912 ∧ ∀ i, i < len → ¬ 255 < cv A (o + i)
def E (b : Addr) (A : Cell) (o len : Nat) (r : Option Value) (s u : State) : Prop := NewArr .byte "[B" len (fun j => .int (lo8 (cv A (o + j)))) r s u ∧ u.heap.size = s.heap.size + 1
/-- no char of the range above 255: a new byte[] of their low bytes -/
theorem law (l : Launch) (b : Addr) (A : Cell) (o len : Nat) : Law l yN 3 3 1 18 yB 6 (some (.array .byte)) site (P b A o len) (E b A o len) [] 1 len := by
  refine Law.of_walk (plainFor_of_name (by decide +kernel)) (by decide +kernel) (by decide +kernel) (by decide) (fun _ _ h => by rw [h.1]; rfl) (fun _ U U' hal hh h => ⟨h.1, h.2.1.mv hal hh, h.2.2⟩) (fun r U U' V V' h1 hal h2 h => ⟨NewArr.mv r U U' V V' h1 hal h2 h.1, by rw [h1, h2]; exact h.2⟩) ?_
  intro p e s m args below meth c s₁ X0 hexec hbytes hml hret hlk hnm hown hh0 W hP
  obtain ⟨rfl, hA, l1, l2, hp⟩ := hP
  have a31 := hA.1.2.2.2
  have c1 : Steps p.tables e below (s₁.setTop (entryFrame m #[.ref b, .int (Int32.ofNat o), .int (Int32.ofNat len)] 6)) (s₁.setTop (mkF m 0 #[.val (.ref b), .val (.int (Int32.ofNat o)), .val (.int (Int32.ofNat len)), .unset, .unset, .unset] [])) := entry rfl
  have c2 : Steps p.tables e below (s₁.setTop (entryFrame m #[.ref b, .int (Int32.ofNat o), .int (Int32.ofNat len)] 6)) (s₁.setTop (mkF m 1 #[.val (.ref b), .val (.int (Int32.ofNat o)), .val (.int (Int32.ofNat len)), .unset, .unset, .unset] [.int (Int32.ofNat len)])) := c1.trans (by
    refine XS.iloadN X0.here hexec rfl (hb hbytes d0) rfl ?_
    exact Steps.refl _)
  obtain ⟨T3, B3, X3, ba3, bs3, bv3, bh3, bf3, st3⟩ := X0.anew hexec (atype := .byte) (wk W (.arrayClass .byte)) rfl (by show len * 1 ≤ _; omega) (by omega) (g := (mkF m 1 #[.val (.ref b), .val (.int (Int32.ofNat o)), .val (.int (Int32.ofNat len)), .unset, .unset, .unset] [.int (Int32.ofNat len)])) rfl (hb hbytes d1) (rest := []) rfl (Nat.le_refl _) (by show 0 + len ≤ len; omega)
  rw [hh0] at ba3 st3
  have kp3 : XT.Kept s T3 := (XT.Kept.of_eq hh0).push bh3
  have hA3 := hA.keep X3.warmed.alike (kp3 _ _ hA.1.1)
  have hne : b ≠ s.heap.size := hA.1.ne
  have c4 : Steps p.tables e below (s₁.setTop (entryFrame m #[.ref b, .int (Int32.ofNat o), .int (Int32.ofNat len)] 6)) (T3.setTop (mkF m 3 #[.val (.ref b), .val (.int (Int32.ofNat o)), .val (.int (Int32.ofNat len)), .unset, .unset, .unset] [.ref s.heap.size])) := c2.trans (st3 _ (Steps.refl _))
  have c5 : Steps p.tables e below (s₁.setTop (entryFrame m #[.ref b, .int (Int32.ofNat o), .int (Int32.ofNat len)] 6)) (T3.setTop (mkF m 9 #[.val (.ref b), .val (.int (Int32.ofNat o)), .val (.int (Int32.ofNat len)), .val (.ref s.heap.size), .unset, .unset] [.int (Int32.ofNat len), .int 0, .ref s.heap.size, .int (Int32.ofNat o), .ref b])) := c4.trans (by
    refine XS.astoreN X3.here hexec rfl (hb hbytes d3) rfl rfl rfl ?_
    refine XS.aloadN X3.here hexec rfl (hb hbytes d4) rfl rfl ?_
    refine XS.iloadN X3.here hexec rfl (hb hbytes d5) rfl ?_
    refine XS.aloadN X3.here hexec rfl (hb hbytes d6) rfl rfl ?_
    refine iconstV X3.here hexec rfl 0 (hb hbytes d7) (by decide) ?_
    refine XS.iloadN X3.here hexec rfl (hb hbytes d8) rfl ?_
    exact Steps.refl _)
  obtain ⟨v6, T6, X6, E6, g6⟩ := X3.callS hexec (Cmp5.law l b A s.heap.size B3 o 0 len) hown (wks W (staticW U16 115 Cmp5.yN)) (wk W Cmp5.tab) (W := 0) (Nat.le_of_ble_eq_true rfl) (Nat.le_of_ble_eq_true rfl) (Nat.le_refl _) (by show 0 + len + 0 ≤ len; omega) (g := (mkF m 9 #[.val (.ref b), .val (.int (Int32.ofNat o)), .val (.int (Int32.ofNat len)), .val (.ref s.heap.size), .unset, .unset] [.int (Int32.ofNat len), .int (Int32.ofNat 0), .ref s.heap.size, .int (Int32.ofNat o), .ref b])) rfl (by rw [hml]; rfl) c5 (argsL := [.ref b, .int (Int32.ofNat o), .ref s.heap.size, .int (Int32.ofNat 0), .int (Int32.ofNat len)]) (rest := []) rfl rfl (by show 2 * 0 + 0 ≤ _; decide) (hb hbytes d9) (⟨rfl, hA3, ba3, hne, l1, by rw [bs3]; simp, hp⟩)
  obtain ⟨rfl, B6, p6, f6⟩ := E6
  have c7 : Steps p.tables e below (s₁.setTop (entryFrame m #[.ref b, .int (Int32.ofNat o), .int (Int32.ofNat len)] 6)) (T6.setTop (mkF m 12 #[.val (.ref b), .val (.int (Int32.ofNat o)), .val (.int (Int32.ofNat len)), .val (.ref s.heap.size), .unset, .unset] [.int (Int32.ofNat len)])) := g6
  have c8 : Steps p.tables e below (s₁.setTop (entryFrame m #[.ref b, .int (Int32.ofNat o), .int (Int32.ofNat len)] 6)) (T6.setTop (mkF m 58 #[.val (.ref b), .val (.int (Int32.ofNat o)), .val (.int (Int32.ofNat len)), .val (.ref s.heap.size), .val (.int (Int32.ofNat len)), .unset] [.ref s.heap.size])) := c7.trans (by
    refine XS.istore X6.here hexec rfl (hb hbytes d12) rfl rfl ?_
    refine XS.iload X6.here hexec rfl (hb hbytes d14) rfl ?_
    refine XS.iloadN X6.here hexec rfl (hb hbytes d16) rfl ?_
    refine XS.icmpYes X6.here hexec rfl (pc0 := 17) rfl (hb hbytes d17) rfl (ii_eq_t rfl) (by decide) rfl ?_
    refine XS.aloadN X6.here hexec rfl (hb hbytes d57) rfl rfl ?_
    exact Steps.refl _)
  have X8 := X6.wide (L' := []) (cells' := 1) (slots' := len) (fun x hx hlt => by
    simp only [List.nil_append, copyLocs, List.mem_map, List.mem_range] at hx
    obtain ⟨i, -, rfl⟩ := hx
    exact absurd hlt (Nat.lt_irrefl _)) (Nat.le_refl _) (by omega)
  exact ⟨T6, some (.ref s.heap.size), _, _, _, X8, rfl, rfl, rfl, (fun h => by cases h), ⟨⟨rfl, B6, ba3.like (X3.warmed.alike.symm.trans X6.warmed.alike) p6.1 f6.1 f6.2.1 f6.2.2.1, f6.2.1.trans bv3, by rw [X6.warmed.alike.findClass, f6.1]; exact bf3, by rw [f6.2.2.1, bs3]; simp, fun j hj => by rw [f6.2.2.2 j, if_pos (by omega)]; rfl, kp3.put p6 (Nat.le_refl _)⟩, by rw [p6.2.2, bh3, hh0]; simp⟩, fun fs hl => c8.trans (X8.areturnOut hexec rfl hret rfl (hb hbytes d58) hl)⟩
end Cmp3
namespace CodL
def yN : MethodName := ⟨"java/lang/StringUTF16", "coderFromArrayLen", "([BI)B"⟩
abbrev yB : ByteArray := jdk_52_method_15_code
theorem d0 : decode yB 0 = .ok (.iload_n 1, 1) := by decide +kernel
theorem d1 : decode yB 1 = .ok (.aload_n 0, 1) := by decide +kernel
theorem d2 : decode yB 2 = .ok (.arraylength, 1) := by decide +kernel
theorem d3 : decode yB 3 = .ok (.isub, 1) := by decide +kernel
theorem d4 : decode yB 4 = .ok (.bipush 31, 2) := by decide +kernel
theorem d6 : decode yB 6 = .ok (.iushr, 1) := by decide +kernel
theorem d7 : decode yB 7 = .ok (.i2b, 1) := by decide +kernel
theorem d8 : decode yB 8 = .ok (.ireturn, 1) := by decide +kernel
def site : List Cond := []
def tab : Cond := tabOf yN yB 2 (some .byte) site
def P (d : Addr) (B : Cell) (args : Array Value) (s : State) : Prop := args = #[.ref d, .int (Int32.ofNat B.slots.size)] ∧ Arr .byte d B s
def E (r : Option Value) (s u : State) : Prop := XT.PureE (some (.int 0)) r s u
/-- an array as long as the number of chars: LATIN1 -/
theorem law (l : Launch) (d : Addr) (B : Cell) : Law l yN 2 2 0 0 yB 2 (some .byte) site (P d B) E [] 0 0 := by
  refine Law.of_walk (plainFor_of_name (by decide +kernel)) (by decide +kernel) (by decide +kernel) (by decide) (fun _ _ h => by rw [h.1]; rfl) (fun _ U U' hal hh h => ⟨h.1, h.2.mv hal hh⟩) (fun r U U' V V' h1 hal h2 h => XT.PureE.mv r U U' V V' h1 hal h2 h) ?_
  intro p e s m args below meth c s₁ X0 hexec hbytes hml hret hlk hnm hown hh0 W hP
  obtain ⟨rfl, hB⟩ := hP
  have hB0 := hB.mv X0.warmed.alike hh0
  have c1 : Steps p.tables e below (s₁.setTop (entryFrame m #[.ref d, .int (Int32.ofNat B.slots.size)] 2)) (s₁.setTop (mkF m 0 #[.val (.ref d), .val (.int (Int32.ofNat B.slots.size))] [])) := entry rfl
  have c2 : Steps p.tables e below (s₁.setTop (entryFrame m #[.ref d, .int (Int32.ofNat B.slots.size)] 2)) (s₁.setTop (mkF m 2 #[.val (.ref d), .val (.int (Int32.ofNat B.slots.size))] [.ref d, .int (Int32.ofNat B.slots.size)])) := c1.trans (by
    refine XS.iloadN X0.here hexec rfl (hb hbytes d0) rfl ?_
    refine XS.aloadN X0.here hexec rfl (hb hbytes d1) rfl rfl ?_
    exact Steps.refl _)
  have c3 : Steps p.tables e below (s₁.setTop (entryFrame m #[.ref d, .int (Int32.ofNat B.slots.size)] 2)) (s₁.setTop (mkF m 8 #[.val (.ref d), .val (.int (Int32.ofNat B.slots.size))] [.int (lo8 (ushr (Int32.ofNat B.slots.size - Int32.ofNat B.slots.size) 31))])) := c2.trans (by
    refine X0.alen hexec hB0 rfl rfl (hb hbytes d2) ?_
    refine XS.isub X0.here hexec rfl (hb hbytes d3) rfl ?_
    refine bipushV X0.here hexec rfl 31 (hb hbytes d4) (by decide) ?_
    refine iushr X0.here hexec rfl (hb hbytes d6) rfl ?_
    refine i2b X0.here hexec rfl (hb hbytes d7) rfl ?_
    exact Steps.refl _)
  have e0 : lo8 (ushr (Int32.ofNat B.slots.size - Int32.ofNat B.slots.size) 31) = 0 := by rw [Int32.sub_self]; decide
  rw [e0] at c3
  exact ⟨s₁, some (.int 0), _, _, _, X0, rfl, rfl, rfl, (fun h => by cases h), ⟨rfl, hh0⟩, fun fs hl => c3.trans (X0.ireturnOut hexec hret rfl (Or.inr (Or.inr (Or.inl rfl))) (hb hbytes d8) hl)⟩
end CodL
/-- the String at a is Latin-1 over a new byte[] (the heap's one new cell): the low bytes of the len chars of A from o on; every cell but a is kept -/
def Got (a : Addr) (D : Cell) (fV fC : Field) (A : Cell) (o len : Nat) (r : Option Value) (s u : State) : Prop := r = none ∧ ∃ D' V : Cell, Blank "java/lang/String" a D' u ∧ Same D D' [fV.slot, fC.slot] ∧ D'.slots[fV.slot]? = some (.ref s.heap.size) ∧ D'.slots[fC.slot]? = some (.int 0) ∧ Arr .byte s.heap.size V u ∧ V.vm = .none ∧ u.vm.findClass "[B" = some V.cls ∧ V.slots.size = len ∧ (∀ j, j < len → V.slots[j]? = some (.int (lo8 (cv A (o + j))))) ∧ (∀ (y : Addr) (c : Cell), y ≠ a → s.heap[y]? = some c → u.heap[y]? = some c) ∧ u.heap.size = s.heap.size + 1
theorem Got.mv {a : Addr} {D A : Cell} {fV fC : Field} {o len : Nat} : ∀ r (U U' V V' : State), U'.heap = U.heap → V.vm.Alike V'.vm → V'.heap = V.heap → Got a D fV fC A o len r U V → Got a D fV fC A o len r U' V' :=
  fun r U U' V V' h1 hal h2 ⟨e0, D', X, a1, a2, a3, a4, a5, a6, a7, a8, a9, a10, a11⟩ => ⟨e0, D', X, a1.mv hal h2, a2, by rw [h1]; exact a3, a4, by rw [h1]; exact a5.mv hal h2, a6, by rw [hal.findClass]; exact a7, a8, a9, by rw [h1, h2]; exact a10, by rw [h1, h2]; exact a11⟩
namespace New4
def yN : MethodName := ⟨"java/lang/String", "<init>", "([CIILjava/lang/Void;)V"⟩
abbrev yB : ByteArray := jdk_42_method_149_code
theorem d0 : decode yB 0 = .ok (.aload_n 0, 1) := by decide +kernel
theorem d1 : decode yB 1 = .ok (.invokespecial 1, 3) := by decide +kernel
theorem d4 : decode yB 4 = .ok (.iload_n 3, 1) := by decide +kernel
theorem d5 : decode yB 5 = .ok (.ifCond (.ne) 22, 3) := by decide +kernel
theorem d27 : decode yB 27 = .ok (.getstatic 38, 3) := by decide +kernel
theorem d30 : decode yB 30 = .ok (.ifCond (.eq) 28, 3) := by decide +kernel
theorem d33 : decode yB 33 = .ok (.aload_n 1, 1) := by decide +kernel
theorem d34 : decode yB 34 = .ok (.iload_n 2, 1) := by decide +kernel
theorem d35 : decode yB 35 = .ok (.iload_n 3, 1) := by decide +kernel
theorem d36 : decode yB 36 = .ok (.invokestatic 177, 3) := by decide +kernel
theorem d39 : decode yB 39 = .ok (.astore 5, 2) := by decide +kernel
theorem d41 : decode yB 41 = .ok (.aload_n 0, 1) := by decide +kernel
theorem d42 : decode yB 42 = .ok (.aload 5, 2) := by decide +kernel
theorem d44 : decode yB 44 = .ok (.iload_n 3, 1) := by decide +kernel
theorem d45 : decode yB 45 = .ok (.invokestatic 47, 3) := by decide +kernel
theorem d48 : decode yB 48 = .ok (.putfield 15, 3) := by decide +kernel
theorem d51 : decode yB 51 = .ok (.aload_n 0, 1) := by decide +kernel
theorem d52 : decode yB 52 = .ok (.aload 5, 2) := by decide +kernel
theorem d54 : decode yB 54 = .ok (.putfield 9, 3) := by decide +kernel
theorem d57 : decode yB 57 = .ok (.return_, 1) := by decide +kernel
def site : List Cond := [.fieldLink "java/lang/String" 38 "java/lang/String" "COMPACT_STRINGS" "Z", Cmp3.tab, CodL.tab, .laysFinal "java/lang/String" "java/lang/String" "value" "[B", .fieldLink "java/lang/String" 9 "java/lang/String" "value" "[B", .laysFinal "java/lang/String" "java/lang/String" "coder" "B", .fieldLink "java/lang/String" 15 "java/lang/String" "coder" "B"] ++ objW "java/lang/String" 1 ++ staticW "java/lang/String" 177 Cmp3.yN ++ staticW "java/lang/String" 47 CodL.yN
def tab : Cond := tabOf yN yB 6 none site
def P (a : Addr) (D : Cell) (fV fC : Field) (b : Addr) (A : Cell) (z : Int32) (o len : Nat) (args : Array Value) (s : State) : Prop := args = #[.ref a, .ref b, .int (Int32.ofNat o), .int (Int32.ofNat len), .null] ∧ Blank "java/lang/String" a D s ∧ Found "java/lang/String" "value" "[B" fV s ∧ Found "java/lang/String" "coder" "B" fC s ∧ Ch b A s ∧ StaticIs s "java/lang/String" "COMPACT_STRINGS" "Z" (.int z) ∧ ¬ z = 0 ∧ 0 < len ∧ o + len ≤ A.slots.size ∧ len ≤ 536870912 ∧ ∀ i, i < len → ¬ 255 < cv A (o + i)
def E (a : Addr) (D : Cell) (fV fC : Field) (A : Cell) (o len : Nat) (r : Option Value) (s u : State) : Prop := Got a D fV fC A o len r s u
/-- len > 0, no char of the range above 255: a Latin-1 String of their low bytes -/
theorem law (l : Launch) (a : Addr) (D : Cell) (fV fC : Field) (b : Addr) (A : Cell) (z : Int32) (o len : Nat) : Law l yN 5 4 2 35 yB 6 none site (P a D fV fC b A z o len) (E a D fV fC A o len) [⟨a, fC.slot⟩, ⟨a, fV.slot⟩] 1 len := by
  refine Law.of_walk (plainFor_of_name (by decide +kernel)) (by decide +kernel) (by decide +kernel) (by decide) (fun _ _ h => by rw [h.1]; rfl) (fun _ U U' hal hh h => ⟨h.1, h.2.1.mv hal hh, h.2.2.1.al hal, h.2.2.2.1.al hal, h.2.2.2.2.1.mv hal hh, h.2.2.2.2.2.1.there hal hh, h.2.2.2.2.2.2⟩) (fun r U U' V V' h1 hal h2 h => Got.mv r U U' V V' h1 hal h2 h) ?_
  intro p e s m args below meth c s₁ X0 hexec hbytes hml hret hlk hnm hown hh0 W hP
  obtain ⟨rfl, hB, f1, f2, hA, s1, hz, l0, l1, l2, hp⟩ := hP
  have a31 := hA.1.2.2.2
  have c1 : Steps p.tables e below (s₁.setTop (entryFrame m #[.ref a, .ref b, .int (Int32.ofNat o), .int (Int32.ofNat len), .null] 6)) (s₁.setTop (mkF m 0 #[.val (.ref a), .val (.ref b), .val (.int (Int32.ofNat o)), .val (.int (Int32.ofNat len)), .val .null, .unset] [])) := entry rfl
  have c2 : Steps p.tables e below (s₁.setTop (entryFrame m #[.ref a, .ref b, .int (Int32.ofNat o), .int (Int32.ofNat len), .null] 6)) (s₁.setTop (mkF m 1 #[.val (.ref a), .val (.ref b), .val (.int (Int32.ofNat o)), .val (.int (Int32.ofNat len)), .val .null, .unset] [.ref a])) := c1.trans (by
    refine XS.aloadN X0.here hexec rfl (hb hbytes d0) rfl rfl ?_
    exact Steps.refl _)
  obtain ⟨T3, X3, q3, st3⟩ := X0.oinit hexec hown (wks W (objW "java/lang/String" 1)) (g := (mkF m 1 #[.val (.ref a), .val (.ref b), .val (.int (Int32.ofNat o)), .val (.int (Int32.ofNat len)), .val .null, .unset] [.ref a])) rfl (by rw [hml]; rfl) (rest := []) rfl (hb hbytes d1) (W := 0) (by show 2 * 0 + 0 ≤ _; decide) (Nat.le_of_ble_eq_true rfl) (Nat.le_of_ble_eq_true rfl)
  have hh3 := q3.trans hh0
  have c4 : Steps p.tables e below (s₁.setTop (entryFrame m #[.ref a, .ref b, .int (Int32.ofNat o), .int (Int32.ofNat len), .null] 6)) (T3.setTop (mkF m 27 #[.val (.ref a), .val (.ref b), .val (.int (Int32.ofNat o)), .val (.int (Int32.ofNat len)), .val .null, .unset] [])) := (c2.trans (st3 _ (Steps.refl _))).trans (by
    refine XS.iloadN X3.here hexec rfl (hb hbytes d4) rfl ?_
    refine XS.ifYes X3.here hexec rfl (pc0 := 5) rfl (hb hbytes d5) rfl (i0_ne_t (nz32 (by omega) l0)) (by decide) rfl ?_
    exact Steps.refl _)
  obtain ⟨T5, X5, q5, st5⟩ := X3.sget hexec hown (wk W (.fieldLink "java/lang/String" 38 "java/lang/String" "COMPACT_STRINGS" "Z")) s1 (fun _ _ h => by rw [hh3]; exact h) (g := (mkF m 27 #[.val (.ref a), .val (.ref b), .val (.int (Int32.ofNat o)), .val (.int (Int32.ofNat len)), .val .null, .unset] [])) rfl (hb hbytes d27)
  have hh5 := q5.trans hh3
  have c6 : Steps p.tables e below (s₁.setTop (entryFrame m #[.ref a, .ref b, .int (Int32.ofNat o), .int (Int32.ofNat len), .null] 6)) (T5.setTop (mkF m 30 #[.val (.ref a), .val (.ref b), .val (.int (Int32.ofNat o)), .val (.int (Int32.ofNat len)), .val .null, .unset] [.int z])) := c4.trans (st5 _ (Steps.refl _))
  have c7 : Steps p.tables e below (s₁.setTop (entryFrame m #[.ref a, .ref b, .int (Int32.ofNat o), .int (Int32.ofNat len), .null] 6)) (T5.setTop (mkF m 36 #[.val (.ref a), .val (.ref b), .val (.int (Int32.ofNat o)), .val (.int (Int32.ofNat len)), .val .null, .unset] [.int (Int32.ofNat len), .int (Int32.ofNat o), .ref b])) := c6.trans (by
    refine XS.ifNo X5.here hexec rfl (hb hbytes d30) rfl (i0_eq_f hz) ?_
    refine XS.aloadN X5.here hexec rfl (hb hbytes d33) rfl rfl ?_
    refine XS.iloadN X5.here hexec rfl (hb hbytes d34) rfl ?_
    refine XS.iloadN X5.here hexec rfl (hb hbytes d35) rfl ?_
    exact Steps.refl _)
  obtain ⟨v8, T8, X8, E8, g8⟩ := X5.callS hexec (Cmp3.law l b A o len) hown (wks W (staticW "java/lang/String" 177 Cmp3.yN)) (wk W Cmp3.tab) (W := 0) (Nat.le_of_ble_eq_true rfl) (Nat.le_of_ble_eq_true rfl) (Nat.le_refl _) (by show 0 + len ≤ len; omega) (g := (mkF m 36 #[.val (.ref a), .val (.ref b), .val (.int (Int32.ofNat o)), .val (.int (Int32.ofNat len)), .val .null, .unset] [.int (Int32.ofNat len), .int (Int32.ofNat o), .ref b])) rfl (by rw [hml]; rfl) c7 (argsL := [.ref b, .int (Int32.ofNat o), .int (Int32.ofNat len)]) (rest := []) rfl rfl (by show 2 * 0 + 0 ≤ _; decide) (hb hbytes d36) (⟨rfl, hA.mv X5.warmed.alike hh5, l1, l2, hp⟩)
  obtain ⟨e8, z8⟩ := E8
  obtain ⟨rfl, N, n1, n2, n3, n4, n5, n6⟩ := NewArr.mv _ T5 s _ _ hh5.symm (Vm.Alike.refl _) rfl e8
  rw [hh5] at z8
  have hB1 := hB.keep X8.warmed.alike (n6 _ _ hB.1)
  have hne : s.heap.size ≠ a := (Nat.ne_of_lt (Array.getElem?_eq_some_iff.mp hB.1).1).symm
  have c9 : Steps p.tables e below (s₁.setTop (entryFrame m #[.ref a, .ref b, .int (Int32.ofNat o), .int (Int32.ofNat len), .null] 6)) (T8.setTop (mkF m 39 #[.val (.ref a), .val (.ref b), .val (.int (Int32.ofNat o)), .val (.int (Int32.ofNat len)), .val .null, .unset] [.ref s.heap.size])) := g8
  have c10 : Steps p.tables e below (s₁.setTop (entryFrame m #[.ref a, .ref b, .int (Int32.ofNat o), .int (Int32.ofNat len), .null] 6)) (T8.setTop (mkF m 45 #[.val (.ref a), .val (.ref b), .val (.int (Int32.ofNat o)), .val (.int (Int32.ofNat len)), .val .null, .val (.ref s.heap.size)] [.int (Int32.ofNat N.slots.size), .ref s.heap.size, .ref a])) := by
    have hc : Steps p.tables e below (s₁.setTop (entryFrame m #[.ref a, .ref b, .int (Int32.ofNat o), .int (Int32.ofNat len), .null] 6)) (T8.setTop (mkF m 45 #[.val (.ref a), .val (.ref b), .val (.int (Int32.ofNat o)), .val (.int (Int32.ofNat len)), .val .null, .val (.ref s.heap.size)] [.int (Int32.ofNat len), .ref s.heap.size, .ref a])) := c9.trans (by
      refine XS.astore X8.here hexec rfl (hb hbytes d39) rfl rfl rfl ?_
      refine XS.aloadN X8.here hexec rfl (hb hbytes d41) rfl rfl ?_
      refine XS.aload X8.here hexec rfl (hb hbytes d42) rfl rfl ?_
      refine XS.iloadN X8.here hexec rfl (hb hbytes d44) rfl ?_
      exact Steps.refl _)
    rw [n4]; exact hc
  obtain ⟨v11, T11, X11, E11, g11⟩ := X8.callS hexec (CodL.law l s.heap.size N) hown (wks W (staticW "java/lang/String" 47 CodL.yN)) (wk W CodL.tab) (W := 1) (Nat.le_of_ble_eq_true rfl) (Nat.le_of_ble_eq_true rfl) (Nat.le_refl _) (by show 0 + len + 0 ≤ len; omega) (g := (mkF m 45 #[.val (.ref a), .val (.ref b), .val (.int (Int32.ofNat o)), .val (.int (Int32.ofNat len)), .val .null, .val (.ref s.heap.size)] [.int (Int32.ofNat N.slots.size), .ref s.heap.size, .ref a])) rfl (by rw [hml]; rfl) c10 (argsL := [.ref s.heap.size, .int (Int32.ofNat N.slots.size)]) (rest := [.ref a]) rfl rfl (by show 2 * 0 + (1 + 0) ≤ _; decide) (hb hbytes d45) (⟨rfl, n1⟩)
  obtain ⟨rfl, q11⟩ := E11
  have hB11 := hB1.mv (X8.warmed.alike.symm.trans X11.warmed.alike) q11
  have c12 : Steps p.tables e below (s₁.setTop (entryFrame m #[.ref a, .ref b, .int (Int32.ofNat o), .int (Int32.ofNat len), .null] 6)) (T11.setTop (mkF m 48 #[.val (.ref a), .val (.ref b), .val (.int (Int32.ofNat o)), .val (.int (Int32.ofNat len)), .val .null, .val (.ref s.heap.size)] [.int 0, .ref a])) := g11
  obtain ⟨T13, X13, p13, bl13, sl13, st13⟩ := X11.finit hexec hown (wk W (.fieldLink "java/lang/String" 15 "java/lang/String" "coder" "B")) (Or.inr ⟨_, (wk W (.laysFinal "java/lang/String" "java/lang/String" "coder" "B"))⟩) (Or.inl ⟨rfl, hnm⟩) f2 (Or.inl rfl) hB11 (t := .byte) (by decide +kernel) rfl (g := (mkF m 48 #[.val (.ref a), .val (.ref b), .val (.int (Int32.ofNat o)), .val (.int (Int32.ofNat len)), .val .null, .val (.ref s.heap.size)] [.int 0, .ref a])) rfl (rest := []) rfl (hb hbytes d48)
  have c14 : Steps p.tables e below (s₁.setTop (entryFrame m #[.ref a, .ref b, .int (Int32.ofNat o), .int (Int32.ofNat len), .null] 6)) (T13.setTop (mkF m 54 #[.val (.ref a), .val (.ref b), .val (.int (Int32.ofNat o)), .val (.int (Int32.ofNat len)), .val .null, .val (.ref s.heap.size)] [.ref s.heap.size, .ref a])) := (c12.trans (st13 _ (Steps.refl _))).trans (by
    refine XS.aloadN X13.here hexec rfl (hb hbytes d51) rfl rfl ?_
    refine XS.aload X13.here hexec rfl (hb hbytes d52) rfl rfl ?_
    exact Steps.refl _)
  obtain ⟨T15, X15, p15, bl15, sl15, st15⟩ := X13.finit hexec hown (wk W (.fieldLink "java/lang/String" 9 "java/lang/String" "value" "[B")) (Or.inr ⟨_, (wk W (.laysFinal "java/lang/String" "java/lang/String" "value" "[B"))⟩) (Or.inl ⟨rfl, hnm⟩) f1 (Or.inl rfl) bl13 (t := (.array .byte)) (by decide +kernel) rfl (g := (mkF m 54 #[.val (.ref a), .val (.ref b), .val (.int (Int32.ofNat o)), .val (.int (Int32.ofNat len)), .val .null, .val (.ref s.heap.size)] [.ref s.heap.size, .ref a])) rfl (rest := []) rfl (hb hbytes d54)
  have c16 : Steps p.tables e below (s₁.setTop (entryFrame m #[.ref a, .ref b, .int (Int32.ofNat o), .int (Int32.ofNat len), .null] 6)) (T15.setTop (mkF m 57 #[.val (.ref a), .val (.ref b), .val (.int (Int32.ofNat o)), .val (.int (Int32.ofNat len)), .val .null, .val (.ref s.heap.size)] [])) := c14.trans (st15 _ (Steps.refl _))
  have ap := apart (Or.inr ⟨_, (wk W (.laysFinal "java/lang/String" "java/lang/String" "value" "[B"))⟩) (Or.inr ⟨_, (wk W (.laysFinal "java/lang/String" "java/lang/String" "coder" "B"))⟩) f1 f2 (t₁ := .array .byte) (t₂ := .byte) (by decide +kernel) (by decide +kernel) (by decide)
  have al := X8.warmed.alike.symm.trans X15.warmed.alike
  have n7 : T11.heap[s.heap.size]? = some N := by rw [q11]; exact n1.1
  exact ⟨T15, none, _, _, _, X15, by simp, rfl, by omega, (fun _ => rfl), ⟨rfl, _, N, bl15, ((Same.refl D _).set _ (by simp)).set _ (by simp), sl15, (Cell.slots_setSlot_ne _ ap).trans sl13, n1.keep al (p15.other hne (p13.other hne n7)), n2, by rw [al.findClass]; exact n3, n4, n5, fun y c h1 h2 => p15.other h1 (p13.other h1 (by rw [q11]; exact n6 y c h2)), by rw [p15.2.2, p13.2.2, q11]; exact z8⟩, fun fs hl => c16.trans (X15.returnOut hexec hret (hb hbytes d57) hl)⟩
end New4
namespace New1
def yN : MethodName := ⟨"java/lang/String", "<init>", "([C)V"⟩
abbrev yB : ByteArray := jdk_42_method_3_code
theorem d0 : decode yB 0 = .ok (.aload_n 0, 1) := by decide +kernel
theorem d1 : decode yB 1 = .ok (.aload_n 1, 1) := by decide +kernel
theorem d2 : decode yB 2 = .ok (.iconst 0, 1) := by decide +kernel
theorem d3 : decode yB 3 = .ok (.aload_n 1, 1) := by decide +kernel
theorem d4 : decode yB 4 = .ok (.arraylength, 1) := by decide +kernel
theorem d5 : decode yB 5 = .ok (.aconst_null, 1) := by decide +kernel
theorem d6 : decode yB 6 = .ok (.invokespecial 27, 3) := by decide +kernel
theorem d9 : decode yB 9 = .ok (.return_, 1) := by decide +kernel
def site : List Cond := [New4.tab] ++ initW "java/lang/String" 27 New4.yN
def tab : Cond := tabOf yN yB 2 none site
def P (a : Addr) (D : Cell) (fV fC : Field) (b : Addr) (A : Cell) (z : Int32) (args : Array Value) (s : State) : Prop := args = #[.ref a, .ref b] ∧ Blank "java/lang/String" a D s ∧ Found "java/lang/String" "value" "[B" fV s ∧ Found "java/lang/String" "coder" "B" fC s ∧ Ch b A s ∧ StaticIs s "java/lang/String" "COMPACT_STRINGS" "Z" (.int z) ∧ ¬ z = 0 ∧ 0 < A.slots.size ∧ A.slots.size ≤ 536870912 ∧ ∀ i, i < A.slots.size → ¬ 255 < cv A i
def E (a : Addr) (D : Cell) (fV fC : Field) (A : Cell) (r : Option Value) (s u : State) : Prop := Got a D fV fC A 0 A.slots.size r s u
/-- new String(chars), not empty, no char above 255: a Latin-1 String of their low bytes -/
theorem law (l : Launch) (a : Addr) (D : Cell) (fV fC : Field) (b : Addr) (A : Cell) (z : Int32) : Law l yN 2 1 3 52 yB 2 none site (P a D fV fC b A z) (E a D fV fC A) [⟨a, fC.slot⟩, ⟨a, fV.slot⟩] 1 A.slots.size := by
  refine Law.of_walk (plainFor_of_name (by decide +kernel)) (by decide +kernel) (by decide +kernel) (by decide) (fun _ _ h => by rw [h.1]; rfl) (fun _ U U' hal hh h => ⟨h.1, h.2.1.mv hal hh, h.2.2.1.al hal, h.2.2.2.1.al hal, h.2.2.2.2.1.mv hal hh, h.2.2.2.2.2.1.there hal hh, h.2.2.2.2.2.2⟩) (fun r U U' V V' h1 hal h2 h => Got.mv r U U' V V' h1 hal h2 h) ?_
  intro p e s m args below meth c s₁ X0 hexec hbytes hml hret hlk hnm hown hh0 W hP
  obtain ⟨rfl, hB, f1, f2, hA, s1, hz, l0, l2, hp⟩ := hP
  have c1 : Steps p.tables e below (s₁.setTop (entryFrame m #[.ref a, .ref b] 2)) (s₁.setTop (mkF m 0 #[.val (.ref a), .val (.ref b)] [])) := entry rfl
  have c2 : Steps p.tables e below (s₁.setTop (entryFrame m #[.ref a, .ref b] 2)) (s₁.setTop (mkF m 6 #[.val (.ref a), .val (.ref b)] [.null, .int (Int32.ofNat A.slots.size), .int 0, .ref b, .ref a])) := c1.trans (by
    refine XS.aloadN X0.here hexec rfl (hb hbytes d0) rfl rfl ?_
    refine XS.aloadN X0.here hexec rfl (hb hbytes d1) rfl rfl ?_
    refine iconstV X0.here hexec rfl 0 (hb hbytes d2) (by decide) ?_
    refine XS.aloadN X0.here hexec rfl (hb hbytes d3) rfl rfl ?_
    refine X0.alen hexec (hA.1.mv X0.warmed.alike hh0) rfl rfl (hb hbytes d4) ?_
    refine XS.aconstNull X0.here hexec rfl (hb hbytes d5) ?_
    exact Steps.refl _)
  obtain ⟨v3, T3, X3, E3, g3⟩ := X0.callN hexec (New4.law l a D fV fC b A z 0 A.slots.size) rfl hown (wks W (initW "java/lang/String" 27 New4.yN)) (W New4.tab (by simp only [site, List.mem_cons, List.mem_append, true_or, or_true])) (W := 0) (Nat.le_of_ble_eq_true rfl) (Nat.le_of_ble_eq_true rfl) (Nat.le_refl _) (by show 0 + A.slots.size ≤ A.slots.size; omega) (g := (mkF m 6 #[.val (.ref a), .val (.ref b)] [.null, .int (Int32.ofNat A.slots.size), .int (Int32.ofNat 0), .ref b, .ref a])) rfl (by rw [hml]; rfl) c2 (argsL := [.ref b, .int (Int32.ofNat 0), .int (Int32.ofNat A.slots.size), .null]) (rest := []) rfl rfl (by show 2 * 0 + 0 ≤ _; decide) (hb hbytes d6) (⟨rfl, hB.mv X0.warmed.alike hh0, f1.al X0.warmed.alike, f2.al X0.warmed.alike, hA.mv X0.warmed.alike hh0, s1.there X0.warmed.alike hh0, hz, l0, by omega, l2, fun i hi => by rw [Nat.zero_add]; exact hp i hi⟩)
  have e0 := Got.mv _ s₁ s _ _ hh0.symm (Vm.Alike.refl _) rfl E3
  obtain rfl := e0.1
  have c4 : Steps p.tables e below (s₁.setTop (entryFrame m #[.ref a, .ref b] 2)) (T3.setTop (mkF m 9 #[.val (.ref a), .val (.ref b)] [])) := g3
  exact ⟨T3, none, _, _, _, X3, by simp, rfl, by omega, (fun _ => rfl), e0, fun fs hl => c4.trans (X3.returnOut hexec hret (hb hbytes d9) hl)⟩
theorem pays {l : Launch} {R : Room} {p : Program} {e : Env} {below : List Frame} {s : State} {sargs : Array Value} {len W : Nat} (a : Addr) (D : Cell) (fV fC : Field) (b : Addr) (A : Cell) (z : Int32) (htab : tab.before sargs s = true) (hfr : 4 ≤ R.frames) (hlo : W + 65 ≤ R.locals) :
    Back l R p e below s sargs yN len W (fun A₁ a₁ => A₁.cells + 1 ≤ R.cells ∧ A₁.slots + A.slots.size ≤ R.slots ∧ P a D fV fC b A z a₁ A₁.U) (fun A₁ _ v₁ B₁ => E a D fV fC A v₁ A₁.U B₁.U ∧ B₁.locs = A₁.locs ++ [⟨a, fC.slot⟩, ⟨a, fV.slot⟩] ∧ B₁.cells = A₁.cells + 1 ∧ B₁.slots = A₁.slots + A.slots.size) :=
  (law l a D fV fC b A z).pays htab hfr (by omega)
end New1
/-- the byte, read back as charAt reads it, is the char -/
theorem lo8_mask {x : Int32} (h0 : ¬ x < 0) (h1 : ¬ 255 < x) : lo8 x &&& 255 = x := by
  have t : ∀ k : Fin 256, lo8 (Int32.ofNat k.val) &&& 255 = Int32.ofNat k.val := by decide +kernel
  rw [Int32.lt_iff_toInt_lt] at h0 h1
  have e0 : (0 : Int32).toInt = 0 := rfl
  have e1 : (255 : Int32).toInt = 255 := rfl
  obtain ⟨k, hk⟩ : ∃ k : Nat, x.toInt = k := ⟨x.toInt.toNat, by omega⟩
  have hx : x = Int32.ofNat k := Int32.toInt_inj.mp (by rw [hk, Int32.toInt_ofNat_small (by omega)])
  rw [hx]
  exact t ⟨k, by omega⟩
end StrChars
namespace StrChars.Road
open Jvm Sem ClassFile Op Lib Jvm.Stand Jvm.Free Jvm.Free.XT
open Jvm.Lib.Cold (StaticIs)
abbrev ST : String := "java/lang/String"
/-- every table word that New1's law asks, flat -/
abbrev words : List Jvm.Cond := [.code New1.yN New1.yB 2 none, .initialized ST, .methodLink ST 27 New4.yN, .instanceMethod New4.yN,
  .code New4.yN New4.yB 6 none, .fieldLink ST 38 ST "COMPACT_STRINGS" "Z", .laysFinal ST ST "value" "[B", .fieldLink ST 9 ST "value" "[B", .laysFinal ST ST "coder" "B", .fieldLink ST 15 ST "coder" "B",
  .methodLink ST 1 Lib.objectInit, .instanceMethod Lib.objectInit, .code Lib.objectInit ⟨#[0xb1]⟩ 1 none, .methodLink ST 177 Cmp3.yN, .static Cmp3.yN, .methodLink ST 47 CodL.yN, .static CodL.yN,
  .code Cmp3.yN Cmp3.yB 6 (some (.array .byte)), .initialized U16, .arrayClass .byte, .methodLink U16 115 Cmp5.yN, .static Cmp5.yN, .code Cmp5.yN Cmp5.yB 7 (some .int), .code CodL.yN CodL.yB 2 (some .byte)]
theorem tab_of {a : Array Value} {s : State} (h : ∀ w ∈ words, w.before a s = true) : New1.tab.before a s = true := by
  have h5 : Cmp5.tab.before a s = true := unparts (wk h (.code Cmp5.yN Cmp5.yB 7 (some .int))) (wks h (.initialized Cmp5.yN.cls :: Cmp5.site))
  have hc : CodL.tab.before a s = true := unparts (wk h (.code CodL.yN CodL.yB 2 (some .byte))) (wks h (.initialized CodL.yN.cls :: CodL.site))
  have q5 : ∀ w ∈ Cmp5.tab :: words, w.before a s = true := fun w hw => (List.mem_cons.mp hw).elim (fun e => e ▸ h5) (h w)
  have h3 : Cmp3.tab.before a s = true := unparts (wk q5 (.code Cmp3.yN Cmp3.yB 6 (some (.array .byte)))) (wks q5 (.initialized Cmp3.yN.cls :: Cmp3.site))
  have q3 : ∀ w ∈ Cmp3.tab :: CodL.tab :: words, w.before a s = true := fun w hw => (List.mem_cons.mp hw).elim (fun e => e ▸ h3) fun hw => (List.mem_cons.mp hw).elim (fun e => e ▸ hc) (h w)
  have h4 : New4.tab.before a s = true := unparts (wk q3 (.code New4.yN New4.yB 6 none)) (wks q3 (.initialized New4.yN.cls :: New4.site))
  have q4 : ∀ w ∈ New4.tab :: words, w.before a s = true := fun w hw => (List.mem_cons.mp hw).elim (fun e => e ▸ h4) (h w)
  exact unparts (wk q4 (.code New1.yN New1.yB 2 none)) (wks q4 (.initialized New1.yN.cls :: New1.site))
/-- the words ride from the start Z to the walk's own state -/
theorem moved {Z s : State} {a0 args : Array Value} (hZ : Z.Warmed39 s.vm) (hw : ∀ d ∈ words, d.before a0 Z = true) : ∀ d ∈ words, d.before args s = true := fun d hd => by
  have q := hw d hd
  have t : ∀ d ∈ words, d = .arrayClass .byte ∨ (d.onTables && d.keepsFace) = true := by decide +kernel
  rcases t d hd with rfl | t
  · exact RoadKit.mvA hZ q
  · exact RoadKit.mv hZ q t
/-- WHAT COMES BACK, over the tables of the start Z: h the heap at the call, h' behind it -/
def Q (Z : State) (x : Addr) (A : Cell) (h : Heap) (v : Option Value) (h' : Heap) (L : List Loc) : Prop := v = none ∧ (∀ y ∈ L, y.base = x) ∧ RoadKit.Keep h h' [x] ∧ h'.size = h.size + 1 ∧ RoadKit.Exa Z h' x ST ∧ RoadKit.Fld Z h' x ST "value" "[B" (.ref h.size) ∧ RoadKit.Fld Z h' x ST "coder" "B" (.int 0) ∧
  (∃ V : Cell, RoadKit.Arr Z h' h.size V .byte ∧ V.vm = .none ∧ Z.vm.findClass "[B" = some V.cls ∧ V.slots.size = A.slots.size ∧ ∀ j, j < A.slots.size → V.slots[j]? = some (.int (lo8 (cv A j)))) ∧
  ∀ (O n d : String) (w : Value), RoadKit.Fld Z h x O n d w → RoadKit.slotOf Z O n d ≠ RoadKit.slotOf Z ST "value" "[B" → RoadKit.slotOf Z O n d ≠ RoadKit.slotOf Z ST "coder" "B" → RoadKit.Fld Z h' x O n d w
/-- **new String(chars) AT A CALL, IN THE ROAD'S FORM**: for specialBack behind newO: x the fresh String, b the char[] with the cell A -/
theorem back {p : Program} {l : Launch} {e : Env} {R : Room} {s : State} {args : Array Value} {below : List Frame} {len W : Nat} {Z : State} {a0 : Array Value} {h : Heap} (hZ : Z.Warmed39 s.vm) (hw : ∀ d ∈ words, d.before a0 Z = true) {kI : Nat} (wi : (Jvm.Cond.instantiable ST kI).before a0 Z = true)
    {x b : Addr} {A : Cell} {z : Int32} {v0 c0 : Value} (E : RoadKit.Exa Z h x ST) (V : RoadKit.Fld Z h x ST "value" "[B" v0) (C : RoadKit.Fld Z h x ST "coder" "B" c0) (K : RoadKit.Arr Z h b A .char) (hty : Typed .char A) (S : RoadKit.Sta Z h ST "COMPACT_STRINGS" "Z" (.int z)) (hz : ¬ z = 0)
    (l0 : 0 < A.slots.size) (l2 : A.slots.size ≤ 536870912) (hp : ∀ i, i < A.slots.size → ¬ 255 < cv A i) (hfr : 4 ≤ R.frames) (hlo : W + 65 ≤ R.locals) :
    Back l R p e below s args New1.yN len W (fun P a => a = #[.ref x, .ref b] ∧ P.U.heap = h ∧ P.cells + 1 ≤ R.cells ∧ P.slots + A.slots.size ≤ R.slots)
      (fun P _ v B => ∃ L, Q Z x A h v B.U.heap L ∧ B.locs = P.locs ++ L ∧ B.cells = P.cells + 1 ∧ B.slots = P.slots + A.slots.size) := by
  intro m meth c P g ig mk a X hg hsize hdg hW hn hp'
  obtain ⟨rfl, rfl, r1, r2⟩ := hp'
  have al : Z.vm.Alike P.U.vm := hZ.alike.trans X.warmed.alike
  obtain ⟨D, cfV, kV, iV, fV, hD, gV, stV, knV, obV, asV, slV⟩ := id V
  obtain ⟨D', cfC, kC, iC, fC, hD', gC, stC, -, -, asC, slC⟩ := id C
  cases hD.symm.trans hD'
  obtain ⟨D2, kD, e1, e2, e3, e4, e5⟩ := id E
  cases hD.symm.trans e1
  obtain ⟨c2, k2, i1, i2, i3, -⟩ := Cond.instantiable_spec wi
  cases e2.symm.trans i1
  cases e3.symm.trans i2
  obtain ⟨kU, u1, u2⟩ := al.2.2 _ _ e3
  have hB : Blank ST x D P.U := ⟨hD, ⟨knV, fun q hq => by rw [hq] at obV; cases obV⟩, by rw [al.findClass]; exact e2, kU, u1, by rw [u2]; exact i3, by rw [u2]; exact e5 i3⟩
  have F1 : Found ST "value" "[B" fV P.U := ⟨SBG.found_only al ⟨cfV, kV, iV, gV⟩, stV⟩
  have F2 : Found ST "coder" "B" fC P.U := ⟨SBG.found_only al ⟨cfC, kC, iC, gC⟩, stC⟩
  have hA : Ch b A P.U := ⟨⟨K.1, State.isArrayOf_alike al K.2.1, K.2.2, by omega⟩, hty⟩
  have hS : StaticIs P.U ST "COMPACT_STRINGS" "Z" (.int z) := by
    obtain ⟨cfS, iS, kS, fS, st, cS, t1, t2, t3, t4, t5, t6, t7⟩ := S
    exact StaticIs.there (s := { Z with heap := P.U.heap }) ⟨cfS, iS, kS, fS, st, cS, t1, t2, t3, t4, t5, (fun q => by rw [q] at t6; cases t6), t7⟩ al rfl
  obtain ⟨v, B, X', ⟨⟨hv, E', V', q1, q2, q3, q4, q5, q6, q7, q8, q9, q10, q11⟩, hl, hc, hs⟩, st⟩ := New1.pays x D fV fC b A z (tab_of (moved hZ hw)) hfr hlo m meth c P g ig mk _ X hg hsize hdg hW hn ⟨r1, r2, rfl, hB, F1, F2, hA, hS, hz, l0, l2, hp⟩
  have al' : Z.vm.Alike B.U.vm := hZ.alike.trans X'.warmed.alike
  have hsz : E'.slots.size = D.slots.size := by
    obtain ⟨-, -, -, kB, w1, w2, w3⟩ := q1
    obtain ⟨kB', y1, y2⟩ := al'.2.2 _ _ e3
    rw [q2.2.1] at w1
    cases w1.symm.trans y1
    rw [w3, e5 i3, y2]
  refine ⟨v, B, X', ⟨_, ⟨hv, ?_, ⟨by omega, fun y cy hy hn' => q10 y cy (by simpa using hn') hy, fun y cy hy => ?_⟩, q11, ⟨E', _, q1.1, by rw [q2.2.1]; exact e2, by rw [q2.2.1]; exact e3, by rw [q2.1]; exact obV, fun _ => by rw [hsz]; exact e5 i3⟩,
    ⟨E', cfV, kV, iV, fV, q1.1, gV, stV, by rw [q2.1]; exact knV, by rw [q2.1]; exact obV, by rw [q2.2.1]; exact asV, q3⟩, ⟨E', cfC, kC, iC, fC, q1.1, gC, stC, by rw [q2.1]; exact knV, by rw [q2.1]; exact obV, by rw [q2.2.1]; exact asC, q4⟩,
    ⟨V', ⟨q5.1, State.isArrayOf_alike al'.symm q5.2.1, q5.2.2.1⟩, q6, by rw [← al'.findClass]; exact q7, q8, fun j hj => by have := q9 j hj; rwa [Nat.zero_add] at this⟩, fun O n d w F n1 n2 => ?_⟩, hl, hc, hs⟩, st⟩
  · intro y hy
    simp only [List.mem_cons, List.not_mem_nil, or_false] at hy
    rcases hy with rfl | rfl <;> rfl
  · by_cases q : y = x
    · subst q
      cases hD.symm.trans hy
      exact ⟨E', q1.1, q2.2.1, q2.1, hsz⟩
    · exact ⟨cy, q10 y cy q hy, rfl, rfl, rfl⟩
  · obtain ⟨D3, cf, k, i, f, g1, g2, g3, g4, g5, g6, g7⟩ := F
    cases hD.symm.trans g1
    simp only [RoadKit.slotOf, g2, gV, gC, Option.map_some, Option.getD_some] at n1 n2
    exact ⟨E', cf, k, i, f, q1.1, g2, g3, by rw [q2.1]; exact g4, by rw [q2.1]; exact g5, by rw [q2.2.1]; exact g6, by rw [q2.2.2 f.slot (by simp [n1, n2])]; exact g7⟩
end StrChars.Road
namespace StrChars.Road
open Jvm Sem ClassFile Op Lib Jvm.Stand Jvm.Free Jvm.Free.XT
/-- WHAT COMES BACK, the byte[] as a list of values -/
def QA (Z : State) (x : Addr) (zn : Int32) (cs : List Int32) (h : Heap) (v : Option Value) (h' : Heap) (L : List Loc) : Prop := v = none ∧ (∀ y ∈ L, y.base = x) ∧ RoadKit.Keep h h' [x] ∧ h'.size = h.size + 1 ∧ RoadKit.Exa Z h' x ST ∧ RoadKit.Fld Z h' x ST "value" "[B" (.ref h.size) ∧ RoadKit.Fld Z h' x ST "coder" "B" (.int 0) ∧
  (∃ kb, Z.vm.findClass "[B" = some kb ∧ RoadKit.Arv Z h' h.size kb .byte zn (cs.map fun c => .int (lo8 c)) (.int 0)) ∧
  ∀ (O n d : String) (w : Value), RoadKit.Fld Z h x O n d w → RoadKit.slotOf Z O n d ≠ RoadKit.slotOf Z ST "value" "[B" → RoadKit.slotOf Z O n d ≠ RoadKit.slotOf Z ST "coder" "B" → RoadKit.Fld Z h' x O n d w
/-- **new String(chars) AT A CALL, THE ARRAYS AS LISTS**: the char[] at b holds cs, not empty, no char above 255 -/
theorem backArv {p : Program} {l : Launch} {e : Env} {R : Room} {s : State} {args : Array Value} {below : List Frame} {len W : Nat} {Z : State} {a0 : Array Value} {h : Heap} (hZ : Z.Warmed39 s.vm) (hw : ∀ d ∈ words, d.before a0 Z = true) {kI : Nat} (wi : (Jvm.Cond.instantiable ST kI).before a0 Z = true)
    {x b : Addr} {k : ClassId} {zn z : Int32} {cs : List Int32} {dv v0 c0 : Value} (E : RoadKit.Exa Z h x ST) (V : RoadKit.Fld Z h x ST "value" "[B" v0) (C : RoadKit.Fld Z h x ST "coder" "B" c0) (K : RoadKit.Arv Z h b k .char zn (cs.map Value.int) dv) (S : RoadKit.Sta Z h ST "COMPACT_STRINGS" "Z" (.int z)) (hz : ¬ z = 0)
    (hlen : zn.toNatClampNeg = cs.length) (h0 : 0 < cs.length) (hbig : cs.length ≤ 536870912) (hall : ∀ c ∈ cs, ¬ 255 < c) (hfr : 4 ≤ R.frames) (hlo : W + 65 ≤ R.locals) :
    Back l R p e below s args New1.yN len W (fun P a => a = #[.ref x, .ref b] ∧ P.U.heap = h ∧ P.cells + 1 ≤ R.cells ∧ P.slots + cs.length ≤ R.slots)
      (fun P _ v B => ∃ L, QA Z x zn cs h v B.U.heap L ∧ B.locs = P.locs ++ L ∧ B.cells = P.cells + 1 ∧ B.slots = P.slots + cs.length) := by
  obtain ⟨A, K1, K2, K3, K4, K5, K6⟩ := K
  have e : A.slots.size = cs.length := K3.trans hlen
  have hat : ∀ (i : Nat) (hi : i < cs.length), A.slots[i]? = some (.int cs[i]) := fun i hi => by rw [K5 i (by omega)]; simp [List.getD_eq_getElem?_getD, hi]
  have hcv : ∀ (i : Nat) (hi : i < cs.length), cv A i = cs[i] := fun i hi => by unfold cv; rw [hat i hi]
  have hty : Typed .char A := fun i v hv => by
    have hi : i < A.slots.size := (Array.getElem?_eq_some_iff.mp hv).1
    have q := K5 i hi
    rw [hv] at q
    rw [Option.some.inj q]
    exact K6 i hi
  refine Back.mono (back hZ hw wi E V C K1 hty S hz (by omega) (by omega) (fun i hi => by rw [hcv i (by omega)]; exact hall _ (List.getElem_mem _)) hfr hlo) (fun P a hp => ⟨hp.1, hp.2.1, hp.2.2.1, by rw [e]; exact hp.2.2.2⟩) (fun P a v B hp hq => ?_)
  obtain ⟨L, ⟨q1, q2, q3, q4, q5, q6, q7, ⟨V', v1, v2, v3, v4, v5⟩, q9⟩, hl, hc, hs⟩ := hq
  refine ⟨L, ⟨q1, q2, q3, q4, q5, q6, q7, ⟨V'.cls, v3, V', v1, rfl, by rw [v4, e, hlen], K4, fun i hi => ?_, fun i hi => ?_⟩, q9⟩, hl, hc, by rw [hs, e]⟩
  · have hi' : i < cs.length := by omega
    rw [v5 i (by omega), hcv i hi']; simp [List.getD_eq_getElem?_getD, hi']
  · have hi' : i < cs.length := by omega
    simp only [List.getD_eq_getElem?_getD, List.getElem?_map, List.getElem?_eq_getElem hi', Option.map_some, Option.getD_some]
    exact fits_lo8 _
end StrChars.Road
namespace StrChars.Road
open Jvm Sem ClassFile Op Lib Jvm.Stand Jvm.Free Jvm.Free.XT
/-- WHAT COMES BACK, in the writer's own shape -/
def QV (Z : State) (x : Addr) (N : Int32) (bs : List Int32) (h : Heap) (n0 : Nat) (v : Option Value) (h' : Heap) (L : List Loc) : Prop := v = none ∧ RoadKit.Fr n0 L ∧ RoadKit.Keep h h' [x] ∧ RoadKit.Exa Z h' x ST ∧ RoadKit.Fld Z h' x ST "coder" "B" (.int 0) ∧
  ∃ (t : Addr) (kb : ClassId), n0 ≤ t ∧ h.size ≤ t ∧ ¬ t = x ∧ RoadKit.Fld Z h' x ST "value" "[B" (.ref t) ∧ RoadKit.Arv Z h' t kb .byte N (bs.map Value.int) (.int 0)
/-- **new String(chars) AT A CALL, FOR THE WRITER**: a char[] of n known ints, each 0 to 255 -/
theorem backV {p : Program} {l : Launch} {e : Env} {R : Room} {s : State} {args : Array Value} {below : List Frame} {len W : Nat} {Z : State} {a0 : Array Value} {h : Heap} (hZ : Z.Warmed39 s.vm) (hw : ∀ d ∈ words, d.before a0 Z = true) {kI : Nat} (wi : (Jvm.Cond.instantiable ST kI).before a0 Z = true)
    {x b : Addr} {kC : ClassId} {cs bs : List Int32} {d v0 c0 : Value} {z N : Int32} {n n0 : Nat} (hx0 : n0 ≤ x) (hh0 : n0 ≤ h.size) (E : RoadKit.Exa Z h x ST) (V : RoadKit.Fld Z h x ST "value" "[B" v0) (C : RoadKit.Fld Z h x ST "coder" "B" c0) (K : RoadKit.Arv Z h b kC .char N (cs.map Value.int) d) (S : RoadKit.Sta Z h ST "COMPACT_STRINGS" "Z" (.int z)) (hz : ¬ z = 0)
    (hn : cs.length = n) (hN : N = Int32.ofNat n) (l0 : 0 < n) (l2 : n ≤ 4000) (hp : ∀ c ∈ cs, ¬ c < 0 ∧ ¬ (255 : Int32) < c) (hb : bs = cs.map (fun c => c.toInt8.toInt32)) (hfr : 4 ≤ R.frames) (hlo : W + 65 ≤ R.locals) :
    Back l R p e below s args (⟨"java/lang/String", "<init>", "([C)V"⟩ : MethodName) len W (fun P a => a = #[.ref x, .ref b] ∧ P.U.heap = h ∧ P.cells + 1 ≤ R.cells ∧ P.slots + n ≤ R.slots)
      (fun P _ v B => ∃ L, QV Z x N bs h n0 v B.U.heap L ∧ B.locs = P.locs ++ L ∧ B.cells = P.cells + 1 ∧ B.slots = P.slots + n) := by
  subst hn hN hb
  refine Back.mono (backArv hZ hw wi E V C K S hz (n32 (by omega)) l0 (by omega) (fun c hc => (hp c hc).2) hfr hlo) (fun P a hp => hp) (fun P a v B hp hq => ?_)
  obtain ⟨L, ⟨q1, q2, q3, q4, q5, q6, q7, ⟨kb, v1, v2⟩, q9⟩, hl, hc, hs⟩ := hq
  exact ⟨L, ⟨q1, fun y hy => by rw [q2 y hy]; exact hx0, q3, q5, q7, h.size, kb, hh0, Nat.le_refl _, Nat.ne_of_gt E.lt, q6, by rw [List.map_map]; exact v2⟩, hl, hc, hs⟩
end StrChars.Road
namespace StrChars
open Jvm Sem ClassFile Op Lib Jvm.Stand Jvm.Free.XT Jvm.Free.ALB Jvm.Free.JM Jvm.Free
open Jvm.Lib.Cold (StaticIs)
def hi8 (x : Int32) : Int32 := lo8 (x >>> ((8 : Int32) &&& 31))
/-- what StringUTF16.getChar makes of two bytes -/
def pairCh (u v : Int32) : Int32 := (((u &&& 255) <<< ((0 : Int32) &&& 31)) ||| ((v &&& 255) <<< ((8 : Int32) &&& 31))).toUInt32.toUInt16.toUInt32.toInt32
theorem shr0 (c : Int32) : c >>> ((0 : Int32) &&& 31) = c := by
  have e : ((0 : Int32) &&& 31) = 0 := by decide
  rw [e]
  apply Int32.toBitVec_inj.mp
  rw [Int32.toBitVec_shiftRight]
  have e1 : ((0 : Int32).toBitVec.smod 32) = 0#32 := by decide
  rw [e1, BitVec.sshiftRight_eq']
  exact BitVec.sshiftRight_zero
theorem lo8_and (x : Int32) : (lo8 x &&& 255).toBitVec.toNat = x.toBitVec.toNat % 256 := by
  have h : (lo8 x).toBitVec = (x.toBitVec.signExtend 8).signExtend 32 := by rw [lo8, Int8.toBitVec_toInt32, Int32.toBitVec_toInt8]
  rw [Int32.toBitVec_and, BitVec.toNat_and, h]
  have e : ((x.toBitVec.signExtend 8).signExtend 32).toNat % 256 = x.toBitVec.toNat % 256 := by
    rw [BitVec.toNat_signExtend]
    have hlt := x.toBitVec.isLt
    simp only [BitVec.toNat_setWidth, BitVec.toNat_signExtend]
    split <;> split <;> omega
  rw [← e]
  exact Nat.and_two_pow_sub_one_eq_mod _ 8
theorem pair_says {c : Int32} (h0 : ¬ c < 0) (h1 : ¬ 65535 < c) : pairCh (lo8 c) (hi8 c) = c := by
  rw [Int32.lt_iff_toInt_lt] at h0 h1
  have e0 : (0 : Int32).toInt = 0 := rfl
  have e1 : (65535 : Int32).toInt = 65535 := rfl
  have hc : c.toInt = c.toBitVec.toNat := by
    have := c.toBitVec.isLt
    have e : c.toInt = c.toBitVec.toInt := rfl
    rw [e] at h0 h1
    rw [e]
    rw [BitVec.toInt_eq_toNat_cond] at h0 h1 ⊢
    split at h0 <;> split <;> omega
  have hn : c.toBitVec.toNat < 65536 := by omega
  have a1 := lo8_and c
  have a2 : (hi8 c &&& 255).toBitVec.toNat = c.toBitVec.toNat / 256 := by
    rw [hi8, lo8_and]
    have e : ((8 : Int32) &&& 31) = 8 := by decide
    rw [e, Int32.toBitVec_shiftRight]
    have e2 : ((8 : Int32).toBitVec.smod 32) = 8#32 := by decide
    rw [e2, BitVec.sshiftRight_eq', BitVec.toNat_sshiftRight_of_msb_false (by rw [BitVec.msb_eq_false_iff_two_mul_lt]; omega)]
    show c.toBitVec.toNat >>> 8 % 256 = _
    rw [Nat.shiftRight_eq_div_pow]
    omega
  unfold pairCh
  apply Int32.toBitVec_inj.mp
  apply BitVec.eq_of_toNat_eq
  have f0 : ((0 : Int32) &&& 31) = 0 := by decide
  have f8 : ((8 : Int32) &&& 31) = 8 := by decide
  rw [f0, f8]
  have g : (((lo8 c &&& 255) <<< (0 : Int32)) ||| ((hi8 c &&& 255) <<< (8 : Int32))).toBitVec.toNat = c.toBitVec.toNat := by
    rw [Int32.toBitVec_or, Int32.toBitVec_shiftLeft, Int32.toBitVec_shiftLeft]
    have s0 : ((0 : Int32).toBitVec.smod 32) = 0#32 := by decide
    have s8 : ((8 : Int32).toBitVec.smod 32) = 8#32 := by decide
    rw [s0, s8, BitVec.toNat_or]
    simp only [BitVec.shiftLeft_eq', BitVec.toNat_shiftLeft, a1, a2]
    show (c.toBitVec.toNat % 256) <<< 0 % 2 ^ 32 ||| (c.toBitVec.toNat / 256) <<< 8 % 2 ^ 32 = _
    rw [Nat.shiftLeft_zero, Nat.mod_eq_of_lt (show c.toBitVec.toNat % 256 < 2 ^ 32 by omega), Nat.mod_eq_of_lt (show (c.toBitVec.toNat / 256) <<< 8 < 2 ^ 32 by rw [Nat.shiftLeft_eq]; omega), Nat.or_comm, ← Nat.shiftLeft_add_eq_or_of_lt (by omega), Nat.shiftLeft_eq]
    omega
  show BitVec.toNat (((((lo8 c &&& 255) <<< (0 : Int32)) ||| ((hi8 c &&& 255) <<< (8 : Int32))).toBitVec.setWidth 16).setWidth 32) = _
  rw [BitVec.toNat_setWidth, BitVec.toNat_setWidth, g]
  omega
end StrChars
namespace StrChars
open Jvm Sem ClassFile Op Lib Jvm.Stand Jvm.Free.XT Jvm.Free.ALB Jvm.Free.JM Jvm.Free
open Jvm.Lib.Cold (StaticIs)
theorem shr1 {n : Nat} (h : 2 * n < 2 ^ 31) : Int32.ofNat (2 * n) >>> ((1 : Int32) &&& 31) = Int32.ofNat n := by
  have e : ((1 : Int32) &&& 31) = 1 := by decide
  rw [e]
  apply Int32.toBitVec_inj.mp
  rw [Int32.toBitVec_shiftRight]
  have e1 : ((1 : Int32).toBitVec.smod 32) = 1#32 := by decide
  have hm : (BitVec.ofNat 32 (2 * n)).toNat = 2 * n := by rw [BitVec.toNat_ofNat, Nat.mod_eq_of_lt (by omega)]
  rw [e1, BitVec.sshiftRight_eq']
  apply BitVec.eq_of_toNat_eq
  show ((BitVec.ofNat 32 (2 * n)).sshiftRight 1).toNat = (BitVec.ofNat 32 n).toNat
  rw [BitVec.toNat_sshiftRight_of_msb_false (by rw [BitVec.msb_eq_false_iff_two_mul_lt, hm]; omega), hm, BitVec.toNat_ofNat, Nat.shiftRight_eq_div_pow]
  omega
/-- charAt's cast of a byte read back -/
def chr8 (u : Int32) : Int32 := (u &&& 255).toUInt32.toUInt16.toUInt32.toInt32
theorem chr8_lo8 {c : Int32} (h0 : ¬ c < 0) (h1 : ¬ 255 < c) : chr8 (lo8 c) = c := by
  have t : ∀ k : Fin 256, (Int32.ofNat k.val).toUInt32.toUInt16.toUInt32.toInt32 = Int32.ofNat k.val := by decide +kernel
  unfold chr8
  rw [lo8_mask h0 h1]
  rw [Int32.lt_iff_toInt_lt] at h0 h1
  have e0 : (0 : Int32).toInt = 0 := rfl
  have e1 : (255 : Int32).toInt = 255 := rfl
  obtain ⟨k, hk⟩ : ∃ k : Nat, c.toInt = k := ⟨c.toInt.toNat, by omega⟩
  have hx : c = Int32.ofNat k := Int32.toInt_inj.mp (by rw [hk, Int32.toInt_ofNat_small (by omega)])
  rw [hx]
  exact t ⟨k, by omega⟩
theorem narrow_ch {c : Int32} (h0 : ¬ c < 0) (h1 : ¬ 65535 < c) : narrow .char (.int c) = .int c := by
  have q : narrow .char (.int (pairCh (lo8 c) (hi8 c))) = .int (pairCh (lo8 c) (hi8 c)) := narrow_c _
  rwa [pair_says h0 h1] at q
/-- the array's cell V codes the n chars f 0 .. f (n - 1) by the coder cd, as the JDK does: coder 1 just where some char is above 255 -/
def Cod (cd : Int32) (n : Nat) (f : Nat → Int32) (V : Cell) : Prop := (cd = 0 ∧ V.slots.size = n ∧ ∀ j, j < n → V.slots[j]? = some (.int (lo8 (f j))) ∧ ¬ 255 < f j) ∨ (cd = 1 ∧ V.slots.size = 2 * n ∧ (∀ j, j < n → V.slots[2 * j]? = some (.int (lo8 (f j))) ∧ V.slots[2 * j + 1]? = some (.int (hi8 (f j)))) ∧ ∃ j, j < n ∧ 255 < f j)
theorem Cod.cd {cd : Int32} {n : Nat} {f : Nat → Int32} {V : Cell} (h : Cod cd n f V) : cd = 0 ∨ cd = 1 := h.imp (fun q => q.1) fun q => q.1
theorem Cod.len {cd : Int32} {n : Nat} {f : Nat → Int32} {V : Cell} (h : Cod cd n f V) (hs : V.slots.size < 2 ^ 31) : Int32.ofNat V.slots.size >>> (cd &&& 31) = Int32.ofNat n := by
  rcases h with ⟨rfl, h, -⟩ | ⟨rfl, h, -⟩
  · rw [shr0, h]
  · rw [h, shr1 (by omega)]
/-- **x is a String of the n chars f 0 .. f (n - 1)**, Latin-1 or UTF-16; its array at t has the cell V -/
def Txt (x t : Addr) (V : Cell) (cd : Int32) (n : Nat) (f : Nat → Int32) (U : State) : Prop := Exact "java/lang/String" x U ∧ Has x "java/lang/String" "value" "[B" (.ref t) U ∧ Has x "java/lang/String" "coder" "B" (.int cd) U ∧ XT.Arr .byte t V U ∧ Cod cd n f V ∧ ∀ j, j < n → ¬ f j < 0 ∧ ¬ 65535 < f j
theorem Txt.mv {x t : Addr} {V : Cell} {cd : Int32} {n : Nat} {f : Nat → Int32} {U U' : State} (h : Txt x t V cd n f U) (hal : U.vm.Alike U'.vm) (hh : U'.heap = U.heap) : Txt x t V cd n f U' := ⟨h.1.mv hal hh, h.2.1.mv hal hh, h.2.2.1.mv hal hh, h.2.2.2.1.mv hal hh, h.2.2.2.2⟩
namespace Cdr
def yN : MethodName := ⟨"java/lang/String", "coder", "()B"⟩
abbrev yB : ByteArray := jdk_42_method_152_code
theorem d0 : decode yB 0 = .ok (.getstatic 38, 3) := by decide +kernel
theorem d3 : decode yB 3 = .ok (.ifCond (.eq) 10, 3) := by decide +kernel
theorem d6 : decode yB 6 = .ok (.aload_n 0, 1) := by decide +kernel
theorem d7 : decode yB 7 = .ok (.getfield 15, 3) := by decide +kernel
theorem d10 : decode yB 10 = .ok (.goto 4, 3) := by decide +kernel
theorem d14 : decode yB 14 = .ok (.ireturn, 1) := by decide +kernel
def site : List Cond := [.fieldLink "java/lang/String" 38 "java/lang/String" "COMPACT_STRINGS" "Z", .fieldLink "java/lang/String" 15 "java/lang/String" "coder" "B"]
def tab : Cond := tabOf yN yB 1 (some .byte) site
def P (x : Addr) (cd z : Int32) (args : Array Value) (s : State) : Prop := args = #[.ref x] ∧ Has x "java/lang/String" "coder" "B" (.int cd) s ∧ (cd = 0 ∨ cd = 1) ∧ StaticIs s "java/lang/String" "COMPACT_STRINGS" "Z" (.int z) ∧ ¬ z = 0
def E (cd : Int32) (r : Option Value) (s u : State) : Prop := XT.PureE (some (.int cd)) r s u
theorem law (l : Launch) (x : Addr) (cd z : Int32) : Law l yN 1 0 0 0 yB 1 (some .byte) site (P x cd z) (E cd) [] 0 0 := by
  refine Law.of_walk (plainFor_of_name (by decide +kernel)) (by decide +kernel) (by decide +kernel) (by decide) (fun _ _ h => by rw [h.1]; rfl) (fun _ U U' hal hh h => ⟨h.1, h.2.1.mv hal hh, h.2.2.1, h.2.2.2.1.there hal hh, h.2.2.2.2⟩) (fun r U U' V V' h1 hal h2 h => XT.PureE.mv r U U' V V' h1 hal h2 h) ?_
  intro p e s m args below meth c s₁ X0 hexec hbytes hml hret hlk hnm hown hh0 W hP
  obtain ⟨rfl, hx, hc, s1, hz⟩ := hP
  have c1 : Steps p.tables e below (s₁.setTop (entryFrame m #[.ref x] 1)) (s₁.setTop (mkF m 0 #[.val (.ref x)] [])) := entry rfl
  obtain ⟨T2, X2, q2, st2⟩ := X0.sget hexec hown (wk W (.fieldLink "java/lang/String" 38 "java/lang/String" "COMPACT_STRINGS" "Z")) s1 (fun _ _ h => by rw [hh0]; exact h) (g := (mkF m 0 #[.val (.ref x)] [])) rfl (hb hbytes d0)
  have hh2 := q2.trans hh0
  have c3 : Steps p.tables e below (s₁.setTop (entryFrame m #[.ref x] 1)) (T2.setTop (mkF m 7 #[.val (.ref x)] [.ref x])) := (c1.trans (st2 _ (Steps.refl _))).trans (by
    refine XS.ifNo X2.here hexec rfl (hb hbytes d3) rfl (i0_eq_f hz) ?_
    refine XS.aloadN X2.here hexec rfl (hb hbytes d6) rfl rfl ?_
    exact Steps.refl _)
  obtain ⟨T4, X4, q4, st4⟩ := X2.hget hexec hown (wk W (.fieldLink "java/lang/String" 15 "java/lang/String" "coder" "B")) (hx.mv X2.warmed.alike hh2) (g := (mkF m 7 #[.val (.ref x)] [.ref x])) rfl (rest := []) rfl (hb hbytes d7)
  have c5 : Steps p.tables e below (s₁.setTop (entryFrame m #[.ref x] 1)) (T4.setTop (mkF m 14 #[.val (.ref x)] [.int cd])) := (c3.trans (st4 _ (Steps.refl _))).trans (by
    refine XS.goto X4.here hexec rfl (pc0 := 10) rfl (hb hbytes d10) (by decide) rfl ?_
    exact Steps.refl _)
  exact ⟨T4, some (.int cd), _, _, _, X4, rfl, rfl, rfl, (fun h => by cases h), ⟨rfl, q4.trans hh2⟩, fun fs hl => c5.trans (X4.ireturnOut hexec hret (by rcases hc with rfl | rfl <;> rfl) (Or.inr (Or.inr (Or.inl rfl))) (hb hbytes d14) hl)⟩
end Cdr
namespace Len
def yN : MethodName := ⟨"java/lang/String", "length", "()I"⟩
abbrev yB : ByteArray := jdk_42_method_54_code
theorem d0 : decode yB 0 = .ok (.aload_n 0, 1) := by decide +kernel
theorem d1 : decode yB 1 = .ok (.getfield 9, 3) := by decide +kernel
theorem d4 : decode yB 4 = .ok (.arraylength, 1) := by decide +kernel
theorem d5 : decode yB 5 = .ok (.aload_n 0, 1) := by decide +kernel
theorem d6 : decode yB 6 = .ok (.invokevirtual 335, 3) := by decide +kernel
theorem d9 : decode yB 9 = .ok (.ishr, 1) := by decide +kernel
theorem d10 : decode yB 10 = .ok (.ireturn, 1) := by decide +kernel
def site : List Cond := [.fieldLink "java/lang/String" 9 "java/lang/String" "value" "[B", Cdr.tab] ++ virtW "java/lang/String" 335 "java/lang/String" Cdr.yN Cdr.yN
def tab : Cond := tabOf yN yB 1 (some .int) site
def P (x t : Addr) (V : Cell) (cd : Int32) (n : Nat) (f : Nat → Int32) (z : Int32) (args : Array Value) (s : State) : Prop := args = #[.ref x] ∧ Txt x t V cd n f s ∧ StaticIs s "java/lang/String" "COMPACT_STRINGS" "Z" (.int z) ∧ ¬ z = 0
def E (n : Nat) (r : Option Value) (s u : State) : Prop := XT.PureE (some (.int (Int32.ofNat n))) r s u
/-- length() of a String of n chars, in either coding -/
theorem law (l : Launch) (x t : Addr) (V : Cell) (cd : Int32) (n : Nat) (f : Nat → Int32) (z : Int32) : Law l yN 1 0 1 13 yB 1 (some .int) site (P x t V cd n f z) (E n) [] 0 0 := by
  refine Law.of_walk (plainFor_of_name (by decide +kernel)) (by decide +kernel) (by decide +kernel) (by decide) (fun _ _ h => by rw [h.1]; rfl) (fun _ U U' hal hh h => ⟨h.1, h.2.1.mv hal hh, h.2.2.1.there hal hh, h.2.2.2⟩) (fun r U U' V V' h1 hal h2 h => XT.PureE.mv r U U' V V' h1 hal h2 h) ?_
  intro p e s m args below meth c s₁ X0 hexec hbytes hml hret hlk hnm hown hh0 W hP
  obtain ⟨rfl, hx, s1, hz⟩ := hP
  have v31 := hx.2.2.2.1.2.2.2
  have c1 : Steps p.tables e below (s₁.setTop (entryFrame m #[.ref x] 1)) (s₁.setTop (mkF m 1 #[.val (.ref x)] [.ref x])) := Steps.trans (entry rfl) (by
    show Steps p.tables e below (s₁.setTop (mkF m 0 #[.val (.ref x)] [])) _
    refine XS.aloadN X0.here hexec rfl (hb hbytes d0) rfl rfl ?_
    exact Steps.refl _)
  obtain ⟨T2, X2, q2, st2⟩ := X0.hget hexec hown (wk W (.fieldLink "java/lang/String" 9 "java/lang/String" "value" "[B")) (hx.mv X0.warmed.alike hh0).2.1 (g := (mkF m 1 #[.val (.ref x)] [.ref x])) rfl (rest := []) rfl (hb hbytes d1)
  have hh2 := q2.trans hh0
  have hx2 := hx.mv X2.warmed.alike hh2
  have c3 : Steps p.tables e below (s₁.setTop (entryFrame m #[.ref x] 1)) (T2.setTop (mkF m 6 #[.val (.ref x)] [.ref x, .int (Int32.ofNat V.slots.size)])) := (c1.trans (st2 _ (Steps.refl _))).trans (by
    refine X2.alen hexec hx2.2.2.2.1 rfl rfl (hb hbytes d4) ?_
    refine XS.aloadN X2.here hexec rfl (hb hbytes d5) rfl rfl ?_
    exact Steps.refl _)
  obtain ⟨v4, T4, X4, E4, g4⟩ := X2.callV hexec (Cdr.law l x cd z) hown (wks W (virtW "java/lang/String" 335 "java/lang/String" Cdr.yN Cdr.yN)) rfl (by decide) (wk W Cdr.tab) (W := 1) (Nat.le_of_ble_eq_true rfl) (Nat.le_of_ble_eq_true rfl) (Nat.le_refl _) (Nat.le_refl _) (hx2.1.fc X2.warmed.alike) hx2.1.is (g := (mkF m 6 #[.val (.ref x)] [.ref x, .int (Int32.ofNat V.slots.size)])) rfl (by rw [hml]; rfl) c3 (argsL := []) (rest := [.int (Int32.ofNat V.slots.size)]) rfl rfl (by show 2 * 0 + (1 + 0) ≤ _; decide) (hb hbytes d6) (⟨rfl, hx2.2.2.1, hx.2.2.2.2.1.cd, s1.there X2.warmed.alike hh2, hz⟩)
  obtain ⟨rfl, q4⟩ := E4
  have c5 : Steps p.tables e below (s₁.setTop (entryFrame m #[.ref x] 1)) (T4.setTop (mkF m 10 #[.val (.ref x)] [.int (Int32.ofNat V.slots.size >>> (cd &&& 31))])) := Steps.trans g4 (by
    refine ishr X4.here hexec rfl (hb hbytes d9) rfl ?_
    exact Steps.refl _)
  rw [hx.2.2.2.2.1.len v31] at c5
  exact ⟨T4, some (.int (Int32.ofNat n)), _, _, _, X4, rfl, rfl, rfl, (fun h => by cases h), ⟨rfl, q4.trans hh2⟩, fun fs hl => c5.trans (X4.ireturnOut hexec hret rfl (Or.inl rfl) (hb hbytes d10) hl)⟩
theorem pays {l : Launch} {R : Room} {p : Program} {e : Env} {below : List Frame} {s : State} {sargs : Array Value} {len W : Nat} (x t : Addr) (V : Cell) (cd : Int32) (n : Nat) (f : Nat → Int32) (z : Int32) (htab : tab.before sargs s = true) (hfr : 2 ≤ R.frames) (hlo : W + 25 ≤ R.locals) :
    Back l R p e below s sargs yN len W (fun A₁ a₁ => A₁.cells + 0 ≤ R.cells ∧ A₁.slots + 0 ≤ R.slots ∧ P x t V cd n f z a₁ A₁.U) (fun A₁ _ v₁ B₁ => E n v₁ A₁.U B₁.U ∧ B₁.locs = A₁.locs ++ [] ∧ B₁.cells = A₁.cells + 0 ∧ B₁.slots = A₁.slots + 0) :=
  (law l x t V cd n f z).pays htab hfr (by omega)
end Len
namespace IsL
def yN : MethodName := ⟨"java/lang/String", "isLatin1", "()Z"⟩
abbrev yB : ByteArray := jdk_42_method_154_code
theorem d0 : decode yB 0 = .ok (.getstatic 38, 3) := by decide +kernel
theorem d3 : decode yB 3 = .ok (.ifCond (.eq) 14, 3) := by decide +kernel
theorem d6 : decode yB 6 = .ok (.aload_n 0, 1) := by decide +kernel
theorem d7 : decode yB 7 = .ok (.getfield 15, 3) := by decide +kernel
theorem d10 : decode yB 10 = .ok (.ifCond (.ne) 7, 3) := by decide +kernel
theorem d13 : decode yB 13 = .ok (.iconst 1, 1) := by decide +kernel
theorem d14 : decode yB 14 = .ok (.goto 4, 3) := by decide +kernel
theorem d17 : decode yB 17 = .ok (.iconst 0, 1) := by decide +kernel
theorem d18 : decode yB 18 = .ok (.ireturn, 1) := by decide +kernel
def site : List Cond := [.fieldLink "java/lang/String" 38 "java/lang/String" "COMPACT_STRINGS" "Z", .fieldLink "java/lang/String" 15 "java/lang/String" "coder" "B"]
def tab : Cond := tabOf yN yB 1 (some .boolean) site
def P (x : Addr) (cd z : Int32) (args : Array Value) (s : State) : Prop := args = #[.ref x] ∧ Has x "java/lang/String" "coder" "B" (.int cd) s ∧ (cd = 0 ∨ cd = 1) ∧ StaticIs s "java/lang/String" "COMPACT_STRINGS" "Z" (.int z) ∧ ¬ z = 0
def E (cd : Int32) (r : Option Value) (s u : State) : Prop := XT.PureE (some (.int (1 - cd))) r s u
theorem law (l : Launch) (x : Addr) (cd z : Int32) : Law l yN 1 0 0 0 yB 1 (some .boolean) site (P x cd z) (E cd) [] 0 0 := by
  refine Law.of_walk (plainFor_of_name (by decide +kernel)) (by decide +kernel) (by decide +kernel) (by decide) (fun _ _ h => by rw [h.1]; rfl) (fun _ U U' hal hh h => ⟨h.1, h.2.1.mv hal hh, h.2.2.1, h.2.2.2.1.there hal hh, h.2.2.2.2⟩) (fun r U U' V V' h1 hal h2 h => XT.PureE.mv r U U' V V' h1 hal h2 h) ?_
  intro p e s m args below meth c s₁ X0 hexec hbytes hml hret hlk hnm hown hh0 W hP
  obtain ⟨rfl, hx, hc, s1, hz⟩ := hP
  have c1 : Steps p.tables e below (s₁.setTop (entryFrame m #[.ref x] 1)) (s₁.setTop (mkF m 0 #[.val (.ref x)] [])) := entry rfl
  obtain ⟨T2, X2, q2, st2⟩ := X0.sget hexec hown (wk W (.fieldLink "java/lang/String" 38 "java/lang/String" "COMPACT_STRINGS" "Z")) s1 (fun _ _ h => by rw [hh0]; exact h) (g := (mkF m 0 #[.val (.ref x)] [])) rfl (hb hbytes d0)
  have hh2 := q2.trans hh0
  have c3 : Steps p.tables e below (s₁.setTop (entryFrame m #[.ref x] 1)) (T2.setTop (mkF m 7 #[.val (.ref x)] [.ref x])) := (c1.trans (st2 _ (Steps.refl _))).trans (by
    refine XS.ifNo X2.here hexec rfl (hb hbytes d3) rfl (i0_eq_f hz) ?_
    refine XS.aloadN X2.here hexec rfl (hb hbytes d6) rfl rfl ?_
    exact Steps.refl _)
  obtain ⟨T4, X4, q4, st4⟩ := X2.hget hexec hown (wk W (.fieldLink "java/lang/String" 15 "java/lang/String" "coder" "B")) (hx.mv X2.warmed.alike hh2) (g := (mkF m 7 #[.val (.ref x)] [.ref x])) rfl (rest := []) rfl (hb hbytes d7)
  have c5 : Steps p.tables e below (s₁.setTop (entryFrame m #[.ref x] 1)) (T4.setTop (mkF m 10 #[.val (.ref x)] [.int cd])) := c3.trans (st4 _ (Steps.refl _))
  have c6 : Steps p.tables e below (s₁.setTop (entryFrame m #[.ref x] 1)) (T4.setTop (mkF m 18 #[.val (.ref x)] [.int (1 - cd)])) := by
    rcases hc with rfl | rfl
    · exact c5.trans (by
        refine XS.ifNo X4.here hexec rfl (hb hbytes d10) rfl (i0_ne_f rfl) ?_
        refine iconstV X4.here hexec rfl 1 (hb hbytes d13) (by decide) ?_
        refine XS.goto X4.here hexec rfl (pc0 := 14) rfl (hb hbytes d14) (by decide) rfl ?_
        exact Steps.refl _)
    · exact c5.trans (by
        refine XS.ifYes X4.here hexec rfl (pc0 := 10) rfl (hb hbytes d10) rfl (i0_ne_t (by decide)) (by decide) rfl ?_
        refine iconstV X4.here hexec rfl 0 (hb hbytes d17) (by decide) ?_
        exact Steps.refl _)
  exact ⟨T4, some (.int (1 - cd)), _, _, _, X4, rfl, rfl, rfl, (fun h => by cases h), ⟨rfl, q4.trans hh2⟩, fun fs hl => c6.trans (X4.ireturnOut hexec hret (by rcases hc with rfl | rfl <;> rfl) (Or.inr (Or.inl rfl)) (hb hbytes d18) hl)⟩
end IsL
namespace LChA
def yN : MethodName := ⟨"java/lang/StringLatin1", "charAt", "([BI)C"⟩
abbrev yB : ByteArray := jdk_43_method_2_code
theorem d0 : decode yB 0 = .ok (.iload_n 1, 1) := by decide +kernel
theorem d1 : decode yB 1 = .ok (.aload_n 0, 1) := by decide +kernel
theorem d2 : decode yB 2 = .ok (.arraylength, 1) := by decide +kernel
theorem d3 : decode yB 3 = .ok (.invokestatic 9, 3) := by decide +kernel
theorem d6 : decode yB 6 = .ok (.aload_n 0, 1) := by decide +kernel
theorem d7 : decode yB 7 = .ok (.iload_n 1, 1) := by decide +kernel
theorem d8 : decode yB 8 = .ok (.baload, 1) := by decide +kernel
theorem d9 : decode yB 9 = .ok (.sipush 255, 3) := by decide +kernel
theorem d12 : decode yB 12 = .ok (.iand, 1) := by decide +kernel
theorem d13 : decode yB 13 = .ok (.i2c, 1) := by decide +kernel
theorem d14 : decode yB 14 = .ok (.ireturn, 1) := by decide +kernel
def site : List Cond := [JO.Str_checkIndex.tab] ++ staticW "java/lang/StringLatin1" 9 JO.Str_checkIndex.yN
def tab : Cond := tabOf yN yB 2 (some .char) site
def P (t : Addr) (V : Cell) (i : Nat) (u : Int32) (fm : Value) (args : Array Value) (s : State) : Prop := args = #[.ref t, .int (Int32.ofNat i)] ∧ XT.Arr .byte t V s ∧ V.slots[i]? = some (.int u) ∧ (StaticIs s "jdk/internal/util/Preconditions" "SIOOBE_FORMATTER" "Ljava/util/function/BiFunction;" fm ∧ fm.isRef = true)
def E (u : Int32) (r : Option Value) (s w : State) : Prop := XT.PureE (some (.int (chr8 u))) r s w
theorem law (l : Launch) (t : Addr) (V : Cell) (i : Nat) (u : Int32) (fm : Value) : Law l yN 2 2 2 27 yB 2 (some .char) site (P t V i u fm) (E u) [] 0 0 := by
  refine Law.of_walk (plainFor_of_name (by decide +kernel)) (by decide +kernel) (by decide +kernel) (by decide) (fun _ _ h => by rw [h.1]; rfl) (fun _ U U' hal hh h => ⟨h.1, h.2.1.mv hal hh, h.2.2.1, h.2.2.2.1.there hal hh, h.2.2.2.2⟩) (fun r U U' V V' h1 hal h2 h => XT.PureE.mv r U U' V V' h1 hal h2 h) ?_
  intro p e s m args below meth c s₁ X0 hexec hbytes hml hret hlk hnm hown hh0 W hP
  obtain ⟨rfl, hV, hu, s1, rf⟩ := hP
  have v31 := hV.2.2.2
  have hi : i < V.slots.size := (Array.getElem?_eq_some_iff.mp hu).1
  have c1 : Steps p.tables e below (s₁.setTop (entryFrame m #[.ref t, .int (Int32.ofNat i)] 2)) (s₁.setTop (mkF m 0 #[.val (.ref t), .val (.int (Int32.ofNat i))] [])) := entry rfl
  have c2 : Steps p.tables e below (s₁.setTop (entryFrame m #[.ref t, .int (Int32.ofNat i)] 2)) (s₁.setTop (mkF m 3 #[.val (.ref t), .val (.int (Int32.ofNat i))] [.int (Int32.ofNat V.slots.size), .int (Int32.ofNat i)])) := c1.trans (by
    refine XS.iloadN X0.here hexec rfl (hb hbytes d0) rfl ?_
    refine XS.aloadN X0.here hexec rfl (hb hbytes d1) rfl rfl ?_
    refine X0.alen hexec (hV.mv X0.warmed.alike hh0) rfl rfl (hb hbytes d2) ?_
    exact Steps.refl _)
  obtain ⟨v3, T3, X3, E3, g3⟩ := X0.callS hexec (JO.Str_checkIndex.law l (Int32.ofNat i) (Int32.ofNat V.slots.size) fm) hown (wks W (staticW "java/lang/StringLatin1" 9 JO.Str_checkIndex.yN)) (wk W JO.Str_checkIndex.tab) (W := 0) (Nat.le_of_ble_eq_true rfl) (Nat.le_of_ble_eq_true rfl) (Nat.le_refl _) (Nat.le_refl _) (g := (mkF m 3 #[.val (.ref t), .val (.int (Int32.ofNat i))] [.int (Int32.ofNat V.slots.size), .int (Int32.ofNat i)])) rfl (by rw [hml]; rfl) c2 (argsL := [.int (Int32.ofNat i), .int (Int32.ofNat V.slots.size)]) (rest := []) rfl rfl (by show 2 * 0 + 0 ≤ _; decide) (hb hbytes d3) (⟨rfl, rf, s1.there X0.warmed.alike hh0, Int32.ofNat_not_neg (by omega), lt32 v31 hi⟩)
  obtain ⟨rfl, q3⟩ := E3
  have hh3 := q3.trans hh0
  have c4 : Steps p.tables e below (s₁.setTop (entryFrame m #[.ref t, .int (Int32.ofNat i)] 2)) (T3.setTop (mkF m 14 #[.val (.ref t), .val (.int (Int32.ofNat i))] [.int (chr8 u)])) := Steps.trans g3 (by
    refine XS.aloadN X3.here hexec rfl (hb hbytes d6) rfl rfl ?_
    refine XS.iloadN X3.here hexec rfl (hb hbytes d7) rfl ?_
    refine X3.aget hexec (hV.mv X3.warmed.alike hh3) rfl hu rfl rfl (hb hbytes d8) ?_
    refine sipushV X3.here hexec rfl 255 (hb hbytes d9) (by decide) ?_
    refine XS.iand X3.here hexec rfl (hb hbytes d12) rfl ?_
    refine i2c X3.here hexec rfl (hb hbytes d13) rfl ?_
    exact Steps.refl _)
  exact ⟨T3, some (.int (chr8 u)), _, _, _, X3, rfl, rfl, rfl, (fun h => by cases h), ⟨rfl, hh3⟩, fun fs hl => c4.trans (X3.ireturnOut hexec hret (narrow_c _) (Or.inr (Or.inr (Or.inr (Or.inl rfl)))) (hb hbytes d14) hl)⟩
end LChA
end StrChars
namespace StrChars.Road
open Jvm Sem ClassFile Op Lib Jvm.Stand Jvm.Free Jvm.Free.XT
open Jvm.Lib.Cold (StaticIs)
theorem consq {a : Array Value} {s : State} {c : Jvm.Cond} {L : List Jvm.Cond} (h0 : c.before a s = true) (h : ∀ w ∈ L, w.before a s = true) : ∀ w ∈ c :: L, w.before a s = true := fun w hw => (List.mem_cons.mp hw).elim (fun e => e ▸ h0) (h w)
/-- the words of String.length(), either coding -/
abbrev wordsLen : List Jvm.Cond := [.code Len.yN Len.yB 1 (some .int), .initialized ST, .fieldLink ST 9 ST "value" "[B", .fieldLink ST 38 ST "COMPACT_STRINGS" "Z", .fieldLink ST 15 ST "coder" "B", .code Cdr.yN Cdr.yB 1 (some .byte), .methodLink ST 335 Cdr.yN, .declares Cdr.yN, .selects ST Cdr.yN Cdr.yN, .instanceMethod Cdr.yN]
theorem tabLen_of {a : Array Value} {s : State} (h : ∀ w ∈ wordsLen, w.before a s = true) : Len.tab.before a s = true := by
  have hc : Cdr.tab.before a s = true := unparts (wk h (.code Cdr.yN Cdr.yB 1 (some .byte))) (wks h (.initialized Cdr.yN.cls :: Cdr.site))
  have q := consq hc h
  exact unparts (wk q (.code Len.yN Len.yB 1 (some .int))) (wks q (.initialized Len.yN.cls :: Len.site))
theorem movedLen {Z s : State} {a0 args : Array Value} (hZ : Z.Warmed39 s.vm) (hw : ∀ d ∈ wordsLen, d.before a0 Z = true) : ∀ d ∈ wordsLen, d.before args s = true := fun d hd => by
  have q := hw d hd
  have t : ∀ d ∈ wordsLen, d = .arrayClass .byte ∨ (d.onTables && d.keepsFace) = true := by decide +kernel
  rcases t d hd with rfl | t
  · exact RoadKit.mvA hZ q
  · exact RoadKit.mv hZ q t
/-- the bytes of the chars cs, low before high -/
def wideBytes : List Int32 → List Value
  | [] => []
  | c :: cs => .int (lo8 c) :: .int (hi8 c) :: wideBytes cs
theorem wide_lo (d : Value) : ∀ (cs : List Int32) (j : Nat), j < cs.length → (wideBytes cs).getD (2 * j) d = .int (lo8 (cs.getD j 0))
  | [], j, h => absurd h (Nat.not_lt_zero j)
  | c :: cs, 0, _ => rfl
  | c :: cs, j + 1, h => by
    have q := wide_lo d cs j (by simpa using h)
    rw [show 2 * (j + 1) = 2 * j + 1 + 1 from by omega]
    simpa [wideBytes] using q
theorem wide_hi (d : Value) : ∀ (cs : List Int32) (j : Nat), j < cs.length → (wideBytes cs).getD (2 * j + 1) d = .int (hi8 (cs.getD j 0))
  | [], j, h => absurd h (Nat.not_lt_zero j)
  | c :: cs, 0, _ => rfl
  | c :: cs, j + 1, h => by
    have q := wide_hi d cs j (by simpa using h)
    rw [show 2 * (j + 1) + 1 = 2 * j + 1 + 1 + 1 from by omega]
    simpa [wideBytes] using q
theorem low_at (d : Value) (cs : List Int32) (j : Nat) (h : j < cs.length) : (cs.map fun c => Value.int (lo8 c)).getD j d = .int (lo8 (cs.getD j 0)) := by
  simp [List.getD_eq_getElem?_getD, h]
/-- an array of N2 bytes vs codes the chars cs by the coder cd -/
def CodA (cs : List Int32) (cd N2 : Int32) (vs : List Value) : Prop := (cd = 0 ∧ N2 = Int32.ofNat cs.length ∧ vs = (cs.map fun c => Value.int (lo8 c)) ∧ ∀ c ∈ cs, ¬ 255 < c) ∨ (cd = 1 ∧ N2 = Int32.ofNat (2 * cs.length) ∧ vs = wideBytes cs ∧ ∃ c ∈ cs, 255 < c)
theorem CodA.cod {cs : List Int32} {cd N2 : Int32} {vs : List Value} {V : Cell} (h : CodA cs cd N2 vs) (hn : 2 * cs.length < 2 ^ 31) (hs : V.slots.size = N2.toNatClampNeg) (hv : RoadKit.Has V vs (.int 0)) : Cod cd cs.length (fun j => cs.getD j 0) V := by
  rcases h with ⟨rfl, rfl, rfl, h⟩ | ⟨rfl, rfl, rfl, c, hc, hw⟩
  · rw [n32 (by omega)] at hs
    exact Or.inl ⟨rfl, hs, fun j hj => ⟨by rw [hv j (by omega), low_at _ _ _ hj], by
      have e : cs.getD j 0 = cs[j] := by simp [List.getD_eq_getElem?_getD, hj]
      show ¬ 255 < cs.getD j 0
      rw [e]; exact h _ (List.getElem_mem _)⟩⟩
  · rw [n32 (by omega)] at hs
    obtain ⟨j, hj, rfl⟩ := List.getElem_of_mem hc
    exact Or.inr ⟨rfl, hs, fun j hj => ⟨by rw [hv _ (by omega), wide_lo _ _ _ hj], by rw [hv _ (by omega), wide_hi _ _ _ hj]⟩, j, hj, by
      have e : cs.getD j 0 = cs[j] := by simp [List.getD_eq_getElem?_getD, hj]
      show 255 < cs.getD j 0
      rw [e]; exact hw⟩
/-- an object of exactly java/lang/String, its two fields found: as the laws ask it -/
theorem strObj {Z U : State} {a0 : Array Value} {kI : Nat} (wi : (Jvm.Cond.instantiable ST kI).before a0 Z = true) (al : Z.vm.Alike U.vm) {x : Addr} {v0 c0 : Value} (E : RoadKit.Exa Z U.heap x ST) (V : RoadKit.Fld Z U.heap x ST "value" "[B" v0) (C : RoadKit.Fld Z U.heap x ST "coder" "B" c0) :
    ∃ (D : Cell) (fV fC : Field), Blank ST x D U ∧ Found ST "value" "[B" fV U ∧ Found ST "coder" "B" fC U ∧ D.slots[fV.slot]? = some v0 ∧ D.slots[fC.slot]? = some c0 ∧ RoadKit.slotOf Z ST "value" "[B" = fV.slot ∧ RoadKit.slotOf Z ST "coder" "B" = fC.slot := by
  obtain ⟨D, cfV, kV, iV, fV, hD, gV, stV, knV, obV, asV, slV⟩ := V
  obtain ⟨D', cfC, kC, iC, fC, hD', gC, stC, -, -, asC, slC⟩ := C
  cases hD.symm.trans hD'
  obtain ⟨D2, kD, e1, e2, e3, e4, e5⟩ := E
  cases hD.symm.trans e1
  obtain ⟨c2, k2, i1, i2, i3, -⟩ := Cond.instantiable_spec wi
  cases e2.symm.trans i1
  cases e3.symm.trans i2
  obtain ⟨kU, u1, u2⟩ := al.2.2 _ _ e3
  exact ⟨D, fV, fC, ⟨hD, ⟨knV, fun q hq => by rw [hq] at obV; cases obV⟩, by rw [al.findClass]; exact e2, kU, u1, by rw [u2]; exact i3, by rw [u2]; exact e5 i3⟩, ⟨SBG.found_only al ⟨cfV, kV, iV, gV⟩, stV⟩, ⟨SBG.found_only al ⟨cfC, kC, iC, gC⟩, stC⟩, slV, slC, by simp [RoadKit.slotOf, gV], by simp [RoadKit.slotOf, gC]⟩
theorem sta_is {Z U : State} (al : Z.vm.Alike U.vm) {C n d : String} {v : Value} (S : RoadKit.Sta Z U.heap C n d v) : StaticIs U C n d v := by
  obtain ⟨cfS, iS, kS, fS, st, cS, t1, t2, t3, t4, t5, t6, t7⟩ := S
  exact StaticIs.there (s := { Z with heap := U.heap }) ⟨cfS, iS, kS, fS, st, cS, t1, t2, t3, t4, t5, (fun q => by rw [q] at t6; cases t6), t7⟩ al rfl
/-- **length() OF SUCH A STRING** -/
theorem lenW {p : Program} {l : Launch} {e : Env} {R : Room} {s : State} {args : Array Value} {below : List Frame} {len W : Nat} {Z : State} {a0 : Array Value} {h : Heap} (hZ : Z.Warmed39 s.vm) (hw : ∀ d ∈ wordsLen, d.before a0 Z = true) {kI : Nat} (wi : (Jvm.Cond.instantiable ST kI).before a0 Z = true)
    {x t : Addr} {kb : ClassId} {cs : List Int32} {cd N2 z : Int32} {vs : List Value} (E : RoadKit.Exa Z h x ST) (V : RoadKit.Fld Z h x ST "value" "[B" (.ref t)) (C : RoadKit.Fld Z h x ST "coder" "B" (.int cd)) (K : RoadKit.Arv Z h t kb .byte N2 vs (.int 0)) (hc : CodA cs cd N2 vs) (hb : ∀ c ∈ cs, ¬ c < 0 ∧ ¬ (65535 : Int32) < c)
    (S : RoadKit.Sta Z h ST "COMPACT_STRINGS" "Z" (.int z)) (hz : ¬ z = 0) (l2 : cs.length ≤ 4000) (hfr : 2 ≤ R.frames) (hlo : W + 25 ≤ R.locals) :
    Back l R p e below s args (⟨"java/lang/String", "length", "()I"⟩ : MethodName) len W (fun P a => a = #[.ref x] ∧ P.U.heap = h ∧ P.cells + 0 ≤ R.cells ∧ P.slots + 0 ≤ R.slots)
      (fun P _ v B => ∃ L, (v = some (.int (Int32.ofNat cs.length)) ∧ L = [] ∧ B.U.heap = h) ∧ B.locs = P.locs ++ L ∧ B.cells = P.cells + 0 ∧ B.slots = P.slots + 0) := by
  obtain ⟨A, K1, K2, K3, K4, K5, K6⟩ := K
  have hcod := hc.cod (by omega) K3 K5
  intro m meth c P g ig mk a X hg hsize hdg hW hn hp'
  obtain ⟨rfl, rfl, r1, r2⟩ := hp'
  have al : Z.vm.Alike P.U.vm := hZ.alike.trans X.warmed.alike
  obtain ⟨D, fV, fC, hB, F1, F2, g1, g2, -, -⟩ := strObj wi al E V C
  have hx : Txt x t A cd cs.length (fun j => cs.getD j 0) P.U := ⟨⟨_, hB.2.2.1, D, hB.1, rfl, by cases q : D.vm <;> first | rfl | exact absurd q (hB.2.1.2 _)⟩, Has.of hB F1 g1, Has.of hB F2 g2, ⟨K1.1, State.isArrayOf_alike al K1.2.1, K1.2.2, by rcases hcod with ⟨-, q, -⟩ | ⟨-, q, -⟩ <;> omega⟩, hcod, fun j hj => by
    have e : cs.getD j 0 = cs[j] := by simp [List.getD_eq_getElem?_getD, hj]
    show ¬ cs.getD j 0 < 0 ∧ ¬ 65535 < cs.getD j 0
    rw [e]; exact hb _ (List.getElem_mem _)⟩
  obtain ⟨v, B, X', ⟨⟨hv, hh⟩, hl, hk, hs⟩, st⟩ := Len.pays x t A cd cs.length (fun j => cs.getD j 0) z (tabLen_of (movedLen hZ hw)) hfr hlo m meth c P g ig mk _ X hg hsize hdg hW hn ⟨r1, r2, rfl, hx, sta_is al S, hz⟩
  exact ⟨v, B, X', ⟨[], ⟨hv, rfl, hh⟩, hl, hk, hs⟩, st⟩
end StrChars.Road
namespace StrChars.Road
open Jvm Sem ClassFile Op Lib Jvm.Stand Jvm.Free Jvm.Free.XT
open Jvm.Lib.Cold (StaticIs)
/-- the road's facts of a String, as the laws ask it -/
theorem txt_of {Z U : State} {a0 : Array Value} {kI : Nat} (wi : (Jvm.Cond.instantiable ST kI).before a0 Z = true) (al : Z.vm.Alike U.vm) {x t : Addr} {kb : ClassId} {cs : List Int32} {cd N2 : Int32} {vs : List Value} (E : RoadKit.Exa Z U.heap x ST) (V : RoadKit.Fld Z U.heap x ST "value" "[B" (.ref t)) (C : RoadKit.Fld Z U.heap x ST "coder" "B" (.int cd)) (K : RoadKit.Arv Z U.heap t kb .byte N2 vs (.int 0)) (hc : CodA cs cd N2 vs) (hb : ∀ c ∈ cs, ¬ c < 0 ∧ ¬ (65535 : Int32) < c) (l2 : cs.length ≤ 4000) :
    ∃ A, Txt x t A cd cs.length (fun j => cs.getD j 0) U := by
  obtain ⟨A, K1, K2, K3, K4, K5, K6⟩ := K
  have hcod := hc.cod (by omega) K3 K5
  obtain ⟨D, fV, fC, hB, F1, F2, g1, g2, -, -⟩ := strObj wi al E V C
  exact ⟨A, ⟨_, hB.2.2.1, D, hB.1, rfl, by cases q : D.vm <;> first | rfl | exact absurd q (hB.2.1.2 _)⟩, Has.of hB F1 g1, Has.of hB F2 g2, ⟨K1.1, State.isArrayOf_alike al K1.2.1, K1.2.2, by rcases hcod with ⟨-, q, -⟩ | ⟨-, q, -⟩ <;> omega⟩, hcod, fun j hj => by
    have e : cs.getD j 0 = cs[j] := by simp [List.getD_eq_getElem?_getD, hj]
    show ¬ cs.getD j 0 < 0 ∧ ¬ 65535 < cs.getD j 0
    rw [e]; exact hb _ (List.getElem_mem _)⟩
end StrChars.Road
namespace StrChars
open Jvm Sem ClassFile Op Lib Jvm.Stand Jvm.Free.XT Jvm.Free.ALB Jvm.Free.JM Jvm.Free
open Jvm.Lib.Cold (StaticIs)
namespace ChN
def yN : MethodName := ⟨"java/lang/String", "charAt", "(I)C"⟩
abbrev yB : ByteArray := jdk_42_method_56_code
theorem d0 : decode yB 0 = .ok (.aload_n 0, 1) := by decide +kernel
theorem d1 : decode yB 1 = .ok (.invokevirtual 492, 3) := by decide +kernel
theorem d4 : decode yB 4 = .ok (.ifCond (.eq) 12, 3) := by decide +kernel
theorem d7 : decode yB 7 = .ok (.aload_n 0, 1) := by decide +kernel
theorem d8 : decode yB 8 = .ok (.getfield 9, 3) := by decide +kernel
theorem d11 : decode yB 11 = .ok (.iload_n 1, 1) := by decide +kernel
theorem d12 : decode yB 12 = .ok (.invokestatic 495, 3) := by decide +kernel
theorem d15 : decode yB 15 = .ok (.ireturn, 1) := by decide +kernel
def site : List Cond := [.fieldLink "java/lang/String" 9 "java/lang/String" "value" "[B", IsL.tab, LChA.tab] ++ virtW "java/lang/String" 492 "java/lang/String" IsL.yN IsL.yN ++ staticW "java/lang/String" 495 LChA.yN
def tab : Cond := tabOf yN yB 2 (some .char) site
def P (x t : Addr) (V : Cell) (n : Nat) (f : Nat → Int32) (z : Int32) (fm : Value) (i : Nat) (args : Array Value) (s : State) : Prop := args = #[.ref x, .int (Int32.ofNat i)] ∧ Txt x t V 0 n f s ∧ i < n ∧ StaticIs s "java/lang/String" "COMPACT_STRINGS" "Z" (.int z) ∧ ¬ z = 0 ∧ StaticIs s "jdk/internal/util/Preconditions" "SIOOBE_FORMATTER" "Ljava/util/function/BiFunction;" fm ∧ fm.isRef = true
def E (f : Nat → Int32) (i : Nat) (r : Option Value) (s u : State) : Prop := XT.PureE (some (.int (f i))) r s u
/-- charAt(i) of a Latin-1 String of n chars, i < n: f i -/
theorem law (l : Launch) (x t : Addr) (V : Cell) (n : Nat) (f : Nat → Int32) (z : Int32) (fm : Value) (i : Nat) : Law l yN 2 1 3 40 yB 2 (some .char) site (P x t V n f z fm i) (E f i) [] 0 0 := by
  refine Law.of_walk (plainFor_of_name (by decide +kernel)) (by decide +kernel) (by decide +kernel) (by decide) (fun _ _ h => by rw [h.1]; rfl) (fun _ U U' hal hh h => ⟨h.1, h.2.1.mv hal hh, h.2.2.1, h.2.2.2.1.there hal hh, h.2.2.2.2.1, h.2.2.2.2.2.1.there hal hh, h.2.2.2.2.2.2⟩) (fun r U U' V V' h1 hal h2 h => XT.PureE.mv r U U' V V' h1 hal h2 h) ?_
  intro p e s m args below meth c s₁ X0 hexec hbytes hml hret hlk hnm hown hh0 W hP
  obtain ⟨rfl, hx, hi, s1, hz, s3, rf⟩ := hP
  have v31 := hx.2.2.2.1.2.2.2
  have hr := hx.2.2.2.2.2 i hi
  have hx0 := hx.mv X0.warmed.alike hh0
  have c1 : Steps p.tables e below (s₁.setTop (entryFrame m #[.ref x, .int (Int32.ofNat i)] 2)) (s₁.setTop (mkF m 1 #[.val (.ref x), .val (.int (Int32.ofNat i))] [.ref x])) := Steps.trans (entry rfl) (by
    show Steps p.tables e below (s₁.setTop (mkF m 0 #[.val (.ref x), .val (.int (Int32.ofNat i))] [])) _
    refine XS.aloadN X0.here hexec rfl (hb hbytes d0) rfl rfl ?_
    exact Steps.refl _)
  obtain ⟨v2, T2, X2, E2, g2⟩ := X0.callV hexec (IsL.law l x 0 z) hown (wks W (virtW "java/lang/String" 492 "java/lang/String" IsL.yN IsL.yN)) rfl (by decide) (wk W IsL.tab) (W := 0) (Nat.le_of_ble_eq_true rfl) (Nat.le_of_ble_eq_true rfl) (Nat.le_refl _) (Nat.le_refl _) (hx0.1.fc X0.warmed.alike) hx0.1.is (g := (mkF m 1 #[.val (.ref x), .val (.int (Int32.ofNat i))] [.ref x])) rfl (by rw [hml]; rfl) c1 (argsL := []) (rest := []) rfl rfl (by show 2 * 0 + 0 ≤ _; decide) (hb hbytes d1) (⟨rfl, hx0.2.2.1, hx.2.2.2.2.1.cd, s1.there X0.warmed.alike hh0, hz⟩)
  obtain ⟨rfl, q2⟩ := E2
  have hh2 := q2.trans hh0
  have hx2 := hx.mv X2.warmed.alike hh2
  obtain ⟨-, k1, k2⟩ | ⟨k0, -⟩ := hx.2.2.2.2.1
  · have c3 : Steps p.tables e below (s₁.setTop (entryFrame m #[.ref x, .int (Int32.ofNat i)] 2)) (T2.setTop (mkF m 8 #[.val (.ref x), .val (.int (Int32.ofNat i))] [.ref x])) := Steps.trans g2 (by
      refine XS.ifNo X2.here hexec rfl (hb hbytes d4) rfl (i0_eq_f (by decide)) ?_
      refine XS.aloadN X2.here hexec rfl (hb hbytes d7) rfl rfl ?_
      exact Steps.refl _)
    obtain ⟨T4, X4, q4, st4⟩ := X2.hget hexec hown (wk W (.fieldLink "java/lang/String" 9 "java/lang/String" "value" "[B")) hx2.2.1 (g := (mkF m 8 #[.val (.ref x), .val (.int (Int32.ofNat i))] [.ref x])) rfl (rest := []) rfl (hb hbytes d8)
    have hh4 := q4.trans hh2
    have c5 : Steps p.tables e below (s₁.setTop (entryFrame m #[.ref x, .int (Int32.ofNat i)] 2)) (T4.setTop (mkF m 12 #[.val (.ref x), .val (.int (Int32.ofNat i))] [.int (Int32.ofNat i), .ref t])) := (c3.trans (st4 _ (Steps.refl _))).trans (by
      refine XS.iloadN X4.here hexec rfl (hb hbytes d11) rfl ?_
      exact Steps.refl _)
    obtain ⟨v6, T6, X6, E6, g6⟩ := X4.callS hexec (LChA.law l t V i (lo8 (f i)) fm) hown (wks W (staticW "java/lang/String" 495 LChA.yN)) (wk W LChA.tab) (W := 0) (Nat.le_of_ble_eq_true rfl) (Nat.le_of_ble_eq_true rfl) (Nat.le_refl _) (Nat.le_refl _) (g := (mkF m 12 #[.val (.ref x), .val (.int (Int32.ofNat i))] [.int (Int32.ofNat i), .ref t])) rfl (by rw [hml]; rfl) c5 (argsL := [.ref t, .int (Int32.ofNat i)]) (rest := []) rfl rfl (by show 2 * 0 + 0 ≤ _; decide) (hb hbytes d12) (⟨rfl, hx.2.2.2.1.mv X4.warmed.alike hh4, (k2 i hi).1, s3.there X4.warmed.alike hh4, rf⟩)
    obtain ⟨rfl, q6⟩ := E6
    rw [chr8_lo8 hr.1 (k2 i hi).2] at g6
    exact ⟨T6, some (.int (f i)), _, _, _, X6, rfl, rfl, rfl, (fun h => by cases h), ⟨rfl, q6.trans hh4⟩, fun fs hl => Steps.trans g6 (X6.ireturnOut hexec hret (narrow_ch hr.1 hr.2) (Or.inr (Or.inr (Or.inr (Or.inl rfl)))) (hb hbytes d15) hl)⟩
  · exact absurd k0 (by decide)
theorem pays {l : Launch} {R : Room} {p : Program} {e : Env} {below : List Frame} {s : State} {sargs : Array Value} {len W : Nat} (x t : Addr) (V : Cell) (n : Nat) (f : Nat → Int32) (z : Int32) (fm : Value) (i : Nat) (htab : tab.before sargs s = true) (hfr : 4 ≤ R.frames) (hlo : W + 53 ≤ R.locals) :
    Back l R p e below s sargs yN len W (fun A₁ a₁ => A₁.cells + 0 ≤ R.cells ∧ A₁.slots + 0 ≤ R.slots ∧ P x t V n f z fm i a₁ A₁.U) (fun A₁ _ v₁ B₁ => E f i v₁ A₁.U B₁.U ∧ B₁.locs = A₁.locs ++ [] ∧ B₁.cells = A₁.cells + 0 ∧ B₁.slots = A₁.slots + 0) :=
  (law l x t V n f z fm i).pays htab hfr (by omega)
end ChN
end StrChars
namespace StrChars.Road
open Jvm Sem ClassFile Op Lib Jvm.Stand Jvm.Free Jvm.Free.XT
open Jvm.Lib.Cold (StaticIs)
/-- the words of String.charAt(int), the Latin-1 road alone -/
abbrev wordsChN : List Jvm.Cond := [.code ChN.yN ChN.yB 2 (some .char), .initialized ST, .fieldLink ST 9 ST "value" "[B", .fieldLink ST 38 ST "COMPACT_STRINGS" "Z", .fieldLink ST 15 ST "coder" "B", .code IsL.yN IsL.yB 1 (some .boolean), .methodLink ST 492 IsL.yN, .declares IsL.yN, .selects ST IsL.yN IsL.yN, .instanceMethod IsL.yN,
  .methodLink ST 495 LChA.yN, .static LChA.yN, .code LChA.yN LChA.yB 2 (some .char), .initialized "java/lang/StringLatin1", .methodLink "java/lang/StringLatin1" 9 JO.Str_checkIndex.yN, .static JO.Str_checkIndex.yN, .code JO.Str_checkIndex.yN JO.Str_checkIndex.yB 2 none,
  .fieldLink ST 1053 "jdk/internal/util/Preconditions" "SIOOBE_FORMATTER" "Ljava/util/function/BiFunction;", .methodLink ST 1059 JC.PreCheck.yN, .static JC.PreCheck.yN, .code JC.PreCheck.yN JC.PreCheck.yB 3 (some .int), .initialized "jdk/internal/util/Preconditions"]
theorem tabChN_of {a : Array Value} {s : State} (h : ∀ w ∈ wordsChN, w.before a s = true) : ChN.tab.before a s = true := by
  have hp : JC.PreCheck.tab.before a s = true := unparts (wk h (.code JC.PreCheck.yN JC.PreCheck.yB 3 (some .int))) (wks h (.initialized JC.PreCheck.yN.cls :: JC.PreCheck.site))
  have qk := consq hp h
  have hk : JO.Str_checkIndex.tab.before a s = true := unparts (wk qk (.code JO.Str_checkIndex.yN JO.Str_checkIndex.yB 2 none)) (wks qk (.initialized JO.Str_checkIndex.yN.cls :: JO.Str_checkIndex.site))
  have ql := consq hk h
  have hl : LChA.tab.before a s = true := unparts (wk ql (.code LChA.yN LChA.yB 2 (some .char))) (wks ql (.initialized LChA.yN.cls :: LChA.site))
  have hi : IsL.tab.before a s = true := unparts (wk h (.code IsL.yN IsL.yB 1 (some .boolean))) (wks h (.initialized IsL.yN.cls :: IsL.site))
  have q := consq hi (consq hl h)
  exact unparts (wk q (.code ChN.yN ChN.yB 2 (some .char))) (wks q (.initialized ChN.yN.cls :: ChN.site))
theorem movedChN {Z s : State} {a0 args : Array Value} (hZ : Z.Warmed39 s.vm) (hw : ∀ d ∈ wordsChN, d.before a0 Z = true) : ∀ d ∈ wordsChN, d.before args s = true := fun d hd => by
  have t : ∀ d ∈ wordsChN, (d.onTables && d.keepsFace) = true := by decide +kernel
  exact RoadKit.mv hZ (hw d hd) (t d hd)
/-- **charAt(i) OF A LATIN-1 STRING**, i < n: the char -/
theorem chN {p : Program} {l : Launch} {e : Env} {R : Room} {s : State} {args : Array Value} {below : List Frame} {len W : Nat} {Z : State} {a0 : Array Value} {h : Heap} (hZ : Z.Warmed39 s.vm) (hw : ∀ d ∈ wordsChN, d.before a0 Z = true) {kI : Nat} (wi : (Jvm.Cond.instantiable ST kI).before a0 Z = true)
    {x t : Addr} {kb : ClassId} {cs : List Int32} {N2 z : Int32} {vs : List Value} {fm : Value} {i : Nat} {j : Int32} (E : RoadKit.Exa Z h x ST) (V : RoadKit.Fld Z h x ST "value" "[B" (.ref t)) (C : RoadKit.Fld Z h x ST "coder" "B" (.int 0)) (K : RoadKit.Arv Z h t kb .byte N2 vs (.int 0)) (hc : CodA cs 0 N2 vs) (hb : ∀ c ∈ cs, ¬ c < 0 ∧ ¬ (65535 : Int32) < c)
    (S : RoadKit.Sta Z h ST "COMPACT_STRINGS" "Z" (.int z)) (hz : ¬ z = 0) (F : RoadKit.Sta Z h "jdk/internal/util/Preconditions" "SIOOBE_FORMATTER" "Ljava/util/function/BiFunction;" fm) (rf : fm.isRef = true) (l2 : cs.length ≤ 4000) (hi : i < cs.length) (hj : j = Int32.ofNat i) (hfr : 4 ≤ R.frames) (hlo : W + 53 ≤ R.locals) :
    Back l R p e below s args (⟨"java/lang/String", "charAt", "(I)C"⟩ : MethodName) len W (fun P a => a = #[.ref x, .int j] ∧ P.U.heap = h ∧ P.cells + 0 ≤ R.cells ∧ P.slots + 0 ≤ R.slots)
      (fun P _ v B => ∃ L, (v = some (.int (cs.getD i 0)) ∧ L = [] ∧ B.U.heap = h) ∧ B.locs = P.locs ++ L ∧ B.cells = P.cells + 0 ∧ B.slots = P.slots + 0) := by
  subst hj
  intro m meth c P g ig mk a X hg hsize hdg hW hn hp'
  obtain ⟨rfl, rfl, r1, r2⟩ := hp'
  have al : Z.vm.Alike P.U.vm := hZ.alike.trans X.warmed.alike
  obtain ⟨A, hx⟩ := txt_of wi al E V C K hc hb l2
  obtain ⟨v, B, X', ⟨⟨hv, hh⟩, hl, hk, hs⟩, st⟩ := ChN.pays x t A cs.length (fun j => cs.getD j 0) z fm i (tabChN_of (movedChN hZ hw)) hfr hlo m meth c P g ig mk _ X hg hsize hdg hW hn ⟨r1, r2, rfl, hx, hi, sta_is al S, hz, sta_is al F, rf⟩
  exact ⟨v, B, X', ⟨[], ⟨hv, rfl, hh⟩, hl, hk, hs⟩, st⟩
/-- what backV says of its String, as the contracts of this text ask it: cs's low bytes, coder 0 -/
theorem codOf {cs : List Int32} {n : Nat} (hn : cs.length = n) (hb : ∀ c ∈ cs, ¬ 255 < c) : CodA cs 0 (Int32.ofNat n) ((cs.map lo8).map Value.int) := Or.inl ⟨rfl, by rw [hn], by simp [List.map_map, Function.comp_def], hb⟩
end StrChars.Road
end Jvm.Pilot.@@N@@
namespace Jvm.OwnWp
open Sem ClassFile Op Lib Jvm.Stand Jvm.Free Jvm.LawKit Jvm.RoadKit
section Own
variable {p : Program} {l : Launch} {e : Env} {R : Room} {s : State} {m : MethodId} {args : Array Value} {below : List Frame} {meth : Method} {c : Code} {T T' : State} {locs : List Loc} {cells slots : Nat} {kc ks : Nat} {Q : Option Value → Heap → List Loc → Prop} {g g' : JFrame}
/-- from T with the frame g on top the invocation returns, and Q holds of what it leaves -/
def Go (p : Program) (e : Env) (below : List Frame) (s : State) (kc ks : Nat) (Q : Option Value → Heap → List Loc → Prop) (T : State) (g : JFrame) : Prop :=
  ∃ s₂ o, Steps p.tables e below (T.setTop g) s₂ ∧ s₂.status = .running ∧ Ended s₂ below o ∧ ∃ v L, o = .returned v ∧ Q v s₂.heap L ∧ FrameEnd s o s₂ L kc ks
theorem Go.step (st : ∀ t, Steps p.tables e below (T'.setTop g') t → Steps p.tables e below (T.setTop g) t) (k : Go p e below s kc ks Q T' g') : Go p e below s kc ks Q T g := by
  obtain ⟨s₂, o, h, r⟩ := k
  exact ⟨s₂, o, st _ h, r⟩
theorem Go.cast (q : g = g') (k : Go p e below s kc ks Q T g') : Go p e below s kc ks Q T g := q ▸ k
theorem Go.weak {Q' : Option Value → Heap → List Loc → Prop} (k : Go p e below s kc ks Q' T g) (h : ∀ v hp L, Q' v hp L → Q v hp L) : Go p e below s kc ks Q T g := by
  obtain ⟨s₂, o, a, b, c, v, L, d, q, f⟩ := k
  exact ⟨s₂, o, a, b, c, v, L, d, h _ _ _ q, f⟩
theorem Go.ret (X : Stand p l e R s m args below meth c T locs cells slots) (hx : p.tables.exec = Jvm.exec) (hlk : meth.locks = false) {pc : Nat} {Ls : Array Slot} {w : Value} {t : FieldType} {i : Instr} {rest : List Value} (hret : meth.sig.returnType = some t) (hn : narrow t w = w)
    (hi : (i = .ireturn ∧ (t = .int ∨ t = .boolean ∨ t = .byte ∨ t = .char ∨ t = .short) ∧ ∃ z, w = .int z) ∨ (i = .lreturn ∧ t = .long ∧ ∃ z, w = .long z) ∨ (i = .dreturn ∧ t = .double ∧ ∃ z, w = .double z) ∨ (i = .freturn ∧ t = .float ∧ ∃ z, w = .float z) ∨ (i = .areturn ∧ t.isReference = true ∧ w.isRef = true))
    (hd : decode c.code pc = .ok (i, 1)) (hq : Q (some w) T.heap locs) (hc : cells ≤ kc) (hs : slots ≤ ks) : Go p e below s kc ks Q T (mkF m pc Ls (w :: rest)) := by
  obtain ⟨fs, hr, hrun, hended, hW, hsame⟩ := X.leave (v := some w) (fun h => by rw [hret] at h; cases h) hlk
  exact ⟨_, _, retOut X hx hret hn hi hd hr, hrun, hended, _, _, rfl, hq, ⟨_, rfl⟩, hW, hsame.mono hc hs⟩
theorem Go.retV (X : Stand p l e R s m args below meth c T locs cells slots) (hx : p.tables.exec = Jvm.exec) (hlk : meth.locks = false) {pc : Nat} {Ls : Array Slot} (hret : meth.sig.returnType = none)
    (hd : decode c.code pc = .ok (.return_, 1)) (hq : Q none T.heap locs) (hc : cells ≤ kc) (hs : slots ≤ ks) : Go p e below s kc ks Q T (mkF m pc Ls []) := by
  obtain ⟨fs, hr, hrun, hended, hW, hsame⟩ := X.leave (v := none) (fun _ => rfl) hlk
  exact ⟨_, _, X.returnOut hx hret hd hr, hrun, hended, _, _, rfl, hq, ⟨_, rfl⟩, hW, hsame.mono hc hs⟩
/-- the wide end: a String constant may have been resolved or interned; the booked constants of EL stand -/
def GoH (p : Program) (e : Env) (below : List Frame) (s : State) (kc ks : Nat) (Z : State) (EL : List (String × Nat)) (h0 : Heap) (Q : Option Value → Heap → List Loc → Prop) (T : State) (g : JFrame) : Prop :=
  ∃ s₂ o, Steps p.tables e below (T.setTop g) s₂ ∧ s₂.status = .running ∧ Ended s₂ below o ∧ ∃ v L, o = .returned v ∧ Q v s₂.heap L ∧ CHr Z EL s.vm h0 s₂.vm s₂.heap ∧ ReturnedEndW s o s₂ L kc ks
variable {Z : State} {EL : List (String × Nat)} {h0 : Heap} {a0 : Array Value} {vm0 : Vm} {k0 : Nat}
theorem GoH.step (st : ∀ t, Steps p.tables e below (T'.setTop g') t → Steps p.tables e below (T.setTop g) t) (k : GoH p e below s kc ks Z EL h0 Q T' g') : GoH p e below s kc ks Z EL h0 Q T g := by
  obtain ⟨s₂, o, h, r⟩ := k
  exact ⟨s₂, o, st _ h, r⟩
theorem GoH.cast (q : g = g') (k : GoH p e below s kc ks Z EL h0 Q T g') : GoH p e below s kc ks Z EL h0 Q T g := q ▸ k
theorem retEndW_mono {t : State} {o : Outcome} {L : List Loc} {k n k' n' : Nat} (h : ReturnedEndW s o t L k n) (h1 : k ≤ k') (h2 : n ≤ n') : ReturnedEndW s o t L k' n' := ⟨h.1, h.2.1, h.2.2.1, h.2.2.2.mono h1 h2⟩
theorem GoH.ret (X : Stand p l e R (s.setVm vm0) m args below meth c T locs cells slots) (hx : p.tables.exec = Jvm.exec) (hlk : meth.locks = false) (hS : s.Since vm0 k0) (hk : k0 ≤ T.heap.size) (hZ : Z.Warmed39 vm0) (hEL : EW Z a0 EL) (hC : CHr Z EL s.vm h0 vm0 T.heap)
    {pc : Nat} {Ls : Array Slot} {w : Value} {t : FieldType} {i : Instr} {rest : List Value} (hret : meth.sig.returnType = some t) (hn : narrow t w = w)
    (hi : (i = .ireturn ∧ (t = .int ∨ t = .boolean ∨ t = .byte ∨ t = .char ∨ t = .short) ∧ ∃ z, w = .int z) ∨ (i = .lreturn ∧ t = .long ∧ ∃ z, w = .long z) ∨ (i = .dreturn ∧ t = .double ∧ ∃ z, w = .double z) ∨ (i = .freturn ∧ t = .float ∧ ∃ z, w = .float z) ∨ (i = .areturn ∧ t.isReference = true ∧ w.isRef = true))
    (hd : decode c.code pc = .ok (i, 1)) (hq : Q (some w) T.heap locs) (hc : cells ≤ kc) (hs : slots ≤ ks) : GoH p e below s kc ks Z EL h0 Q T (mkF m pc Ls (w :: rest)) := by
  have hC' : CHr Z EL s.vm h0 T.vm T.heap := hC.trans (CHv.at X hZ hEL hC.1)
  obtain ⟨fs, hr, hrun, hended, hW⟩ := X.leaveW hS hk (v := some w) (fun h => by rw [hret] at h; cases h) hlk
  exact ⟨_, _, retOut X hx hret hn hi hd hr, hrun, hended, _, _, rfl, hq, hC', retEndW_mono hW hc hs⟩
theorem GoH.retV (X : Stand p l e R (s.setVm vm0) m args below meth c T locs cells slots) (hx : p.tables.exec = Jvm.exec) (hlk : meth.locks = false) (hS : s.Since vm0 k0) (hk : k0 ≤ T.heap.size) (hZ : Z.Warmed39 vm0) (hEL : EW Z a0 EL) (hC : CHr Z EL s.vm h0 vm0 T.heap)
    {pc : Nat} {Ls : Array Slot} (hret : meth.sig.returnType = none) (hd : decode c.code pc = .ok (.return_, 1)) (hq : Q none T.heap locs) (hc : cells ≤ kc) (hs : slots ≤ ks) : GoH p e below s kc ks Z EL h0 Q T (mkF m pc Ls []) := by
  have hC' : CHr Z EL s.vm h0 T.vm T.heap := hC.trans (CHv.at X hZ hEL hC.1)
  obtain ⟨fs, hr, hrun, hended, hW⟩ := X.leaveW hS hk (v := none) (fun _ => rfl) hlk
  exact ⟨_, _, X.returnOut hx hret hd hr, hrun, hended, _, _, rfl, hq, hC', retEndW_mono hW hc hs⟩
theorem nEW : EW Z a0 [] := EW.nil
theorem nCH : CHv Z [] vm0 h0 := fun p hp => nomatch hp
theorem own_ne_arv {Z : State} {h : Heap} {a b : Addr} {C : String} {a0 : Array Value} {k : Nat} {kk : ClassId} {ty : FieldType} {z : Int32} {vs : List Value} {d : Value} (E : Exa Z h a C) (wi : (Cond.instantiable C k).before a0 Z = true) (V : Arv Z h b kk ty z vs d) : a ≠ b := by
  obtain ⟨c, A, -⟩ := V
  exact ne_arr E wi A
theorem nar01 {x : Int32} (h : x = 0 ∨ x = 1) : narrow .boolean (.int x) = .int x := by rcases h with rfl | rfl <;> rfl
end Own
end Jvm.OwnWp
namespace Jvm.Pilot.@@N@@
open Jvm Jvm.ClassFile Sem Op Lib Jvm.Free Jvm.Stand Jvm.LawKit Jvm.RoadKit Jvm.OwnWp Bundle Jvm.Pilot.@@N@@.Jvm.D
theorem own_c255 (x : Int32) : (¬ ((x &&& (255 : Int32)).toUInt32.toUInt16.toUInt32.toInt32) < 0 ∧ ¬ (255 : Int32) < ((x &&& (255 : Int32)).toUInt32.toUInt16.toUInt32.toInt32)) ∧ nar .char ((x &&& (255 : Int32)).toUInt32.toUInt16.toUInt32.toInt32) = ((x &&& (255 : Int32)).toUInt32.toUInt16.toUInt32.toInt32) := by
  have t : ∀ k : Fin 256, (¬ ((Int32.ofNat k.val).toUInt32.toUInt16.toUInt32.toInt32) < 0 ∧ ¬ (255 : Int32) < ((Int32.ofNat k.val).toUInt32.toUInt16.toUInt32.toInt32)) ∧ nar .char ((Int32.ofNat k.val).toUInt32.toUInt16.toUInt32.toInt32) = ((Int32.ofNat k.val).toUInt32.toUInt16.toUInt32.toInt32) := by decide +kernel
  have h : (x &&& 255).toBitVec.toNat < 256 := by
    simp only [Int32.toBitVec_and, BitVec.toNat_and]
    exact Nat.lt_succ_of_le Nat.and_le_right
  have e : (x &&& 255) = Int32.ofNat (x &&& 255).toBitVec.toNat := by
    apply Int32.toBitVec_inj.mp
    show _ = BitVec.ofNat 32 _
    rw [BitVec.ofNat_toNat]; simp
  rw [e]
  exact t ⟨_, h⟩
theorem own_up (cs : List Int32) (h : ∀ c ∈ cs, ¬ c < 0 ∧ ¬ (255 : Int32) < c) : ∀ c ∈ cs, ¬ c < 0 ∧ ¬ (65535 : Int32) < c := fun c hc => ⟨(h c hc).1, fun q => (h c hc).2 (by rw [Int32.lt_iff_toInt_lt] at q ⊢; have e1 : (65535 : Int32).toInt = 65535 := rfl; have e2 : (255 : Int32).toInt = 255 := rfl; omega)⟩
theorem own_SA {Z : State} {a0 : Array Value} (hw : ∀ d ∈ tables_1, d.before a0 Z = true) : ∀ d ∈ Bundle.stringAtoms, d.before a0 Z = true := fun d hd => hw d ((by decide +kernel : ∀ d ∈ Bundle.stringAtoms, d ∈ tables_1) d hd)
abbrev own_EL : List (String × Nat) := [("com/example/affordance/affordance/PathSegments", 23), ("java/lang/String", 7)]
theorem own_EW {Z : State} {a0 : Array Value} (hw : ∀ d ∈ tables_1, d.before a0 Z = true) : EW Z a0 own_EL := (EW.cons (hw _ (List.mem_of_getElem? (i := 84) rfl)) (by decide) (EW.cons (hw _ (List.mem_of_getElem? (i := 22) rfl)) (by decide) EW.nil))
theorem own_words {Z : State} {a0 : Array Value} (hw : ∀ d ∈ tables_1, d.before a0 Z = true) : ∀ d ∈ StrChars.Road.words, d.before a0 Z = true := fun d hd => hw d ((by decide +kernel : ∀ d ∈ StrChars.Road.words, d ∈ tables_1) d hd)
theorem own_wordsLen {Z : State} {a0 : Array Value} (hw : ∀ d ∈ tables_1, d.before a0 Z = true) : ∀ d ∈ StrChars.Road.wordsLen, d.before a0 Z = true := fun d hd => hw d ((by decide +kernel : ∀ d ∈ StrChars.Road.wordsLen, d ∈ tables_1) d hd)
theorem own_wordsChN {Z : State} {a0 : Array Value} (hw : ∀ d ∈ tables_1, d.before a0 Z = true) : ∀ d ∈ StrChars.Road.wordsChN, d.before a0 Z = true := fun d hd => hw d ((by decide +kernel : ∀ d ∈ StrChars.Road.wordsChN, d ∈ tables_1) d hd)
theorem own_slash : ∀ c ∈ ([47] : List Int32), ¬ c < 0 ∧ ¬ (255 : Int32) < c := by decide
theorem own_le4 {cs : List Int32} (h : cs.length ≤ 4) : cs.length ≤ 4000 := Nat.le_trans h (by decide)
theorem own_ofNat {n : Nat} (h : n ≤ 5) : (Int32.ofNat n).toInt = n := Int32.toInt_ofNat_small (by omega)
theorem own_lt {i n : Nat} (hi : i ≤ 5) (h : n ≤ 5) : Int32.ofNat i < Int32.ofNat n ↔ i < n := by
  rw [Int32.lt_iff_toInt_lt, own_ofNat hi, own_ofNat h]; omega
theorem own_eqn {m n : Nat} (hm : m ≤ 5) (h : n ≤ 5) (e : Int32.ofNat m = Int32.ofNat n) : m = n := by
  have := congrArg Int32.toInt e
  rw [own_ofNat hm, own_ofNat h] at this; omega
theorem own_nn {n : Nat} (h : n ≤ 5) : ¬ Int32.ofNat n < (0 : Int32) := by
  rw [Int32.lt_iff_toInt_lt, own_ofNat h, show (0 : Int32).toInt = 0 from by decide]; omega
theorem own_m1 {n : Nat} (h : n ≤ 5) : ¬ (-1 : Int32) = Int32.ofNat n := fun q => by
  have := congrArg Int32.toInt q
  rw [own_ofNat h, show (-1 : Int32).toInt = -1 from by decide] at this; omega
def own_tpl (cs : List Int32) (j i : Nat) : Int32 := if (List.range i).any (fun x => decide (j ≤ x) && decide (cs.getD x 0 = (123 : Int32))) = true then 1 else 0
theorem own_tpl_self (cs : List Int32) (j : Nat) : own_tpl cs j j = 0 := by
  unfold own_tpl
  rw [if_neg]
  intro h
  obtain ⟨x, hx, q⟩ := List.any_eq_true.mp h
  have := List.mem_range.mp hx
  simp at q
  omega
theorem own_tpl_iff (cs : List Int32) (j i : Nat) : ((List.range i).any (fun x => decide (j ≤ x) && decide (cs.getD x 0 = (123 : Int32))) = true) ↔ ∃ x, j ≤ x ∧ x < i ∧ cs.getD x 0 = 123 := by
  constructor
  · intro h
    obtain ⟨x, hx, q⟩ := List.any_eq_true.mp h
    simp only [Bool.and_eq_true, decide_eq_true_eq] at q
    exact ⟨x, q.1, List.mem_range.mp hx, q.2⟩
  · rintro ⟨x, h1, h2, h3⟩
    exact List.any_eq_true.mpr ⟨x, List.mem_range.mpr h2, by simp only [Bool.and_eq_true, decide_eq_true_eq]; exact ⟨h1, h3⟩⟩
theorem own_tpl01 (cs : List Int32) (j i : Nat) : own_tpl cs j i = 0 ∨ own_tpl cs j i = 1 := by
  unfold own_tpl; split
  · exact Or.inr rfl
  · exact Or.inl rfl
theorem own_tpl_one {cs : List Int32} {j i x : Nat} (h1 : j ≤ x) (h2 : x < i) (h3 : cs.getD x 0 = 123) : own_tpl cs j i = 1 := by
  unfold own_tpl; rw [if_pos ((own_tpl_iff cs j i).mpr ⟨x, h1, h2, h3⟩)]
theorem own_tpl_zero {cs : List Int32} {j i : Nat} (h : ∀ x, j ≤ x → x < i → ¬ cs.getD x 0 = 123) : own_tpl cs j i = 0 := by
  unfold own_tpl; rw [if_neg (fun q => by obtain ⟨x, a, b, c⟩ := (own_tpl_iff cs j i).mp q; exact h x a b c)]
theorem own_tpl_step {cs : List Int32} {j i : Nat} {r : Int32} (hj : j ≤ i) (hr : (r = (1 : Int32) ∧ (cs.getD i 0) = (123 : Int32)) ∨ (r = (0 : Int32) ∧ ¬ ((cs.getD i 0) = (123 : Int32)))) : own_tpl cs j i ||| r = own_tpl cs j (i + 1) := by
  rcases hr with ⟨rfl, h⟩ | ⟨rfl, h⟩
  · rw [own_tpl_one hj (Nat.lt_succ_self i) h]
    rcases own_tpl01 cs j i with q | q <;> rw [q] <;> decide
  · have e : own_tpl cs j (i + 1) = own_tpl cs j i := by
      by_cases q : ∃ x, j ≤ x ∧ x < i ∧ cs.getD x 0 = 123
      · obtain ⟨x, a, b, c⟩ := q
        rw [own_tpl_one a b c, own_tpl_one a (Nat.lt_succ_of_lt b) c]
      · rw [own_tpl_zero (fun x a b c => q ⟨x, a, b, c⟩), own_tpl_zero (fun x a b c => by
          rcases Nat.lt_succ_iff_lt_or_eq.mp b with b | rfl
          · exact q ⟨x, a, b, c⟩
          · exact h c)]
    rw [e]
    rcases own_tpl01 cs j i with q | q <;> rw [q] <;> decide
theorem own_tpl_nar (cs : List Int32) (j i : Nat) : narrow .boolean (.int (own_tpl cs j i)) = .int (own_tpl cs j i) := nar01 (own_tpl01 cs j i)
theorem own_tpl_fit (cs : List Int32) (j i : Nat) : fits .boolean (.int (own_tpl cs j i)) = true := by rcases own_tpl01 cs j i with q | q <;> rw [q] <;> rfl
def own_lit (s e t : Int32) : Int32 := if s < e then (if t = 0 then 1 else 0) else 0
def own_brace (cs : List Int32) (x : Nat) (s e : Int32) : Int32 := if Int32.ofNat x < s then 0 else if Int32.ofNat x < e then (if Int32.ofNat x < Int32.ofNat cs.length then (if cs.getD x 0 = 123 then 1 else 0) else 0) else 0
theorem own_br_one {cs : List Int32} {x j i : Nat} (hx : x ≤ 5) (hj : j ≤ 5) (hi : i ≤ 5) (h : ¬ own_brace cs x (Int32.ofNat j) (Int32.ofNat i) = 0) : own_tpl cs j i = 1 := by
  unfold own_brace at h
  by_cases q1 : Int32.ofNat x < Int32.ofNat j
  · rw [if_pos q1] at h; exact absurd rfl h
  rw [if_neg q1] at h
  by_cases q2 : Int32.ofNat x < Int32.ofNat i
  · rw [if_pos q2] at h
    by_cases q3 : Int32.ofNat x < Int32.ofNat cs.length
    · rw [if_pos q3] at h
      by_cases q4 : cs.getD x 0 = 123
      · exact own_tpl_one (Nat.le_of_not_lt fun z => q1 ((own_lt hx hj).mpr z)) ((own_lt hx hi).mp q2) q4
      · rw [if_neg q4] at h; exact absurd rfl h
    · rw [if_neg q3] at h; exact absurd rfl h
  · rw [if_neg q2] at h; exact absurd rfl h
theorem own_br_zero {cs : List Int32} {x j i : Nat} (hl : cs.length ≤ 4) (hx : x ≤ 5) (hj : j ≤ 5) (hi : i ≤ cs.length) (h : own_brace cs x (Int32.ofNat j) (Int32.ofNat i) = 0) (h1 : j ≤ x) (h2 : x < i) : ¬ cs.getD x 0 = 123 := fun q => by
  unfold own_brace at h
  rw [if_neg (fun z => absurd ((own_lt hx hj).mp z) (Nat.not_lt.mpr h1)), if_pos ((own_lt hx (by omega)).mpr h2), if_pos ((own_lt hx (by omega)).mpr (by omega)), if_pos q] at h
  exact absurd h (by decide)
theorem own_all {cs : List Int32} {j i : Nat} (hl : cs.length ≤ 4) (hj : j ≤ i) (hi : i ≤ cs.length) (h0 : own_brace cs 0 (Int32.ofNat j) (Int32.ofNat i) = 0) (h1 : own_brace cs 1 (Int32.ofNat j) (Int32.ofNat i) = 0) (h2 : own_brace cs 2 (Int32.ofNat j) (Int32.ofNat i) = 0) (h3 : own_brace cs 3 (Int32.ofNat j) (Int32.ofNat i) = 0) : own_tpl cs j i = 0 :=
  own_tpl_zero fun x a b => by
    rcases (by omega : x = 0 ∨ x = 1 ∨ x = 2 ∨ x = 3) with rfl | rfl | rfl | rfl
    · exact own_br_zero hl (by omega) (by omega) hi h0 a b
    · exact own_br_zero hl (by omega) (by omega) hi h1 a b
    · exact own_br_zero hl (by omega) (by omega) hi h2 a b
    · exact own_br_zero hl (by omega) (by omega) hi h3 a b
theorem own_byte {cs : List Int32} {i : Nat} (h : i < cs.length) : ((cs.map (fun c => c.toInt8.toInt32)).map Value.int).getD i (.int (0 : Int32)) = .int ((cs.getD i 0).toInt8.toInt32) := by
  simp [List.getD_eq_getElem?_getD, h]
theorem own_len1 {cs : List Int32} (hl : cs.length ≤ 4) (h : ¬ (Int32.ofNat cs.length - (1 : Int32)) < (0 : Int32)) : 0 < cs.length := by
  have e := own_ofNat (n := cs.length) (by omega)
  have k1 : (1 : Int32).toInt = 1 := by decide
  have k0 : (0 : Int32).toInt = 0 := by decide
  rw [Int32.lt_iff_toInt_lt, XT.sub32 (by unfold XT.fits32; rw [e, k1]; omega), e, k1, k0] at h
  omega
theorem own_inz {cs : List Int32} (hl : cs.length ≤ 4) (h : 0 < cs.length) : ¬ (0 : Int32) < 0 ∧ (0 : Int32) < Int32.ofNat cs.length := ⟨by decide, (own_lt (i := 0) (by omega) (by omega)).mpr h⟩
theorem own_tr {k a b : Int32} (h : ¬ a < k) (hab : a.toInt ≤ b.toInt) : ¬ b < k := by
  rw [Int32.lt_iff_toInt_lt] at h ⊢; omega
theorem own_safe_null {Z : State} {EL : List (String × Nat)} {vm : Vm} {h : Heap} {x : Addr} (hal : Z.vm.Alike vm) (E : Exa Z h x "java/lang/String") (F : Fld Z h x "java/lang/String" "value" "[B" .null) : Safe Z EL vm h x := fun B => by
  obtain ⟨cell, k, e1, e2, e3, -, -⟩ := E
  have nm : ∀ {n : String} {c : ClassId}, vm.findClass n = some c → c = cell.cls → n = "java/lang/String" := fun {n c} f e => by
    subst e
    rw [hal.findClass] at f
    obtain ⟨k1, q1, q2⟩ := Vm.findClass_spec f
    obtain ⟨k2, q3, q4⟩ := Vm.findClass_spec e2
    cases q1.symm.trans q3
    exact q2.symm.trans q4
  obtain ⟨p, -, u, a, -, q, -, G, rfl | rfl⟩ := B
  · obtain ⟨cf, cc, kk, i, f, f1, f2, f3, f4, f5, f6, f7⟩ := F
    cases (show h[q.sa]? = some q.sC from G.ha).symm.trans f1
    obtain ⟨cS, ⟨⟨-, -, -, ⟨c1, k1, i1, g1, -⟩, -, -, -, v1, -⟩, -⟩, -⟩ := G
    obtain ⟨k3, e3', -⟩ := State.fieldFound?_setVm (s := Z) (vm' := vm) hal f2
    have e4 : (Wst Z vm h).fieldFound? "java/lang/String" "value" "[B" = some (cc, k3, i, f) := e3'
    have q1 := g1.symm.trans e4
    cases q1
    rw [f7] at v1
    cases v1
  · cases (show h[q.sd]? = some q.SA from G.hd).symm.trans e1
    obtain ⟨cS, -, -, f, -⟩ := G
    exact absurd (nm f rfl) (by decide)
theorem pn_0 : plainName "java/lang/String" = true := by first | (simp [plainName, overriddenIn]; done) | decide +kernel
theorem ef_rmSI (m : MethodId) (a1 : Addr) (a2 : Addr) : entryFrame m #[(.ref a1), (.ref a2), (.int (0 : Int32)), (.int (0 : Int32)), .null] 6 = mkF m 0 #[.val (.ref a1), .val (.ref a2), .val (.int (0 : Int32)), .val (.int (0 : Int32)), .val .null, .unset] [] := by first | (simp [entryFrame, mkF, argsToLocals, Value.category]; done) | rfl
def QSI (Z : State) (a1 : Addr) (a2 : Addr) (h0 : Heap) (n0 : Nat) (v : Option Value) (h : Heap) (L : List Loc) : Prop := v = none ∧ Fr n0 L ∧ Keep h0 h [a1] ∧ Exa Z h a1 "java/lang/String" ∧ Fld Z h a1 "java/lang/String" "coder" "B" (.int (0 : Int32)) ∧ ∃ (t : Addr) (kb : ClassId), a1 ≠ t ∧ Fld Z h a1 "java/lang/String" "value" "[B" (.ref t) ∧ Arv Z h t kb .byte (0 : Int32) [] (.int (0 : Int32))
theorem d4_0 : decode jdk_42_method_149_code 0 = .ok (.aload_n 0, 1) := by decide +kernel
theorem d4_1 : decode jdk_42_method_149_code 1 = .ok (.invokespecial 1, 3) := by decide +kernel
theorem d4_4 : decode jdk_42_method_149_code 4 = .ok (.iload_n 3, 1) := by decide +kernel
theorem d4_5 : decode jdk_42_method_149_code 5 = .ok (.ifCond .ne 22, 3) := by decide +kernel
theorem d4_8 : decode jdk_42_method_149_code 8 = .ok (.aload_n 0, 1) := by decide +kernel
theorem d4_9 : decode jdk_42_method_149_code 9 = .ok (.ldc 7, 2) := by decide +kernel
theorem d4_11 : decode jdk_42_method_149_code 11 = .ok (.getfield 9, 3) := by decide +kernel
theorem d4_14 : decode jdk_42_method_149_code 14 = .ok (.putfield 9, 3) := by decide +kernel
theorem d4_17 : decode jdk_42_method_149_code 17 = .ok (.aload_n 0, 1) := by decide +kernel
theorem d4_18 : decode jdk_42_method_149_code 18 = .ok (.ldc 7, 2) := by decide +kernel
theorem d4_20 : decode jdk_42_method_149_code 20 = .ok (.getfield 15, 3) := by decide +kernel
theorem d4_23 : decode jdk_42_method_149_code 23 = .ok (.putfield 15, 3) := by decide +kernel
theorem d4_26 : decode jdk_42_method_149_code 26 = .ok (.return_, 1) := by decide +kernel
set_option maxRecDepth 65536 in
set_option maxHeartbeats 40000000 in
theorem rmSI (l : Launch) (Z : State) (a0 : Array Value) (hw : ∀ d ∈ tables_1, d.before a0 Z = true) (ws : List Jvm.Cond) (a1 : Addr) (a2 : Addr) (h0 : Heap) (n0 : Nat) (Z0 : n0 ≤ h0.size) (g1 : n0 ≤ a1) (PE1 : Exa Z h0 a1 "java/lang/String") (PF1 : Fld Z h0 a1 "java/lang/String" "value" "[B" .null) (PF2 : Fld Z h0 a1 "java/lang/String" "coder" "B" (.int (0 : Int32))) :
    MetFree l (⟨"java/lang/String", "<init>", "([CIILjava/lang/Void;)V"⟩ : MethodName) (head1 (Jvm.Cond.code (⟨"java/lang/String", "<init>", "([CIILjava/lang/Void;)V"⟩ : MethodName) jdk_42_method_149_code 6 none :: ws) ({ frames := 1, cells := 4, slots := 8, locals := 12 } : Room)) (fun a U => a = #[(.ref a1), (.ref a2), (.int (0 : Int32)), (.int (0 : Int32)), .null] ∧ Z.Warmed39 U.vm ∧ U.heap = h0 ∧ CHv Z own_EL U.vm h0) (fun _ _ _ _ _ => True) (fun _ U o U' => ∃ v L, o = .returned v ∧ QSI Z a1 a2  h0 n0 v U'.heap L ∧ CHr Z own_EL U.vm U.heap U'.vm U'.heap ∧ ReturnedEndW U o U' L ({ frames := 1, cells := 4, slots := 8, locals := 12 } : Room).cells ({ frames := 1, cells := 4, slots := 8, locals := 12 } : Room).slots) := by
  refine MetFree.of_bodySF (plainFor_of_name pn_0) hisR ?_
  intro p e s m args below meth c s₁ Bd hml0 hP hK
  obtain ⟨rfl, hZ0, hh, hCH⟩ := hP
  have hx := Bd.exec
  have hby := Bd.bytes
  have hlk := BodyLoose.notSynchronized Bd
  have hml : c.maxLocals = 6 := hml0
  have hret := Bd.returns
  have hown0 : (s.setVm s.vm).vm.findClass "java/lang/String" = some m.cls := findClass_of_methodNamed Bd.named
  have hnm := (name_of_methodNamed Bd.named Bd.method).1
  have X0 : Stand p l e ({ frames := 1, cells := 4, slots := 8, locals := 12 } : Room) (s.setVm s.vm) m #[(.ref a1), (.ref a2), (.int (0 : Int32)), (.int (0 : Int32)), .null] below meth c s₁ [] 0 0 := Stand.of_body Bd
  have hZ0 : Z.Warmed39 (s.setVm s.vm).vm := hZ0
  have hEL : EW Z a0 own_EL := own_EW hw
  have hS0 : s.Since s.vm h0.size := (State.WarmedH.refl s).since _
  have hk0 : h0.size ≤ h0.size := Nat.le_refl _
  have C0 : CHr Z own_EL s.vm h0 s.vm h0 := CHr.refl hCH
  have e0 : s₁.heap = h0 := by rw [← hh, Bd.state]; rfl
  have N0 := Fr.nil n0
  show GoH p e below s ({ frames := 1, cells := 4, slots := 8, locals := 12 } : Room).cells ({ frames := 1, cells := 4, slots := 8, locals := 12 } : Room).slots Z own_EL s.heap (QSI Z a1 a2  h0 n0) s₁ (entryFrame m #[(.ref a1), (.ref a2), (.int (0 : Int32)), (.int (0 : Int32)), .null] 6)
  rw [hh]
  refine GoH.cast (ef_rmSI m a1 a2) ?_
  have sf0_a1 : Safe Z own_EL s.vm h0 a1 := own_safe_null hZ0.alike PE1 PF1
  have K0 : Keep h0 h0 [a1] := Keep.refl _ _
  show GoH _ _ _ _ _ _ _ _ _ _ s₁ (mkF m 0 #[.val (.ref a1), .val (.ref a2), .val (.int (0 : Int32)), .val (.int (0 : Int32)), .val .null, .unset] [])
  refine GoH.step (fun t_ k_ => XS.aloadN X0.here hx rfl (hb hby d4_0) rfl rfl k_) ?_
  show GoH _ _ _ _ _ _ _ _ _ _ s₁ (mkF m 1 #[.val (.ref a1), .val (.ref a2), .val (.int (0 : Int32)), .val (.int (0 : Int32)), .val .null, .unset] [(.ref a1)])
  obtain ⟨T1, X1, e1, st1⟩ := initO X0 hx hZ0 hown0 (hw _ (List.mem_of_getElem? (i := 19) rfl)) (hw _ (List.mem_of_getElem? (i := 20) rfl)) (hw _ (List.mem_of_getElem? (i := 21) rfl)) e0 (g := (mkF m 1 #[.val (.ref a1), .val (.ref a2), .val (.int (0 : Int32)), .val (.int (0 : Int32)), .val .null, .unset] [(.ref a1)])) rfl (by rw [hml]; rfl) rfl (hb hby d4_1) (by decide) (W := 0) (by show 2 * 0 + _ ≤ _; exact Nat.le_of_eq rfl) (by decide)
  refine GoH.step st1 ?_
  show GoH _ _ _ _ _ _ _ _ _ _ T1 (mkF m 4 #[.val (.ref a1), .val (.ref a2), .val (.int (0 : Int32)), .val (.int (0 : Int32)), .val .null, .unset] [])
  refine GoH.step (fun t_ k_ => XS.iloadN X1.here hx rfl (hb hby d4_4) rfl k_) ?_
  show GoH _ _ _ _ _ _ _ _ _ _ T1 (mkF m 5 #[.val (.ref a1), .val (.ref a2), .val (.int (0 : Int32)), .val (.int (0 : Int32)), .val .null, .unset] [(.int (0 : Int32))])
  have hb5_2 : (0 : Int32) = (0 : Int32) := by decide
  refine GoH.step (fun t_ k_ => XS.ifNo X1.here hx rfl (hb hby d4_5) rfl (XT.i0_ne_f hb5_2) k_) ?_
  show GoH _ _ _ _ _ _ _ _ _ _ T1 (mkF m 8 #[.val (.ref a1), .val (.ref a2), .val (.int (0 : Int32)), .val (.int (0 : Int32)), .val .null, .unset] [])
  refine GoH.step (fun t_ k_ => XS.aloadN X1.here hx rfl (hb hby d4_8) rfl rfl k_) ?_
  show GoH _ _ _ _ _ _ _ _ _ _ T1 (mkF m 9 #[.val (.ref a1), .val (.ref a2), .val (.int (0 : Int32)), .val (.int (0 : Int32)), .val .null, .unset] [(.ref a1)])
  obtain ⟨lt3, T3, h3, kk3, lb3, kb3, X3, e3, E3, hS3, hk3, hZ3, hown3, fE3, fC3, fV3, fA3, la3, lb_3, CHq3, -, hsn3, st3⟩ := ldcCH X1 hx hZ0 hown0 (hw _ (List.mem_of_getElem? (i := 22) rfl)) (own_SA hw) e1 hS0 hk0 hEL (by decide) C0.1 (vs := []) (z := (0 : Int32)) ⟨(by decide), (by decide)⟩ (by decide) (by decide) (g := (mkF m 9 #[.val (.ref a1), .val (.ref a2), .val (.int (0 : Int32)), .val (.int (0 : Int32)), .val .null, .unset] [(.ref a1)])) rfl (hb hby d4_9) (n := 0) (by decide) (by decide) (by decide) (by decide)
  have f3_0 : Exa Z h3 a1 "java/lang/String" := (PE1.ext E3)
  have f3_1 : Fld Z h3 a1 "java/lang/String" "value" "[B" .null := (PF1.ext E3)
  have f3_2 : Fld Z h3 a1 "java/lang/String" "coder" "B" (.int (0 : Int32)) := (PF2.ext E3)
  have f3_3 : Exa Z h3 lt3 "java/lang/String" := fE3
  have f3_4 : Fld Z h3 lt3 "java/lang/String" "coder" "B" (.int (0 : Int32)) := fC3
  have f3_5 : Fld Z h3 lt3 "java/lang/String" "value" "[B" (.ref lb3) := fV3
  have f3_6 : Arv Z h3 lb3 kb3 .byte (0 : Int32) [] (.int (0 : Int32)) := fA3
  have sf3_a1 : Safe Z own_EL T3.vm h3 a1 := CHr.safe CHq3 PE1.lt sf0_a1
  have CC3 : CHr Z own_EL s.vm h0 T3.vm h3 := C0.trans CHq3
  have ne_a1_lt3 := (hsn3 _ sf3_a1).1
  have ne_a1_lb3 := (hsn3 _ sf3_a1).2
  have Zs3 : n0 ≤ h3.size := (Nat.le_trans Z0 E3.1)
  have K3 : Keep h0 h3 [a1] := K0.ext E3
  refine GoH.step st3 ?_
  show GoH _ _ _ _ _ _ _ _ _ _ T3 (mkF m 11 #[.val (.ref a1), .val (.ref a2), .val (.int (0 : Int32)), .val (.int (0 : Int32)), .val .null, .unset] [(.ref lt3), (.ref a1)])
  obtain ⟨T4, X4, e4, st4⟩ := getF X3 hx hZ3 hown3 (host := "") (Or.inl (hw _ (List.mem_of_getElem? (i := 28) rfl))) Via.refl e3 f3_5 (g := (mkF m 11 #[.val (.ref a1), .val (.ref a2), .val (.int (0 : Int32)), .val (.int (0 : Int32)), .val .null, .unset] [(.ref lt3), (.ref a1)])) rfl rfl (hb hby d4_11)
  refine GoH.step st4 ?_
  show GoH _ _ _ _ _ _ _ _ _ _ T4 (mkF m 14 #[.val (.ref a1), .val (.ref a2), .val (.int (0 : Int32)), .val (.int (0 : Int32)), .val .null, .unset] [(.ref lb3), (.ref a1)])
  obtain ⟨T5, h5, X5, e5, W5, st5⟩ := putF X4 hx hZ3 hown3 (host := "") (Or.inl (hw _ (List.mem_of_getElem? (i := 28) rfl))) Via.refl e4 f3_1 f3_0 (Or.inr ⟨(hw _ (List.mem_of_getElem? (i := 24) rfl)), rfl, hnm⟩) (hw _ (List.mem_of_getElem? (i := 9) rfl)) (ty := (.array .byte)) (by decide) rfl rfl (g := (mkF m 14 #[.val (.ref a1), .val (.ref a2), .val (.int (0 : Int32)), .val (.int (0 : Int32)), .val .null, .unset] [(.ref lb3), (.ref a1)])) rfl rfl (hb hby d4_14)
  have N5 := Fr.snoc X5 N0 g1
  refine GoH.step st5 ?_
  have f5_0 : Exa Z h5 a1 "java/lang/String" := (f3_0.wr W5)
  have f5_1 : Fld Z h5 a1 "java/lang/String" "value" "[B" (.ref lb3) := (f3_1.same W5)
  have f5_2 : Fld Z h5 a1 "java/lang/String" "coder" "B" (.int (0 : Int32)) := (f3_2.other W5 (Or.inr (slot_ne (Or.inr (hw _ (List.mem_of_getElem? (i := 25) rfl))) (Or.inr (hw _ (List.mem_of_getElem? (i := 24) rfl))) (by decide) (t := .byte) (t' := (.array .byte)) (by decide) (by decide))))
  have f5_3 : Exa Z h5 lt3 "java/lang/String" := (f3_3.wr W5)
  have f5_4 : Fld Z h5 lt3 "java/lang/String" "coder" "B" (.int (0 : Int32)) := (f3_4.other W5 (Or.inl (Ne.symm ne_a1_lt3)))
  have f5_5 : Fld Z h5 lt3 "java/lang/String" "value" "[B" (.ref lb3) := (f3_5.other W5 (Or.inl (Ne.symm ne_a1_lt3)))
  have f5_6 : Arv Z h5 lb3 kb3 .byte (0 : Int32) [] (.int (0 : Int32)) := (f3_6.other W5 (Ne.symm ne_a1_lb3))
  have sfw5 : Safe Z own_EL T3.vm _ a1 := sf3_a1
  have sf5_a1 : Safe Z own_EL T3.vm h5 a1 := Safe.wr W5 sfw5 CC3.1 sf3_a1
  have hk5 : _ ≤ h5.size := Nat.le_trans hk3 (Keep.of_wr W5).1
  have C5 : CHr Z own_EL s.vm h0 T3.vm h5 := CC3.trans (CHr.wr W5 sfw5 CC3.1)
  have Zs5 : n0 ≤ h5.size := (Nat.le_trans Zs3 (Keep.of_wr W5).1)
  have K5 : Keep h0 h5 [a1] := K3.wr W5 (Or.inl (List.mem_of_getElem? (i := 0) rfl))
  show GoH _ _ _ _ _ _ _ _ _ _ T5 (mkF m 17 #[.val (.ref a1), .val (.ref a2), .val (.int (0 : Int32)), .val (.int (0 : Int32)), .val .null, .unset] [])
  refine GoH.step (fun t_ k_ => XS.aloadN X5.here hx rfl (hb hby d4_17) rfl rfl k_) ?_
  show GoH _ _ _ _ _ _ _ _ _ _ T5 (mkF m 18 #[.val (.ref a1), .val (.ref a2), .val (.int (0 : Int32)), .val (.int (0 : Int32)), .val .null, .unset] [(.ref a1)])
  obtain ⟨lt6, T6, h6, kk6, lb6, kb6, X6, e6, E6, hS6, hk6, hZ6, hown6, fE6, fC6, fV6, fA6, la6, lb_6, CHq6, -, hsn6, st6⟩ := ldcCH X5 hx hZ3 hown3 (hw _ (List.mem_of_getElem? (i := 22) rfl)) (own_SA hw) e5 hS3 hk5 hEL (by decide) C5.1 (vs := []) (z := (0 : Int32)) ⟨(by decide), (by decide)⟩ (by decide) (by decide) (g := (mkF m 18 #[.val (.ref a1), .val (.ref a2), .val (.int (0 : Int32)), .val (.int (0 : Int32)), .val .null, .unset] [(.ref a1)])) rfl (hb hby d4_18) (n := 0) (by decide) (by decide) (by decide) (by decide)
  have f6_0 : Exa Z h6 a1 "java/lang/String" := (f5_0.ext E6)
  have f6_1 : Fld Z h6 a1 "java/lang/String" "value" "[B" (.ref lb3) := (f5_1.ext E6)
  have f6_2 : Fld Z h6 a1 "java/lang/String" "coder" "B" (.int (0 : Int32)) := (f5_2.ext E6)
  have f6_3 : Exa Z h6 lt3 "java/lang/String" := (f5_3.ext E6)
  have f6_4 : Fld Z h6 lt3 "java/lang/String" "coder" "B" (.int (0 : Int32)) := (f5_4.ext E6)
  have f6_5 : Fld Z h6 lt3 "java/lang/String" "value" "[B" (.ref lb3) := (f5_5.ext E6)
  have f6_6 : Arv Z h6 lb3 kb3 .byte (0 : Int32) [] (.int (0 : Int32)) := (f5_6.ext E6)
  have f6_7 : Exa Z h6 lt6 "java/lang/String" := fE6
  have f6_8 : Fld Z h6 lt6 "java/lang/String" "coder" "B" (.int (0 : Int32)) := fC6
  have f6_9 : Fld Z h6 lt6 "java/lang/String" "value" "[B" (.ref lb6) := fV6
  have f6_10 : Arv Z h6 lb6 kb6 .byte (0 : Int32) [] (.int (0 : Int32)) := fA6
  have sf6_a1 : Safe Z own_EL T6.vm h6 a1 := CHr.safe CHq6 f5_0.lt sf5_a1
  have CC6 : CHr Z own_EL s.vm h0 T6.vm h6 := C5.trans CHq6
  have ne_a1_lt6 := (hsn6 _ sf6_a1).1
  have ne_a1_lb6 := (hsn6 _ sf6_a1).2
  have Zs6 : n0 ≤ h6.size := (Nat.le_trans Zs5 E6.1)
  have K6 : Keep h0 h6 [a1] := K5.ext E6
  refine GoH.step st6 ?_
  show GoH _ _ _ _ _ _ _ _ _ _ T6 (mkF m 20 #[.val (.ref a1), .val (.ref a2), .val (.int (0 : Int32)), .val (.int (0 : Int32)), .val .null, .unset] [(.ref lt6), (.ref a1)])
  obtain ⟨T7, X7, e7, st7⟩ := getF X6 hx hZ6 hown6 (host := "") (Or.inl (hw _ (List.mem_of_getElem? (i := 29) rfl))) Via.refl e6 f6_8 (g := (mkF m 20 #[.val (.ref a1), .val (.ref a2), .val (.int (0 : Int32)), .val (.int (0 : Int32)), .val .null, .unset] [(.ref lt6), (.ref a1)])) rfl rfl (hb hby d4_20)
  refine GoH.step st7 ?_
  show GoH _ _ _ _ _ _ _ _ _ _ T7 (mkF m 23 #[.val (.ref a1), .val (.ref a2), .val (.int (0 : Int32)), .val (.int (0 : Int32)), .val .null, .unset] [(.int (0 : Int32)), (.ref a1)])
  obtain ⟨T8, h8, X8, e8, W8, st8⟩ := putF X7 hx hZ6 hown6 (host := "") (Or.inl (hw _ (List.mem_of_getElem? (i := 29) rfl))) Via.refl e7 f6_2 f6_0 (Or.inr ⟨(hw _ (List.mem_of_getElem? (i := 25) rfl)), rfl, hnm⟩) (hw _ (List.mem_of_getElem? (i := 9) rfl)) (ty := .byte) (by decide) rfl rfl (g := (mkF m 23 #[.val (.ref a1), .val (.ref a2), .val (.int (0 : Int32)), .val (.int (0 : Int32)), .val .null, .unset] [(.int (0 : Int32)), (.ref a1)])) rfl rfl (hb hby d4_23)
  have N8 := Fr.snoc X8 N5 g1
  refine GoH.step st8 ?_
  have f8_0 : Exa Z h8 a1 "java/lang/String" := (f6_0.wr W8)
  have f8_1 : Fld Z h8 a1 "java/lang/String" "value" "[B" (.ref lb3) := (f6_1.other W8 (Or.inr (slot_ne (Or.inr (hw _ (List.mem_of_getElem? (i := 24) rfl))) (Or.inr (hw _ (List.mem_of_getElem? (i := 25) rfl))) (by decide) (t := (.array .byte)) (t' := .byte) (by decide) (by decide))))
  have f8_2 : Fld Z h8 a1 "java/lang/String" "coder" "B" (.int (0 : Int32)) := (f6_2.same W8)
  have f8_3 : Exa Z h8 lt3 "java/lang/String" := (f6_3.wr W8)
  have f8_4 : Fld Z h8 lt3 "java/lang/String" "coder" "B" (.int (0 : Int32)) := (f6_4.other W8 (Or.inl (Ne.symm ne_a1_lt3)))
  have f8_5 : Fld Z h8 lt3 "java/lang/String" "value" "[B" (.ref lb3) := (f6_5.other W8 (Or.inl (Ne.symm ne_a1_lt3)))
  have f8_6 : Arv Z h8 lb3 kb3 .byte (0 : Int32) [] (.int (0 : Int32)) := (f6_6.other W8 (Ne.symm ne_a1_lb3))
  have f8_7 : Exa Z h8 lt6 "java/lang/String" := (f6_7.wr W8)
  have f8_8 : Fld Z h8 lt6 "java/lang/String" "coder" "B" (.int (0 : Int32)) := (f6_8.other W8 (Or.inl (Ne.symm ne_a1_lt6)))
  have f8_9 : Fld Z h8 lt6 "java/lang/String" "value" "[B" (.ref lb6) := (f6_9.other W8 (Or.inl (Ne.symm ne_a1_lt6)))
  have f8_10 : Arv Z h8 lb6 kb6 .byte (0 : Int32) [] (.int (0 : Int32)) := (f6_10.other W8 (Ne.symm ne_a1_lb6))
  have sfw8 : Safe Z own_EL T6.vm _ a1 := sf6_a1
  have sf8_a1 : Safe Z own_EL T6.vm h8 a1 := Safe.wr W8 sfw8 CC6.1 sf6_a1
  have hk8 : _ ≤ h8.size := Nat.le_trans hk6 (Keep.of_wr W8).1
  have C8 : CHr Z own_EL s.vm h0 T6.vm h8 := CC6.trans (CHr.wr W8 sfw8 CC6.1)
  have Zs8 : n0 ≤ h8.size := (Nat.le_trans Zs6 (Keep.of_wr W8).1)
  have K8 : Keep h0 h8 [a1] := K6.wr W8 (Or.inl (List.mem_of_getElem? (i := 0) rfl))
  show GoH _ _ _ _ _ _ _ _ _ _ T8 (mkF m 26 #[.val (.ref a1), .val (.ref a2), .val (.int (0 : Int32)), .val (.int (0 : Int32)), .val .null, .unset] [])
  have hkr : kk6 ≤ T8.heap.size := by rw [e8]; exact hk8
  have hCr : CHr Z own_EL s.vm h0 T6.vm T8.heap := by rw [e8]; exact C8
  refine GoH.retV X8 hx hlk hS6 hkr hZ6 hEL hCr hret (hb hby d4_26) ?_ (by decide) (by decide)
  show QSI Z _ _ _ _ _ T8.heap _
  rw [e8]
  exact ⟨rfl, N8, K8, f8_0, f8_2, lb3, kb3, ne_a1_lb3, f8_1, f8_6⟩
theorem ef_rmSO (m : MethodId) (a1 : Addr) (a2 : Addr) : entryFrame m #[(.ref a1), (.ref a2)] 2 = mkF m 0 #[.val (.ref a1), .val (.ref a2)] [] := by first | (simp [entryFrame, mkF, argsToLocals, Value.category]; done) | rfl
def QSO (Z : State) (a1 : Addr) (a2 : Addr) (kc : ClassId) (h0 : Heap) (n0 : Nat) (v : Option Value) (h : Heap) (L : List Loc) : Prop := v = none ∧ Fr n0 L ∧ Keep h0 h [a1] ∧ Exa Z h a1 "java/lang/String" ∧ Fld Z h a1 "java/lang/String" "coder" "B" (.int (0 : Int32)) ∧ ∃ (t : Addr) (kb : ClassId), a1 ≠ t ∧ Fld Z h a1 "java/lang/String" "value" "[B" (.ref t) ∧ Arv Z h t kb .byte (0 : Int32) [] (.int (0 : Int32))
theorem d3_0 : decode jdk_42_method_3_code 0 = .ok (.aload_n 0, 1) := by decide +kernel
theorem d3_1 : decode jdk_42_method_3_code 1 = .ok (.aload_n 1, 1) := by decide +kernel
theorem d3_2 : decode jdk_42_method_3_code 2 = .ok (.iconst 0, 1) := by decide +kernel
theorem d3_3 : decode jdk_42_method_3_code 3 = .ok (.aload_n 1, 1) := by decide +kernel
theorem d3_4 : decode jdk_42_method_3_code 4 = .ok (.arraylength, 1) := by decide +kernel
theorem d3_5 : decode jdk_42_method_3_code 5 = .ok (.aconst_null, 1) := by decide +kernel
theorem pd_0 : parseMethodDescriptor "([CIILjava/lang/Void;)V" = some ⟨[(.array .char), .int, .int, (.object "java/lang/Void")], none⟩ := by decide +kernel
theorem d3_6 : decode jdk_42_method_3_code 6 = .ok (.invokespecial 27, 3) := by decide +kernel
theorem d3_9 : decode jdk_42_method_3_code 9 = .ok (.return_, 1) := by decide +kernel
set_option maxRecDepth 65536 in
set_option maxHeartbeats 40000000 in
theorem rmSO (l : Launch) (Z : State) (a0 : Array Value) (hw : ∀ d ∈ tables_1, d.before a0 Z = true) (ws : List Jvm.Cond) (a1 : Addr) (a2 : Addr) (kc : ClassId) (h0 : Heap) (n0 : Nat) (Z0 : n0 ≤ h0.size) (g1 : n0 ≤ a1) (PE1 : Exa Z h0 a1 "java/lang/String") (PF1 : Fld Z h0 a1 "java/lang/String" "value" "[B" .null) (PF2 : Fld Z h0 a1 "java/lang/String" "coder" "B" (.int (0 : Int32))) (A2 : Arv Z h0 a2 kc .char (0 : Int32) [] (.int (0 : Int32))) :
    MetFree l (⟨"java/lang/String", "<init>", "([C)V"⟩ : MethodName) (head1 (Jvm.Cond.code (⟨"java/lang/String", "<init>", "([C)V"⟩ : MethodName) jdk_42_method_3_code 2 none :: ws) ({ frames := 2, cells := 4, slots := 8, locals := 29 } : Room)) (fun a U => a = #[(.ref a1), (.ref a2)] ∧ Z.Warmed39 U.vm ∧ U.heap = h0 ∧ CHv Z own_EL U.vm h0) (fun _ _ _ _ _ => True) (fun _ U o U' => ∃ v L, o = .returned v ∧ QSO Z a1 a2 kc h0 n0 v U'.heap L ∧ CHr Z own_EL U.vm U.heap U'.vm U'.heap ∧ ReturnedEndW U o U' L ({ frames := 2, cells := 4, slots := 8, locals := 29 } : Room).cells ({ frames := 2, cells := 4, slots := 8, locals := 29 } : Room).slots) := by
  refine MetFree.of_bodySF (plainFor_of_name pn_0) hisR ?_
  intro p e s m args below meth c s₁ Bd hml0 hP hK
  obtain ⟨rfl, hZ0, hh, hCH⟩ := hP
  have hx := Bd.exec
  have hby := Bd.bytes
  have hlk := BodyLoose.notSynchronized Bd
  have hml : c.maxLocals = 2 := hml0
  have hret := Bd.returns
  have hown0 : (s.setVm s.vm).vm.findClass "java/lang/String" = some m.cls := findClass_of_methodNamed Bd.named
  have hnm := (name_of_methodNamed Bd.named Bd.method).1
  have X0 : Stand p l e ({ frames := 2, cells := 4, slots := 8, locals := 29 } : Room) (s.setVm s.vm) m #[(.ref a1), (.ref a2)] below meth c s₁ [] 0 0 := Stand.of_body Bd
  have hZ0 : Z.Warmed39 (s.setVm s.vm).vm := hZ0
  have hEL : EW Z a0 own_EL := own_EW hw
  have hS0 : s.Since s.vm h0.size := (State.WarmedH.refl s).since _
  have hk0 : h0.size ≤ h0.size := Nat.le_refl _
  have C0 : CHr Z own_EL s.vm h0 s.vm h0 := CHr.refl hCH
  have e0 : s₁.heap = h0 := by rw [← hh, Bd.state]; rfl
  have N0 := Fr.nil n0
  show GoH p e below s ({ frames := 2, cells := 4, slots := 8, locals := 29 } : Room).cells ({ frames := 2, cells := 4, slots := 8, locals := 29 } : Room).slots Z own_EL s.heap (QSO Z a1 a2 kc h0 n0) s₁ (entryFrame m #[(.ref a1), (.ref a2)] 2)
  rw [hh]
  refine GoH.cast (ef_rmSO m a1 a2) ?_
  have sf0_a1 : Safe Z own_EL s.vm h0 a1 := own_safe_null hZ0.alike PE1 PF1
  have K0 : Keep h0 h0 [a1] := Keep.refl _ _
  show GoH _ _ _ _ _ _ _ _ _ _ s₁ (mkF m 0 #[.val (.ref a1), .val (.ref a2)] [])
  refine GoH.step (fun t_ k_ => XS.aloadN X0.here hx rfl (hb hby d3_0) rfl rfl k_) ?_
  show GoH _ _ _ _ _ _ _ _ _ _ s₁ (mkF m 1 #[.val (.ref a1), .val (.ref a2)] [(.ref a1)])
  refine GoH.step (fun t_ k_ => XS.aloadN X0.here hx rfl (hb hby d3_1) rfl rfl k_) ?_
  show GoH _ _ _ _ _ _ _ _ _ _ s₁ (mkF m 2 #[.val (.ref a1), .val (.ref a2)] [(.ref a2), (.ref a1)])
  refine GoH.step (fun t_ k_ => XS.iconst X0.here hx rfl (hb hby d3_2) k_) ?_
  show GoH _ _ _ _ _ _ _ _ _ _ s₁ (mkF m 3 #[.val (.ref a1), .val (.ref a2)] [(.int (0 : Int32)), (.ref a2), (.ref a1)])
  refine GoH.step (fun t_ k_ => XS.aloadN X0.here hx rfl (hb hby d3_3) rfl rfl k_) ?_
  show GoH _ _ _ _ _ _ _ _ _ _ s₁ (mkF m 4 #[.val (.ref a1), .val (.ref a2)] [(.ref a2), (.int (0 : Int32)), (.ref a2), (.ref a1)])
  obtain ⟨c1, Ar1, q1, S1, M1, H1, U1⟩ := id A2
  refine GoH.step (fun t_ k_ => X0.arraylength hx (by rw [e0]; exact Ar1.1) (State.isArrayOf_alike hZ0.alike Ar1.2.1) (g := (mkF m 4 #[.val (.ref a1), .val (.ref a2)] [(.ref a2), (.int (0 : Int32)), (.ref a2), (.ref a1)])) rfl rfl (hb hby d3_4) _ k_) ?_
  rw [len_of S1 M1]
  show GoH _ _ _ _ _ _ _ _ _ _ s₁ (mkF m 5 #[.val (.ref a1), .val (.ref a2)] [(.int (0 : Int32)), (.int (0 : Int32)), (.ref a2), (.ref a1)])
  refine GoH.step (fun t_ k_ => XS.aconstNull X0.here hx rfl (hb hby d3_5) k_) ?_
  show GoH _ _ _ _ _ _ _ _ _ _ s₁ (mkF m 6 #[.val (.ref a1), .val (.ref a2)] [.null, (.int (0 : Int32)), (.int (0 : Int32)), (.ref a2), (.ref a1)])
  obtain ⟨_, _, ⟨T2, L2, k2, n2⟩, -, X2, hSq2, hgr2, ⟨Lc2, hQ2, l2, y2, z2, CHq2⟩, st2⟩ := X0.specialBackS hx (y := (⟨"java/lang/String", "<init>", "([CIILjava/lang/Void;)V"⟩ : MethodName)) rfl hown0 (mvT hZ0 (hw _ (List.mem_of_getElem? (i := 15) rfl))) (mvT hZ0 (hw _ (List.mem_of_getElem? (i := 16) rfl))) (mvT hZ0 (hw _ (List.mem_of_getElem? (i := 18) rfl))) (by decide) (backOfSH (W := 0) (rmSI l Z a0 hw [] a1 a2 h0 n0 Z0 g1 PE1 PF1 PF2) hZ0 (hw _ (List.mem_of_getElem? (i := 18) rfl)) (hw _ (List.mem_of_getElem? (i := 10) rfl)) (by decide) (by decide) hEL C0.1) (g := (mkF m 6 #[.val (.ref a1), .val (.ref a2)] [.null, (.int (0 : Int32)), (.int (0 : Int32)), (.ref a2), (.ref a1)])) rfl (by rw [hml]; rfl) (Steps.refl _) (a := a1) (argsL := [(.ref a2), (.int (0 : Int32)), (.int (0 : Int32)), .null]) (rest := []) (lenOf pd_0 rfl) rfl (by show 2 * 0 + _ ≤ _; exact Nat.le_of_eq rfl) (hb hby d3_6) (fun _ _ => ⟨rfl, e0, (by decide : 0 + 4 ≤ _), (by decide : 0 + 8 ≤ _)⟩)
  dsimp only [Pt.U, Pt.locs, Pt.cells, Pt.slots] at X2 hSq2 hgr2 l2 y2 z2 st2 hQ2 CHq2
  subst l2 y2 z2
  have X2 : Stand p l e _ (s.setVm T2.vm) _ _ _ _ _ T2 _ _ _ := X2
  have hS2 : s.Since T2.vm T2.heap.size := State.Since.trans hS0 hSq2 (Nat.le_trans hk0 (by first | exact hgr2 | (rw [← e0]; exact hgr2)))
  have hZ2 : Z.Warmed39 (s.setVm T2.vm).vm := State.Warmed39.trans (t := s.setVm s.vm) hZ0 hSq2.1
  have hown2 : (s.setVm T2.vm).vm.findClass "java/lang/String" = some m.cls := by rw [show (s.setVm T2.vm).vm = T2.vm from rfl, hSq2.1.alike.findClass]; exact hown0
  have hk2 : T2.heap.size ≤ T2.heap.size := Nat.le_refl _
  obtain ⟨rfl, N2q, Kq2, Eq2, Cq2, tb2, kb2, nt2, Vq2, Aq2⟩ := hQ2
  have N2 := Fr.app N0 N2q
  have f2_0 : Exa Z T2.heap a1 "java/lang/String" := Eq2
  have f2_1 : Fld Z T2.heap a1 "java/lang/String" "coder" "B" (.int (0 : Int32)) := Cq2
  have f2_2 : Fld Z T2.heap a1 "java/lang/String" "value" "[B" (.ref tb2) := Vq2
  have f2_3 : Arv Z T2.heap tb2 kb2 .byte (0 : Int32) [] (.int (0 : Int32)) := Aq2
  have Zs2 : n0 ≤ T2.heap.size := (Nat.le_trans Z0 Kq2.1)
  have K2 : Keep h0 T2.heap [a1] := K0.trans Kq2 (allS (Or.inl (List.mem_of_getElem? (i := 0) rfl)) all0)
  have sf2_a1 : Safe Z own_EL T2.vm T2.heap a1 := CHr.safe CHq2 PE1.lt sf0_a1
  have CC2 : CHr Z own_EL s.vm h0 T2.vm T2.heap := C0.trans CHq2
  refine GoH.step (fun t_ k_ => st2.trans k_) ?_
  show GoH _ _ _ _ _ _ _ _ _ _ T2 (mkF m 9 #[.val (.ref a1), .val (.ref a2)] [])
  have hkr := hk2
  have hCr := CC2
  refine GoH.retV X2 hx hlk hS2 hkr hZ2 hEL hCr hret (hb hby d3_9) ?_ (by decide) (by decide)
  show QSO Z _ _ _ _ _ _ T2.heap _
  exact ⟨rfl, N2, K2, f2_0, f2_1, tb2, kb2, nt2, f2_2, f2_3⟩
theorem pn_1 : plainName "com/example/affordance/affordance/PathSegmentsIsLiteralPinLaw" = true := by first | (simp [plainName, overriddenIn]; done) | decide +kernel
theorem ef_rmPk (m : MethodId) (p1 : Int32) : entryFrame m #[(.int p1)] 2 = mkF m 0 #[.val (.int p1), .unset] [] := by first | (simp [entryFrame, mkF, argsToLocals, Value.category]; done) | rfl
def QPk (Z : State) (p1 : Int32) (h0 : Heap) (n0 : Nat) (v : Option Value) (h : Heap) (L : List Loc) : Prop := ∃ r : Int32, v = some (.int r) ∧ ((¬ r < 0 ∧ ¬ (255 : Int32) < r) ∧ nar .char r = r) ∧ Fr n0 L ∧ h = h0
theorem d1_0 : decode method_3_code 0 = .ok (.iload_n 0, 1) := by decide +kernel
theorem d1_1 : decode method_3_code 1 = .ok (.iconst 3, 1) := by decide +kernel
theorem d1_2 : decode method_3_code 2 = .ok (.iand, 1) := by decide +kernel
theorem d1_3 : decode method_3_code 3 = .ok (.istore_n 1, 1) := by decide +kernel
theorem d1_4 : decode method_3_code 4 = .ok (.iload_n 1, 1) := by decide +kernel
theorem d1_5 : decode method_3_code 5 = .ok (.ifCond .ne 6, 3) := by decide +kernel
theorem d1_8 : decode method_3_code 8 = .ok (.bipush 47, 2) := by decide +kernel
theorem d1_10 : decode method_3_code 10 = .ok (.ireturn, 1) := by decide +kernel
theorem d1_11 : decode method_3_code 11 = .ok (.iload_n 1, 1) := by decide +kernel
theorem d1_12 : decode method_3_code 12 = .ok (.iconst 1, 1) := by decide +kernel
theorem d1_13 : decode method_3_code 13 = .ok (.if_icmp .ne 6, 3) := by decide +kernel
theorem d1_16 : decode method_3_code 16 = .ok (.bipush 123, 2) := by decide +kernel
theorem d1_18 : decode method_3_code 18 = .ok (.ireturn, 1) := by decide +kernel
theorem d1_19 : decode method_3_code 19 = .ok (.iload_n 0, 1) := by decide +kernel
theorem d1_20 : decode method_3_code 20 = .ok (.iconst 2, 1) := by decide +kernel
theorem d1_21 : decode method_3_code 21 = .ok (.iushr, 1) := by decide +kernel
theorem d1_22 : decode method_3_code 22 = .ok (.sipush 255, 3) := by decide +kernel
theorem d1_25 : decode method_3_code 25 = .ok (.iand, 1) := by decide +kernel
theorem d1_26 : decode method_3_code 26 = .ok (.i2c, 1) := by decide +kernel
theorem d1_27 : decode method_3_code 27 = .ok (.ireturn, 1) := by decide +kernel
set_option maxRecDepth 65536 in
set_option maxHeartbeats 40000000 in
theorem rmPk (l : Launch) (Z : State) (a0 : Array Value) (hw : ∀ d ∈ tables_1, d.before a0 Z = true) (ws : List Jvm.Cond) (p1 : Int32) (h0 : Heap) (n0 : Nat) (Z0 : n0 ≤ h0.size) :
    MetFree l (⟨"com/example/affordance/affordance/PathSegmentsIsLiteralPinLaw", "pick", "(I)C"⟩ : MethodName) (head1 (Jvm.Cond.code (⟨"com/example/affordance/affordance/PathSegmentsIsLiteralPinLaw", "pick", "(I)C"⟩ : MethodName) method_3_code 2 (some .char) :: ws) ({ frames := 0, cells := 0, slots := 0, locals := 0 } : Room)) (fun a U => a = #[(.int p1)] ∧ Z.Warmed39 U.vm ∧ U.heap = h0) (fun _ _ _ _ _ => True) (fun _ U o U' => ∃ v L, o = .returned v ∧ QPk Z p1  h0 n0 v U'.heap L ∧ FrameEnd U o U' L ({ frames := 0, cells := 0, slots := 0, locals := 0 } : Room).cells ({ frames := 0, cells := 0, slots := 0, locals := 0 } : Room).slots) := by
  refine MetFree.of_bodySF (plainFor_of_name pn_1) hisR ?_
  intro p e s m args below meth c s₁ Bd hml0 hP hK
  obtain ⟨rfl, hZ, hh⟩ := hP
  have hx := Bd.exec
  have hby := Bd.bytes
  have hlk := BodyLoose.notSynchronized Bd
  have hml : c.maxLocals = 2 := hml0
  have hret := Bd.returns
  have hown : s.vm.findClass "com/example/affordance/affordance/PathSegmentsIsLiteralPinLaw" = some m.cls := findClass_of_methodNamed Bd.named
  have hnm := (name_of_methodNamed Bd.named Bd.method).1
  have X0 : Stand p l e ({ frames := 0, cells := 0, slots := 0, locals := 0 } : Room) s m #[(.int p1)] below meth c s₁ [] 0 0 := Stand.of_body Bd
  have e0 : s₁.heap = h0 := by rw [← hh, Bd.state]; rfl
  have N0 := Fr.nil n0
  show Go p e below s ({ frames := 0, cells := 0, slots := 0, locals := 0 } : Room).cells ({ frames := 0, cells := 0, slots := 0, locals := 0 } : Room).slots (QPk Z p1  h0 n0) s₁ (entryFrame m #[(.int p1)] 2)
  refine Go.cast (ef_rmPk m p1) ?_
  show Go _ _ _ _ _ _ _ s₁ (mkF m 0 #[.val (.int p1), .unset] [])
  refine Go.step (fun t_ k_ => XS.iloadN X0.here hx rfl (hb hby d1_0) rfl k_) ?_
  show Go _ _ _ _ _ _ _ s₁ (mkF m 1 #[.val (.int p1), .unset] [(.int p1)])
  refine Go.step (fun t_ k_ => XS.iconst X0.here hx rfl (hb hby d1_1) k_) ?_
  show Go _ _ _ _ _ _ _ s₁ (mkF m 2 #[.val (.int p1), .unset] [(.int (3 : Int32)), (.int p1)])
  refine Go.step (fun t_ k_ => XS.iand X0.here hx rfl (hb hby d1_2) rfl k_) ?_
  show Go _ _ _ _ _ _ _ s₁ (mkF m 3 #[.val (.int p1), .unset] [(.int (p1 &&& (3 : Int32)))])
  refine Go.step (fun t_ k_ => XS.istoreN X0.here hx rfl (hb hby d1_3) rfl (l' := #[.val (.int p1), .val (.int (p1 &&& (3 : Int32)))]) rfl k_) ?_
  show Go _ _ _ _ _ _ _ s₁ (mkF m 4 #[.val (.int p1), .val (.int (p1 &&& (3 : Int32)))] [])
  refine Go.step (fun t_ k_ => XS.iloadN X0.here hx rfl (hb hby d1_4) rfl k_) ?_
  show Go _ _ _ _ _ _ _ s₁ (mkF m 5 #[.val (.int p1), .val (.int (p1 &&& (3 : Int32)))] [(.int (p1 &&& (3 : Int32)))])
  by_cases hb5_1 : (p1 &&& (3 : Int32)) = (0 : Int32)
  · refine Go.step (fun t_ k_ => XS.ifNo X0.here hx rfl (hb hby d1_5) rfl (XT.i0_ne_f hb5_1) k_) ?_
    show Go _ _ _ _ _ _ _ s₁ (mkF m 8 #[.val (.int p1), .val (.int (p1 &&& (3 : Int32)))] [])
    refine Go.step (fun t_ k_ => XS.bipush X0.here hx rfl (hb hby d1_8) k_) ?_
    show Go _ _ _ _ _ _ _ s₁ (mkF m 10 #[.val (.int p1), .val (.int (p1 &&& (3 : Int32)))] [(.int (47 : Int32))])
    refine Go.ret X0 hx hlk hret rfl (Or.inl ⟨rfl, Or.inr (Or.inr (Or.inr (Or.inl rfl))), _, rfl⟩) (hb hby d1_10) ?_ (by decide) (by decide)
    show QPk Z _ _ _ _ s₁.heap _
    exact ⟨_, rfl, ⟨(by decide), rfl⟩, N0, e0⟩
  · refine Go.step (fun t_ k_ => XS.ifYes X0.here hx rfl (pc0 := 5) (pc' := 11) rfl (hb hby d1_5) rfl (XT.i0_ne_t hb5_1) (by decide) (by decide) k_) ?_
    show Go _ _ _ _ _ _ _ s₁ (mkF m 11 #[.val (.int p1), .val (.int (p1 &&& (3 : Int32)))] [])
    refine Go.step (fun t_ k_ => XS.iloadN X0.here hx rfl (hb hby d1_11) rfl k_) ?_
    show Go _ _ _ _ _ _ _ s₁ (mkF m 12 #[.val (.int p1), .val (.int (p1 &&& (3 : Int32)))] [(.int (p1 &&& (3 : Int32)))])
    refine Go.step (fun t_ k_ => XS.iconst X0.here hx rfl (hb hby d1_12) k_) ?_
    show Go _ _ _ _ _ _ _ s₁ (mkF m 13 #[.val (.int p1), .val (.int (p1 &&& (3 : Int32)))] [(.int (1 : Int32)), (.int (p1 &&& (3 : Int32)))])
    by_cases hb13_2 : (p1 &&& (3 : Int32)) = (1 : Int32)
    · refine Go.step (fun t_ k_ => XS.icmpNo X0.here hx rfl (hb hby d1_13) rfl (XT.ii_ne_f hb13_2) k_) ?_
      show Go _ _ _ _ _ _ _ s₁ (mkF m 16 #[.val (.int p1), .val (.int (p1 &&& (3 : Int32)))] [])
      refine Go.step (fun t_ k_ => XS.bipush X0.here hx rfl (hb hby d1_16) k_) ?_
      show Go _ _ _ _ _ _ _ s₁ (mkF m 18 #[.val (.int p1), .val (.int (p1 &&& (3 : Int32)))] [(.int (123 : Int32))])
      refine Go.ret X0 hx hlk hret rfl (Or.inl ⟨rfl, Or.inr (Or.inr (Or.inr (Or.inl rfl))), _, rfl⟩) (hb hby d1_18) ?_ (by decide) (by decide)
      show QPk Z _ _ _ _ s₁.heap _
      exact ⟨_, rfl, ⟨(by decide), rfl⟩, N0, e0⟩
    · refine Go.step (fun t_ k_ => XS.icmpYes X0.here hx rfl (pc0 := 13) (pc' := 19) rfl (hb hby d1_13) rfl (XT.ii_ne_t hb13_2) (by decide) (by decide) k_) ?_
      show Go _ _ _ _ _ _ _ s₁ (mkF m 19 #[.val (.int p1), .val (.int (p1 &&& (3 : Int32)))] [])
      refine Go.step (fun t_ k_ => XS.iloadN X0.here hx rfl (hb hby d1_19) rfl k_) ?_
      show Go _ _ _ _ _ _ _ s₁ (mkF m 20 #[.val (.int p1), .val (.int (p1 &&& (3 : Int32)))] [(.int p1)])
      refine Go.step (fun t_ k_ => XS.iconst X0.here hx rfl (hb hby d1_20) k_) ?_
      show Go _ _ _ _ _ _ _ s₁ (mkF m 21 #[.val (.int p1), .val (.int (p1 &&& (3 : Int32)))] [(.int (2 : Int32)), (.int p1)])
      refine Go.step (fun t_ k_ => XT.iushr X0.here hx rfl (hb hby d1_21) rfl k_) ?_
      show Go _ _ _ _ _ _ _ s₁ (mkF m 22 #[.val (.int p1), .val (.int (p1 &&& (3 : Int32)))] [(.int (XT.ushr p1 (2 : Int32)))])
      refine Go.step (fun t_ k_ => XS.sipush X0.here hx rfl (hb hby d1_22) k_) ?_
      show Go _ _ _ _ _ _ _ s₁ (mkF m 25 #[.val (.int p1), .val (.int (p1 &&& (3 : Int32)))] [(.int (255 : Int32)), (.int (XT.ushr p1 (2 : Int32)))])
      refine Go.step (fun t_ k_ => XS.iand X0.here hx rfl (hb hby d1_25) rfl k_) ?_
      show Go _ _ _ _ _ _ _ s₁ (mkF m 26 #[.val (.int p1), .val (.int (p1 &&& (3 : Int32)))] [(.int ((XT.ushr p1 (2 : Int32)) &&& (255 : Int32)))])
      refine Go.step (fun t_ k_ => XT.i2c X0.here hx rfl (hb hby d1_26) rfl k_) ?_
      show Go _ _ _ _ _ _ _ s₁ (mkF m 27 #[.val (.int p1), .val (.int (p1 &&& (3 : Int32)))] [(.int (((XT.ushr p1 (2 : Int32)) &&& (255 : Int32)).toUInt32.toUInt16.toUInt32.toInt32))])
      refine Go.ret X0 hx hlk hret (XT.narrow_c _) (Or.inl ⟨rfl, Or.inr (Or.inr (Or.inr (Or.inl rfl))), _, rfl⟩) (hb hby d1_27) ?_ (by decide) (by decide)
      show QPk Z _ _ _ _ s₁.heap _
      exact ⟨_, rfl, own_c255 _, N0, e0⟩
theorem ef_rmMk (m : MethodId) (p1 : Int32) (p2 : Int32) (p3 : Int32) (p4 : Int32) (p5 : Int32) : entryFrame m #[(.int p1), (.int p2), (.int p3), (.int p4), (.int p5)] 6 = mkF m 0 #[.val (.int p1), .val (.int p2), .val (.int p3), .val (.int p4), .val (.int p5), .unset] [] := by first | (simp [entryFrame, mkF, argsToLocals, Value.category]; done) | rfl
def QMk (Z : State) (p1 : Int32) (p2 : Int32) (p3 : Int32) (p4 : Int32) (p5 : Int32) (G1 : Int32) (h0 : Heap) (n0 : Nat) (v : Option Value) (h : Heap) (L : List Loc) : Prop := ∃ (a t : Addr) (kb : ClassId) (cs : List Int32), v = some (.ref a) ∧ (∀ c ∈ cs, ¬ c < 0 ∧ ¬ (255 : Int32) < c) ∧ cs.length ≤ 4 ∧ Fr n0 L ∧ Keep h0 h [] ∧ h0.size ≤ a ∧ Exa Z h a "java/lang/String" ∧ Fld Z h a "java/lang/String" "coder" "B" (.int (0 : Int32)) ∧ Fld Z h a "java/lang/String" "value" "[B" (.ref t) ∧ Arv Z h t kb .byte (Int32.ofNat cs.length) ((cs.map (fun c => c.toInt8.toInt32)).map Value.int) (.int (0 : Int32))
theorem d2_0 : decode method_5_code 0 = .ok (.iload_n 0, 1) := by decide +kernel
theorem d2_1 : decode method_5_code 1 = .ok (.ifCond .ne 14, 3) := by decide +kernel
theorem d2_4 : decode method_5_code 4 = .ok (.new 42, 3) := by decide +kernel
theorem d2_7 : decode method_5_code 7 = .ok (.dup, 1) := by decide +kernel
theorem d2_8 : decode method_5_code 8 = .ok (.iconst 0, 1) := by decide +kernel
theorem d2_9 : decode method_5_code 9 = .ok (.newarray .char, 2) := by decide +kernel
theorem pd_1 : parseMethodDescriptor "([C)V" = some ⟨[(.array .char)], none⟩ := by decide +kernel
theorem d2_11 : decode method_5_code 11 = .ok (.invokespecial 49, 3) := by decide +kernel
theorem d2_14 : decode method_5_code 14 = .ok (.areturn, 1) := by decide +kernel
theorem d2_15 : decode method_5_code 15 = .ok (.iload_n 0, 1) := by decide +kernel
theorem d2_16 : decode method_5_code 16 = .ok (.iconst 1, 1) := by decide +kernel
theorem d2_17 : decode method_5_code 17 = .ok (.if_icmp .ne 23, 3) := by decide +kernel
theorem d2_20 : decode method_5_code 20 = .ok (.iconst 1, 1) := by decide +kernel
theorem d2_21 : decode method_5_code 21 = .ok (.newarray .char, 2) := by decide +kernel
theorem d2_23 : decode method_5_code 23 = .ok (.astore 5, 2) := by decide +kernel
theorem d2_25 : decode method_5_code 25 = .ok (.aload 5, 2) := by decide +kernel
theorem d2_27 : decode method_5_code 27 = .ok (.iconst 0, 1) := by decide +kernel
theorem d2_28 : decode method_5_code 28 = .ok (.iload_n 1, 1) := by decide +kernel
theorem d2_29 : decode method_5_code 29 = .ok (.castore, 1) := by decide +kernel
theorem d2_30 : decode method_5_code 30 = .ok (.new 42, 3) := by decide +kernel
theorem d2_33 : decode method_5_code 33 = .ok (.dup, 1) := by decide +kernel
theorem d2_34 : decode method_5_code 34 = .ok (.aload 5, 2) := by decide +kernel
theorem d2_36 : decode method_5_code 36 = .ok (.invokespecial 49, 3) := by decide +kernel
theorem d2_39 : decode method_5_code 39 = .ok (.areturn, 1) := by decide +kernel
theorem d2_40 : decode method_5_code 40 = .ok (.iload_n 0, 1) := by decide +kernel
theorem d2_41 : decode method_5_code 41 = .ok (.iconst 2, 1) := by decide +kernel
theorem d2_42 : decode method_5_code 42 = .ok (.if_icmp .ne 28, 3) := by decide +kernel
theorem d2_45 : decode method_5_code 45 = .ok (.iconst 2, 1) := by decide +kernel
theorem d2_46 : decode method_5_code 46 = .ok (.newarray .char, 2) := by decide +kernel
theorem d2_48 : decode method_5_code 48 = .ok (.astore 5, 2) := by decide +kernel
theorem d2_50 : decode method_5_code 50 = .ok (.aload 5, 2) := by decide +kernel
theorem d2_52 : decode method_5_code 52 = .ok (.iconst 0, 1) := by decide +kernel
theorem d2_53 : decode method_5_code 53 = .ok (.iload_n 1, 1) := by decide +kernel
theorem d2_54 : decode method_5_code 54 = .ok (.castore, 1) := by decide +kernel
theorem d2_55 : decode method_5_code 55 = .ok (.aload 5, 2) := by decide +kernel
theorem d2_57 : decode method_5_code 57 = .ok (.iconst 1, 1) := by decide +kernel
theorem d2_58 : decode method_5_code 58 = .ok (.iload_n 2, 1) := by decide +kernel
theorem d2_59 : decode method_5_code 59 = .ok (.castore, 1) := by decide +kernel
theorem d2_60 : decode method_5_code 60 = .ok (.new 42, 3) := by decide +kernel
theorem d2_63 : decode method_5_code 63 = .ok (.dup, 1) := by decide +kernel
theorem d2_64 : decode method_5_code 64 = .ok (.aload 5, 2) := by decide +kernel
theorem d2_66 : decode method_5_code 66 = .ok (.invokespecial 49, 3) := by decide +kernel
theorem d2_69 : decode method_5_code 69 = .ok (.areturn, 1) := by decide +kernel
theorem d2_70 : decode method_5_code 70 = .ok (.iload_n 0, 1) := by decide +kernel
theorem d2_71 : decode method_5_code 71 = .ok (.iconst 3, 1) := by decide +kernel
theorem d2_72 : decode method_5_code 72 = .ok (.if_icmp .ne 33, 3) := by decide +kernel
theorem d2_75 : decode method_5_code 75 = .ok (.iconst 3, 1) := by decide +kernel
theorem d2_76 : decode method_5_code 76 = .ok (.newarray .char, 2) := by decide +kernel
theorem d2_78 : decode method_5_code 78 = .ok (.astore 5, 2) := by decide +kernel
theorem d2_80 : decode method_5_code 80 = .ok (.aload 5, 2) := by decide +kernel
theorem d2_82 : decode method_5_code 82 = .ok (.iconst 0, 1) := by decide +kernel
theorem d2_83 : decode method_5_code 83 = .ok (.iload_n 1, 1) := by decide +kernel
theorem d2_84 : decode method_5_code 84 = .ok (.castore, 1) := by decide +kernel
theorem d2_85 : decode method_5_code 85 = .ok (.aload 5, 2) := by decide +kernel
theorem d2_87 : decode method_5_code 87 = .ok (.iconst 1, 1) := by decide +kernel
theorem d2_88 : decode method_5_code 88 = .ok (.iload_n 2, 1) := by decide +kernel
theorem d2_89 : decode method_5_code 89 = .ok (.castore, 1) := by decide +kernel
theorem d2_90 : decode method_5_code 90 = .ok (.aload 5, 2) := by decide +kernel
theorem d2_92 : decode method_5_code 92 = .ok (.iconst 2, 1) := by decide +kernel
theorem d2_93 : decode method_5_code 93 = .ok (.iload_n 3, 1) := by decide +kernel
theorem d2_94 : decode method_5_code 94 = .ok (.castore, 1) := by decide +kernel
theorem d2_95 : decode method_5_code 95 = .ok (.new 42, 3) := by decide +kernel
theorem d2_98 : decode method_5_code 98 = .ok (.dup, 1) := by decide +kernel
theorem d2_99 : decode method_5_code 99 = .ok (.aload 5, 2) := by decide +kernel
theorem d2_101 : decode method_5_code 101 = .ok (.invokespecial 49, 3) := by decide +kernel
theorem d2_104 : decode method_5_code 104 = .ok (.areturn, 1) := by decide +kernel
theorem d2_105 : decode method_5_code 105 = .ok (.iconst 4, 1) := by decide +kernel
theorem d2_106 : decode method_5_code 106 = .ok (.newarray .char, 2) := by decide +kernel
theorem d2_108 : decode method_5_code 108 = .ok (.astore 5, 2) := by decide +kernel
theorem d2_110 : decode method_5_code 110 = .ok (.aload 5, 2) := by decide +kernel
theorem d2_112 : decode method_5_code 112 = .ok (.iconst 0, 1) := by decide +kernel
theorem d2_113 : decode method_5_code 113 = .ok (.iload_n 1, 1) := by decide +kernel
theorem d2_114 : decode method_5_code 114 = .ok (.castore, 1) := by decide +kernel
theorem d2_115 : decode method_5_code 115 = .ok (.aload 5, 2) := by decide +kernel
theorem d2_117 : decode method_5_code 117 = .ok (.iconst 1, 1) := by decide +kernel
theorem d2_118 : decode method_5_code 118 = .ok (.iload_n 2, 1) := by decide +kernel
theorem d2_119 : decode method_5_code 119 = .ok (.castore, 1) := by decide +kernel
theorem d2_120 : decode method_5_code 120 = .ok (.aload 5, 2) := by decide +kernel
theorem d2_122 : decode method_5_code 122 = .ok (.iconst 2, 1) := by decide +kernel
theorem d2_123 : decode method_5_code 123 = .ok (.iload_n 3, 1) := by decide +kernel
theorem d2_124 : decode method_5_code 124 = .ok (.castore, 1) := by decide +kernel
theorem d2_125 : decode method_5_code 125 = .ok (.aload 5, 2) := by decide +kernel
theorem d2_127 : decode method_5_code 127 = .ok (.iconst 3, 1) := by decide +kernel
theorem d2_128 : decode method_5_code 128 = .ok (.iload 4, 2) := by decide +kernel
theorem d2_130 : decode method_5_code 130 = .ok (.castore, 1) := by decide +kernel
theorem d2_131 : decode method_5_code 131 = .ok (.new 42, 3) := by decide +kernel
theorem d2_134 : decode method_5_code 134 = .ok (.dup, 1) := by decide +kernel
theorem d2_135 : decode method_5_code 135 = .ok (.aload 5, 2) := by decide +kernel
theorem d2_137 : decode method_5_code 137 = .ok (.invokespecial 49, 3) := by decide +kernel
theorem d2_140 : decode method_5_code 140 = .ok (.areturn, 1) := by decide +kernel
set_option maxRecDepth 65536 in
set_option maxHeartbeats 40000000 in
theorem rmMk (l : Launch) (Z : State) (a0 : Array Value) (hw : ∀ d ∈ tables_1, d.before a0 Z = true) (ws : List Jvm.Cond) (p1 : Int32) (p2 : Int32) (p3 : Int32) (p4 : Int32) (p5 : Int32) (G1 : Int32) (h0 : Heap) (n0 : Nat) (Z0 : n0 ≤ h0.size) (O0 : Old Z n0 h0) (S_COMPACT : Sta Z Z.heap "java/lang/String" "COMPACT_STRINGS" "Z" (.int G1)) (P_COMPACT : ¬ (G1 = (0 : Int32))) (rg2 : (¬ p2 < 0 ∧ ¬ (255 : Int32) < p2) ∧ nar .char p2 = p2) (rg3 : (¬ p3 < 0 ∧ ¬ (255 : Int32) < p3) ∧ nar .char p3 = p3) (rg4 : (¬ p4 < 0 ∧ ¬ (255 : Int32) < p4) ∧ nar .char p4 = p4) (rg5 : (¬ p5 < 0 ∧ ¬ (255 : Int32) < p5) ∧ nar .char p5 = p5) :
    MetFree l (⟨"com/example/affordance/affordance/PathSegmentsIsLiteralPinLaw", "mk", "(ICCCC)Ljava/lang/String;"⟩ : MethodName) (head1 (Jvm.Cond.code (⟨"com/example/affordance/affordance/PathSegmentsIsLiteralPinLaw", "mk", "(ICCCC)Ljava/lang/String;"⟩ : MethodName) method_5_code 6 (some (.object "java/lang/String")) :: ws) ({ frames := 4, cells := 6, slots := 12, locals := 66 } : Room)) (fun a U => a = #[(.int p1), (.int p2), (.int p3), (.int p4), (.int p5)] ∧ Z.Warmed39 U.vm ∧ U.heap = h0 ∧ CHv Z own_EL U.vm h0) (fun _ _ _ _ _ => True) (fun _ U o U' => ∃ v L, o = .returned v ∧ QMk Z p1 p2 p3 p4 p5 G1 h0 n0 v U'.heap L ∧ CHr Z own_EL U.vm U.heap U'.vm U'.heap ∧ ReturnedEndW U o U' L ({ frames := 4, cells := 6, slots := 12, locals := 66 } : Room).cells ({ frames := 4, cells := 6, slots := 12, locals := 66 } : Room).slots) := by
  refine MetFree.of_bodySF (plainFor_of_name pn_1) hisR ?_
  intro p e s m args below meth c s₁ Bd hml0 hP hK
  obtain ⟨rfl, hZ0, hh, hCH⟩ := hP
  have hx := Bd.exec
  have hby := Bd.bytes
  have hlk := BodyLoose.notSynchronized Bd
  have hml : c.maxLocals = 6 := hml0
  have hret := Bd.returns
  have hown0 : (s.setVm s.vm).vm.findClass "com/example/affordance/affordance/PathSegmentsIsLiteralPinLaw" = some m.cls := findClass_of_methodNamed Bd.named
  have hnm := (name_of_methodNamed Bd.named Bd.method).1
  have X0 : Stand p l e ({ frames := 4, cells := 6, slots := 12, locals := 66 } : Room) (s.setVm s.vm) m #[(.int p1), (.int p2), (.int p3), (.int p4), (.int p5)] below meth c s₁ [] 0 0 := Stand.of_body Bd
  have hZ0 : Z.Warmed39 (s.setVm s.vm).vm := hZ0
  have hEL : EW Z a0 own_EL := own_EW hw
  have hS0 : s.Since s.vm h0.size := (State.WarmedH.refl s).since _
  have hk0 : h0.size ≤ h0.size := Nat.le_refl _
  have C0 : CHr Z own_EL s.vm h0 s.vm h0 := CHr.refl hCH
  have e0 : s₁.heap = h0 := by rw [← hh, Bd.state]; rfl
  have N0 := Fr.nil n0
  show GoH p e below s ({ frames := 4, cells := 6, slots := 12, locals := 66 } : Room).cells ({ frames := 4, cells := 6, slots := 12, locals := 66 } : Room).slots Z own_EL s.heap (QMk Z p1 p2 p3 p4 p5 G1 h0 n0) s₁ (entryFrame m #[(.int p1), (.int p2), (.int p3), (.int p4), (.int p5)] 6)
  rw [hh]
  refine GoH.cast (ef_rmMk m p1 p2 p3 p4 p5) ?_
  have K0 : Keep h0 h0 [] := Keep.refl _ _
  show GoH _ _ _ _ _ _ _ _ _ _ s₁ (mkF m 0 #[.val (.int p1), .val (.int p2), .val (.int p3), .val (.int p4), .val (.int p5), .unset] [])
  refine GoH.step (fun t_ k_ => XS.iloadN X0.here hx rfl (hb hby d2_0) rfl k_) ?_
  show GoH _ _ _ _ _ _ _ _ _ _ s₁ (mkF m 1 #[.val (.int p1), .val (.int p2), .val (.int p3), .val (.int p4), .val (.int p5), .unset] [(.int p1)])
  by_cases hb1_1 : p1 = (0 : Int32)
  · refine GoH.step (fun t_ k_ => XS.ifNo X0.here hx rfl (hb hby d2_1) rfl (XT.i0_ne_f hb1_1) k_) ?_
    show GoH _ _ _ _ _ _ _ _ _ _ s₁ (mkF m 4 #[.val (.int p1), .val (.int p2), .val (.int p3), .val (.int p4), .val (.int p5), .unset] [])
    obtain ⟨T2, h2, X2, e2, E2, A2, D2, -, st2⟩ := newO X0 hx hZ0 hown0 (hw _ (List.mem_of_getElem? (i := 8) rfl)) (hw _ (List.mem_of_getElem? (i := 9) rfl)) (hw _ (List.mem_of_getElem? (i := 10) rfl)) e0 (g := (mkF m 4 #[.val (.int p1), .val (.int p2), .val (.int p3), .val (.int p4), .val (.int p5), .unset] [])) rfl (hb hby d2_4) (by decide) (by decide)
    obtain ⟨o2, g2⟩ : ∃ z, z = h0.size := ⟨_, rfl⟩
    rw [← g2] at A2 D2 st2
    have ge_o2 : n0 ≤ o2 := Nat.le_trans Z0 (Nat.le_of_eq g2.symm)
    have geh_o2 : h0.size ≤ o2 := Nat.le_trans K0.1 (Nat.le_of_eq g2.symm)
    have f2_0 : Exa Z h2 o2 "java/lang/String" := A2
    have f2_1 : Fld Z h2 o2 "java/lang/String" "value" "[B" .null := (D2 (Or.inr (hw _ (List.mem_of_getElem? (i := 24) rfl))) (ty := (.array .byte)) (by decide))
    have f2_2 : Fld Z h2 o2 "java/lang/String" "coder" "B" (.int (0 : Int32)) := (D2 (Or.inr (hw _ (List.mem_of_getElem? (i := 25) rfl))) (ty := .byte) (by decide))
    have sf2_o2 : Safe Z own_EL s.vm h2 o2 := Safe.ext E2 C0.1 (Safe.new (Nat.le_of_eq g2.symm))
    have hk2 : _ ≤ h2.size := Nat.le_trans hk0 E2.1
    have C2 : CHr Z own_EL s.vm h0 s.vm h2 := C0.trans (CHr.ext E2 C0.1)
    have Zs2 : n0 ≤ h2.size := (Nat.le_trans Z0 E2.1)
    have O2 : Old Z n0 h2 := O0.ext E2
    have K2 : Keep h0 h2 [] := K0.ext E2
    refine GoH.step st2 ?_
    show GoH _ _ _ _ _ _ _ _ _ _ T2 (mkF m 7 #[.val (.int p1), .val (.int p2), .val (.int p3), .val (.int p4), .val (.int p5), .unset] [(.ref o2)])
    refine GoH.step (fun t_ k_ => XS.dup X2.here hx rfl (hb hby d2_7) rfl rfl k_) ?_
    show GoH _ _ _ _ _ _ _ _ _ _ T2 (mkF m 8 #[.val (.int p1), .val (.int p2), .val (.int p3), .val (.int p4), .val (.int p5), .unset] [(.ref o2), (.ref o2)])
    refine GoH.step (fun t_ k_ => XS.iconst X2.here hx rfl (hb hby d2_8) k_) ?_
    show GoH _ _ _ _ _ _ _ _ _ _ T2 (mkF m 9 #[.val (.int p1), .val (.int p2), .val (.int p3), .val (.int p4), .val (.int p5), .unset] [(.int (0 : Int32)), (.ref o2), (.ref o2)])
    obtain ⟨T3, h3, k3, X3, e3, E3, A3, st3⟩ := newP X2 hx hZ0 (hw _ (List.mem_of_getElem? (i := 11) rfl)) e2 (g := (mkF m 9 #[.val (.int p1), .val (.int p2), .val (.int p3), .val (.int p4), .val (.int p5), .unset] [(.int (0 : Int32)), (.ref o2), (.ref o2)])) rfl (hb hby d2_9) rfl (by decide) (cap := 0) (by decide) (by decide) (by decide) (by decide)
    obtain ⟨r3, g3⟩ : ∃ z, z = h2.size := ⟨_, rfl⟩
    rw [← g3] at A3 st3
    have ne_o2_r3 : o2 ≠ r3 := Nat.ne_of_lt (Nat.lt_of_lt_of_le f2_0.lt (Nat.le_of_eq g3.symm))
    have ge_r3 : n0 ≤ r3 := Nat.le_trans Zs2 (Nat.le_of_eq g3.symm)
    have geh_r3 : h0.size ≤ r3 := Nat.le_trans K2.1 (Nat.le_of_eq g3.symm)
    have f3_0 : Exa Z h3 o2 "java/lang/String" := (f2_0.ext E3)
    have f3_1 : Fld Z h3 o2 "java/lang/String" "value" "[B" .null := (f2_1.ext E3)
    have f3_2 : Fld Z h3 o2 "java/lang/String" "coder" "B" (.int (0 : Int32)) := (f2_2.ext E3)
    have f3_3 : Arv Z h3 r3 k3 .char (0 : Int32) [] (.int (0 : Int32)) := (Arv.new A3 (by decide))
    have sf3_o2 : Safe Z own_EL s.vm h3 o2 := Safe.ext E3 C2.1 sf2_o2
    have hk3 : _ ≤ h3.size := Nat.le_trans hk2 E3.1
    have C3 : CHr Z own_EL s.vm h0 s.vm h3 := C2.trans (CHr.ext E3 C2.1)
    have Zs3 : n0 ≤ h3.size := (Nat.le_trans Zs2 E3.1)
    have O3 : Old Z n0 h3 := O2.ext E3
    have K3 : Keep h0 h3 [] := K2.ext E3
    refine GoH.step st3 ?_
    show GoH _ _ _ _ _ _ _ _ _ _ T3 (mkF m 11 #[.val (.int p1), .val (.int p2), .val (.int p3), .val (.int p4), .val (.int p5), .unset] [(.ref r3), (.ref o2), (.ref o2)])
    obtain ⟨_, _, ⟨T4, L4, k4, n4⟩, -, X4, hSq4, hgr4, ⟨Lc4, hQ4, l4, y4, z4, CHq4⟩, st4⟩ := X3.specialBackS hx (y := (⟨"java/lang/String", "<init>", "([C)V"⟩ : MethodName)) rfl hown0 (mvT hZ0 (hw _ (List.mem_of_getElem? (i := 12) rfl))) (mvT hZ0 (hw _ (List.mem_of_getElem? (i := 13) rfl))) (mvT hZ0 (hw _ (List.mem_of_getElem? (i := 14) rfl))) (by decide) (backOfSH (W := 1) (rmSO l Z a0 hw [] o2 r3 k3 h3 n0 Zs3 ge_o2 f3_0 f3_1 f3_2 f3_3) hZ0 (hw _ (List.mem_of_getElem? (i := 14) rfl)) (hw _ (List.mem_of_getElem? (i := 10) rfl)) (by decide) (by decide) hEL C3.1) (g := (mkF m 11 #[.val (.int p1), .val (.int p2), .val (.int p3), .val (.int p4), .val (.int p5), .unset] [(.ref r3), (.ref o2), (.ref o2)])) rfl (by rw [hml]; rfl) (Steps.refl _) (a := o2) (argsL := [(.ref r3)]) (rest := [(.ref o2)]) (lenOf pd_1 rfl) rfl (by show 2 * 0 + _ ≤ _; exact Nat.le_of_eq rfl) (hb hby d2_11) (fun _ _ => ⟨rfl, e3, (by decide : 0 + 1 + 1 + 4 ≤ _), (by decide : 0 + 4 + 0 + 8 ≤ _)⟩)
    dsimp only [Pt.U, Pt.locs, Pt.cells, Pt.slots] at X4 hSq4 hgr4 l4 y4 z4 st4 hQ4 CHq4
    subst l4 y4 z4
    have X4 : Stand p l e _ (s.setVm T4.vm) _ _ _ _ _ T4 _ _ _ := X4
    have hS4 : s.Since T4.vm T4.heap.size := State.Since.trans hS0 hSq4 (Nat.le_trans hk3 (by first | exact hgr4 | (rw [← e3]; exact hgr4)))
    have hZ4 : Z.Warmed39 (s.setVm T4.vm).vm := State.Warmed39.trans (t := s.setVm s.vm) hZ0 hSq4.1
    have hown4 : (s.setVm T4.vm).vm.findClass "com/example/affordance/affordance/PathSegmentsIsLiteralPinLaw" = some m.cls := by rw [show (s.setVm T4.vm).vm = T4.vm from rfl, hSq4.1.alike.findClass]; exact hown0
    have hk4 : T4.heap.size ≤ T4.heap.size := Nat.le_refl _
    obtain ⟨rfl, N4q, Kq4, Eq4, Cq4, tb4, kb4, nt4, Vq4, Aq4⟩ := hQ4
    have N4 := Fr.app N0 N4q
    have f4_0 : Arv Z T4.heap r3 k3 .char (0 : Int32) [] (.int (0 : Int32)) := (f3_3.keep Kq4 (ninS (Ne.symm ne_o2_r3) nin0))
    have f4_1 : Exa Z T4.heap o2 "java/lang/String" := Eq4
    have f4_2 : Fld Z T4.heap o2 "java/lang/String" "coder" "B" (.int (0 : Int32)) := Cq4
    have f4_3 : Fld Z T4.heap o2 "java/lang/String" "value" "[B" (.ref tb4) := Vq4
    have f4_4 : Arv Z T4.heap tb4 kb4 .byte (0 : Int32) [] (.int (0 : Int32)) := Aq4
    have Zs4 : n0 ≤ T4.heap.size := (Nat.le_trans Zs3 Kq4.1)
    have O4 : Old Z n0 T4.heap := O3.keep Kq4 (allS ge_o2 all0)
    have K4 : Keep h0 T4.heap [] := K3.trans Kq4 (allS (Or.inr geh_o2) all0)
    have sf4_o2 : Safe Z own_EL T4.vm T4.heap o2 := CHr.safe CHq4 f3_0.lt sf3_o2
    have CC4 : CHr Z own_EL s.vm h0 T4.vm T4.heap := C3.trans CHq4
    refine GoH.step (fun t_ k_ => st4.trans k_) ?_
    show GoH _ _ _ _ _ _ _ _ _ _ T4 (mkF m 14 #[.val (.int p1), .val (.int p2), .val (.int p3), .val (.int p4), .val (.int p5), .unset] [(.ref o2)])
    have hkr := hk4
    have hCr := CC4
    refine GoH.ret X4 hx hlk hS4 hkr hZ4 hEL hCr hret rfl (Or.inr (Or.inr (Or.inr (Or.inr ⟨rfl, rfl, rfl⟩)))) (hb hby d2_14) ?_ (by decide) (by decide)
    show QMk Z _ _ _ _ _ _ _ _ _ T4.heap _
    exact ⟨o2, tb4, kb4, ([] : List Int32), rfl, (fun c hc => nomatch hc), (Nat.le_of_ble_eq_true rfl), N4, K4, geh_o2, f4_1, f4_2, f4_3, f4_4⟩
  · refine GoH.step (fun t_ k_ => XS.ifYes X0.here hx rfl (pc0 := 1) (pc' := 15) rfl (hb hby d2_1) rfl (XT.i0_ne_t hb1_1) (by decide) (by decide) k_) ?_
    show GoH _ _ _ _ _ _ _ _ _ _ s₁ (mkF m 15 #[.val (.int p1), .val (.int p2), .val (.int p3), .val (.int p4), .val (.int p5), .unset] [])
    refine GoH.step (fun t_ k_ => XS.iloadN X0.here hx rfl (hb hby d2_15) rfl k_) ?_
    show GoH _ _ _ _ _ _ _ _ _ _ s₁ (mkF m 16 #[.val (.int p1), .val (.int p2), .val (.int p3), .val (.int p4), .val (.int p5), .unset] [(.int p1)])
    refine GoH.step (fun t_ k_ => XS.iconst X0.here hx rfl (hb hby d2_16) k_) ?_
    show GoH _ _ _ _ _ _ _ _ _ _ s₁ (mkF m 17 #[.val (.int p1), .val (.int p2), .val (.int p3), .val (.int p4), .val (.int p5), .unset] [(.int (1 : Int32)), (.int p1)])
    by_cases hb17_5 : p1 = (1 : Int32)
    · refine GoH.step (fun t_ k_ => XS.icmpNo X0.here hx rfl (hb hby d2_17) rfl (XT.ii_ne_f hb17_5) k_) ?_
      show GoH _ _ _ _ _ _ _ _ _ _ s₁ (mkF m 20 #[.val (.int p1), .val (.int p2), .val (.int p3), .val (.int p4), .val (.int p5), .unset] [])
      refine GoH.step (fun t_ k_ => XS.iconst X0.here hx rfl (hb hby d2_20) k_) ?_
      show GoH _ _ _ _ _ _ _ _ _ _ s₁ (mkF m 21 #[.val (.int p1), .val (.int p2), .val (.int p3), .val (.int p4), .val (.int p5), .unset] [(.int (1 : Int32))])
      obtain ⟨T6, h6, k6, X6, e6, E6, A6, st6⟩ := newP X0 hx hZ0 (hw _ (List.mem_of_getElem? (i := 11) rfl)) e0 (g := (mkF m 21 #[.val (.int p1), .val (.int p2), .val (.int p3), .val (.int p4), .val (.int p5), .unset] [(.int (1 : Int32))])) rfl (hb hby d2_21) rfl (by decide) (cap := 1) (by decide) (by decide) (by decide) (by decide)
      obtain ⟨r6, g6⟩ : ∃ z, z = h0.size := ⟨_, rfl⟩
      rw [← g6] at A6 st6
      have ge_r6 : n0 ≤ r6 := Nat.le_trans Z0 (Nat.le_of_eq g6.symm)
      have geh_r6 : h0.size ≤ r6 := Nat.le_trans K0.1 (Nat.le_of_eq g6.symm)
      have f6_0 : Arv Z h6 r6 k6 .char (1 : Int32) [(.int (0 : Int32))] (.int (0 : Int32)) := ((Arv.new A6 (by decide)).pad (pad_rep [] (.int (0 : Int32)) 1))
      have hk6 : _ ≤ h6.size := Nat.le_trans hk0 E6.1
      have C6 : CHr Z own_EL s.vm h0 s.vm h6 := C0.trans (CHr.ext E6 C0.1)
      have Zs6 : n0 ≤ h6.size := (Nat.le_trans Z0 E6.1)
      have O6 : Old Z n0 h6 := O0.ext E6
      have K6 : Keep h0 h6 [] := K0.ext E6
      refine GoH.step st6 ?_
      show GoH _ _ _ _ _ _ _ _ _ _ T6 (mkF m 23 #[.val (.int p1), .val (.int p2), .val (.int p3), .val (.int p4), .val (.int p5), .unset] [(.ref r6)])
      refine GoH.step (fun t_ k_ => XS.astore X6.here hx rfl (hb hby d2_23) rfl rfl (l' := #[.val (.int p1), .val (.int p2), .val (.int p3), .val (.int p4), .val (.int p5), .val (.ref r6)]) rfl k_) ?_
      show GoH _ _ _ _ _ _ _ _ _ _ T6 (mkF m 25 #[.val (.int p1), .val (.int p2), .val (.int p3), .val (.int p4), .val (.int p5), .val (.ref r6)] [])
      refine GoH.step (fun t_ k_ => XS.aload X6.here hx rfl (hb hby d2_25) rfl rfl k_) ?_
      show GoH _ _ _ _ _ _ _ _ _ _ T6 (mkF m 27 #[.val (.int p1), .val (.int p2), .val (.int p3), .val (.int p4), .val (.int p5), .val (.ref r6)] [(.ref r6)])
      refine GoH.step (fun t_ k_ => XS.iconst X6.here hx rfl (hb hby d2_27) k_) ?_
      show GoH _ _ _ _ _ _ _ _ _ _ T6 (mkF m 28 #[.val (.int p1), .val (.int p2), .val (.int p3), .val (.int p4), .val (.int p5), .val (.ref r6)] [(.int (0 : Int32)), (.ref r6)])
      refine GoH.step (fun t_ k_ => XS.iloadN X6.here hx rfl (hb hby d2_28) rfl k_) ?_
      show GoH _ _ _ _ _ _ _ _ _ _ T6 (mkF m 29 #[.val (.int p1), .val (.int p2), .val (.int p3), .val (.int p4), .val (.int p5), .val (.ref r6)] [(.int p2), (.int (0 : Int32)), (.ref r6)])
      obtain ⟨c7, Ar7, q7, S7, M7, H7, U7⟩ := id f6_0
      obtain ⟨T7, h7, X7, e7, W7, st7⟩ := stC X6 hx hZ0 e6 Ar7 (j := (0 : Int32)) (inb_of S7 ⟨(by decide), (by decide)⟩) (g := (mkF m 29 #[.val (.int p1), .val (.int p2), .val (.int p3), .val (.int p4), .val (.int p5), .val (.ref r6)] [(.int p2), (.int (0 : Int32)), (.ref r6)])) rfl rfl (hb hby d2_29)
      have N7 := Fr.snoc X7 N0 ge_r6
      refine GoH.step st7 ?_
      have sfw7 : Safe Z own_EL s.vm _ r6 := (Safe.arv hZ0.alike f6_0 (by decide))
      have hk7 : _ ≤ h7.size := Nat.le_trans hk6 (Keep.of_wr W7).1
      have C7 : CHr Z own_EL s.vm h0 s.vm h7 := C6.trans (CHr.wr W7 sfw7 C6.1)
      have Zs7 : n0 ≤ h7.size := (Nat.le_trans Zs6 (Keep.of_wr W7).1)
      have O7 : Old Z n0 h7 := O6.wr W7 ge_r6
      have K7 : Keep h0 h7 [] := K6.wr W7 (Or.inr geh_r6)
      have fA7 : Arv Z h7 r6 k6 .char (1 : Int32) [(.int p2)] (.int (0 : Int32)) := by have q := (Arv.set Ar7 q7 S7 M7 H7 U7 (fits_nar_char _) W7 0 rfl (Nat.le_of_ble_eq_true rfl)); rw [rg2.2] at q; exact q
      show GoH _ _ _ _ _ _ _ _ _ _ T7 (mkF m 30 #[.val (.int p1), .val (.int p2), .val (.int p3), .val (.int p4), .val (.int p5), .val (.ref r6)] [])
      obtain ⟨T8, h8, X8, e8, E8, A8, D8, -, st8⟩ := newO X7 hx hZ0 hown0 (hw _ (List.mem_of_getElem? (i := 8) rfl)) (hw _ (List.mem_of_getElem? (i := 9) rfl)) (hw _ (List.mem_of_getElem? (i := 10) rfl)) e7 (g := (mkF m 30 #[.val (.int p1), .val (.int p2), .val (.int p3), .val (.int p4), .val (.int p5), .val (.ref r6)] [])) rfl (hb hby d2_30) (by decide) (by decide)
      obtain ⟨o8, g8⟩ : ∃ z, z = h7.size := ⟨_, rfl⟩
      rw [← g8] at A8 D8 st8
      have ne_r6_o8 : r6 ≠ o8 := Nat.ne_of_lt (Nat.lt_of_lt_of_le fA7.lt (Nat.le_of_eq g8.symm))
      have ge_o8 : n0 ≤ o8 := Nat.le_trans Zs7 (Nat.le_of_eq g8.symm)
      have geh_o8 : h0.size ≤ o8 := Nat.le_trans K7.1 (Nat.le_of_eq g8.symm)
      have f8_0 : Arv Z h8 r6 k6 .char (1 : Int32) [(.int p2)] (.int (0 : Int32)) := (fA7.ext E8)
      have f8_1 : Exa Z h8 o8 "java/lang/String" := A8
      have f8_2 : Fld Z h8 o8 "java/lang/String" "value" "[B" .null := (D8 (Or.inr (hw _ (List.mem_of_getElem? (i := 24) rfl))) (ty := (.array .byte)) (by decide))
      have f8_3 : Fld Z h8 o8 "java/lang/String" "coder" "B" (.int (0 : Int32)) := (D8 (Or.inr (hw _ (List.mem_of_getElem? (i := 25) rfl))) (ty := .byte) (by decide))
      have sf8_o8 : Safe Z own_EL s.vm h8 o8 := Safe.ext E8 C7.1 (Safe.new (Nat.le_of_eq g8.symm))
      have hk8 : _ ≤ h8.size := Nat.le_trans hk7 E8.1
      have C8 : CHr Z own_EL s.vm h0 s.vm h8 := C7.trans (CHr.ext E8 C7.1)
      have Zs8 : n0 ≤ h8.size := (Nat.le_trans Zs7 E8.1)
      have O8 : Old Z n0 h8 := O7.ext E8
      have K8 : Keep h0 h8 [] := K7.ext E8
      refine GoH.step st8 ?_
      show GoH _ _ _ _ _ _ _ _ _ _ T8 (mkF m 33 #[.val (.int p1), .val (.int p2), .val (.int p3), .val (.int p4), .val (.int p5), .val (.ref r6)] [(.ref o8)])
      refine GoH.step (fun t_ k_ => XS.dup X8.here hx rfl (hb hby d2_33) rfl rfl k_) ?_
      show GoH _ _ _ _ _ _ _ _ _ _ T8 (mkF m 34 #[.val (.int p1), .val (.int p2), .val (.int p3), .val (.int p4), .val (.int p5), .val (.ref r6)] [(.ref o8), (.ref o8)])
      refine GoH.step (fun t_ k_ => XS.aload X8.here hx rfl (hb hby d2_34) rfl rfl k_) ?_
      show GoH _ _ _ _ _ _ _ _ _ _ T8 (mkF m 36 #[.val (.int p1), .val (.int p2), .val (.int p3), .val (.int p4), .val (.int p5), .val (.ref r6)] [(.ref r6), (.ref o8), (.ref o8)])
      have hp9 : ∀ c ∈ ([p2] : List Int32), ¬ c < 0 ∧ ¬ (255 : Int32) < c := by
        intro c hc
        simp only [List.mem_cons, List.not_mem_nil, or_false] at hc
        rcases hc with rfl
        · exact rg2.1
      obtain ⟨_, _, ⟨T9, L9, k9, n9⟩, -, X9, ⟨Lc9, hQ9, l9, y9, z9⟩, st9⟩ := X8.specialBack hx (y := (⟨"java/lang/String", "<init>", "([C)V"⟩ : MethodName)) rfl hown0 (mvT hZ0 (hw _ (List.mem_of_getElem? (i := 12) rfl))) (mvT hZ0 (hw _ (List.mem_of_getElem? (i := 13) rfl))) (mvT hZ0 (hw _ (List.mem_of_getElem? (i := 14) rfl))) (by decide) (StrChars.Road.backV (W := 1) hZ0 (own_words hw) (kI := 4) (hw _ (List.mem_of_getElem? (i := 9) rfl)) (cs := ([p2] : List Int32)) (bs := ([p2] : List Int32).map (fun c => c.toInt8.toInt32)) (n := 1) ge_o8 Zs8 f8_1 f8_2 f8_3 f8_0 (S_COMPACT.ext O8.2) P_COMPACT rfl rfl (by decide) (by decide) hp9 rfl (by decide) (by decide)) (g := (mkF m 36 #[.val (.int p1), .val (.int p2), .val (.int p3), .val (.int p4), .val (.int p5), .val (.ref r6)] [(.ref r6), (.ref o8), (.ref o8)])) rfl (by rw [hml]; rfl) (Steps.refl _) (a := o8) (argsL := [(.ref r6)]) (rest := [(.ref o8)]) (lenOf pd_1 rfl) rfl (by show 2 * 0 + _ ≤ _; exact Nat.le_of_eq rfl) (hb hby d2_36) (fun _ _ => ⟨rfl, e8, (by decide : 0 + 1 + 1 + 1 ≤ _), (by decide : 0 + 1 + 4 + 1 ≤ _)⟩)
      dsimp only [Pt.U, Pt.locs, Pt.cells, Pt.slots] at X9 l9 y9 z9 st9 hQ9
      subst l9 y9 z9
      obtain ⟨rfl, N9q, Kq9, Eq9, Cq9, tb9, kb9, u9, v9, w9, Vq9, Aq9⟩ := hQ9
      have N9 := Fr.app N7 N9q
      have ne_r6_tb9 : r6 ≠ tb9 := Nat.ne_of_lt (Nat.lt_of_lt_of_le f8_0.lt v9)
      have ne_o8_tb9 : o8 ≠ tb9 := Nat.ne_of_lt (Nat.lt_of_lt_of_le f8_1.lt v9)
      have geh_tb9 : h0.size ≤ tb9 := Nat.le_trans K8.1 v9
      have f9_0 : Arv Z T9.heap r6 k6 .char (1 : Int32) [(.int p2)] (.int (0 : Int32)) := (f8_0.keep Kq9 (ninS ne_r6_o8 nin0))
      have f9_1 : Exa Z T9.heap o8 "java/lang/String" := Eq9
      have f9_2 : Fld Z T9.heap o8 "java/lang/String" "coder" "B" (.int (0 : Int32)) := Cq9
      have f9_3 : Fld Z T9.heap o8 "java/lang/String" "value" "[B" (.ref tb9) := Vq9
      have f9_4 : Arv Z T9.heap tb9 kb9 .byte (1 : Int32) ((([p2] : List Int32).map (fun c => c.toInt8.toInt32)).map Value.int) (.int (0 : Int32)) := Aq9
      have sfk9 : ∀ x ∈ ([o8] : List Addr), Safe Z own_EL s.vm h8 x := (sfS sf8_o8 sf0)
      have sf9_o8 : Safe Z own_EL s.vm T9.heap o8 := Safe.keep Kq9 sfk9 C8.1 sf8_o8
      have hk9 : _ ≤ T9.heap.size := Nat.le_trans hk8 Kq9.1
      have C9 : CHr Z own_EL s.vm h0 s.vm T9.heap := C8.trans (CHr.keep Kq9 sfk9 C8.1)
      have Zs9 : n0 ≤ T9.heap.size := (Nat.le_trans Zs8 Kq9.1)
      have O9 : Old Z n0 T9.heap := O8.keep Kq9 (allS ge_o8 all0)
      have K9 : Keep h0 T9.heap [] := K8.trans Kq9 (allS (Or.inr geh_o8) all0)
      refine GoH.step (fun t_ k_ => st9.trans k_) ?_
      show GoH _ _ _ _ _ _ _ _ _ _ T9 (mkF m 39 #[.val (.int p1), .val (.int p2), .val (.int p3), .val (.int p4), .val (.int p5), .val (.ref r6)] [(.ref o8)])
      have hkr := hk9
      have hCr := C9
      refine GoH.ret X9 hx hlk hS0 hkr hZ0 hEL hCr hret rfl (Or.inr (Or.inr (Or.inr (Or.inr ⟨rfl, rfl, rfl⟩)))) (hb hby d2_39) ?_ (by decide) (by decide)
      show QMk Z _ _ _ _ _ _ _ _ _ T9.heap _
      exact ⟨o8, tb9, kb9, ([p2] : List Int32), rfl, hp9, (Nat.le_of_ble_eq_true rfl), N9, K9, geh_o8, f9_1, f9_2, f9_3, f9_4⟩
    · refine GoH.step (fun t_ k_ => XS.icmpYes X0.here hx rfl (pc0 := 17) (pc' := 40) rfl (hb hby d2_17) rfl (XT.ii_ne_t hb17_5) (by decide) (by decide) k_) ?_
      show GoH _ _ _ _ _ _ _ _ _ _ s₁ (mkF m 40 #[.val (.int p1), .val (.int p2), .val (.int p3), .val (.int p4), .val (.int p5), .unset] [])
      refine GoH.step (fun t_ k_ => XS.iloadN X0.here hx rfl (hb hby d2_40) rfl k_) ?_
      show GoH _ _ _ _ _ _ _ _ _ _ s₁ (mkF m 41 #[.val (.int p1), .val (.int p2), .val (.int p3), .val (.int p4), .val (.int p5), .unset] [(.int p1)])
      refine GoH.step (fun t_ k_ => XS.iconst X0.here hx rfl (hb hby d2_41) k_) ?_
      show GoH _ _ _ _ _ _ _ _ _ _ s₁ (mkF m 42 #[.val (.int p1), .val (.int p2), .val (.int p3), .val (.int p4), .val (.int p5), .unset] [(.int (2 : Int32)), (.int p1)])
      by_cases hb42_10 : p1 = (2 : Int32)
      · refine GoH.step (fun t_ k_ => XS.icmpNo X0.here hx rfl (hb hby d2_42) rfl (XT.ii_ne_f hb42_10) k_) ?_
        show GoH _ _ _ _ _ _ _ _ _ _ s₁ (mkF m 45 #[.val (.int p1), .val (.int p2), .val (.int p3), .val (.int p4), .val (.int p5), .unset] [])
        refine GoH.step (fun t_ k_ => XS.iconst X0.here hx rfl (hb hby d2_45) k_) ?_
        show GoH _ _ _ _ _ _ _ _ _ _ s₁ (mkF m 46 #[.val (.int p1), .val (.int p2), .val (.int p3), .val (.int p4), .val (.int p5), .unset] [(.int (2 : Int32))])
        obtain ⟨T11, h11, k11, X11, e11, E11, A11, st11⟩ := newP X0 hx hZ0 (hw _ (List.mem_of_getElem? (i := 11) rfl)) e0 (g := (mkF m 46 #[.val (.int p1), .val (.int p2), .val (.int p3), .val (.int p4), .val (.int p5), .unset] [(.int (2 : Int32))])) rfl (hb hby d2_46) rfl (by decide) (cap := 2) (by decide) (by decide) (by decide) (by decide)
        obtain ⟨r11, g11⟩ : ∃ z, z = h0.size := ⟨_, rfl⟩
        rw [← g11] at A11 st11
        have ge_r11 : n0 ≤ r11 := Nat.le_trans Z0 (Nat.le_of_eq g11.symm)
        have geh_r11 : h0.size ≤ r11 := Nat.le_trans K0.1 (Nat.le_of_eq g11.symm)
        have f11_0 : Arv Z h11 r11 k11 .char (2 : Int32) [(.int (0 : Int32)), (.int (0 : Int32))] (.int (0 : Int32)) := ((Arv.new A11 (by decide)).pad (pad_rep [] (.int (0 : Int32)) 2))
        have hk11 : _ ≤ h11.size := Nat.le_trans hk0 E11.1
        have C11 : CHr Z own_EL s.vm h0 s.vm h11 := C0.trans (CHr.ext E11 C0.1)
        have Zs11 : n0 ≤ h11.size := (Nat.le_trans Z0 E11.1)
        have O11 : Old Z n0 h11 := O0.ext E11
        have K11 : Keep h0 h11 [] := K0.ext E11
        refine GoH.step st11 ?_
        show GoH _ _ _ _ _ _ _ _ _ _ T11 (mkF m 48 #[.val (.int p1), .val (.int p2), .val (.int p3), .val (.int p4), .val (.int p5), .unset] [(.ref r11)])
        refine GoH.step (fun t_ k_ => XS.astore X11.here hx rfl (hb hby d2_48) rfl rfl (l' := #[.val (.int p1), .val (.int p2), .val (.int p3), .val (.int p4), .val (.int p5), .val (.ref r11)]) rfl k_) ?_
        show GoH _ _ _ _ _ _ _ _ _ _ T11 (mkF m 50 #[.val (.int p1), .val (.int p2), .val (.int p3), .val (.int p4), .val (.int p5), .val (.ref r11)] [])
        refine GoH.step (fun t_ k_ => XS.aload X11.here hx rfl (hb hby d2_50) rfl rfl k_) ?_
        show GoH _ _ _ _ _ _ _ _ _ _ T11 (mkF m 52 #[.val (.int p1), .val (.int p2), .val (.int p3), .val (.int p4), .val (.int p5), .val (.ref r11)] [(.ref r11)])
        refine GoH.step (fun t_ k_ => XS.iconst X11.here hx rfl (hb hby d2_52) k_) ?_
        show GoH _ _ _ _ _ _ _ _ _ _ T11 (mkF m 53 #[.val (.int p1), .val (.int p2), .val (.int p3), .val (.int p4), .val (.int p5), .val (.ref r11)] [(.int (0 : Int32)), (.ref r11)])
        refine GoH.step (fun t_ k_ => XS.iloadN X11.here hx rfl (hb hby d2_53) rfl k_) ?_
        show GoH _ _ _ _ _ _ _ _ _ _ T11 (mkF m 54 #[.val (.int p1), .val (.int p2), .val (.int p3), .val (.int p4), .val (.int p5), .val (.ref r11)] [(.int p2), (.int (0 : Int32)), (.ref r11)])
        obtain ⟨c12, Ar12, q12, S12, M12, H12, U12⟩ := id f11_0
        obtain ⟨T12, h12, X12, e12, W12, st12⟩ := stC X11 hx hZ0 e11 Ar12 (j := (0 : Int32)) (inb_of S12 ⟨(by decide), (by decide)⟩) (g := (mkF m 54 #[.val (.int p1), .val (.int p2), .val (.int p3), .val (.int p4), .val (.int p5), .val (.ref r11)] [(.int p2), (.int (0 : Int32)), (.ref r11)])) rfl rfl (hb hby d2_54)
        have N12 := Fr.snoc X12 N0 ge_r11
        refine GoH.step st12 ?_
        have sfw12 : Safe Z own_EL s.vm _ r11 := (Safe.arv hZ0.alike f11_0 (by decide))
        have hk12 : _ ≤ h12.size := Nat.le_trans hk11 (Keep.of_wr W12).1
        have C12 : CHr Z own_EL s.vm h0 s.vm h12 := C11.trans (CHr.wr W12 sfw12 C11.1)
        have Zs12 : n0 ≤ h12.size := (Nat.le_trans Zs11 (Keep.of_wr W12).1)
        have O12 : Old Z n0 h12 := O11.wr W12 ge_r11
        have K12 : Keep h0 h12 [] := K11.wr W12 (Or.inr geh_r11)
        have fA12 : Arv Z h12 r11 k11 .char (2 : Int32) [(.int p2), (.int (0 : Int32))] (.int (0 : Int32)) := by have q := (Arv.set Ar12 q12 S12 M12 H12 U12 (fits_nar_char _) W12 0 rfl (Nat.le_of_ble_eq_true rfl)); rw [rg2.2] at q; exact q
        show GoH _ _ _ _ _ _ _ _ _ _ T12 (mkF m 55 #[.val (.int p1), .val (.int p2), .val (.int p3), .val (.int p4), .val (.int p5), .val (.ref r11)] [])
        refine GoH.step (fun t_ k_ => XS.aload X12.here hx rfl (hb hby d2_55) rfl rfl k_) ?_
        show GoH _ _ _ _ _ _ _ _ _ _ T12 (mkF m 57 #[.val (.int p1), .val (.int p2), .val (.int p3), .val (.int p4), .val (.int p5), .val (.ref r11)] [(.ref r11)])
        refine GoH.step (fun t_ k_ => XS.iconst X12.here hx rfl (hb hby d2_57) k_) ?_
        show GoH _ _ _ _ _ _ _ _ _ _ T12 (mkF m 58 #[.val (.int p1), .val (.int p2), .val (.int p3), .val (.int p4), .val (.int p5), .val (.ref r11)] [(.int (1 : Int32)), (.ref r11)])
        refine GoH.step (fun t_ k_ => XS.iloadN X12.here hx rfl (hb hby d2_58) rfl k_) ?_
        show GoH _ _ _ _ _ _ _ _ _ _ T12 (mkF m 59 #[.val (.int p1), .val (.int p2), .val (.int p3), .val (.int p4), .val (.int p5), .val (.ref r11)] [(.int p3), (.int (1 : Int32)), (.ref r11)])
        obtain ⟨c13, Ar13, q13, S13, M13, H13, U13⟩ := id fA12
        obtain ⟨T13, h13, X13, e13, W13, st13⟩ := stC X12 hx hZ0 e12 Ar13 (j := (1 : Int32)) (inb_of S13 ⟨(by decide), (by decide)⟩) (g := (mkF m 59 #[.val (.int p1), .val (.int p2), .val (.int p3), .val (.int p4), .val (.int p5), .val (.ref r11)] [(.int p3), (.int (1 : Int32)), (.ref r11)])) rfl rfl (hb hby d2_59)
        have N13 := Fr.snoc X13 N12 ge_r11
        refine GoH.step st13 ?_
        have sfw13 : Safe Z own_EL s.vm _ r11 := (Safe.arv hZ0.alike fA12 (by decide))
        have hk13 : _ ≤ h13.size := Nat.le_trans hk12 (Keep.of_wr W13).1
        have C13 : CHr Z own_EL s.vm h0 s.vm h13 := C12.trans (CHr.wr W13 sfw13 C12.1)
        have Zs13 : n0 ≤ h13.size := (Nat.le_trans Zs12 (Keep.of_wr W13).1)
        have O13 : Old Z n0 h13 := O12.wr W13 ge_r11
        have K13 : Keep h0 h13 [] := K12.wr W13 (Or.inr geh_r11)
        have fA13 : Arv Z h13 r11 k11 .char (2 : Int32) [(.int p2), (.int p3)] (.int (0 : Int32)) := by have q := (Arv.set Ar13 q13 S13 M13 H13 U13 (fits_nar_char _) W13 1 rfl (Nat.le_of_ble_eq_true rfl)); rw [rg3.2] at q; exact q
        show GoH _ _ _ _ _ _ _ _ _ _ T13 (mkF m 60 #[.val (.int p1), .val (.int p2), .val (.int p3), .val (.int p4), .val (.int p5), .val (.ref r11)] [])
        obtain ⟨T14, h14, X14, e14, E14, A14, D14, -, st14⟩ := newO X13 hx hZ0 hown0 (hw _ (List.mem_of_getElem? (i := 8) rfl)) (hw _ (List.mem_of_getElem? (i := 9) rfl)) (hw _ (List.mem_of_getElem? (i := 10) rfl)) e13 (g := (mkF m 60 #[.val (.int p1), .val (.int p2), .val (.int p3), .val (.int p4), .val (.int p5), .val (.ref r11)] [])) rfl (hb hby d2_60) (by decide) (by decide)
        obtain ⟨o14, g14⟩ : ∃ z, z = h13.size := ⟨_, rfl⟩
        rw [← g14] at A14 D14 st14
        have ne_r11_o14 : r11 ≠ o14 := Nat.ne_of_lt (Nat.lt_of_lt_of_le fA13.lt (Nat.le_of_eq g14.symm))
        have ge_o14 : n0 ≤ o14 := Nat.le_trans Zs13 (Nat.le_of_eq g14.symm)
        have geh_o14 : h0.size ≤ o14 := Nat.le_trans K13.1 (Nat.le_of_eq g14.symm)
        have f14_0 : Arv Z h14 r11 k11 .char (2 : Int32) [(.int p2), (.int p3)] (.int (0 : Int32)) := (fA13.ext E14)
        have f14_1 : Exa Z h14 o14 "java/lang/String" := A14
        have f14_2 : Fld Z h14 o14 "java/lang/String" "value" "[B" .null := (D14 (Or.inr (hw _ (List.mem_of_getElem? (i := 24) rfl))) (ty := (.array .byte)) (by decide))
        have f14_3 : Fld Z h14 o14 "java/lang/String" "coder" "B" (.int (0 : Int32)) := (D14 (Or.inr (hw _ (List.mem_of_getElem? (i := 25) rfl))) (ty := .byte) (by decide))
        have sf14_o14 : Safe Z own_EL s.vm h14 o14 := Safe.ext E14 C13.1 (Safe.new (Nat.le_of_eq g14.symm))
        have hk14 : _ ≤ h14.size := Nat.le_trans hk13 E14.1
        have C14 : CHr Z own_EL s.vm h0 s.vm h14 := C13.trans (CHr.ext E14 C13.1)
        have Zs14 : n0 ≤ h14.size := (Nat.le_trans Zs13 E14.1)
        have O14 : Old Z n0 h14 := O13.ext E14
        have K14 : Keep h0 h14 [] := K13.ext E14
        refine GoH.step st14 ?_
        show GoH _ _ _ _ _ _ _ _ _ _ T14 (mkF m 63 #[.val (.int p1), .val (.int p2), .val (.int p3), .val (.int p4), .val (.int p5), .val (.ref r11)] [(.ref o14)])
        refine GoH.step (fun t_ k_ => XS.dup X14.here hx rfl (hb hby d2_63) rfl rfl k_) ?_
        show GoH _ _ _ _ _ _ _ _ _ _ T14 (mkF m 64 #[.val (.int p1), .val (.int p2), .val (.int p3), .val (.int p4), .val (.int p5), .val (.ref r11)] [(.ref o14), (.ref o14)])
        refine GoH.step (fun t_ k_ => XS.aload X14.here hx rfl (hb hby d2_64) rfl rfl k_) ?_
        show GoH _ _ _ _ _ _ _ _ _ _ T14 (mkF m 66 #[.val (.int p1), .val (.int p2), .val (.int p3), .val (.int p4), .val (.int p5), .val (.ref r11)] [(.ref r11), (.ref o14), (.ref o14)])
        have hp15 : ∀ c ∈ ([p2, p3] : List Int32), ¬ c < 0 ∧ ¬ (255 : Int32) < c := by
          intro c hc
          simp only [List.mem_cons, List.not_mem_nil, or_false] at hc
          rcases hc with rfl | rfl
          · exact rg2.1
          · exact rg3.1
        obtain ⟨_, _, ⟨T15, L15, k15, n15⟩, -, X15, ⟨Lc15, hQ15, l15, y15, z15⟩, st15⟩ := X14.specialBack hx (y := (⟨"java/lang/String", "<init>", "([C)V"⟩ : MethodName)) rfl hown0 (mvT hZ0 (hw _ (List.mem_of_getElem? (i := 12) rfl))) (mvT hZ0 (hw _ (List.mem_of_getElem? (i := 13) rfl))) (mvT hZ0 (hw _ (List.mem_of_getElem? (i := 14) rfl))) (by decide) (StrChars.Road.backV (W := 1) hZ0 (own_words hw) (kI := 4) (hw _ (List.mem_of_getElem? (i := 9) rfl)) (cs := ([p2, p3] : List Int32)) (bs := ([p2, p3] : List Int32).map (fun c => c.toInt8.toInt32)) (n := 2) ge_o14 Zs14 f14_1 f14_2 f14_3 f14_0 (S_COMPACT.ext O14.2) P_COMPACT rfl rfl (by decide) (by decide) hp15 rfl (by decide) (by decide)) (g := (mkF m 66 #[.val (.int p1), .val (.int p2), .val (.int p3), .val (.int p4), .val (.int p5), .val (.ref r11)] [(.ref r11), (.ref o14), (.ref o14)])) rfl (by rw [hml]; rfl) (Steps.refl _) (a := o14) (argsL := [(.ref r11)]) (rest := [(.ref o14)]) (lenOf pd_1 rfl) rfl (by show 2 * 0 + _ ≤ _; exact Nat.le_of_eq rfl) (hb hby d2_66) (fun _ _ => ⟨rfl, e14, (by decide : 0 + 1 + 1 + 1 ≤ _), (by decide : 0 + 2 + 4 + 2 ≤ _)⟩)
        dsimp only [Pt.U, Pt.locs, Pt.cells, Pt.slots] at X15 l15 y15 z15 st15 hQ15
        subst l15 y15 z15
        obtain ⟨rfl, N15q, Kq15, Eq15, Cq15, tb15, kb15, u15, v15, w15, Vq15, Aq15⟩ := hQ15
        have N15 := Fr.app N13 N15q
        have ne_r11_tb15 : r11 ≠ tb15 := Nat.ne_of_lt (Nat.lt_of_lt_of_le f14_0.lt v15)
        have ne_o14_tb15 : o14 ≠ tb15 := Nat.ne_of_lt (Nat.lt_of_lt_of_le f14_1.lt v15)
        have geh_tb15 : h0.size ≤ tb15 := Nat.le_trans K14.1 v15
        have f15_0 : Arv Z T15.heap r11 k11 .char (2 : Int32) [(.int p2), (.int p3)] (.int (0 : Int32)) := (f14_0.keep Kq15 (ninS ne_r11_o14 nin0))
        have f15_1 : Exa Z T15.heap o14 "java/lang/String" := Eq15
        have f15_2 : Fld Z T15.heap o14 "java/lang/String" "coder" "B" (.int (0 : Int32)) := Cq15
        have f15_3 : Fld Z T15.heap o14 "java/lang/String" "value" "[B" (.ref tb15) := Vq15
        have f15_4 : Arv Z T15.heap tb15 kb15 .byte (2 : Int32) ((([p2, p3] : List Int32).map (fun c => c.toInt8.toInt32)).map Value.int) (.int (0 : Int32)) := Aq15
        have sfk15 : ∀ x ∈ ([o14] : List Addr), Safe Z own_EL s.vm h14 x := (sfS sf14_o14 sf0)
        have sf15_o14 : Safe Z own_EL s.vm T15.heap o14 := Safe.keep Kq15 sfk15 C14.1 sf14_o14
        have hk15 : _ ≤ T15.heap.size := Nat.le_trans hk14 Kq15.1
        have C15 : CHr Z own_EL s.vm h0 s.vm T15.heap := C14.trans (CHr.keep Kq15 sfk15 C14.1)
        have Zs15 : n0 ≤ T15.heap.size := (Nat.le_trans Zs14 Kq15.1)
        have O15 : Old Z n0 T15.heap := O14.keep Kq15 (allS ge_o14 all0)
        have K15 : Keep h0 T15.heap [] := K14.trans Kq15 (allS (Or.inr geh_o14) all0)
        refine GoH.step (fun t_ k_ => st15.trans k_) ?_
        show GoH _ _ _ _ _ _ _ _ _ _ T15 (mkF m 69 #[.val (.int p1), .val (.int p2), .val (.int p3), .val (.int p4), .val (.int p5), .val (.ref r11)] [(.ref o14)])
        have hkr := hk15
        have hCr := C15
        refine GoH.ret X15 hx hlk hS0 hkr hZ0 hEL hCr hret rfl (Or.inr (Or.inr (Or.inr (Or.inr ⟨rfl, rfl, rfl⟩)))) (hb hby d2_69) ?_ (by decide) (by decide)
        show QMk Z _ _ _ _ _ _ _ _ _ T15.heap _
        exact ⟨o14, tb15, kb15, ([p2, p3] : List Int32), rfl, hp15, (Nat.le_of_ble_eq_true rfl), N15, K15, geh_o14, f15_1, f15_2, f15_3, f15_4⟩
      · refine GoH.step (fun t_ k_ => XS.icmpYes X0.here hx rfl (pc0 := 42) (pc' := 70) rfl (hb hby d2_42) rfl (XT.ii_ne_t hb42_10) (by decide) (by decide) k_) ?_
        show GoH _ _ _ _ _ _ _ _ _ _ s₁ (mkF m 70 #[.val (.int p1), .val (.int p2), .val (.int p3), .val (.int p4), .val (.int p5), .unset] [])
        refine GoH.step (fun t_ k_ => XS.iloadN X0.here hx rfl (hb hby d2_70) rfl k_) ?_
        show GoH _ _ _ _ _ _ _ _ _ _ s₁ (mkF m 71 #[.val (.int p1), .val (.int p2), .val (.int p3), .val (.int p4), .val (.int p5), .unset] [(.int p1)])
        refine GoH.step (fun t_ k_ => XS.iconst X0.here hx rfl (hb hby d2_71) k_) ?_
        show GoH _ _ _ _ _ _ _ _ _ _ s₁ (mkF m 72 #[.val (.int p1), .val (.int p2), .val (.int p3), .val (.int p4), .val (.int p5), .unset] [(.int (3 : Int32)), (.int p1)])
        by_cases hb72_16 : p1 = (3 : Int32)
        · refine GoH.step (fun t_ k_ => XS.icmpNo X0.here hx rfl (hb hby d2_72) rfl (XT.ii_ne_f hb72_16) k_) ?_
          show GoH _ _ _ _ _ _ _ _ _ _ s₁ (mkF m 75 #[.val (.int p1), .val (.int p2), .val (.int p3), .val (.int p4), .val (.int p5), .unset] [])
          refine GoH.step (fun t_ k_ => XS.iconst X0.here hx rfl (hb hby d2_75) k_) ?_
          show GoH _ _ _ _ _ _ _ _ _ _ s₁ (mkF m 76 #[.val (.int p1), .val (.int p2), .val (.int p3), .val (.int p4), .val (.int p5), .unset] [(.int (3 : Int32))])
          obtain ⟨T17, h17, k17, X17, e17, E17, A17, st17⟩ := newP X0 hx hZ0 (hw _ (List.mem_of_getElem? (i := 11) rfl)) e0 (g := (mkF m 76 #[.val (.int p1), .val (.int p2), .val (.int p3), .val (.int p4), .val (.int p5), .unset] [(.int (3 : Int32))])) rfl (hb hby d2_76) rfl (by decide) (cap := 3) (by decide) (by decide) (by decide) (by decide)
          obtain ⟨r17, g17⟩ : ∃ z, z = h0.size := ⟨_, rfl⟩
          rw [← g17] at A17 st17
          have ge_r17 : n0 ≤ r17 := Nat.le_trans Z0 (Nat.le_of_eq g17.symm)
          have geh_r17 : h0.size ≤ r17 := Nat.le_trans K0.1 (Nat.le_of_eq g17.symm)
          have f17_0 : Arv Z h17 r17 k17 .char (3 : Int32) [(.int (0 : Int32)), (.int (0 : Int32)), (.int (0 : Int32))] (.int (0 : Int32)) := ((Arv.new A17 (by decide)).pad (pad_rep [] (.int (0 : Int32)) 3))
          have hk17 : _ ≤ h17.size := Nat.le_trans hk0 E17.1
          have C17 : CHr Z own_EL s.vm h0 s.vm h17 := C0.trans (CHr.ext E17 C0.1)
          have Zs17 : n0 ≤ h17.size := (Nat.le_trans Z0 E17.1)
          have O17 : Old Z n0 h17 := O0.ext E17
          have K17 : Keep h0 h17 [] := K0.ext E17
          refine GoH.step st17 ?_
          show GoH _ _ _ _ _ _ _ _ _ _ T17 (mkF m 78 #[.val (.int p1), .val (.int p2), .val (.int p3), .val (.int p4), .val (.int p5), .unset] [(.ref r17)])
          refine GoH.step (fun t_ k_ => XS.astore X17.here hx rfl (hb hby d2_78) rfl rfl (l' := #[.val (.int p1), .val (.int p2), .val (.int p3), .val (.int p4), .val (.int p5), .val (.ref r17)]) rfl k_) ?_
          show GoH _ _ _ _ _ _ _ _ _ _ T17 (mkF m 80 #[.val (.int p1), .val (.int p2), .val (.int p3), .val (.int p4), .val (.int p5), .val (.ref r17)] [])
          refine GoH.step (fun t_ k_ => XS.aload X17.here hx rfl (hb hby d2_80) rfl rfl k_) ?_
          show GoH _ _ _ _ _ _ _ _ _ _ T17 (mkF m 82 #[.val (.int p1), .val (.int p2), .val (.int p3), .val (.int p4), .val (.int p5), .val (.ref r17)] [(.ref r17)])
          refine GoH.step (fun t_ k_ => XS.iconst X17.here hx rfl (hb hby d2_82) k_) ?_
          show GoH _ _ _ _ _ _ _ _ _ _ T17 (mkF m 83 #[.val (.int p1), .val (.int p2), .val (.int p3), .val (.int p4), .val (.int p5), .val (.ref r17)] [(.int (0 : Int32)), (.ref r17)])
          refine GoH.step (fun t_ k_ => XS.iloadN X17.here hx rfl (hb hby d2_83) rfl k_) ?_
          show GoH _ _ _ _ _ _ _ _ _ _ T17 (mkF m 84 #[.val (.int p1), .val (.int p2), .val (.int p3), .val (.int p4), .val (.int p5), .val (.ref r17)] [(.int p2), (.int (0 : Int32)), (.ref r17)])
          obtain ⟨c18, Ar18, q18, S18, M18, H18, U18⟩ := id f17_0
          obtain ⟨T18, h18, X18, e18, W18, st18⟩ := stC X17 hx hZ0 e17 Ar18 (j := (0 : Int32)) (inb_of S18 ⟨(by decide), (by decide)⟩) (g := (mkF m 84 #[.val (.int p1), .val (.int p2), .val (.int p3), .val (.int p4), .val (.int p5), .val (.ref r17)] [(.int p2), (.int (0 : Int32)), (.ref r17)])) rfl rfl (hb hby d2_84)
          have N18 := Fr.snoc X18 N0 ge_r17
          refine GoH.step st18 ?_
          have sfw18 : Safe Z own_EL s.vm _ r17 := (Safe.arv hZ0.alike f17_0 (by decide))
          have hk18 : _ ≤ h18.size := Nat.le_trans hk17 (Keep.of_wr W18).1
          have C18 : CHr Z own_EL s.vm h0 s.vm h18 := C17.trans (CHr.wr W18 sfw18 C17.1)
          have Zs18 : n0 ≤ h18.size := (Nat.le_trans Zs17 (Keep.of_wr W18).1)
          have O18 : Old Z n0 h18 := O17.wr W18 ge_r17
          have K18 : Keep h0 h18 [] := K17.wr W18 (Or.inr geh_r17)
          have fA18 : Arv Z h18 r17 k17 .char (3 : Int32) [(.int p2), (.int (0 : Int32)), (.int (0 : Int32))] (.int (0 : Int32)) := by have q := (Arv.set Ar18 q18 S18 M18 H18 U18 (fits_nar_char _) W18 0 rfl (Nat.le_of_ble_eq_true rfl)); rw [rg2.2] at q; exact q
          show GoH _ _ _ _ _ _ _ _ _ _ T18 (mkF m 85 #[.val (.int p1), .val (.int p2), .val (.int p3), .val (.int p4), .val (.int p5), .val (.ref r17)] [])
          refine GoH.step (fun t_ k_ => XS.aload X18.here hx rfl (hb hby d2_85) rfl rfl k_) ?_
          show GoH _ _ _ _ _ _ _ _ _ _ T18 (mkF m 87 #[.val (.int p1), .val (.int p2), .val (.int p3), .val (.int p4), .val (.int p5), .val (.ref r17)] [(.ref r17)])
          refine GoH.step (fun t_ k_ => XS.iconst X18.here hx rfl (hb hby d2_87) k_) ?_
          show GoH _ _ _ _ _ _ _ _ _ _ T18 (mkF m 88 #[.val (.int p1), .val (.int p2), .val (.int p3), .val (.int p4), .val (.int p5), .val (.ref r17)] [(.int (1 : Int32)), (.ref r17)])
          refine GoH.step (fun t_ k_ => XS.iloadN X18.here hx rfl (hb hby d2_88) rfl k_) ?_
          show GoH _ _ _ _ _ _ _ _ _ _ T18 (mkF m 89 #[.val (.int p1), .val (.int p2), .val (.int p3), .val (.int p4), .val (.int p5), .val (.ref r17)] [(.int p3), (.int (1 : Int32)), (.ref r17)])
          obtain ⟨c19, Ar19, q19, S19, M19, H19, U19⟩ := id fA18
          obtain ⟨T19, h19, X19, e19, W19, st19⟩ := stC X18 hx hZ0 e18 Ar19 (j := (1 : Int32)) (inb_of S19 ⟨(by decide), (by decide)⟩) (g := (mkF m 89 #[.val (.int p1), .val (.int p2), .val (.int p3), .val (.int p4), .val (.int p5), .val (.ref r17)] [(.int p3), (.int (1 : Int32)), (.ref r17)])) rfl rfl (hb hby d2_89)
          have N19 := Fr.snoc X19 N18 ge_r17
          refine GoH.step st19 ?_
          have sfw19 : Safe Z own_EL s.vm _ r17 := (Safe.arv hZ0.alike fA18 (by decide))
          have hk19 : _ ≤ h19.size := Nat.le_trans hk18 (Keep.of_wr W19).1
          have C19 : CHr Z own_EL s.vm h0 s.vm h19 := C18.trans (CHr.wr W19 sfw19 C18.1)
          have Zs19 : n0 ≤ h19.size := (Nat.le_trans Zs18 (Keep.of_wr W19).1)
          have O19 : Old Z n0 h19 := O18.wr W19 ge_r17
          have K19 : Keep h0 h19 [] := K18.wr W19 (Or.inr geh_r17)
          have fA19 : Arv Z h19 r17 k17 .char (3 : Int32) [(.int p2), (.int p3), (.int (0 : Int32))] (.int (0 : Int32)) := by have q := (Arv.set Ar19 q19 S19 M19 H19 U19 (fits_nar_char _) W19 1 rfl (Nat.le_of_ble_eq_true rfl)); rw [rg3.2] at q; exact q
          show GoH _ _ _ _ _ _ _ _ _ _ T19 (mkF m 90 #[.val (.int p1), .val (.int p2), .val (.int p3), .val (.int p4), .val (.int p5), .val (.ref r17)] [])
          refine GoH.step (fun t_ k_ => XS.aload X19.here hx rfl (hb hby d2_90) rfl rfl k_) ?_
          show GoH _ _ _ _ _ _ _ _ _ _ T19 (mkF m 92 #[.val (.int p1), .val (.int p2), .val (.int p3), .val (.int p4), .val (.int p5), .val (.ref r17)] [(.ref r17)])
          refine GoH.step (fun t_ k_ => XS.iconst X19.here hx rfl (hb hby d2_92) k_) ?_
          show GoH _ _ _ _ _ _ _ _ _ _ T19 (mkF m 93 #[.val (.int p1), .val (.int p2), .val (.int p3), .val (.int p4), .val (.int p5), .val (.ref r17)] [(.int (2 : Int32)), (.ref r17)])
          refine GoH.step (fun t_ k_ => XS.iloadN X19.here hx rfl (hb hby d2_93) rfl k_) ?_
          show GoH _ _ _ _ _ _ _ _ _ _ T19 (mkF m 94 #[.val (.int p1), .val (.int p2), .val (.int p3), .val (.int p4), .val (.int p5), .val (.ref r17)] [(.int p4), (.int (2 : Int32)), (.ref r17)])
          obtain ⟨c20, Ar20, q20, S20, M20, H20, U20⟩ := id fA19
          obtain ⟨T20, h20, X20, e20, W20, st20⟩ := stC X19 hx hZ0 e19 Ar20 (j := (2 : Int32)) (inb_of S20 ⟨(by decide), (by decide)⟩) (g := (mkF m 94 #[.val (.int p1), .val (.int p2), .val (.int p3), .val (.int p4), .val (.int p5), .val (.ref r17)] [(.int p4), (.int (2 : Int32)), (.ref r17)])) rfl rfl (hb hby d2_94)
          have N20 := Fr.snoc X20 N19 ge_r17
          refine GoH.step st20 ?_
          have sfw20 : Safe Z own_EL s.vm _ r17 := (Safe.arv hZ0.alike fA19 (by decide))
          have hk20 : _ ≤ h20.size := Nat.le_trans hk19 (Keep.of_wr W20).1
          have C20 : CHr Z own_EL s.vm h0 s.vm h20 := C19.trans (CHr.wr W20 sfw20 C19.1)
          have Zs20 : n0 ≤ h20.size := (Nat.le_trans Zs19 (Keep.of_wr W20).1)
          have O20 : Old Z n0 h20 := O19.wr W20 ge_r17
          have K20 : Keep h0 h20 [] := K19.wr W20 (Or.inr geh_r17)
          have fA20 : Arv Z h20 r17 k17 .char (3 : Int32) [(.int p2), (.int p3), (.int p4)] (.int (0 : Int32)) := by have q := (Arv.set Ar20 q20 S20 M20 H20 U20 (fits_nar_char _) W20 2 rfl (Nat.le_of_ble_eq_true rfl)); rw [rg4.2] at q; exact q
          show GoH _ _ _ _ _ _ _ _ _ _ T20 (mkF m 95 #[.val (.int p1), .val (.int p2), .val (.int p3), .val (.int p4), .val (.int p5), .val (.ref r17)] [])
          obtain ⟨T21, h21, X21, e21, E21, A21, D21, -, st21⟩ := newO X20 hx hZ0 hown0 (hw _ (List.mem_of_getElem? (i := 8) rfl)) (hw _ (List.mem_of_getElem? (i := 9) rfl)) (hw _ (List.mem_of_getElem? (i := 10) rfl)) e20 (g := (mkF m 95 #[.val (.int p1), .val (.int p2), .val (.int p3), .val (.int p4), .val (.int p5), .val (.ref r17)] [])) rfl (hb hby d2_95) (by decide) (by decide)
          obtain ⟨o21, g21⟩ : ∃ z, z = h20.size := ⟨_, rfl⟩
          rw [← g21] at A21 D21 st21
          have ne_r17_o21 : r17 ≠ o21 := Nat.ne_of_lt (Nat.lt_of_lt_of_le fA20.lt (Nat.le_of_eq g21.symm))
          have ge_o21 : n0 ≤ o21 := Nat.le_trans Zs20 (Nat.le_of_eq g21.symm)
          have geh_o21 : h0.size ≤ o21 := Nat.le_trans K20.1 (Nat.le_of_eq g21.symm)
          have f21_0 : Arv Z h21 r17 k17 .char (3 : Int32) [(.int p2), (.int p3), (.int p4)] (.int (0 : Int32)) := (fA20.ext E21)
          have f21_1 : Exa Z h21 o21 "java/lang/String" := A21
          have f21_2 : Fld Z h21 o21 "java/lang/String" "value" "[B" .null := (D21 (Or.inr (hw _ (List.mem_of_getElem? (i := 24) rfl))) (ty := (.array .byte)) (by decide))
          have f21_3 : Fld Z h21 o21 "java/lang/String" "coder" "B" (.int (0 : Int32)) := (D21 (Or.inr (hw _ (List.mem_of_getElem? (i := 25) rfl))) (ty := .byte) (by decide))
          have sf21_o21 : Safe Z own_EL s.vm h21 o21 := Safe.ext E21 C20.1 (Safe.new (Nat.le_of_eq g21.symm))
          have hk21 : _ ≤ h21.size := Nat.le_trans hk20 E21.1
          have C21 : CHr Z own_EL s.vm h0 s.vm h21 := C20.trans (CHr.ext E21 C20.1)
          have Zs21 : n0 ≤ h21.size := (Nat.le_trans Zs20 E21.1)
          have O21 : Old Z n0 h21 := O20.ext E21
          have K21 : Keep h0 h21 [] := K20.ext E21
          refine GoH.step st21 ?_
          show GoH _ _ _ _ _ _ _ _ _ _ T21 (mkF m 98 #[.val (.int p1), .val (.int p2), .val (.int p3), .val (.int p4), .val (.int p5), .val (.ref r17)] [(.ref o21)])
          refine GoH.step (fun t_ k_ => XS.dup X21.here hx rfl (hb hby d2_98) rfl rfl k_) ?_
          show GoH _ _ _ _ _ _ _ _ _ _ T21 (mkF m 99 #[.val (.int p1), .val (.int p2), .val (.int p3), .val (.int p4), .val (.int p5), .val (.ref r17)] [(.ref o21), (.ref o21)])
          refine GoH.step (fun t_ k_ => XS.aload X21.here hx rfl (hb hby d2_99) rfl rfl k_) ?_
          show GoH _ _ _ _ _ _ _ _ _ _ T21 (mkF m 101 #[.val (.int p1), .val (.int p2), .val (.int p3), .val (.int p4), .val (.int p5), .val (.ref r17)] [(.ref r17), (.ref o21), (.ref o21)])
          have hp22 : ∀ c ∈ ([p2, p3, p4] : List Int32), ¬ c < 0 ∧ ¬ (255 : Int32) < c := by
            intro c hc
            simp only [List.mem_cons, List.not_mem_nil, or_false] at hc
            rcases hc with rfl | rfl | rfl
            · exact rg2.1
            · exact rg3.1
            · exact rg4.1
          obtain ⟨_, _, ⟨T22, L22, k22, n22⟩, -, X22, ⟨Lc22, hQ22, l22, y22, z22⟩, st22⟩ := X21.specialBack hx (y := (⟨"java/lang/String", "<init>", "([C)V"⟩ : MethodName)) rfl hown0 (mvT hZ0 (hw _ (List.mem_of_getElem? (i := 12) rfl))) (mvT hZ0 (hw _ (List.mem_of_getElem? (i := 13) rfl))) (mvT hZ0 (hw _ (List.mem_of_getElem? (i := 14) rfl))) (by decide) (StrChars.Road.backV (W := 1) hZ0 (own_words hw) (kI := 4) (hw _ (List.mem_of_getElem? (i := 9) rfl)) (cs := ([p2, p3, p4] : List Int32)) (bs := ([p2, p3, p4] : List Int32).map (fun c => c.toInt8.toInt32)) (n := 3) ge_o21 Zs21 f21_1 f21_2 f21_3 f21_0 (S_COMPACT.ext O21.2) P_COMPACT rfl rfl (by decide) (by decide) hp22 rfl (by decide) (by decide)) (g := (mkF m 101 #[.val (.int p1), .val (.int p2), .val (.int p3), .val (.int p4), .val (.int p5), .val (.ref r17)] [(.ref r17), (.ref o21), (.ref o21)])) rfl (by rw [hml]; rfl) (Steps.refl _) (a := o21) (argsL := [(.ref r17)]) (rest := [(.ref o21)]) (lenOf pd_1 rfl) rfl (by show 2 * 0 + _ ≤ _; exact Nat.le_of_eq rfl) (hb hby d2_101) (fun _ _ => ⟨rfl, e21, (by decide : 0 + 1 + 1 + 1 ≤ _), (by decide : 0 + 3 + 4 + 3 ≤ _)⟩)
          dsimp only [Pt.U, Pt.locs, Pt.cells, Pt.slots] at X22 l22 y22 z22 st22 hQ22
          subst l22 y22 z22
          obtain ⟨rfl, N22q, Kq22, Eq22, Cq22, tb22, kb22, u22, v22, w22, Vq22, Aq22⟩ := hQ22
          have N22 := Fr.app N20 N22q
          have ne_r17_tb22 : r17 ≠ tb22 := Nat.ne_of_lt (Nat.lt_of_lt_of_le f21_0.lt v22)
          have ne_o21_tb22 : o21 ≠ tb22 := Nat.ne_of_lt (Nat.lt_of_lt_of_le f21_1.lt v22)
          have geh_tb22 : h0.size ≤ tb22 := Nat.le_trans K21.1 v22
          have f22_0 : Arv Z T22.heap r17 k17 .char (3 : Int32) [(.int p2), (.int p3), (.int p4)] (.int (0 : Int32)) := (f21_0.keep Kq22 (ninS ne_r17_o21 nin0))
          have f22_1 : Exa Z T22.heap o21 "java/lang/String" := Eq22
          have f22_2 : Fld Z T22.heap o21 "java/lang/String" "coder" "B" (.int (0 : Int32)) := Cq22
          have f22_3 : Fld Z T22.heap o21 "java/lang/String" "value" "[B" (.ref tb22) := Vq22
          have f22_4 : Arv Z T22.heap tb22 kb22 .byte (3 : Int32) ((([p2, p3, p4] : List Int32).map (fun c => c.toInt8.toInt32)).map Value.int) (.int (0 : Int32)) := Aq22
          have sfk22 : ∀ x ∈ ([o21] : List Addr), Safe Z own_EL s.vm h21 x := (sfS sf21_o21 sf0)
          have sf22_o21 : Safe Z own_EL s.vm T22.heap o21 := Safe.keep Kq22 sfk22 C21.1 sf21_o21
          have hk22 : _ ≤ T22.heap.size := Nat.le_trans hk21 Kq22.1
          have C22 : CHr Z own_EL s.vm h0 s.vm T22.heap := C21.trans (CHr.keep Kq22 sfk22 C21.1)
          have Zs22 : n0 ≤ T22.heap.size := (Nat.le_trans Zs21 Kq22.1)
          have O22 : Old Z n0 T22.heap := O21.keep Kq22 (allS ge_o21 all0)
          have K22 : Keep h0 T22.heap [] := K21.trans Kq22 (allS (Or.inr geh_o21) all0)
          refine GoH.step (fun t_ k_ => st22.trans k_) ?_
          show GoH _ _ _ _ _ _ _ _ _ _ T22 (mkF m 104 #[.val (.int p1), .val (.int p2), .val (.int p3), .val (.int p4), .val (.int p5), .val (.ref r17)] [(.ref o21)])
          have hkr := hk22
          have hCr := C22
          refine GoH.ret X22 hx hlk hS0 hkr hZ0 hEL hCr hret rfl (Or.inr (Or.inr (Or.inr (Or.inr ⟨rfl, rfl, rfl⟩)))) (hb hby d2_104) ?_ (by decide) (by decide)
          show QMk Z _ _ _ _ _ _ _ _ _ T22.heap _
          exact ⟨o21, tb22, kb22, ([p2, p3, p4] : List Int32), rfl, hp22, (Nat.le_of_ble_eq_true rfl), N22, K22, geh_o21, f22_1, f22_2, f22_3, f22_4⟩
        · refine GoH.step (fun t_ k_ => XS.icmpYes X0.here hx rfl (pc0 := 72) (pc' := 105) rfl (hb hby d2_72) rfl (XT.ii_ne_t hb72_16) (by decide) (by decide) k_) ?_
          show GoH _ _ _ _ _ _ _ _ _ _ s₁ (mkF m 105 #[.val (.int p1), .val (.int p2), .val (.int p3), .val (.int p4), .val (.int p5), .unset] [])
          refine GoH.step (fun t_ k_ => XS.iconst X0.here hx rfl (hb hby d2_105) k_) ?_
          show GoH _ _ _ _ _ _ _ _ _ _ s₁ (mkF m 106 #[.val (.int p1), .val (.int p2), .val (.int p3), .val (.int p4), .val (.int p5), .unset] [(.int (4 : Int32))])
          obtain ⟨T23, h23, k23, X23, e23, E23, A23, st23⟩ := newP X0 hx hZ0 (hw _ (List.mem_of_getElem? (i := 11) rfl)) e0 (g := (mkF m 106 #[.val (.int p1), .val (.int p2), .val (.int p3), .val (.int p4), .val (.int p5), .unset] [(.int (4 : Int32))])) rfl (hb hby d2_106) rfl (by decide) (cap := 4) (by decide) (by decide) (by decide) (by decide)
          obtain ⟨r23, g23⟩ : ∃ z, z = h0.size := ⟨_, rfl⟩
          rw [← g23] at A23 st23
          have ge_r23 : n0 ≤ r23 := Nat.le_trans Z0 (Nat.le_of_eq g23.symm)
          have geh_r23 : h0.size ≤ r23 := Nat.le_trans K0.1 (Nat.le_of_eq g23.symm)
          have f23_0 : Arv Z h23 r23 k23 .char (4 : Int32) [(.int (0 : Int32)), (.int (0 : Int32)), (.int (0 : Int32)), (.int (0 : Int32))] (.int (0 : Int32)) := ((Arv.new A23 (by decide)).pad (pad_rep [] (.int (0 : Int32)) 4))
          have hk23 : _ ≤ h23.size := Nat.le_trans hk0 E23.1
          have C23 : CHr Z own_EL s.vm h0 s.vm h23 := C0.trans (CHr.ext E23 C0.1)
          have Zs23 : n0 ≤ h23.size := (Nat.le_trans Z0 E23.1)
          have O23 : Old Z n0 h23 := O0.ext E23
          have K23 : Keep h0 h23 [] := K0.ext E23
          refine GoH.step st23 ?_
          show GoH _ _ _ _ _ _ _ _ _ _ T23 (mkF m 108 #[.val (.int p1), .val (.int p2), .val (.int p3), .val (.int p4), .val (.int p5), .unset] [(.ref r23)])
          refine GoH.step (fun t_ k_ => XS.astore X23.here hx rfl (hb hby d2_108) rfl rfl (l' := #[.val (.int p1), .val (.int p2), .val (.int p3), .val (.int p4), .val (.int p5), .val (.ref r23)]) rfl k_) ?_
          show GoH _ _ _ _ _ _ _ _ _ _ T23 (mkF m 110 #[.val (.int p1), .val (.int p2), .val (.int p3), .val (.int p4), .val (.int p5), .val (.ref r23)] [])
          refine GoH.step (fun t_ k_ => XS.aload X23.here hx rfl (hb hby d2_110) rfl rfl k_) ?_
          show GoH _ _ _ _ _ _ _ _ _ _ T23 (mkF m 112 #[.val (.int p1), .val (.int p2), .val (.int p3), .val (.int p4), .val (.int p5), .val (.ref r23)] [(.ref r23)])
          refine GoH.step (fun t_ k_ => XS.iconst X23.here hx rfl (hb hby d2_112) k_) ?_
          show GoH _ _ _ _ _ _ _ _ _ _ T23 (mkF m 113 #[.val (.int p1), .val (.int p2), .val (.int p3), .val (.int p4), .val (.int p5), .val (.ref r23)] [(.int (0 : Int32)), (.ref r23)])
          refine GoH.step (fun t_ k_ => XS.iloadN X23.here hx rfl (hb hby d2_113) rfl k_) ?_
          show GoH _ _ _ _ _ _ _ _ _ _ T23 (mkF m 114 #[.val (.int p1), .val (.int p2), .val (.int p3), .val (.int p4), .val (.int p5), .val (.ref r23)] [(.int p2), (.int (0 : Int32)), (.ref r23)])
          obtain ⟨c24, Ar24, q24, S24, M24, H24, U24⟩ := id f23_0
          obtain ⟨T24, h24, X24, e24, W24, st24⟩ := stC X23 hx hZ0 e23 Ar24 (j := (0 : Int32)) (inb_of S24 ⟨(by decide), (by decide)⟩) (g := (mkF m 114 #[.val (.int p1), .val (.int p2), .val (.int p3), .val (.int p4), .val (.int p5), .val (.ref r23)] [(.int p2), (.int (0 : Int32)), (.ref r23)])) rfl rfl (hb hby d2_114)
          have N24 := Fr.snoc X24 N0 ge_r23
          refine GoH.step st24 ?_
          have sfw24 : Safe Z own_EL s.vm _ r23 := (Safe.arv hZ0.alike f23_0 (by decide))
          have hk24 : _ ≤ h24.size := Nat.le_trans hk23 (Keep.of_wr W24).1
          have C24 : CHr Z own_EL s.vm h0 s.vm h24 := C23.trans (CHr.wr W24 sfw24 C23.1)
          have Zs24 : n0 ≤ h24.size := (Nat.le_trans Zs23 (Keep.of_wr W24).1)
          have O24 : Old Z n0 h24 := O23.wr W24 ge_r23
          have K24 : Keep h0 h24 [] := K23.wr W24 (Or.inr geh_r23)
          have fA24 : Arv Z h24 r23 k23 .char (4 : Int32) [(.int p2), (.int (0 : Int32)), (.int (0 : Int32)), (.int (0 : Int32))] (.int (0 : Int32)) := by have q := (Arv.set Ar24 q24 S24 M24 H24 U24 (fits_nar_char _) W24 0 rfl (Nat.le_of_ble_eq_true rfl)); rw [rg2.2] at q; exact q
          show GoH _ _ _ _ _ _ _ _ _ _ T24 (mkF m 115 #[.val (.int p1), .val (.int p2), .val (.int p3), .val (.int p4), .val (.int p5), .val (.ref r23)] [])
          refine GoH.step (fun t_ k_ => XS.aload X24.here hx rfl (hb hby d2_115) rfl rfl k_) ?_
          show GoH _ _ _ _ _ _ _ _ _ _ T24 (mkF m 117 #[.val (.int p1), .val (.int p2), .val (.int p3), .val (.int p4), .val (.int p5), .val (.ref r23)] [(.ref r23)])
          refine GoH.step (fun t_ k_ => XS.iconst X24.here hx rfl (hb hby d2_117) k_) ?_
          show GoH _ _ _ _ _ _ _ _ _ _ T24 (mkF m 118 #[.val (.int p1), .val (.int p2), .val (.int p3), .val (.int p4), .val (.int p5), .val (.ref r23)] [(.int (1 : Int32)), (.ref r23)])
          refine GoH.step (fun t_ k_ => XS.iloadN X24.here hx rfl (hb hby d2_118) rfl k_) ?_
          show GoH _ _ _ _ _ _ _ _ _ _ T24 (mkF m 119 #[.val (.int p1), .val (.int p2), .val (.int p3), .val (.int p4), .val (.int p5), .val (.ref r23)] [(.int p3), (.int (1 : Int32)), (.ref r23)])
          obtain ⟨c25, Ar25, q25, S25, M25, H25, U25⟩ := id fA24
          obtain ⟨T25, h25, X25, e25, W25, st25⟩ := stC X24 hx hZ0 e24 Ar25 (j := (1 : Int32)) (inb_of S25 ⟨(by decide), (by decide)⟩) (g := (mkF m 119 #[.val (.int p1), .val (.int p2), .val (.int p3), .val (.int p4), .val (.int p5), .val (.ref r23)] [(.int p3), (.int (1 : Int32)), (.ref r23)])) rfl rfl (hb hby d2_119)
          have N25 := Fr.snoc X25 N24 ge_r23
          refine GoH.step st25 ?_
          have sfw25 : Safe Z own_EL s.vm _ r23 := (Safe.arv hZ0.alike fA24 (by decide))
          have hk25 : _ ≤ h25.size := Nat.le_trans hk24 (Keep.of_wr W25).1
          have C25 : CHr Z own_EL s.vm h0 s.vm h25 := C24.trans (CHr.wr W25 sfw25 C24.1)
          have Zs25 : n0 ≤ h25.size := (Nat.le_trans Zs24 (Keep.of_wr W25).1)
          have O25 : Old Z n0 h25 := O24.wr W25 ge_r23
          have K25 : Keep h0 h25 [] := K24.wr W25 (Or.inr geh_r23)
          have fA25 : Arv Z h25 r23 k23 .char (4 : Int32) [(.int p2), (.int p3), (.int (0 : Int32)), (.int (0 : Int32))] (.int (0 : Int32)) := by have q := (Arv.set Ar25 q25 S25 M25 H25 U25 (fits_nar_char _) W25 1 rfl (Nat.le_of_ble_eq_true rfl)); rw [rg3.2] at q; exact q
          show GoH _ _ _ _ _ _ _ _ _ _ T25 (mkF m 120 #[.val (.int p1), .val (.int p2), .val (.int p3), .val (.int p4), .val (.int p5), .val (.ref r23)] [])
          refine GoH.step (fun t_ k_ => XS.aload X25.here hx rfl (hb hby d2_120) rfl rfl k_) ?_
          show GoH _ _ _ _ _ _ _ _ _ _ T25 (mkF m 122 #[.val (.int p1), .val (.int p2), .val (.int p3), .val (.int p4), .val (.int p5), .val (.ref r23)] [(.ref r23)])
          refine GoH.step (fun t_ k_ => XS.iconst X25.here hx rfl (hb hby d2_122) k_) ?_
          show GoH _ _ _ _ _ _ _ _ _ _ T25 (mkF m 123 #[.val (.int p1), .val (.int p2), .val (.int p3), .val (.int p4), .val (.int p5), .val (.ref r23)] [(.int (2 : Int32)), (.ref r23)])
          refine GoH.step (fun t_ k_ => XS.iloadN X25.here hx rfl (hb hby d2_123) rfl k_) ?_
          show GoH _ _ _ _ _ _ _ _ _ _ T25 (mkF m 124 #[.val (.int p1), .val (.int p2), .val (.int p3), .val (.int p4), .val (.int p5), .val (.ref r23)] [(.int p4), (.int (2 : Int32)), (.ref r23)])
          obtain ⟨c26, Ar26, q26, S26, M26, H26, U26⟩ := id fA25
          obtain ⟨T26, h26, X26, e26, W26, st26⟩ := stC X25 hx hZ0 e25 Ar26 (j := (2 : Int32)) (inb_of S26 ⟨(by decide), (by decide)⟩) (g := (mkF m 124 #[.val (.int p1), .val (.int p2), .val (.int p3), .val (.int p4), .val (.int p5), .val (.ref r23)] [(.int p4), (.int (2 : Int32)), (.ref r23)])) rfl rfl (hb hby d2_124)
          have N26 := Fr.snoc X26 N25 ge_r23
          refine GoH.step st26 ?_
          have sfw26 : Safe Z own_EL s.vm _ r23 := (Safe.arv hZ0.alike fA25 (by decide))
          have hk26 : _ ≤ h26.size := Nat.le_trans hk25 (Keep.of_wr W26).1
          have C26 : CHr Z own_EL s.vm h0 s.vm h26 := C25.trans (CHr.wr W26 sfw26 C25.1)
          have Zs26 : n0 ≤ h26.size := (Nat.le_trans Zs25 (Keep.of_wr W26).1)
          have O26 : Old Z n0 h26 := O25.wr W26 ge_r23
          have K26 : Keep h0 h26 [] := K25.wr W26 (Or.inr geh_r23)
          have fA26 : Arv Z h26 r23 k23 .char (4 : Int32) [(.int p2), (.int p3), (.int p4), (.int (0 : Int32))] (.int (0 : Int32)) := by have q := (Arv.set Ar26 q26 S26 M26 H26 U26 (fits_nar_char _) W26 2 rfl (Nat.le_of_ble_eq_true rfl)); rw [rg4.2] at q; exact q
          show GoH _ _ _ _ _ _ _ _ _ _ T26 (mkF m 125 #[.val (.int p1), .val (.int p2), .val (.int p3), .val (.int p4), .val (.int p5), .val (.ref r23)] [])
          refine GoH.step (fun t_ k_ => XS.aload X26.here hx rfl (hb hby d2_125) rfl rfl k_) ?_
          show GoH _ _ _ _ _ _ _ _ _ _ T26 (mkF m 127 #[.val (.int p1), .val (.int p2), .val (.int p3), .val (.int p4), .val (.int p5), .val (.ref r23)] [(.ref r23)])
          refine GoH.step (fun t_ k_ => XS.iconst X26.here hx rfl (hb hby d2_127) k_) ?_
          show GoH _ _ _ _ _ _ _ _ _ _ T26 (mkF m 128 #[.val (.int p1), .val (.int p2), .val (.int p3), .val (.int p4), .val (.int p5), .val (.ref r23)] [(.int (3 : Int32)), (.ref r23)])
          refine GoH.step (fun t_ k_ => XS.iload X26.here hx rfl (hb hby d2_128) rfl k_) ?_
          show GoH _ _ _ _ _ _ _ _ _ _ T26 (mkF m 130 #[.val (.int p1), .val (.int p2), .val (.int p3), .val (.int p4), .val (.int p5), .val (.ref r23)] [(.int p5), (.int (3 : Int32)), (.ref r23)])
          obtain ⟨c27, Ar27, q27, S27, M27, H27, U27⟩ := id fA26
          obtain ⟨T27, h27, X27, e27, W27, st27⟩ := stC X26 hx hZ0 e26 Ar27 (j := (3 : Int32)) (inb_of S27 ⟨(by decide), (by decide)⟩) (g := (mkF m 130 #[.val (.int p1), .val (.int p2), .val (.int p3), .val (.int p4), .val (.int p5), .val (.ref r23)] [(.int p5), (.int (3 : Int32)), (.ref r23)])) rfl rfl (hb hby d2_130)
          have N27 := Fr.snoc X27 N26 ge_r23
          refine GoH.step st27 ?_
          have sfw27 : Safe Z own_EL s.vm _ r23 := (Safe.arv hZ0.alike fA26 (by decide))
          have hk27 : _ ≤ h27.size := Nat.le_trans hk26 (Keep.of_wr W27).1
          have C27 : CHr Z own_EL s.vm h0 s.vm h27 := C26.trans (CHr.wr W27 sfw27 C26.1)
          have Zs27 : n0 ≤ h27.size := (Nat.le_trans Zs26 (Keep.of_wr W27).1)
          have O27 : Old Z n0 h27 := O26.wr W27 ge_r23
          have K27 : Keep h0 h27 [] := K26.wr W27 (Or.inr geh_r23)
          have fA27 : Arv Z h27 r23 k23 .char (4 : Int32) [(.int p2), (.int p3), (.int p4), (.int p5)] (.int (0 : Int32)) := by have q := (Arv.set Ar27 q27 S27 M27 H27 U27 (fits_nar_char _) W27 3 rfl (Nat.le_of_ble_eq_true rfl)); rw [rg5.2] at q; exact q
          show GoH _ _ _ _ _ _ _ _ _ _ T27 (mkF m 131 #[.val (.int p1), .val (.int p2), .val (.int p3), .val (.int p4), .val (.int p5), .val (.ref r23)] [])
          obtain ⟨T28, h28, X28, e28, E28, A28, D28, -, st28⟩ := newO X27 hx hZ0 hown0 (hw _ (List.mem_of_getElem? (i := 8) rfl)) (hw _ (List.mem_of_getElem? (i := 9) rfl)) (hw _ (List.mem_of_getElem? (i := 10) rfl)) e27 (g := (mkF m 131 #[.val (.int p1), .val (.int p2), .val (.int p3), .val (.int p4), .val (.int p5), .val (.ref r23)] [])) rfl (hb hby d2_131) (by decide) (by decide)
          obtain ⟨o28, g28⟩ : ∃ z, z = h27.size := ⟨_, rfl⟩
          rw [← g28] at A28 D28 st28
          have ne_r23_o28 : r23 ≠ o28 := Nat.ne_of_lt (Nat.lt_of_lt_of_le fA27.lt (Nat.le_of_eq g28.symm))
          have ge_o28 : n0 ≤ o28 := Nat.le_trans Zs27 (Nat.le_of_eq g28.symm)
          have geh_o28 : h0.size ≤ o28 := Nat.le_trans K27.1 (Nat.le_of_eq g28.symm)
          have f28_0 : Arv Z h28 r23 k23 .char (4 : Int32) [(.int p2), (.int p3), (.int p4), (.int p5)] (.int (0 : Int32)) := (fA27.ext E28)
          have f28_1 : Exa Z h28 o28 "java/lang/String" := A28
          have f28_2 : Fld Z h28 o28 "java/lang/String" "value" "[B" .null := (D28 (Or.inr (hw _ (List.mem_of_getElem? (i := 24) rfl))) (ty := (.array .byte)) (by decide))
          have f28_3 : Fld Z h28 o28 "java/lang/String" "coder" "B" (.int (0 : Int32)) := (D28 (Or.inr (hw _ (List.mem_of_getElem? (i := 25) rfl))) (ty := .byte) (by decide))
          have sf28_o28 : Safe Z own_EL s.vm h28 o28 := Safe.ext E28 C27.1 (Safe.new (Nat.le_of_eq g28.symm))
          have hk28 : _ ≤ h28.size := Nat.le_trans hk27 E28.1
          have C28 : CHr Z own_EL s.vm h0 s.vm h28 := C27.trans (CHr.ext E28 C27.1)
          have Zs28 : n0 ≤ h28.size := (Nat.le_trans Zs27 E28.1)
          have O28 : Old Z n0 h28 := O27.ext E28
          have K28 : Keep h0 h28 [] := K27.ext E28
          refine GoH.step st28 ?_
          show GoH _ _ _ _ _ _ _ _ _ _ T28 (mkF m 134 #[.val (.int p1), .val (.int p2), .val (.int p3), .val (.int p4), .val (.int p5), .val (.ref r23)] [(.ref o28)])
          refine GoH.step (fun t_ k_ => XS.dup X28.here hx rfl (hb hby d2_134) rfl rfl k_) ?_
          show GoH _ _ _ _ _ _ _ _ _ _ T28 (mkF m 135 #[.val (.int p1), .val (.int p2), .val (.int p3), .val (.int p4), .val (.int p5), .val (.ref r23)] [(.ref o28), (.ref o28)])
          refine GoH.step (fun t_ k_ => XS.aload X28.here hx rfl (hb hby d2_135) rfl rfl k_) ?_
          show GoH _ _ _ _ _ _ _ _ _ _ T28 (mkF m 137 #[.val (.int p1), .val (.int p2), .val (.int p3), .val (.int p4), .val (.int p5), .val (.ref r23)] [(.ref r23), (.ref o28), (.ref o28)])
          have hp29 : ∀ c ∈ ([p2, p3, p4, p5] : List Int32), ¬ c < 0 ∧ ¬ (255 : Int32) < c := by
            intro c hc
            simp only [List.mem_cons, List.not_mem_nil, or_false] at hc
            rcases hc with rfl | rfl | rfl | rfl
            · exact rg2.1
            · exact rg3.1
            · exact rg4.1
            · exact rg5.1
          obtain ⟨_, _, ⟨T29, L29, k29, n29⟩, -, X29, ⟨Lc29, hQ29, l29, y29, z29⟩, st29⟩ := X28.specialBack hx (y := (⟨"java/lang/String", "<init>", "([C)V"⟩ : MethodName)) rfl hown0 (mvT hZ0 (hw _ (List.mem_of_getElem? (i := 12) rfl))) (mvT hZ0 (hw _ (List.mem_of_getElem? (i := 13) rfl))) (mvT hZ0 (hw _ (List.mem_of_getElem? (i := 14) rfl))) (by decide) (StrChars.Road.backV (W := 1) hZ0 (own_words hw) (kI := 4) (hw _ (List.mem_of_getElem? (i := 9) rfl)) (cs := ([p2, p3, p4, p5] : List Int32)) (bs := ([p2, p3, p4, p5] : List Int32).map (fun c => c.toInt8.toInt32)) (n := 4) ge_o28 Zs28 f28_1 f28_2 f28_3 f28_0 (S_COMPACT.ext O28.2) P_COMPACT rfl rfl (by decide) (by decide) hp29 rfl (by decide) (by decide)) (g := (mkF m 137 #[.val (.int p1), .val (.int p2), .val (.int p3), .val (.int p4), .val (.int p5), .val (.ref r23)] [(.ref r23), (.ref o28), (.ref o28)])) rfl (by rw [hml]; rfl) (Steps.refl _) (a := o28) (argsL := [(.ref r23)]) (rest := [(.ref o28)]) (lenOf pd_1 rfl) rfl (by show 2 * 0 + _ ≤ _; exact Nat.le_of_eq rfl) (hb hby d2_137) (fun _ _ => ⟨rfl, e28, (by decide : 0 + 1 + 1 + 1 ≤ _), (by decide : 0 + 4 + 4 + 4 ≤ _)⟩)
          dsimp only [Pt.U, Pt.locs, Pt.cells, Pt.slots] at X29 l29 y29 z29 st29 hQ29
          subst l29 y29 z29
          obtain ⟨rfl, N29q, Kq29, Eq29, Cq29, tb29, kb29, u29, v29, w29, Vq29, Aq29⟩ := hQ29
          have N29 := Fr.app N27 N29q
          have ne_r23_tb29 : r23 ≠ tb29 := Nat.ne_of_lt (Nat.lt_of_lt_of_le f28_0.lt v29)
          have ne_o28_tb29 : o28 ≠ tb29 := Nat.ne_of_lt (Nat.lt_of_lt_of_le f28_1.lt v29)
          have geh_tb29 : h0.size ≤ tb29 := Nat.le_trans K28.1 v29
          have f29_0 : Arv Z T29.heap r23 k23 .char (4 : Int32) [(.int p2), (.int p3), (.int p4), (.int p5)] (.int (0 : Int32)) := (f28_0.keep Kq29 (ninS ne_r23_o28 nin0))
          have f29_1 : Exa Z T29.heap o28 "java/lang/String" := Eq29
          have f29_2 : Fld Z T29.heap o28 "java/lang/String" "coder" "B" (.int (0 : Int32)) := Cq29
          have f29_3 : Fld Z T29.heap o28 "java/lang/String" "value" "[B" (.ref tb29) := Vq29
          have f29_4 : Arv Z T29.heap tb29 kb29 .byte (4 : Int32) ((([p2, p3, p4, p5] : List Int32).map (fun c => c.toInt8.toInt32)).map Value.int) (.int (0 : Int32)) := Aq29
          have sfk29 : ∀ x ∈ ([o28] : List Addr), Safe Z own_EL s.vm h28 x := (sfS sf28_o28 sf0)
          have sf29_o28 : Safe Z own_EL s.vm T29.heap o28 := Safe.keep Kq29 sfk29 C28.1 sf28_o28
          have hk29 : _ ≤ T29.heap.size := Nat.le_trans hk28 Kq29.1
          have C29 : CHr Z own_EL s.vm h0 s.vm T29.heap := C28.trans (CHr.keep Kq29 sfk29 C28.1)
          have Zs29 : n0 ≤ T29.heap.size := (Nat.le_trans Zs28 Kq29.1)
          have O29 : Old Z n0 T29.heap := O28.keep Kq29 (allS ge_o28 all0)
          have K29 : Keep h0 T29.heap [] := K28.trans Kq29 (allS (Or.inr geh_o28) all0)
          refine GoH.step (fun t_ k_ => st29.trans k_) ?_
          show GoH _ _ _ _ _ _ _ _ _ _ T29 (mkF m 140 #[.val (.int p1), .val (.int p2), .val (.int p3), .val (.int p4), .val (.int p5), .val (.ref r23)] [(.ref o28)])
          have hkr := hk29
          have hCr := C29
          refine GoH.ret X29 hx hlk hS0 hkr hZ0 hEL hCr hret rfl (Or.inr (Or.inr (Or.inr (Or.inr ⟨rfl, rfl, rfl⟩)))) (hb hby d2_140) ?_ (by decide) (by decide)
          show QMk Z _ _ _ _ _ _ _ _ _ T29.heap _
          exact ⟨o28, tb29, kb29, ([p2, p3, p4, p5] : List Int32), rfl, hp29, (Nat.le_of_ble_eq_true rfl), N29, K29, geh_o28, f29_1, f29_2, f29_3, f29_4⟩
theorem ef_rmBr (m : MethodId) (a1 : Addr) (p3 : Int32) (p4 : Int32) : entryFrame m #[(.ref a1), (.int (Int32.ofNat x2)), (.int p3), (.int p4)] 4 = mkF m 0 #[.val (.ref a1), .val (.int (Int32.ofNat x2)), .val (.int p3), .val (.int p4)] [] := by first | (simp [entryFrame, mkF, argsToLocals, Value.category]; done) | rfl
def QBr (Z : State) (a1 : Addr) (p3 : Int32) (p4 : Int32) (x2 : Nat) (G1 : Int32) (G3 : Value) (tp : Addr) (kbp : ClassId) (cs : List Int32) (h0 : Heap) (n0 : Nat) (v : Option Value) (h : Heap) (L : List Loc) : Prop := v = some (.int (own_brace cs x2 p3 p4)) ∧ Fr n0 L ∧ h = h0
theorem d24_0 : decode method_4_code 0 = .ok (.iload_n 1, 1) := by decide +kernel
theorem d24_1 : decode method_4_code 1 = .ok (.iload_n 2, 1) := by decide +kernel
theorem d24_2 : decode method_4_code 2 = .ok (.if_icmp .lt 30, 3) := by decide +kernel
theorem d24_32 : decode method_4_code 32 = .ok (.iconst 0, 1) := by decide +kernel
theorem d24_33 : decode method_4_code 33 = .ok (.ireturn, 1) := by decide +kernel
theorem d24_5 : decode method_4_code 5 = .ok (.iload_n 1, 1) := by decide +kernel
theorem d24_6 : decode method_4_code 6 = .ok (.iload_n 3, 1) := by decide +kernel
theorem d24_7 : decode method_4_code 7 = .ok (.if_icmp .ge 25, 3) := by decide +kernel
theorem d24_10 : decode method_4_code 10 = .ok (.iload_n 1, 1) := by decide +kernel
theorem d24_11 : decode method_4_code 11 = .ok (.aload_n 0, 1) := by decide +kernel
theorem pd_2 : parseMethodDescriptor "()I" = some ⟨[], some .int⟩ := by decide +kernel
theorem d24_12 : decode method_4_code 12 = .ok (.invokevirtual 41, 3) := by decide +kernel
theorem d24_15 : decode method_4_code 15 = .ok (.if_icmp .ge 17, 3) := by decide +kernel
theorem d24_18 : decode method_4_code 18 = .ok (.aload_n 0, 1) := by decide +kernel
theorem d24_19 : decode method_4_code 19 = .ok (.iload_n 1, 1) := by decide +kernel
theorem pd_3 : parseMethodDescriptor "(I)C" = some ⟨[.int], some .char⟩ := by decide +kernel
theorem d24_20 : decode method_4_code 20 = .ok (.invokevirtual 46, 3) := by decide +kernel
theorem d24_23 : decode method_4_code 23 = .ok (.bipush 123, 2) := by decide +kernel
theorem d24_25 : decode method_4_code 25 = .ok (.if_icmp .ne 7, 3) := by decide +kernel
theorem d24_28 : decode method_4_code 28 = .ok (.iconst 1, 1) := by decide +kernel
theorem d24_29 : decode method_4_code 29 = .ok (.goto 4, 3) := by decide +kernel
set_option maxRecDepth 65536 in
set_option maxHeartbeats 40000000 in
theorem rmBr (l : Launch) (Z : State) (a0 : Array Value) (hw : ∀ d ∈ tables_1, d.before a0 Z = true) (ws : List Jvm.Cond) (a1 : Addr) (p3 : Int32) (p4 : Int32) (x2 : Nat) (G1 : Int32) (G3 : Value) (tp : Addr) (kbp : ClassId) (cs : List Int32) (h0 : Heap) (n0 : Nat) (Z0 : n0 ≤ h0.size) (hx2 : x2 ≤ 5) (O0 : Old Z n0 h0) (S_COMPACT : Sta Z Z.heap "java/lang/String" "COMPACT_STRINGS" "Z" (.int G1)) (P_COMPACT : ¬ (G1 = (0 : Int32))) (S_SIOOBE : Sta Z Z.heap "jdk/internal/util/Preconditions" "SIOOBE_FORMATTER" "Ljava/util/function/BiFunction;" G3) (r_SIOOBE : G3.isRef = true) (PE : Exa Z h0 a1 "java/lang/String") (PV : Fld Z h0 a1 "java/lang/String" "value" "[B" (.ref tp)) (PC : Fld Z h0 a1 "java/lang/String" "coder" "B" (.int (0 : Int32))) (PA : Arv Z h0 tp kbp .byte (Int32.ofNat cs.length) ((cs.map (fun c => c.toInt8.toInt32)).map Value.int) (.int (0 : Int32))) (hok : ∀ c ∈ cs, ¬ c < 0 ∧ ¬ (255 : Int32) < c) (hlen : cs.length ≤ 4) :
    MetFree l (⟨"com/example/affordance/affordance/PathSegmentsIsLiteralPinLaw", "brace", "(Ljava/lang/String;III)Z"⟩ : MethodName) (head1 (Jvm.Cond.code (⟨"com/example/affordance/affordance/PathSegmentsIsLiteralPinLaw", "brace", "(Ljava/lang/String;III)Z"⟩ : MethodName) method_4_code 4 (some .boolean) :: ws) ({ frames := 4, cells := 0, slots := 0, locals := 53 } : Room)) (fun a U => a = #[(.ref a1), (.int (Int32.ofNat x2)), (.int p3), (.int p4)] ∧ Z.Warmed39 U.vm ∧ U.heap = h0) (fun _ _ _ _ _ => True) (fun _ U o U' => ∃ v L, o = .returned v ∧ QBr Z a1 p3 p4 x2 G1 G3 tp kbp cs h0 n0 v U'.heap L ∧ FrameEnd U o U' L ({ frames := 4, cells := 0, slots := 0, locals := 53 } : Room).cells ({ frames := 4, cells := 0, slots := 0, locals := 53 } : Room).slots) := by
  refine MetFree.of_bodySF (plainFor_of_name pn_1) hisR ?_
  intro p e s m args below meth c s₁ Bd hml0 hP hK
  obtain ⟨rfl, hZ, hh⟩ := hP
  have hx := Bd.exec
  have hby := Bd.bytes
  have hlk := BodyLoose.notSynchronized Bd
  have hml : c.maxLocals = 4 := hml0
  have hret := Bd.returns
  have hown : s.vm.findClass "com/example/affordance/affordance/PathSegmentsIsLiteralPinLaw" = some m.cls := findClass_of_methodNamed Bd.named
  have hnm := (name_of_methodNamed Bd.named Bd.method).1
  have X0 : Stand p l e ({ frames := 4, cells := 0, slots := 0, locals := 53 } : Room) s m #[(.ref a1), (.int (Int32.ofNat x2)), (.int p3), (.int p4)] below meth c s₁ [] 0 0 := Stand.of_body Bd
  have e0 : s₁.heap = h0 := by rw [← hh, Bd.state]; rfl
  have N0 := Fr.nil n0
  show Go p e below s ({ frames := 4, cells := 0, slots := 0, locals := 53 } : Room).cells ({ frames := 4, cells := 0, slots := 0, locals := 53 } : Room).slots (QBr Z a1 p3 p4 x2 G1 G3 tp kbp cs h0 n0) s₁ (entryFrame m #[(.ref a1), (.int (Int32.ofNat x2)), (.int p3), (.int p4)] 4)
  refine Go.cast (ef_rmBr m a1 p3 p4) ?_
  show Go _ _ _ _ _ _ _ s₁ (mkF m 0 #[.val (.ref a1), .val (.int (Int32.ofNat x2)), .val (.int p3), .val (.int p4)] [])
  refine Go.step (fun t_ k_ => XS.iloadN X0.here hx rfl (hb hby d24_0) rfl k_) ?_
  show Go _ _ _ _ _ _ _ s₁ (mkF m 1 #[.val (.ref a1), .val (.int (Int32.ofNat x2)), .val (.int p3), .val (.int p4)] [(.int (Int32.ofNat x2))])
  refine Go.step (fun t_ k_ => XS.iloadN X0.here hx rfl (hb hby d24_1) rfl k_) ?_
  show Go _ _ _ _ _ _ _ s₁ (mkF m 2 #[.val (.ref a1), .val (.int (Int32.ofNat x2)), .val (.int p3), .val (.int p4)] [(.int p3), (.int (Int32.ofNat x2))])
  by_cases hb2_1 : (Int32.ofNat x2) < p3
  · refine Go.step (fun t_ k_ => XS.icmpYes X0.here hx rfl (pc0 := 2) (pc' := 32) rfl (hb hby d24_2) rfl (XT.ii_lt_t hb2_1) (by decide) (by decide) k_) ?_
    show Go _ _ _ _ _ _ _ s₁ (mkF m 32 #[.val (.ref a1), .val (.int (Int32.ofNat x2)), .val (.int p3), .val (.int p4)] [])
    refine Go.step (fun t_ k_ => XS.iconst X0.here hx rfl (hb hby d24_32) k_) ?_
    show Go _ _ _ _ _ _ _ s₁ (mkF m 33 #[.val (.ref a1), .val (.int (Int32.ofNat x2)), .val (.int p3), .val (.int p4)] [(.int (0 : Int32))])
    refine Go.ret X0 hx hlk hret rfl (Or.inl ⟨rfl, Or.inr (Or.inl rfl), _, rfl⟩) (hb hby d24_33) ?_ (by decide) (by decide)
    show QBr Z _ _ _ _ _ _ _ _ _ _ _ _ s₁.heap _
    exact ⟨by simp only [own_brace, hb2_1, ↓reduceIte], N0, e0⟩
  · refine Go.step (fun t_ k_ => XS.icmpNo X0.here hx rfl (hb hby d24_2) rfl (XT.ii_lt_f hb2_1) k_) ?_
    show Go _ _ _ _ _ _ _ s₁ (mkF m 5 #[.val (.ref a1), .val (.int (Int32.ofNat x2)), .val (.int p3), .val (.int p4)] [])
    refine Go.step (fun t_ k_ => XS.iloadN X0.here hx rfl (hb hby d24_5) rfl k_) ?_
    show Go _ _ _ _ _ _ _ s₁ (mkF m 6 #[.val (.ref a1), .val (.int (Int32.ofNat x2)), .val (.int p3), .val (.int p4)] [(.int (Int32.ofNat x2))])
    refine Go.step (fun t_ k_ => XS.iloadN X0.here hx rfl (hb hby d24_6) rfl k_) ?_
    show Go _ _ _ _ _ _ _ s₁ (mkF m 7 #[.val (.ref a1), .val (.int (Int32.ofNat x2)), .val (.int p3), .val (.int p4)] [(.int p4), (.int (Int32.ofNat x2))])
    by_cases hb7_2 : (Int32.ofNat x2) < p4
    · refine Go.step (fun t_ k_ => XS.icmpNo X0.here hx rfl (hb hby d24_7) rfl (XT.ii_ge_f hb7_2) k_) ?_
      show Go _ _ _ _ _ _ _ s₁ (mkF m 10 #[.val (.ref a1), .val (.int (Int32.ofNat x2)), .val (.int p3), .val (.int p4)] [])
      refine Go.step (fun t_ k_ => XS.iloadN X0.here hx rfl (hb hby d24_10) rfl k_) ?_
      show Go _ _ _ _ _ _ _ s₁ (mkF m 11 #[.val (.ref a1), .val (.int (Int32.ofNat x2)), .val (.int p3), .val (.int p4)] [(.int (Int32.ofNat x2))])
      refine Go.step (fun t_ k_ => XS.aloadN X0.here hx rfl (hb hby d24_11) rfl rfl k_) ?_
      show Go _ _ _ _ _ _ _ s₁ (mkF m 12 #[.val (.ref a1), .val (.int (Int32.ofNat x2)), .val (.int p3), .val (.int p4)] [(.ref a1), (.int (Int32.ofNat x2))])
      have hcd3 : StrChars.Road.CodA cs 0 (Int32.ofNat cs.length) ((cs.map (fun c => c.toInt8.toInt32)).map Value.int) := StrChars.Road.codOf rfl (fun c hc => (hok c hc).2)
      have hbd3 : ∀ c ∈ cs, ¬ c < 0 ∧ ¬ (65535 : Int32) < c := own_up _ hok
      obtain ⟨cq3, kq3, qa3, qb3, qc3⟩ := isOf hZ e0 PE
      obtain ⟨vv3, _, ⟨T3, L3, k3, n3⟩, -, X3, ⟨Lc3, hQ3, l3, y3, z3⟩, st3⟩ := X0.virtualBack hx (y := (⟨"java/lang/String", "length", "()I"⟩ : MethodName)) (z := (⟨"java/lang/String", "length", "()I"⟩ : MethodName)) hown (mvT hZ (hw _ (List.mem_of_getElem? (i := 127) rfl))) (mvT hZ (hw _ (List.mem_of_getElem? (i := 75) rfl))) (notFace_of_selects (args := #[]) (mvT hZ (hw _ (List.mem_of_getElem? (i := 77) rfl)))) (mvT hZ (hw _ (List.mem_of_getElem? (i := 77) rfl))) (mvT hZ (hw _ (List.mem_of_getElem? (i := 76) rfl))) (by decide) (StrChars.Road.lenW (W := 1) hZ (own_wordsLen hw) (kI := 4) (hw _ (List.mem_of_getElem? (i := 9) rfl)) PE PV PC PA hcd3 hbd3 (S_COMPACT.ext O0.2) P_COMPACT (own_le4 hlen) (by decide) (by decide)) qa3 qc3 (g := (mkF m 12 #[.val (.ref a1), .val (.int (Int32.ofNat x2)), .val (.int p3), .val (.int p4)] [(.ref a1), (.int (Int32.ofNat x2))])) rfl (by rw [hml]; rfl) (Steps.refl _) (argsL := []) (rest := [(.int (Int32.ofNat x2))]) (lenOf pd_2 rfl) rfl (by show 2 * 0 + _ ≤ _; exact Nat.le_of_eq rfl) (hb hby d24_12) (fun _ _ => ⟨rfl, e0, (by decide : 0 + 0 ≤ _), (by decide : 0 + 0 ≤ _)⟩)
      dsimp only [Pt.U, Pt.locs, Pt.cells, Pt.slots] at X3 l3 y3 z3 st3 hQ3
      subst l3 y3 z3
      obtain ⟨rfl, rfl, e3⟩ := hQ3
      have N3 := Fr.app N0 (Fr.nil n0)
      refine Go.step (fun t_ k_ => st3.trans k_) ?_
      show Go _ _ _ _ _ _ _ T3 (mkF m 15 #[.val (.ref a1), .val (.int (Int32.ofNat x2)), .val (.int p3), .val (.int p4)] [(.int (Int32.ofNat cs.length)), (.int (Int32.ofNat x2))])
      by_cases hb15_4 : (Int32.ofNat x2) < (Int32.ofNat cs.length)
      · refine Go.step (fun t_ k_ => XS.icmpNo X3.here hx rfl (hb hby d24_15) rfl (XT.ii_ge_f hb15_4) k_) ?_
        show Go _ _ _ _ _ _ _ T3 (mkF m 18 #[.val (.ref a1), .val (.int (Int32.ofNat x2)), .val (.int p3), .val (.int p4)] [])
        refine Go.step (fun t_ k_ => XS.aloadN X3.here hx rfl (hb hby d24_18) rfl rfl k_) ?_
        show Go _ _ _ _ _ _ _ T3 (mkF m 19 #[.val (.ref a1), .val (.int (Int32.ofNat x2)), .val (.int p3), .val (.int p4)] [(.ref a1)])
        refine Go.step (fun t_ k_ => XS.iloadN X3.here hx rfl (hb hby d24_19) rfl k_) ?_
        show Go _ _ _ _ _ _ _ T3 (mkF m 20 #[.val (.ref a1), .val (.int (Int32.ofNat x2)), .val (.int p3), .val (.int p4)] [(.int (Int32.ofNat x2)), (.ref a1)])
        have hcd5 : StrChars.Road.CodA cs 0 (Int32.ofNat cs.length) ((cs.map (fun c => c.toInt8.toInt32)).map Value.int) := StrChars.Road.codOf rfl (fun c hc => (hok c hc).2)
        have hbd5 : ∀ c ∈ cs, ¬ c < 0 ∧ ¬ (65535 : Int32) < c := own_up _ hok
        obtain ⟨cq5, kq5, qa5, qb5, qc5⟩ := isOf hZ e3 PE
        obtain ⟨vv5, _, ⟨T5, L5, k5, n5⟩, -, X5, ⟨Lc5, hQ5, l5, y5, z5⟩, st5⟩ := X3.virtualBack hx (y := (⟨"java/lang/String", "charAt", "(I)C"⟩ : MethodName)) (z := (⟨"java/lang/String", "charAt", "(I)C"⟩ : MethodName)) hown (mvT hZ (hw _ (List.mem_of_getElem? (i := 128) rfl))) (mvT hZ (hw _ (List.mem_of_getElem? (i := 103) rfl))) (notFace_of_selects (args := #[]) (mvT hZ (hw _ (List.mem_of_getElem? (i := 105) rfl)))) (mvT hZ (hw _ (List.mem_of_getElem? (i := 105) rfl))) (mvT hZ (hw _ (List.mem_of_getElem? (i := 104) rfl))) (by decide) (StrChars.Road.chN (W := 0) hZ (own_wordsChN hw) (kI := 4) (hw _ (List.mem_of_getElem? (i := 9) rfl)) PE PV PC PA hcd5 hbd5 (S_COMPACT.ext O0.2) P_COMPACT (S_SIOOBE.ext O0.2) r_SIOOBE (own_le4 hlen) (i := x2) ((own_lt hx2 (by omega)).mp hb15_4) (j := (Int32.ofNat x2)) rfl (by decide) (by decide)) qa5 qc5 (g := (mkF m 20 #[.val (.ref a1), .val (.int (Int32.ofNat x2)), .val (.int p3), .val (.int p4)] [(.int (Int32.ofNat x2)), (.ref a1)])) rfl (by rw [hml]; rfl) (Steps.refl _) (argsL := [(.int (Int32.ofNat x2))]) (rest := []) (lenOf pd_3 rfl) rfl (by show 2 * 0 + _ ≤ _; exact Nat.le_of_eq rfl) (hb hby d24_20) (fun _ _ => ⟨rfl, e3, (by decide : 0 + 0 ≤ _), (by decide : 0 + 0 ≤ _)⟩)
        dsimp only [Pt.U, Pt.locs, Pt.cells, Pt.slots] at X5 l5 y5 z5 st5 hQ5
        subst l5 y5 z5
        obtain ⟨rfl, rfl, e5⟩ := hQ5
        have N5 := Fr.app N3 (Fr.nil n0)
        refine Go.step (fun t_ k_ => st5.trans k_) ?_
        show Go _ _ _ _ _ _ _ T5 (mkF m 23 #[.val (.ref a1), .val (.int (Int32.ofNat x2)), .val (.int p3), .val (.int p4)] [(.int (cs.getD x2 0))])
        refine Go.step (fun t_ k_ => XS.bipush X5.here hx rfl (hb hby d24_23) k_) ?_
        show Go _ _ _ _ _ _ _ T5 (mkF m 25 #[.val (.ref a1), .val (.int (Int32.ofNat x2)), .val (.int p3), .val (.int p4)] [(.int (123 : Int32)), (.int (cs.getD x2 0))])
        by_cases hb25_6 : (cs.getD x2 0) = (123 : Int32)
        · refine Go.step (fun t_ k_ => XS.icmpNo X5.here hx rfl (hb hby d24_25) rfl (XT.ii_ne_f hb25_6) k_) ?_
          show Go _ _ _ _ _ _ _ T5 (mkF m 28 #[.val (.ref a1), .val (.int (Int32.ofNat x2)), .val (.int p3), .val (.int p4)] [])
          refine Go.step (fun t_ k_ => XS.iconst X5.here hx rfl (hb hby d24_28) k_) ?_
          show Go _ _ _ _ _ _ _ T5 (mkF m 29 #[.val (.ref a1), .val (.int (Int32.ofNat x2)), .val (.int p3), .val (.int p4)] [(.int (1 : Int32))])
          refine Go.step (fun t_ k_ => XS.goto X5.here hx rfl (pc0 := 29) (pc' := 33) rfl (hb hby d24_29) (by decide) (by decide) k_) ?_
          show Go _ _ _ _ _ _ _ T5 (mkF m 33 #[.val (.ref a1), .val (.int (Int32.ofNat x2)), .val (.int p3), .val (.int p4)] [(.int (1 : Int32))])
          refine Go.ret X5 hx hlk hret rfl (Or.inl ⟨rfl, Or.inr (Or.inl rfl), _, rfl⟩) (hb hby d24_33) ?_ (by decide) (by decide)
          show QBr Z _ _ _ _ _ _ _ _ _ _ _ _ T5.heap _
          exact ⟨by simp only [own_brace, hb2_1, hb7_2, hb15_4, hb25_6, ↓reduceIte], N5, e5⟩
        · refine Go.step (fun t_ k_ => XS.icmpYes X5.here hx rfl (pc0 := 25) (pc' := 32) rfl (hb hby d24_25) rfl (XT.ii_ne_t hb25_6) (by decide) (by decide) k_) ?_
          show Go _ _ _ _ _ _ _ T5 (mkF m 32 #[.val (.ref a1), .val (.int (Int32.ofNat x2)), .val (.int p3), .val (.int p4)] [])
          refine Go.step (fun t_ k_ => XS.iconst X5.here hx rfl (hb hby d24_32) k_) ?_
          show Go _ _ _ _ _ _ _ T5 (mkF m 33 #[.val (.ref a1), .val (.int (Int32.ofNat x2)), .val (.int p3), .val (.int p4)] [(.int (0 : Int32))])
          refine Go.ret X5 hx hlk hret rfl (Or.inl ⟨rfl, Or.inr (Or.inl rfl), _, rfl⟩) (hb hby d24_33) ?_ (by decide) (by decide)
          show QBr Z _ _ _ _ _ _ _ _ _ _ _ _ T5.heap _
          exact ⟨by simp only [own_brace, hb2_1, hb7_2, hb15_4, hb25_6, ↓reduceIte], N5, e5⟩
      · refine Go.step (fun t_ k_ => XS.icmpYes X3.here hx rfl (pc0 := 15) (pc' := 32) rfl (hb hby d24_15) rfl (XT.ii_ge_t hb15_4) (by decide) (by decide) k_) ?_
        show Go _ _ _ _ _ _ _ T3 (mkF m 32 #[.val (.ref a1), .val (.int (Int32.ofNat x2)), .val (.int p3), .val (.int p4)] [])
        refine Go.step (fun t_ k_ => XS.iconst X3.here hx rfl (hb hby d24_32) k_) ?_
        show Go _ _ _ _ _ _ _ T3 (mkF m 33 #[.val (.ref a1), .val (.int (Int32.ofNat x2)), .val (.int p3), .val (.int p4)] [(.int (0 : Int32))])
        refine Go.ret X3 hx hlk hret rfl (Or.inl ⟨rfl, Or.inr (Or.inl rfl), _, rfl⟩) (hb hby d24_33) ?_ (by decide) (by decide)
        show QBr Z _ _ _ _ _ _ _ _ _ _ _ _ T3.heap _
        exact ⟨by simp only [own_brace, hb2_1, hb7_2, hb15_4, ↓reduceIte], N3, e3⟩
    · refine Go.step (fun t_ k_ => XS.icmpYes X0.here hx rfl (pc0 := 7) (pc' := 32) rfl (hb hby d24_7) rfl (XT.ii_ge_t hb7_2) (by decide) (by decide) k_) ?_
      show Go _ _ _ _ _ _ _ s₁ (mkF m 32 #[.val (.ref a1), .val (.int (Int32.ofNat x2)), .val (.int p3), .val (.int p4)] [])
      refine Go.step (fun t_ k_ => XS.iconst X0.here hx rfl (hb hby d24_32) k_) ?_
      show Go _ _ _ _ _ _ _ s₁ (mkF m 33 #[.val (.ref a1), .val (.int (Int32.ofNat x2)), .val (.int p3), .val (.int p4)] [(.int (0 : Int32))])
      refine Go.ret X0 hx hlk hret rfl (Or.inl ⟨rfl, Or.inr (Or.inl rfl), _, rfl⟩) (hb hby d24_33) ?_ (by decide) (by decide)
      show QBr Z _ _ _ _ _ _ _ _ _ _ _ _ s₁.heap _
      exact ⟨by simp only [own_brace, hb2_1, hb7_2, ↓reduceIte], N0, e0⟩
theorem pn_2 : plainName "com/example/affordance/affordance/PathSegments" = true := by first | (simp [plainName, overriddenIn]; done) | decide +kernel
theorem ef_rmPI (m : MethodId) (a1 : Addr) (a2 : Addr) : entryFrame m #[(.ref a1), (.ref a2)] 2 = mkF m 0 #[.val (.ref a1), .val (.ref a2)] [] := by first | (simp [entryFrame, mkF, argsToLocals, Value.category]; done) | rfl
def QPI (Z : State) (a1 : Addr) (a2 : Addr) (h0 : Heap) (n0 : Nat) (v : Option Value) (h : Heap) (L : List Loc) : Prop := v = none ∧ Fr n0 L ∧ Keep h0 h [a1] ∧ Exa Z h a1 "com/example/affordance/affordance/PathSegments" ∧ Fld Z h a1 "com/example/affordance/affordance/PathSegments" "path" "Ljava/lang/String;" (.ref a2) ∧ Fld Z h a1 "com/example/affordance/affordance/PathSegments" "start" "I" (.int (0 : Int32)) ∧ Fld Z h a1 "com/example/affordance/affordance/PathSegments" "end" "I" (.int (-1 : Int32)) ∧ Fld Z h a1 "com/example/affordance/affordance/PathSegments" "template" "Z" (.int (0 : Int32))
theorem d6_0 : decode prog_44_method_1_code 0 = .ok (.aload_n 0, 1) := by decide +kernel
theorem d6_1 : decode prog_44_method_1_code 1 = .ok (.invokespecial 1, 3) := by decide +kernel
theorem d6_4 : decode prog_44_method_1_code 4 = .ok (.aload_n 0, 1) := by decide +kernel
theorem d6_5 : decode prog_44_method_1_code 5 = .ok (.iconst (-1), 1) := by decide +kernel
theorem d6_6 : decode prog_44_method_1_code 6 = .ok (.putfield 7, 3) := by decide +kernel
theorem d6_9 : decode prog_44_method_1_code 9 = .ok (.aload_n 0, 1) := by decide +kernel
theorem d6_10 : decode prog_44_method_1_code 10 = .ok (.aload_n 1, 1) := by decide +kernel
theorem d6_11 : decode prog_44_method_1_code 11 = .ok (.putfield 13, 3) := by decide +kernel
theorem d6_14 : decode prog_44_method_1_code 14 = .ok (.return_, 1) := by decide +kernel
set_option maxRecDepth 65536 in
set_option maxHeartbeats 40000000 in
theorem rmPI (l : Launch) (Z : State) (a0 : Array Value) (hw : ∀ d ∈ tables_1, d.before a0 Z = true) (ws : List Jvm.Cond) (a1 : Addr) (a2 : Addr) (h0 : Heap) (n0 : Nat) (Z0 : n0 ≤ h0.size) (g1 : n0 ≤ a1) (QE1 : Exa Z h0 a1 "com/example/affordance/affordance/PathSegments") (Q_path : Fld Z h0 a1 "com/example/affordance/affordance/PathSegments" "path" "Ljava/lang/String;" .null) (Q_start : Fld Z h0 a1 "com/example/affordance/affordance/PathSegments" "start" "I" (.int (0 : Int32))) (Q_end : Fld Z h0 a1 "com/example/affordance/affordance/PathSegments" "end" "I" (.int (0 : Int32))) (Q_template : Fld Z h0 a1 "com/example/affordance/affordance/PathSegments" "template" "Z" (.int (0 : Int32))) :
    MetFree l (⟨"com/example/affordance/affordance/PathSegments", "<init>", "(Ljava/lang/String;)V"⟩ : MethodName) (head1 (Jvm.Cond.code (⟨"com/example/affordance/affordance/PathSegments", "<init>", "(Ljava/lang/String;)V"⟩ : MethodName) prog_44_method_1_code 2 none :: ws) ({ frames := 1, cells := 0, slots := 0, locals := 12 } : Room)) (fun a U => a = #[(.ref a1), (.ref a2)] ∧ Z.Warmed39 U.vm ∧ U.heap = h0) (fun _ _ _ _ _ => True) (fun _ U o U' => ∃ v L, o = .returned v ∧ QPI Z a1 a2  h0 n0 v U'.heap L ∧ FrameEnd U o U' L ({ frames := 1, cells := 0, slots := 0, locals := 12 } : Room).cells ({ frames := 1, cells := 0, slots := 0, locals := 12 } : Room).slots) := by
  refine MetFree.of_bodySF (plainFor_of_name pn_2) hisR ?_
  intro p e s m args below meth c s₁ Bd hml0 hP hK
  obtain ⟨rfl, hZ, hh⟩ := hP
  have hx := Bd.exec
  have hby := Bd.bytes
  have hlk := BodyLoose.notSynchronized Bd
  have hml : c.maxLocals = 2 := hml0
  have hret := Bd.returns
  have hown : s.vm.findClass "com/example/affordance/affordance/PathSegments" = some m.cls := findClass_of_methodNamed Bd.named
  have hnm := (name_of_methodNamed Bd.named Bd.method).1
  have X0 : Stand p l e ({ frames := 1, cells := 0, slots := 0, locals := 12 } : Room) s m #[(.ref a1), (.ref a2)] below meth c s₁ [] 0 0 := Stand.of_body Bd
  have e0 : s₁.heap = h0 := by rw [← hh, Bd.state]; rfl
  have N0 := Fr.nil n0
  show Go p e below s ({ frames := 1, cells := 0, slots := 0, locals := 12 } : Room).cells ({ frames := 1, cells := 0, slots := 0, locals := 12 } : Room).slots (QPI Z a1 a2  h0 n0) s₁ (entryFrame m #[(.ref a1), (.ref a2)] 2)
  refine Go.cast (ef_rmPI m a1 a2) ?_
  have K0 : Keep h0 h0 [a1] := Keep.refl _ _
  show Go _ _ _ _ _ _ _ s₁ (mkF m 0 #[.val (.ref a1), .val (.ref a2)] [])
  refine Go.step (fun t_ k_ => XS.aloadN X0.here hx rfl (hb hby d6_0) rfl rfl k_) ?_
  show Go _ _ _ _ _ _ _ s₁ (mkF m 1 #[.val (.ref a1), .val (.ref a2)] [(.ref a1)])
  obtain ⟨T1, X1, e1, st1⟩ := initO X0 hx hZ hown (hw _ (List.mem_of_getElem? (i := 36) rfl)) (hw _ (List.mem_of_getElem? (i := 20) rfl)) (hw _ (List.mem_of_getElem? (i := 21) rfl)) e0 (g := (mkF m 1 #[.val (.ref a1), .val (.ref a2)] [(.ref a1)])) rfl (by rw [hml]; rfl) rfl (hb hby d6_1) (by decide) (W := 0) (by show 2 * 0 + _ ≤ _; exact Nat.le_of_eq rfl) (by decide)
  refine Go.step st1 ?_
  show Go _ _ _ _ _ _ _ T1 (mkF m 4 #[.val (.ref a1), .val (.ref a2)] [])
  refine Go.step (fun t_ k_ => XS.aloadN X1.here hx rfl (hb hby d6_4) rfl rfl k_) ?_
  show Go _ _ _ _ _ _ _ T1 (mkF m 5 #[.val (.ref a1), .val (.ref a2)] [(.ref a1)])
  refine Go.step (fun t_ k_ => XS.iconst X1.here hx rfl (hb hby d6_5) k_) ?_
  show Go _ _ _ _ _ _ _ T1 (mkF m 6 #[.val (.ref a1), .val (.ref a2)] [(.int (-1 : Int32)), (.ref a1)])
  obtain ⟨T2, h2, X2, e2, W2, st2⟩ := putF X1 hx hZ hown (host := "") (Or.inl (hw _ (List.mem_of_getElem? (i := 37) rfl))) Via.refl e1 Q_end QE1 (Or.inl (hw _ (List.mem_of_getElem? (i := 38) rfl))) (hw _ (List.mem_of_getElem? (i := 31) rfl)) (ty := .int) (by decide) rfl rfl (g := (mkF m 6 #[.val (.ref a1), .val (.ref a2)] [(.int (-1 : Int32)), (.ref a1)])) rfl rfl (hb hby d6_6)
  have N2 := Fr.snoc X2 N0 g1
  refine Go.step st2 ?_
  have f2_0 : Exa Z h2 a1 "com/example/affordance/affordance/PathSegments" := (QE1.wr W2)
  have f2_1 : Fld Z h2 a1 "com/example/affordance/affordance/PathSegments" "path" "Ljava/lang/String;" .null := (Q_path.other W2 (Or.inr (slot_ne (Or.inr (hw _ (List.mem_of_getElem? (i := 40) rfl))) (Or.inl (hw _ (List.mem_of_getElem? (i := 38) rfl))) (by decide) (t := (.object "java/lang/String")) (t' := .int) (by decide) (by decide))))
  have f2_2 : Fld Z h2 a1 "com/example/affordance/affordance/PathSegments" "start" "I" (.int (0 : Int32)) := (Q_start.other W2 (Or.inr (slot_ne (Or.inl (hw _ (List.mem_of_getElem? (i := 47) rfl))) (Or.inl (hw _ (List.mem_of_getElem? (i := 38) rfl))) (by decide) (t := .int) (t' := .int) (by decide) (by decide))))
  have f2_3 : Fld Z h2 a1 "com/example/affordance/affordance/PathSegments" "end" "I" (.int (-1 : Int32)) := (Q_end.same W2)
  have f2_4 : Fld Z h2 a1 "com/example/affordance/affordance/PathSegments" "template" "Z" (.int (0 : Int32)) := (Q_template.other W2 (Or.inr (slot_ne (Or.inl (hw _ (List.mem_of_getElem? (i := 101) rfl))) (Or.inl (hw _ (List.mem_of_getElem? (i := 38) rfl))) (by decide) (t := .boolean) (t' := .int) (by decide) (by decide))))
  have Zs2 : n0 ≤ h2.size := (Nat.le_trans Z0 (Keep.of_wr W2).1)
  have K2 : Keep h0 h2 [a1] := K0.wr W2 (Or.inl (List.mem_of_getElem? (i := 0) rfl))
  show Go _ _ _ _ _ _ _ T2 (mkF m 9 #[.val (.ref a1), .val (.ref a2)] [])
  refine Go.step (fun t_ k_ => XS.aloadN X2.here hx rfl (hb hby d6_9) rfl rfl k_) ?_
  show Go _ _ _ _ _ _ _ T2 (mkF m 10 #[.val (.ref a1), .val (.ref a2)] [(.ref a1)])
  refine Go.step (fun t_ k_ => XS.aloadN X2.here hx rfl (hb hby d6_10) rfl rfl k_) ?_
  show Go _ _ _ _ _ _ _ T2 (mkF m 11 #[.val (.ref a1), .val (.ref a2)] [(.ref a2), (.ref a1)])
  obtain ⟨T3, h3, X3, e3, W3, st3⟩ := putF X2 hx hZ hown (host := "") (Or.inl (hw _ (List.mem_of_getElem? (i := 39) rfl))) Via.refl e2 f2_1 f2_0 (Or.inr ⟨(hw _ (List.mem_of_getElem? (i := 40) rfl)), rfl, hnm⟩) (hw _ (List.mem_of_getElem? (i := 31) rfl)) (ty := (.object "java/lang/String")) (by decide) rfl rfl (g := (mkF m 11 #[.val (.ref a1), .val (.ref a2)] [(.ref a2), (.ref a1)])) rfl rfl (hb hby d6_11)
  have N3 := Fr.snoc X3 N2 g1
  refine Go.step st3 ?_
  have f3_0 : Exa Z h3 a1 "com/example/affordance/affordance/PathSegments" := (f2_0.wr W3)
  have f3_1 : Fld Z h3 a1 "com/example/affordance/affordance/PathSegments" "path" "Ljava/lang/String;" (.ref a2) := (f2_1.same W3)
  have f3_2 : Fld Z h3 a1 "com/example/affordance/affordance/PathSegments" "start" "I" (.int (0 : Int32)) := (f2_2.other W3 (Or.inr (slot_ne (Or.inl (hw _ (List.mem_of_getElem? (i := 47) rfl))) (Or.inr (hw _ (List.mem_of_getElem? (i := 40) rfl))) (by decide) (t := .int) (t' := (.object "java/lang/String")) (by decide) (by decide))))
  have f3_3 : Fld Z h3 a1 "com/example/affordance/affordance/PathSegments" "end" "I" (.int (-1 : Int32)) := (f2_3.other W3 (Or.inr (slot_ne (Or.inl (hw _ (List.mem_of_getElem? (i := 38) rfl))) (Or.inr (hw _ (List.mem_of_getElem? (i := 40) rfl))) (by decide) (t := .int) (t' := (.object "java/lang/String")) (by decide) (by decide))))
  have f3_4 : Fld Z h3 a1 "com/example/affordance/affordance/PathSegments" "template" "Z" (.int (0 : Int32)) := (f2_4.other W3 (Or.inr (slot_ne (Or.inl (hw _ (List.mem_of_getElem? (i := 101) rfl))) (Or.inr (hw _ (List.mem_of_getElem? (i := 40) rfl))) (by decide) (t := .boolean) (t' := (.object "java/lang/String")) (by decide) (by decide))))
  have Zs3 : n0 ≤ h3.size := (Nat.le_trans Zs2 (Keep.of_wr W3).1)
  have K3 : Keep h0 h3 [a1] := K2.wr W3 (Or.inl (List.mem_of_getElem? (i := 0) rfl))
  show Go _ _ _ _ _ _ _ T3 (mkF m 14 #[.val (.ref a1), .val (.ref a2)] [])
  refine Go.retV X3 hx hlk hret (hb hby d6_14) ?_ (by decide) (by decide)
  show QPI Z _ _ _ _ _ T3.heap _
  rw [e3]
  exact ⟨rfl, N3, K3, f3_0, f3_1, f3_2, f3_3, f3_4⟩
theorem ef_rmGs (m : MethodId) (a1 : Addr) : entryFrame m #[(.ref a1)] 1 = mkF m 0 #[.val (.ref a1)] [] := by first | (simp [entryFrame, mkF, argsToLocals, Value.category]; done) | rfl
def QGs (Z : State) (a1 : Addr) (r : Int32) (h0 : Heap) (n0 : Nat) (v : Option Value) (h : Heap) (L : List Loc) : Prop := v = some (.int r) ∧ Fr n0 L ∧ h = h0
theorem d7_0 : decode prog_44_method_4_code 0 = .ok (.aload_n 0, 1) := by decide +kernel
theorem d7_1 : decode prog_44_method_4_code 1 = .ok (.getfield 29, 3) := by decide +kernel
theorem d7_4 : decode prog_44_method_4_code 4 = .ok (.ireturn, 1) := by decide +kernel
set_option maxRecDepth 65536 in
set_option maxHeartbeats 40000000 in
theorem rmGs (l : Launch) (Z : State) (a0 : Array Value) (hw : ∀ d ∈ tables_1, d.before a0 Z = true) (ws : List Jvm.Cond) (a1 : Addr) (r : Int32) (h0 : Heap) (n0 : Nat) (Z0 : n0 ≤ h0.size) (PF1 : Fld Z h0 a1 "com/example/affordance/affordance/PathSegments" "start" "I" (.int r)) :
    MetFree l (⟨"com/example/affordance/affordance/PathSegments", "start", "()I"⟩ : MethodName) (head1 (Jvm.Cond.code (⟨"com/example/affordance/affordance/PathSegments", "start", "()I"⟩ : MethodName) prog_44_method_4_code 1 (some .int) :: ws) ({ frames := 0, cells := 0, slots := 0, locals := 0 } : Room)) (fun a U => a = #[(.ref a1)] ∧ Z.Warmed39 U.vm ∧ U.heap = h0) (fun _ _ _ _ _ => True) (fun _ U o U' => ∃ v L, o = .returned v ∧ QGs Z a1 r h0 n0 v U'.heap L ∧ FrameEnd U o U' L ({ frames := 0, cells := 0, slots := 0, locals := 0 } : Room).cells ({ frames := 0, cells := 0, slots := 0, locals := 0 } : Room).slots) := by
  refine MetFree.of_bodySF (plainFor_of_name pn_2) hisR ?_
  intro p e s m args below meth c s₁ Bd hml0 hP hK
  obtain ⟨rfl, hZ, hh⟩ := hP
  have hx := Bd.exec
  have hby := Bd.bytes
  have hlk := BodyLoose.notSynchronized Bd
  have hml : c.maxLocals = 1 := hml0
  have hret := Bd.returns
  have hown : s.vm.findClass "com/example/affordance/affordance/PathSegments" = some m.cls := findClass_of_methodNamed Bd.named
  have hnm := (name_of_methodNamed Bd.named Bd.method).1
  have X0 : Stand p l e ({ frames := 0, cells := 0, slots := 0, locals := 0 } : Room) s m #[(.ref a1)] below meth c s₁ [] 0 0 := Stand.of_body Bd
  have e0 : s₁.heap = h0 := by rw [← hh, Bd.state]; rfl
  have N0 := Fr.nil n0
  show Go p e below s ({ frames := 0, cells := 0, slots := 0, locals := 0 } : Room).cells ({ frames := 0, cells := 0, slots := 0, locals := 0 } : Room).slots (QGs Z a1 r h0 n0) s₁ (entryFrame m #[(.ref a1)] 1)
  refine Go.cast (ef_rmGs m a1) ?_
  show Go _ _ _ _ _ _ _ s₁ (mkF m 0 #[.val (.ref a1)] [])
  refine Go.step (fun t_ k_ => XS.aloadN X0.here hx rfl (hb hby d7_0) rfl rfl k_) ?_
  show Go _ _ _ _ _ _ _ s₁ (mkF m 1 #[.val (.ref a1)] [(.ref a1)])
  obtain ⟨T1, X1, e1, st1⟩ := getF X0 hx hZ hown (host := "") (Or.inl (hw _ (List.mem_of_getElem? (i := 46) rfl))) Via.refl e0 PF1 (g := (mkF m 1 #[.val (.ref a1)] [(.ref a1)])) rfl rfl (hb hby d7_1)
  refine Go.step st1 ?_
  show Go _ _ _ _ _ _ _ T1 (mkF m 4 #[.val (.ref a1)] [(.int r)])
  refine Go.ret X1 hx hlk hret rfl (Or.inl ⟨rfl, Or.inl rfl, _, rfl⟩) (hb hby d7_4) ?_ (by decide) (by decide)
  show QGs Z _ _ _ _ _ T1.heap _
  exact ⟨rfl, N0, e1⟩
theorem ef_rmGe (m : MethodId) (a1 : Addr) : entryFrame m #[(.ref a1)] 1 = mkF m 0 #[.val (.ref a1)] [] := by first | (simp [entryFrame, mkF, argsToLocals, Value.category]; done) | rfl
def QGe (Z : State) (a1 : Addr) (r : Int32) (h0 : Heap) (n0 : Nat) (v : Option Value) (h : Heap) (L : List Loc) : Prop := v = some (.int r) ∧ Fr n0 L ∧ h = h0
theorem d8_0 : decode prog_44_method_5_code 0 = .ok (.aload_n 0, 1) := by decide +kernel
theorem d8_1 : decode prog_44_method_5_code 1 = .ok (.getfield 7, 3) := by decide +kernel
theorem d8_4 : decode prog_44_method_5_code 4 = .ok (.ireturn, 1) := by decide +kernel
set_option maxRecDepth 65536 in
set_option maxHeartbeats 40000000 in
theorem rmGe (l : Launch) (Z : State) (a0 : Array Value) (hw : ∀ d ∈ tables_1, d.before a0 Z = true) (ws : List Jvm.Cond) (a1 : Addr) (r : Int32) (h0 : Heap) (n0 : Nat) (Z0 : n0 ≤ h0.size) (PF1 : Fld Z h0 a1 "com/example/affordance/affordance/PathSegments" "end" "I" (.int r)) :
    MetFree l (⟨"com/example/affordance/affordance/PathSegments", "end", "()I"⟩ : MethodName) (head1 (Jvm.Cond.code (⟨"com/example/affordance/affordance/PathSegments", "end", "()I"⟩ : MethodName) prog_44_method_5_code 1 (some .int) :: ws) ({ frames := 0, cells := 0, slots := 0, locals := 0 } : Room)) (fun a U => a = #[(.ref a1)] ∧ Z.Warmed39 U.vm ∧ U.heap = h0) (fun _ _ _ _ _ => True) (fun _ U o U' => ∃ v L, o = .returned v ∧ QGe Z a1 r h0 n0 v U'.heap L ∧ FrameEnd U o U' L ({ frames := 0, cells := 0, slots := 0, locals := 0 } : Room).cells ({ frames := 0, cells := 0, slots := 0, locals := 0 } : Room).slots) := by
  refine MetFree.of_bodySF (plainFor_of_name pn_2) hisR ?_
  intro p e s m args below meth c s₁ Bd hml0 hP hK
  obtain ⟨rfl, hZ, hh⟩ := hP
  have hx := Bd.exec
  have hby := Bd.bytes
  have hlk := BodyLoose.notSynchronized Bd
  have hml : c.maxLocals = 1 := hml0
  have hret := Bd.returns
  have hown : s.vm.findClass "com/example/affordance/affordance/PathSegments" = some m.cls := findClass_of_methodNamed Bd.named
  have hnm := (name_of_methodNamed Bd.named Bd.method).1
  have X0 : Stand p l e ({ frames := 0, cells := 0, slots := 0, locals := 0 } : Room) s m #[(.ref a1)] below meth c s₁ [] 0 0 := Stand.of_body Bd
  have e0 : s₁.heap = h0 := by rw [← hh, Bd.state]; rfl
  have N0 := Fr.nil n0
  show Go p e below s ({ frames := 0, cells := 0, slots := 0, locals := 0 } : Room).cells ({ frames := 0, cells := 0, slots := 0, locals := 0 } : Room).slots (QGe Z a1 r h0 n0) s₁ (entryFrame m #[(.ref a1)] 1)
  refine Go.cast (ef_rmGe m a1) ?_
  show Go _ _ _ _ _ _ _ s₁ (mkF m 0 #[.val (.ref a1)] [])
  refine Go.step (fun t_ k_ => XS.aloadN X0.here hx rfl (hb hby d8_0) rfl rfl k_) ?_
  show Go _ _ _ _ _ _ _ s₁ (mkF m 1 #[.val (.ref a1)] [(.ref a1)])
  obtain ⟨T1, X1, e1, st1⟩ := getF X0 hx hZ hown (host := "") (Or.inl (hw _ (List.mem_of_getElem? (i := 37) rfl))) Via.refl e0 PF1 (g := (mkF m 1 #[.val (.ref a1)] [(.ref a1)])) rfl rfl (hb hby d8_1)
  refine Go.step st1 ?_
  show Go _ _ _ _ _ _ _ T1 (mkF m 4 #[.val (.ref a1)] [(.int r)])
  refine Go.ret X1 hx hlk hret rfl (Or.inl ⟨rfl, Or.inl rfl, _, rfl⟩) (hb hby d8_4) ?_ (by decide) (by decide)
  show QGe Z _ _ _ _ _ T1.heap _
  exact ⟨rfl, N0, e1⟩
theorem ef_rmIL (m : MethodId) (a1 : Addr) : entryFrame m #[(.ref a1)] 1 = mkF m 0 #[.val (.ref a1)] [] := by first | (simp [entryFrame, mkF, argsToLocals, Value.category]; done) | rfl
def QIL (Z : State) (a1 : Addr) (sI : Int32) (eI : Int32) (tI : Int32) (h0 : Heap) (n0 : Nat) (v : Option Value) (h : Heap) (L : List Loc) : Prop := v = some (.int (own_lit sI eI tI)) ∧ Fr n0 L ∧ h = h0
theorem d9_0 : decode prog_44_method_8_code 0 = .ok (.aload_n 0, 1) := by decide +kernel
theorem d9_1 : decode prog_44_method_8_code 1 = .ok (.getfield 7, 3) := by decide +kernel
theorem d9_4 : decode prog_44_method_8_code 4 = .ok (.aload_n 0, 1) := by decide +kernel
theorem d9_5 : decode prog_44_method_8_code 5 = .ok (.getfield 29, 3) := by decide +kernel
theorem d9_8 : decode prog_44_method_8_code 8 = .ok (.if_icmp .le 14, 3) := by decide +kernel
theorem d9_11 : decode prog_44_method_8_code 11 = .ok (.aload_n 0, 1) := by decide +kernel
theorem d9_12 : decode prog_44_method_8_code 12 = .ok (.getfield 32, 3) := by decide +kernel
theorem d9_15 : decode prog_44_method_8_code 15 = .ok (.ifCond .ne 7, 3) := by decide +kernel
theorem d9_18 : decode prog_44_method_8_code 18 = .ok (.iconst 1, 1) := by decide +kernel
theorem d9_19 : decode prog_44_method_8_code 19 = .ok (.goto 4, 3) := by decide +kernel
theorem d9_23 : decode prog_44_method_8_code 23 = .ok (.ireturn, 1) := by decide +kernel
theorem d9_22 : decode prog_44_method_8_code 22 = .ok (.iconst 0, 1) := by decide +kernel
set_option maxRecDepth 65536 in
set_option maxHeartbeats 40000000 in
theorem rmIL (l : Launch) (Z : State) (a0 : Array Value) (hw : ∀ d ∈ tables_1, d.before a0 Z = true) (ws : List Jvm.Cond) (a1 : Addr) (sI : Int32) (eI : Int32) (tI : Int32) (h0 : Heap) (n0 : Nat) (Z0 : n0 ≤ h0.size) (PF1 : Fld Z h0 a1 "com/example/affordance/affordance/PathSegments" "start" "I" (.int sI)) (PF2 : Fld Z h0 a1 "com/example/affordance/affordance/PathSegments" "end" "I" (.int eI)) (PF3 : Fld Z h0 a1 "com/example/affordance/affordance/PathSegments" "template" "Z" (.int tI)) :
    MetFree l (⟨"com/example/affordance/affordance/PathSegments", "isLiteral", "()Z"⟩ : MethodName) (head1 (Jvm.Cond.code (⟨"com/example/affordance/affordance/PathSegments", "isLiteral", "()Z"⟩ : MethodName) prog_44_method_8_code 1 (some .boolean) :: ws) ({ frames := 0, cells := 0, slots := 0, locals := 0 } : Room)) (fun a U => a = #[(.ref a1)] ∧ Z.Warmed39 U.vm ∧ U.heap = h0) (fun _ _ _ _ _ => True) (fun _ U o U' => ∃ v L, o = .returned v ∧ QIL Z a1 sI eI tI h0 n0 v U'.heap L ∧ FrameEnd U o U' L ({ frames := 0, cells := 0, slots := 0, locals := 0 } : Room).cells ({ frames := 0, cells := 0, slots := 0, locals := 0 } : Room).slots) := by
  refine MetFree.of_bodySF (plainFor_of_name pn_2) hisR ?_
  intro p e s m args below meth c s₁ Bd hml0 hP hK
  obtain ⟨rfl, hZ, hh⟩ := hP
  have hx := Bd.exec
  have hby := Bd.bytes
  have hlk := BodyLoose.notSynchronized Bd
  have hml : c.maxLocals = 1 := hml0
  have hret := Bd.returns
  have hown : s.vm.findClass "com/example/affordance/affordance/PathSegments" = some m.cls := findClass_of_methodNamed Bd.named
  have hnm := (name_of_methodNamed Bd.named Bd.method).1
  have X0 : Stand p l e ({ frames := 0, cells := 0, slots := 0, locals := 0 } : Room) s m #[(.ref a1)] below meth c s₁ [] 0 0 := Stand.of_body Bd
  have e0 : s₁.heap = h0 := by rw [← hh, Bd.state]; rfl
  have N0 := Fr.nil n0
  show Go p e below s ({ frames := 0, cells := 0, slots := 0, locals := 0 } : Room).cells ({ frames := 0, cells := 0, slots := 0, locals := 0 } : Room).slots (QIL Z a1 sI eI tI h0 n0) s₁ (entryFrame m #[(.ref a1)] 1)
  refine Go.cast (ef_rmIL m a1) ?_
  show Go _ _ _ _ _ _ _ s₁ (mkF m 0 #[.val (.ref a1)] [])
  refine Go.step (fun t_ k_ => XS.aloadN X0.here hx rfl (hb hby d9_0) rfl rfl k_) ?_
  show Go _ _ _ _ _ _ _ s₁ (mkF m 1 #[.val (.ref a1)] [(.ref a1)])
  obtain ⟨T1, X1, e1, st1⟩ := getF X0 hx hZ hown (host := "") (Or.inl (hw _ (List.mem_of_getElem? (i := 37) rfl))) Via.refl e0 PF2 (g := (mkF m 1 #[.val (.ref a1)] [(.ref a1)])) rfl rfl (hb hby d9_1)
  refine Go.step st1 ?_
  show Go _ _ _ _ _ _ _ T1 (mkF m 4 #[.val (.ref a1)] [(.int eI)])
  refine Go.step (fun t_ k_ => XS.aloadN X1.here hx rfl (hb hby d9_4) rfl rfl k_) ?_
  show Go _ _ _ _ _ _ _ T1 (mkF m 5 #[.val (.ref a1)] [(.ref a1), (.int eI)])
  obtain ⟨T2, X2, e2, st2⟩ := getF X1 hx hZ hown (host := "") (Or.inl (hw _ (List.mem_of_getElem? (i := 46) rfl))) Via.refl e1 PF1 (g := (mkF m 5 #[.val (.ref a1)] [(.ref a1), (.int eI)])) rfl rfl (hb hby d9_5)
  refine Go.step st2 ?_
  show Go _ _ _ _ _ _ _ T2 (mkF m 8 #[.val (.ref a1)] [(.int sI), (.int eI)])
  by_cases hb8_3 : sI < eI
  · refine Go.step (fun t_ k_ => XS.icmpNo X2.here hx rfl (hb hby d9_8) rfl (XT.ii_le_f hb8_3) k_) ?_
    show Go _ _ _ _ _ _ _ T2 (mkF m 11 #[.val (.ref a1)] [])
    refine Go.step (fun t_ k_ => XS.aloadN X2.here hx rfl (hb hby d9_11) rfl rfl k_) ?_
    show Go _ _ _ _ _ _ _ T2 (mkF m 12 #[.val (.ref a1)] [(.ref a1)])
    obtain ⟨T4, X4, e4, st4⟩ := getF X2 hx hZ hown (host := "") (Or.inl (hw _ (List.mem_of_getElem? (i := 100) rfl))) Via.refl e2 PF3 (g := (mkF m 12 #[.val (.ref a1)] [(.ref a1)])) rfl rfl (hb hby d9_12)
    refine Go.step st4 ?_
    show Go _ _ _ _ _ _ _ T4 (mkF m 15 #[.val (.ref a1)] [(.int tI)])
    by_cases hb15_5 : tI = (0 : Int32)
    · refine Go.step (fun t_ k_ => XS.ifNo X4.here hx rfl (hb hby d9_15) rfl (XT.i0_ne_f hb15_5) k_) ?_
      show Go _ _ _ _ _ _ _ T4 (mkF m 18 #[.val (.ref a1)] [])
      refine Go.step (fun t_ k_ => XS.iconst X4.here hx rfl (hb hby d9_18) k_) ?_
      show Go _ _ _ _ _ _ _ T4 (mkF m 19 #[.val (.ref a1)] [(.int (1 : Int32))])
      refine Go.step (fun t_ k_ => XS.goto X4.here hx rfl (pc0 := 19) (pc' := 23) rfl (hb hby d9_19) (by decide) (by decide) k_) ?_
      show Go _ _ _ _ _ _ _ T4 (mkF m 23 #[.val (.ref a1)] [(.int (1 : Int32))])
      refine Go.ret X4 hx hlk hret rfl (Or.inl ⟨rfl, Or.inr (Or.inl rfl), _, rfl⟩) (hb hby d9_23) ?_ (by decide) (by decide)
      show QIL Z _ _ _ _ _ _ _ T4.heap _
      exact ⟨by simp [own_lit, hb8_3, hb15_5], N0, e4⟩
    · refine Go.step (fun t_ k_ => XS.ifYes X4.here hx rfl (pc0 := 15) (pc' := 22) rfl (hb hby d9_15) rfl (XT.i0_ne_t hb15_5) (by decide) (by decide) k_) ?_
      show Go _ _ _ _ _ _ _ T4 (mkF m 22 #[.val (.ref a1)] [])
      refine Go.step (fun t_ k_ => XS.iconst X4.here hx rfl (hb hby d9_22) k_) ?_
      show Go _ _ _ _ _ _ _ T4 (mkF m 23 #[.val (.ref a1)] [(.int (0 : Int32))])
      refine Go.ret X4 hx hlk hret rfl (Or.inl ⟨rfl, Or.inr (Or.inl rfl), _, rfl⟩) (hb hby d9_23) ?_ (by decide) (by decide)
      show QIL Z _ _ _ _ _ _ _ T4.heap _
      exact ⟨by simp [own_lit, hb8_3, hb15_5], N0, e4⟩
  · refine Go.step (fun t_ k_ => XS.icmpYes X2.here hx rfl (pc0 := 8) (pc' := 22) rfl (hb hby d9_8) rfl (XT.ii_le_t hb8_3) (by decide) (by decide) k_) ?_
    show Go _ _ _ _ _ _ _ T2 (mkF m 22 #[.val (.ref a1)] [])
    refine Go.step (fun t_ k_ => XS.iconst X2.here hx rfl (hb hby d9_22) k_) ?_
    show Go _ _ _ _ _ _ _ T2 (mkF m 23 #[.val (.ref a1)] [(.int (0 : Int32))])
    refine Go.ret X2 hx hlk hret rfl (Or.inl ⟨rfl, Or.inr (Or.inl rfl), _, rfl⟩) (hb hby d9_23) ?_ (by decide) (by decide)
    show QIL Z _ _ _ _ _ _ _ T2.heap _
    exact ⟨by simp [own_lit, hb8_3], N0, e2⟩
theorem ef_rmCd (m : MethodId) (a1 : Addr) : entryFrame m #[(.ref a1)] 1 = mkF m 0 #[.val (.ref a1)] [] := by first | (simp [entryFrame, mkF, argsToLocals, Value.category]; done) | rfl
def QCd (Z : State) (a1 : Addr) (G1 : Int32) (h0 : Heap) (n0 : Nat) (v : Option Value) (h : Heap) (L : List Loc) : Prop := v = some (.int (0 : Int32)) ∧ Fr n0 L ∧ h = h0
theorem d15_0 : decode jdk_42_method_152_code 0 = .ok (.getstatic 38, 3) := by decide +kernel
theorem d15_3 : decode jdk_42_method_152_code 3 = .ok (.ifCond .eq 10, 3) := by decide +kernel
theorem d15_6 : decode jdk_42_method_152_code 6 = .ok (.aload_n 0, 1) := by decide +kernel
theorem d15_7 : decode jdk_42_method_152_code 7 = .ok (.getfield 15, 3) := by decide +kernel
theorem d15_10 : decode jdk_42_method_152_code 10 = .ok (.goto 4, 3) := by decide +kernel
theorem d15_14 : decode jdk_42_method_152_code 14 = .ok (.ireturn, 1) := by decide +kernel
set_option maxRecDepth 65536 in
set_option maxHeartbeats 40000000 in
theorem rmCd (l : Launch) (Z : State) (a0 : Array Value) (hw : ∀ d ∈ tables_1, d.before a0 Z = true) (ws : List Jvm.Cond) (a1 : Addr) (G1 : Int32) (h0 : Heap) (n0 : Nat) (Z0 : n0 ≤ h0.size) (O0 : Old Z n0 h0) (S_COMPACT : Sta Z Z.heap "java/lang/String" "COMPACT_STRINGS" "Z" (.int G1)) (P_COMPACT : ¬ (G1 = (0 : Int32))) (PF1 : Fld Z h0 a1 "java/lang/String" "coder" "B" (.int (0 : Int32))) :
    MetFree l (⟨"java/lang/String", "coder", "()B"⟩ : MethodName) (head1 (Jvm.Cond.code (⟨"java/lang/String", "coder", "()B"⟩ : MethodName) jdk_42_method_152_code 1 (some .byte) :: ws) ({ frames := 0, cells := 0, slots := 0, locals := 0 } : Room)) (fun a U => a = #[(.ref a1)] ∧ Z.Warmed39 U.vm ∧ U.heap = h0) (fun _ _ _ _ _ => True) (fun _ U o U' => ∃ v L, o = .returned v ∧ QCd Z a1 G1 h0 n0 v U'.heap L ∧ FrameEnd U o U' L ({ frames := 0, cells := 0, slots := 0, locals := 0 } : Room).cells ({ frames := 0, cells := 0, slots := 0, locals := 0 } : Room).slots) := by
  refine MetFree.of_bodySF (plainFor_of_name pn_0) hisR ?_
  intro p e s m args below meth c s₁ Bd hml0 hP hK
  obtain ⟨rfl, hZ, hh⟩ := hP
  have hx := Bd.exec
  have hby := Bd.bytes
  have hlk := BodyLoose.notSynchronized Bd
  have hml : c.maxLocals = 1 := hml0
  have hret := Bd.returns
  have hown : s.vm.findClass "java/lang/String" = some m.cls := findClass_of_methodNamed Bd.named
  have hnm := (name_of_methodNamed Bd.named Bd.method).1
  have X0 : Stand p l e ({ frames := 0, cells := 0, slots := 0, locals := 0 } : Room) s m #[(.ref a1)] below meth c s₁ [] 0 0 := Stand.of_body Bd
  have e0 : s₁.heap = h0 := by rw [← hh, Bd.state]; rfl
  have N0 := Fr.nil n0
  show Go p e below s ({ frames := 0, cells := 0, slots := 0, locals := 0 } : Room).cells ({ frames := 0, cells := 0, slots := 0, locals := 0 } : Room).slots (QCd Z a1 G1 h0 n0) s₁ (entryFrame m #[(.ref a1)] 1)
  refine Go.cast (ef_rmCd m a1) ?_
  show Go _ _ _ _ _ _ _ s₁ (mkF m 0 #[.val (.ref a1)] [])
  obtain ⟨T1, X1, e1, st1⟩ := getS2 X0 hx hZ hown (host := "") (Or.inl (hw _ (List.mem_of_getElem? (i := 58) rfl))) Via.refl e0 (S_COMPACT.ext O0.2) (g := (mkF m 0 #[.val (.ref a1)] [])) rfl (hb hby d15_0)
  refine Go.step st1 ?_
  show Go _ _ _ _ _ _ _ T1 (mkF m 3 #[.val (.ref a1)] [(.int G1)])
  have hb3_2 : ¬ (G1 = (0 : Int32)) := by exact P_COMPACT
  refine Go.step (fun t_ k_ => XS.ifNo X1.here hx rfl (hb hby d15_3) rfl (XT.i0_eq_f hb3_2) k_) ?_
  show Go _ _ _ _ _ _ _ T1 (mkF m 6 #[.val (.ref a1)] [])
  refine Go.step (fun t_ k_ => XS.aloadN X1.here hx rfl (hb hby d15_6) rfl rfl k_) ?_
  show Go _ _ _ _ _ _ _ T1 (mkF m 7 #[.val (.ref a1)] [(.ref a1)])
  obtain ⟨T3, X3, e3, st3⟩ := getF X1 hx hZ hown (host := "") (Or.inl (hw _ (List.mem_of_getElem? (i := 29) rfl))) Via.refl e1 PF1 (g := (mkF m 7 #[.val (.ref a1)] [(.ref a1)])) rfl rfl (hb hby d15_7)
  refine Go.step st3 ?_
  show Go _ _ _ _ _ _ _ T3 (mkF m 10 #[.val (.ref a1)] [(.int (0 : Int32))])
  refine Go.step (fun t_ k_ => XS.goto X3.here hx rfl (pc0 := 10) (pc' := 14) rfl (hb hby d15_10) (by decide) (by decide) k_) ?_
  show Go _ _ _ _ _ _ _ T3 (mkF m 14 #[.val (.ref a1)] [(.int (0 : Int32))])
  refine Go.ret X3 hx hlk hret rfl (Or.inl ⟨rfl, Or.inr (Or.inr (Or.inl rfl)), _, rfl⟩) (hb hby d15_14) ?_ (by decide) (by decide)
  show QCd Z _ _ _ _ _ T3.heap _
  exact ⟨rfl, N0, e3⟩
theorem pn_3 : plainName "jdk/internal/util/ArraysSupport" = true := by first | (simp [plainName, overriddenIn]; done) | decide +kernel
theorem ef_rmMm (m : MethodId) (tp : Addr) (a3 : Addr) : entryFrame m #[(.ref tp), (.int (0 : Int32)), (.ref a3), (.int (0 : Int32)), (.int (1 : Int32))] 8 = mkF m 0 #[.val (.ref tp), .val (.int (0 : Int32)), .val (.ref a3), .val (.int (0 : Int32)), .val (.int (1 : Int32)), .unset, .unset, .unset] [] := by first | (simp [entryFrame, mkF, argsToLocals, Value.category]; done) | rfl
def QMm (Z : State) (tp : Addr) (a3 : Addr) (kbp : ClassId) (cs : List Int32) (k3 : ClassId) (h0 : Heap) (n0 : Nat) (v : Option Value) (h : Heap) (L : List Loc) : Prop := ∃ r : Int32, v = some (.int r) ∧ Fr n0 L ∧ h = h0
theorem d18_0 : decode jdk_48_method_14_code 0 = .ok (.iconst 0, 1) := by decide +kernel
theorem d18_1 : decode jdk_48_method_14_code 1 = .ok (.istore 5, 2) := by decide +kernel
theorem d18_3 : decode jdk_48_method_14_code 3 = .ok (.iload 4, 2) := by decide +kernel
theorem d18_5 : decode jdk_48_method_14_code 5 = .ok (.bipush 7, 2) := by decide +kernel
theorem d18_7 : decode jdk_48_method_14_code 7 = .ok (.if_icmp .le 63, 3) := by decide +kernel
theorem d18_70 : decode jdk_48_method_14_code 70 = .ok (.iload 5, 2) := by decide +kernel
theorem d18_72 : decode jdk_48_method_14_code 72 = .ok (.iload 4, 2) := by decide +kernel
theorem d18_74 : decode jdk_48_method_14_code 74 = .ok (.if_icmp .ge 27, 3) := by decide +kernel
theorem d18_77 : decode jdk_48_method_14_code 77 = .ok (.aload_n 0, 1) := by decide +kernel
theorem d18_78 : decode jdk_48_method_14_code 78 = .ok (.iload_n 1, 1) := by decide +kernel
theorem d18_79 : decode jdk_48_method_14_code 79 = .ok (.iload 5, 2) := by decide +kernel
theorem d18_81 : decode jdk_48_method_14_code 81 = .ok (.iadd, 1) := by decide +kernel
theorem d18_82 : decode jdk_48_method_14_code 82 = .ok (.baload, 1) := by decide +kernel
theorem d18_83 : decode jdk_48_method_14_code 83 = .ok (.aload_n 2, 1) := by decide +kernel
theorem d18_84 : decode jdk_48_method_14_code 84 = .ok (.iload_n 3, 1) := by decide +kernel
theorem d18_85 : decode jdk_48_method_14_code 85 = .ok (.iload 5, 2) := by decide +kernel
theorem d18_87 : decode jdk_48_method_14_code 87 = .ok (.iadd, 1) := by decide +kernel
theorem d18_88 : decode jdk_48_method_14_code 88 = .ok (.baload, 1) := by decide +kernel
theorem d18_89 : decode jdk_48_method_14_code 89 = .ok (.if_icmp .eq 6, 3) := by decide +kernel
theorem d18_95 : decode jdk_48_method_14_code 95 = .ok (.iinc 5 1, 3) := by decide +kernel
theorem d18_98 : decode jdk_48_method_14_code 98 = .ok (.goto (-28), 3) := by decide +kernel
theorem d18_101 : decode jdk_48_method_14_code 101 = .ok (.iconst (-1), 1) := by decide +kernel
theorem d18_102 : decode jdk_48_method_14_code 102 = .ok (.ireturn, 1) := by decide +kernel
theorem d18_92 : decode jdk_48_method_14_code 92 = .ok (.iload 5, 2) := by decide +kernel
theorem d18_94 : decode jdk_48_method_14_code 94 = .ok (.ireturn, 1) := by decide +kernel
set_option maxRecDepth 65536 in
set_option maxHeartbeats 40000000 in
theorem rmMm (l : Launch) (Z : State) (a0 : Array Value) (hw : ∀ d ∈ tables_1, d.before a0 Z = true) (ws : List Jvm.Cond) (tp : Addr) (a3 : Addr) (kbp : ClassId) (cs : List Int32) (k3 : ClassId) (h0 : Heap) (n0 : Nat) (Z0 : n0 ≤ h0.size) (PA : Arv Z h0 tp kbp .byte (Int32.ofNat cs.length) ((cs.map (fun c => c.toInt8.toInt32)).map Value.int) (.int (0 : Int32))) (PB : Arv Z h0 a3 k3 .byte (1 : Int32) ((([47] : List Int32).map (fun c => c.toInt8.toInt32)).map Value.int) (.int (0 : Int32))) (hlen : cs.length ≤ 4) (hl0 : 0 < cs.length) :
    MetFree l (⟨"jdk/internal/util/ArraysSupport", "mismatch", "([BI[BII)I"⟩ : MethodName) (head1 (Jvm.Cond.code (⟨"jdk/internal/util/ArraysSupport", "mismatch", "([BI[BII)I"⟩ : MethodName) jdk_48_method_14_code 8 (some .int) :: ws) ({ frames := 0, cells := 0, slots := 0, locals := 0 } : Room)) (fun a U => a = #[(.ref tp), (.int (0 : Int32)), (.ref a3), (.int (0 : Int32)), (.int (1 : Int32))] ∧ Z.Warmed39 U.vm ∧ U.heap = h0) (fun _ _ _ _ _ => True) (fun _ U o U' => ∃ v L, o = .returned v ∧ QMm Z tp a3 kbp cs k3 h0 n0 v U'.heap L ∧ FrameEnd U o U' L ({ frames := 0, cells := 0, slots := 0, locals := 0 } : Room).cells ({ frames := 0, cells := 0, slots := 0, locals := 0 } : Room).slots) := by
  refine MetFree.of_bodySF (plainFor_of_name pn_3) hisR ?_
  intro p e s m args below meth c s₁ Bd hml0 hP hK
  obtain ⟨rfl, hZ, hh⟩ := hP
  have hx := Bd.exec
  have hby := Bd.bytes
  have hlk := BodyLoose.notSynchronized Bd
  have hml : c.maxLocals = 8 := hml0
  have hret := Bd.returns
  have hown : s.vm.findClass "jdk/internal/util/ArraysSupport" = some m.cls := findClass_of_methodNamed Bd.named
  have hnm := (name_of_methodNamed Bd.named Bd.method).1
  have X0 : Stand p l e ({ frames := 0, cells := 0, slots := 0, locals := 0 } : Room) s m #[(.ref tp), (.int (0 : Int32)), (.ref a3), (.int (0 : Int32)), (.int (1 : Int32))] below meth c s₁ [] 0 0 := Stand.of_body Bd
  have e0 : s₁.heap = h0 := by rw [← hh, Bd.state]; rfl
  have N0 := Fr.nil n0
  show Go p e below s ({ frames := 0, cells := 0, slots := 0, locals := 0 } : Room).cells ({ frames := 0, cells := 0, slots := 0, locals := 0 } : Room).slots (QMm Z tp a3 kbp cs k3 h0 n0) s₁ (entryFrame m #[(.ref tp), (.int (0 : Int32)), (.ref a3), (.int (0 : Int32)), (.int (1 : Int32))] 8)
  refine Go.cast (ef_rmMm m tp a3) ?_
  show Go _ _ _ _ _ _ _ s₁ (mkF m 0 #[.val (.ref tp), .val (.int (0 : Int32)), .val (.ref a3), .val (.int (0 : Int32)), .val (.int (1 : Int32)), .unset, .unset, .unset] [])
  refine Go.step (fun t_ k_ => XS.iconst X0.here hx rfl (hb hby d18_0) k_) ?_
  show Go _ _ _ _ _ _ _ s₁ (mkF m 1 #[.val (.ref tp), .val (.int (0 : Int32)), .val (.ref a3), .val (.int (0 : Int32)), .val (.int (1 : Int32)), .unset, .unset, .unset] [(.int (0 : Int32))])
  refine Go.step (fun t_ k_ => XS.istore X0.here hx rfl (hb hby d18_1) rfl (l' := #[.val (.ref tp), .val (.int (0 : Int32)), .val (.ref a3), .val (.int (0 : Int32)), .val (.int (1 : Int32)), .val (.int (0 : Int32)), .unset, .unset]) rfl k_) ?_
  show Go _ _ _ _ _ _ _ s₁ (mkF m 3 #[.val (.ref tp), .val (.int (0 : Int32)), .val (.ref a3), .val (.int (0 : Int32)), .val (.int (1 : Int32)), .val (.int (0 : Int32)), .unset, .unset] [])
  refine Go.step (fun t_ k_ => XS.iload X0.here hx rfl (hb hby d18_3) rfl k_) ?_
  show Go _ _ _ _ _ _ _ s₁ (mkF m 5 #[.val (.ref tp), .val (.int (0 : Int32)), .val (.ref a3), .val (.int (0 : Int32)), .val (.int (1 : Int32)), .val (.int (0 : Int32)), .unset, .unset] [(.int (1 : Int32))])
  refine Go.step (fun t_ k_ => XS.bipush X0.here hx rfl (hb hby d18_5) k_) ?_
  show Go _ _ _ _ _ _ _ s₁ (mkF m 7 #[.val (.ref tp), .val (.int (0 : Int32)), .val (.ref a3), .val (.int (0 : Int32)), .val (.int (1 : Int32)), .val (.int (0 : Int32)), .unset, .unset] [(.int (7 : Int32)), (.int (1 : Int32))])
  have hb7_1 : ¬ ((7 : Int32) < (1 : Int32)) := by decide
  refine Go.step (fun t_ k_ => XS.icmpYes X0.here hx rfl (pc0 := 7) (pc' := 70) rfl (hb hby d18_7) rfl (XT.ii_le_t hb7_1) (by decide) (by decide) k_) ?_
  show Go _ _ _ _ _ _ _ s₁ (mkF m 70 #[.val (.ref tp), .val (.int (0 : Int32)), .val (.ref a3), .val (.int (0 : Int32)), .val (.int (1 : Int32)), .val (.int (0 : Int32)), .unset, .unset] [])
  refine Go.step (fun t_ k_ => XS.iload X0.here hx rfl (hb hby d18_70) rfl k_) ?_
  show Go _ _ _ _ _ _ _ s₁ (mkF m 72 #[.val (.ref tp), .val (.int (0 : Int32)), .val (.ref a3), .val (.int (0 : Int32)), .val (.int (1 : Int32)), .val (.int (0 : Int32)), .unset, .unset] [(.int (0 : Int32))])
  refine Go.step (fun t_ k_ => XS.iload X0.here hx rfl (hb hby d18_72) rfl k_) ?_
  show Go _ _ _ _ _ _ _ s₁ (mkF m 74 #[.val (.ref tp), .val (.int (0 : Int32)), .val (.ref a3), .val (.int (0 : Int32)), .val (.int (1 : Int32)), .val (.int (0 : Int32)), .unset, .unset] [(.int (1 : Int32)), (.int (0 : Int32))])
  have hb74_2 : (0 : Int32) < (1 : Int32) := by decide
  refine Go.step (fun t_ k_ => XS.icmpNo X0.here hx rfl (hb hby d18_74) rfl (XT.ii_ge_f hb74_2) k_) ?_
  show Go _ _ _ _ _ _ _ s₁ (mkF m 77 #[.val (.ref tp), .val (.int (0 : Int32)), .val (.ref a3), .val (.int (0 : Int32)), .val (.int (1 : Int32)), .val (.int (0 : Int32)), .unset, .unset] [])
  refine Go.step (fun t_ k_ => XS.aloadN X0.here hx rfl (hb hby d18_77) rfl rfl k_) ?_
  show Go _ _ _ _ _ _ _ s₁ (mkF m 78 #[.val (.ref tp), .val (.int (0 : Int32)), .val (.ref a3), .val (.int (0 : Int32)), .val (.int (1 : Int32)), .val (.int (0 : Int32)), .unset, .unset] [(.ref tp)])
  refine Go.step (fun t_ k_ => XS.iloadN X0.here hx rfl (hb hby d18_78) rfl k_) ?_
  show Go _ _ _ _ _ _ _ s₁ (mkF m 79 #[.val (.ref tp), .val (.int (0 : Int32)), .val (.ref a3), .val (.int (0 : Int32)), .val (.int (1 : Int32)), .val (.int (0 : Int32)), .unset, .unset] [(.int (0 : Int32)), (.ref tp)])
  refine Go.step (fun t_ k_ => XS.iload X0.here hx rfl (hb hby d18_79) rfl k_) ?_
  show Go _ _ _ _ _ _ _ s₁ (mkF m 81 #[.val (.ref tp), .val (.int (0 : Int32)), .val (.ref a3), .val (.int (0 : Int32)), .val (.int (1 : Int32)), .val (.int (0 : Int32)), .unset, .unset] [(.int (0 : Int32)), (.int (0 : Int32)), (.ref tp)])
  refine Go.step (fun t_ k_ => XS.iadd X0.here hx rfl (hb hby d18_81) rfl k_) ?_
  show Go _ _ _ _ _ _ _ s₁ (mkF m 82 #[.val (.ref tp), .val (.int (0 : Int32)), .val (.ref a3), .val (.int (0 : Int32)), .val (.int (1 : Int32)), .val (.int (0 : Int32)), .unset, .unset] [(.int (0 : Int32)), (.ref tp)])
  obtain ⟨c3, Ar3, q3, S3, M3, H3, U3⟩ := id PA
  have hin3 := inb_of (j := (0 : Int32)) S3 (own_inz hlen hl0)
  refine Go.step (fun t_ k_ => X0.baloadBytes hx (j := (0 : Int32)) (v := (.int (cs.getD 0 0).toInt8.toInt32)) (by rw [e0]; exact Ar3.1) (State.isArrayOf_alike hZ.alike Ar3.2.1) Ar3.2.2 hin3 (H3.at hin3 (own_byte hl0)) (g := (mkF m 82 #[.val (.ref tp), .val (.int (0 : Int32)), .val (.ref a3), .val (.int (0 : Int32)), .val (.int (1 : Int32)), .val (.int (0 : Int32)), .unset, .unset] [(.int (0 : Int32)), (.ref tp)])) rfl rfl (hb hby d18_82) _ k_) ?_
  show Go _ _ _ _ _ _ _ s₁ (mkF m 83 #[.val (.ref tp), .val (.int (0 : Int32)), .val (.ref a3), .val (.int (0 : Int32)), .val (.int (1 : Int32)), .val (.int (0 : Int32)), .unset, .unset] [(.int (cs.getD 0 0).toInt8.toInt32)])
  refine Go.step (fun t_ k_ => XS.aloadN X0.here hx rfl (hb hby d18_83) rfl rfl k_) ?_
  show Go _ _ _ _ _ _ _ s₁ (mkF m 84 #[.val (.ref tp), .val (.int (0 : Int32)), .val (.ref a3), .val (.int (0 : Int32)), .val (.int (1 : Int32)), .val (.int (0 : Int32)), .unset, .unset] [(.ref a3), (.int (cs.getD 0 0).toInt8.toInt32)])
  refine Go.step (fun t_ k_ => XS.iloadN X0.here hx rfl (hb hby d18_84) rfl k_) ?_
  show Go _ _ _ _ _ _ _ s₁ (mkF m 85 #[.val (.ref tp), .val (.int (0 : Int32)), .val (.ref a3), .val (.int (0 : Int32)), .val (.int (1 : Int32)), .val (.int (0 : Int32)), .unset, .unset] [(.int (0 : Int32)), (.ref a3), (.int (cs.getD 0 0).toInt8.toInt32)])
  refine Go.step (fun t_ k_ => XS.iload X0.here hx rfl (hb hby d18_85) rfl k_) ?_
  show Go _ _ _ _ _ _ _ s₁ (mkF m 87 #[.val (.ref tp), .val (.int (0 : Int32)), .val (.ref a3), .val (.int (0 : Int32)), .val (.int (1 : Int32)), .val (.int (0 : Int32)), .unset, .unset] [(.int (0 : Int32)), (.int (0 : Int32)), (.ref a3), (.int (cs.getD 0 0).toInt8.toInt32)])
  refine Go.step (fun t_ k_ => XS.iadd X0.here hx rfl (hb hby d18_87) rfl k_) ?_
  show Go _ _ _ _ _ _ _ s₁ (mkF m 88 #[.val (.ref tp), .val (.int (0 : Int32)), .val (.ref a3), .val (.int (0 : Int32)), .val (.int (1 : Int32)), .val (.int (0 : Int32)), .unset, .unset] [(.int (0 : Int32)), (.ref a3), (.int (cs.getD 0 0).toInt8.toInt32)])
  obtain ⟨c4, Ar4, q4, S4, M4, H4, U4⟩ := id PB
  have hin4 := inb_of (j := (0 : Int32)) S4 ⟨(by decide), (by decide)⟩
  refine Go.step (fun t_ k_ => X0.baloadBytes hx (j := (0 : Int32)) (v := (.int (47 : Int32))) (by rw [e0]; exact Ar4.1) (State.isArrayOf_alike hZ.alike Ar4.2.1) Ar4.2.2 hin4 (H4.at hin4 rfl) (g := (mkF m 88 #[.val (.ref tp), .val (.int (0 : Int32)), .val (.ref a3), .val (.int (0 : Int32)), .val (.int (1 : Int32)), .val (.int (0 : Int32)), .unset, .unset] [(.int (0 : Int32)), (.ref a3), (.int (cs.getD 0 0).toInt8.toInt32)])) rfl rfl (hb hby d18_88) _ k_) ?_
  show Go _ _ _ _ _ _ _ s₁ (mkF m 89 #[.val (.ref tp), .val (.int (0 : Int32)), .val (.ref a3), .val (.int (0 : Int32)), .val (.int (1 : Int32)), .val (.int (0 : Int32)), .unset, .unset] [(.int (47 : Int32)), (.int (cs.getD 0 0).toInt8.toInt32)])
  by_cases hb89_5 : (cs.getD 0 0).toInt8.toInt32 = (47 : Int32)
  · refine Go.step (fun t_ k_ => XS.icmpYes X0.here hx rfl (pc0 := 89) (pc' := 95) rfl (hb hby d18_89) rfl (XT.ii_eq_t hb89_5) (by decide) (by decide) k_) ?_
    show Go _ _ _ _ _ _ _ s₁ (mkF m 95 #[.val (.ref tp), .val (.int (0 : Int32)), .val (.ref a3), .val (.int (0 : Int32)), .val (.int (1 : Int32)), .val (.int (0 : Int32)), .unset, .unset] [])
    refine Go.step (fun t_ k_ => XS.iinc X0.here hx rfl (hb hby d18_95) rfl (l' := #[.val (.ref tp), .val (.int (0 : Int32)), .val (.ref a3), .val (.int (0 : Int32)), .val (.int (1 : Int32)), .val (.int (1 : Int32)), .unset, .unset]) rfl k_) ?_
    show Go _ _ _ _ _ _ _ s₁ (mkF m 98 #[.val (.ref tp), .val (.int (0 : Int32)), .val (.ref a3), .val (.int (0 : Int32)), .val (.int (1 : Int32)), .val (.int (1 : Int32)), .unset, .unset] [])
    refine Go.step (fun t_ k_ => XS.goto X0.here hx rfl (pc0 := 98) (pc' := 70) rfl (hb hby d18_98) (by decide) (by decide) k_) ?_
    show Go _ _ _ _ _ _ _ s₁ (mkF m 70 #[.val (.ref tp), .val (.int (0 : Int32)), .val (.ref a3), .val (.int (0 : Int32)), .val (.int (1 : Int32)), .val (.int (1 : Int32)), .unset, .unset] [])
    refine Go.step (fun t_ k_ => XS.iload X0.here hx rfl (hb hby d18_70) rfl k_) ?_
    show Go _ _ _ _ _ _ _ s₁ (mkF m 72 #[.val (.ref tp), .val (.int (0 : Int32)), .val (.ref a3), .val (.int (0 : Int32)), .val (.int (1 : Int32)), .val (.int (1 : Int32)), .unset, .unset] [(.int (1 : Int32))])
    refine Go.step (fun t_ k_ => XS.iload X0.here hx rfl (hb hby d18_72) rfl k_) ?_
    show Go _ _ _ _ _ _ _ s₁ (mkF m 74 #[.val (.ref tp), .val (.int (0 : Int32)), .val (.ref a3), .val (.int (0 : Int32)), .val (.int (1 : Int32)), .val (.int (1 : Int32)), .unset, .unset] [(.int (1 : Int32)), (.int (1 : Int32))])
    have hb74_6 : ¬ ((1 : Int32) < (1 : Int32)) := by decide
    refine Go.step (fun t_ k_ => XS.icmpYes X0.here hx rfl (pc0 := 74) (pc' := 101) rfl (hb hby d18_74) rfl (XT.ii_ge_t hb74_6) (by decide) (by decide) k_) ?_
    show Go _ _ _ _ _ _ _ s₁ (mkF m 101 #[.val (.ref tp), .val (.int (0 : Int32)), .val (.ref a3), .val (.int (0 : Int32)), .val (.int (1 : Int32)), .val (.int (1 : Int32)), .unset, .unset] [])
    refine Go.step (fun t_ k_ => XS.iconst X0.here hx rfl (hb hby d18_101) k_) ?_
    show Go _ _ _ _ _ _ _ s₁ (mkF m 102 #[.val (.ref tp), .val (.int (0 : Int32)), .val (.ref a3), .val (.int (0 : Int32)), .val (.int (1 : Int32)), .val (.int (1 : Int32)), .unset, .unset] [(.int (-1 : Int32))])
    refine Go.ret X0 hx hlk hret rfl (Or.inl ⟨rfl, Or.inl rfl, _, rfl⟩) (hb hby d18_102) ?_ (by decide) (by decide)
    show QMm Z _ _ _ _ _ _ _ _ s₁.heap _
    exact ⟨_, rfl, N0, e0⟩
  · refine Go.step (fun t_ k_ => XS.icmpNo X0.here hx rfl (hb hby d18_89) rfl (XT.ii_eq_f hb89_5) k_) ?_
    show Go _ _ _ _ _ _ _ s₁ (mkF m 92 #[.val (.ref tp), .val (.int (0 : Int32)), .val (.ref a3), .val (.int (0 : Int32)), .val (.int (1 : Int32)), .val (.int (0 : Int32)), .unset, .unset] [])
    refine Go.step (fun t_ k_ => XS.iload X0.here hx rfl (hb hby d18_92) rfl k_) ?_
    show Go _ _ _ _ _ _ _ s₁ (mkF m 94 #[.val (.ref tp), .val (.int (0 : Int32)), .val (.ref a3), .val (.int (0 : Int32)), .val (.int (1 : Int32)), .val (.int (0 : Int32)), .unset, .unset] [(.int (0 : Int32))])
    refine Go.ret X0 hx hlk hret rfl (Or.inl ⟨rfl, Or.inl rfl, _, rfl⟩) (hb hby d18_94) ?_ (by decide) (by decide)
    show QMm Z _ _ _ _ _ _ _ _ s₁.heap _
    exact ⟨_, rfl, N0, e0⟩
theorem ef_rmSW2 (m : MethodId) (a1 : Addr) (a2 : Addr) : entryFrame m #[(.ref a1), (.ref a2), (.int (0 : Int32))] 8 = mkF m 0 #[.val (.ref a1), .val (.ref a2), .val (.int (0 : Int32)), .unset, .unset, .unset, .unset, .unset] [] := by first | (simp [entryFrame, mkF, argsToLocals, Value.category]; done) | rfl
def QSW2 (Z : State) (a1 : Addr) (a2 : Addr) (G1 : Int32) (tp : Addr) (kbp : ClassId) (cs : List Int32) (tl : Addr) (kbl : ClassId) (h0 : Heap) (n0 : Nat) (v : Option Value) (h : Heap) (L : List Loc) : Prop := ∃ r : Int32, v = some (.int r) ∧ (r = 0 ∨ (r = 1 ∧ 0 < cs.length)) ∧ Fr n0 L ∧ h = h0
theorem d17_0 : decode jdk_42_method_75_code 0 = .ok (.iload_n 2, 1) := by decide +kernel
theorem d17_1 : decode jdk_42_method_75_code 1 = .ok (.ifCond .lt 16, 3) := by decide +kernel
theorem d17_4 : decode jdk_42_method_75_code 4 = .ok (.iload_n 2, 1) := by decide +kernel
theorem d17_5 : decode jdk_42_method_75_code 5 = .ok (.aload_n 0, 1) := by decide +kernel
theorem d17_6 : decode jdk_42_method_75_code 6 = .ok (.invokevirtual 505, 3) := by decide +kernel
theorem d17_9 : decode jdk_42_method_75_code 9 = .ok (.aload_n 1, 1) := by decide +kernel
theorem d17_10 : decode jdk_42_method_75_code 10 = .ok (.invokevirtual 505, 3) := by decide +kernel
theorem d17_13 : decode jdk_42_method_75_code 13 = .ok (.isub, 1) := by decide +kernel
theorem d17_14 : decode jdk_42_method_75_code 14 = .ok (.if_icmp .le 5, 3) := by decide +kernel
theorem d17_17 : decode jdk_42_method_75_code 17 = .ok (.iconst 0, 1) := by decide +kernel
theorem d17_18 : decode jdk_42_method_75_code 18 = .ok (.ireturn, 1) := by decide +kernel
theorem d17_19 : decode jdk_42_method_75_code 19 = .ok (.aload_n 0, 1) := by decide +kernel
theorem d17_20 : decode jdk_42_method_75_code 20 = .ok (.getfield 9, 3) := by decide +kernel
theorem d17_23 : decode jdk_42_method_75_code 23 = .ok (.astore_n 3, 1) := by decide +kernel
theorem d17_24 : decode jdk_42_method_75_code 24 = .ok (.aload_n 1, 1) := by decide +kernel
theorem d17_25 : decode jdk_42_method_75_code 25 = .ok (.getfield 9, 3) := by decide +kernel
theorem d17_28 : decode jdk_42_method_75_code 28 = .ok (.astore 4, 2) := by decide +kernel
theorem d17_30 : decode jdk_42_method_75_code 30 = .ok (.iconst 0, 1) := by decide +kernel
theorem d17_31 : decode jdk_42_method_75_code 31 = .ok (.istore 5, 2) := by decide +kernel
theorem d17_33 : decode jdk_42_method_75_code 33 = .ok (.aload 4, 2) := by decide +kernel
theorem d17_35 : decode jdk_42_method_75_code 35 = .ok (.arraylength, 1) := by decide +kernel
theorem d17_36 : decode jdk_42_method_75_code 36 = .ok (.istore 6, 2) := by decide +kernel
theorem d17_38 : decode jdk_42_method_75_code 38 = .ok (.aload_n 0, 1) := by decide +kernel
theorem pd_4 : parseMethodDescriptor "()B" = some ⟨[], some .byte⟩ := by decide +kernel
theorem d17_39 : decode jdk_42_method_75_code 39 = .ok (.invokevirtual 335, 3) := by decide +kernel
theorem d17_42 : decode jdk_42_method_75_code 42 = .ok (.istore 7, 2) := by decide +kernel
theorem d17_44 : decode jdk_42_method_75_code 44 = .ok (.iload 7, 2) := by decide +kernel
theorem d17_46 : decode jdk_42_method_75_code 46 = .ok (.aload_n 1, 1) := by decide +kernel
theorem d17_47 : decode jdk_42_method_75_code 47 = .ok (.invokevirtual 335, 3) := by decide +kernel
theorem d17_50 : decode jdk_42_method_75_code 50 = .ok (.if_icmp .ne 32, 3) := by decide +kernel
theorem d17_53 : decode jdk_42_method_75_code 53 = .ok (.iload 7, 2) := by decide +kernel
theorem d17_55 : decode jdk_42_method_75_code 55 = .ok (.iconst 1, 1) := by decide +kernel
theorem d17_56 : decode jdk_42_method_75_code 56 = .ok (.if_icmp .ne 7, 3) := by decide +kernel
theorem d17_63 : decode jdk_42_method_75_code 63 = .ok (.aload_n 3, 1) := by decide +kernel
theorem d17_64 : decode jdk_42_method_75_code 64 = .ok (.iload_n 2, 1) := by decide +kernel
theorem d17_65 : decode jdk_42_method_75_code 65 = .ok (.aload 4, 2) := by decide +kernel
theorem d17_67 : decode jdk_42_method_75_code 67 = .ok (.iconst 0, 1) := by decide +kernel
theorem d17_68 : decode jdk_42_method_75_code 68 = .ok (.iload 6, 2) := by decide +kernel
theorem pd_5 : parseMethodDescriptor "([BI[BII)I" = some ⟨[(.array .byte), .int, (.array .byte), .int, .int], some .int⟩ := by decide +kernel
theorem d17_70 : decode jdk_42_method_75_code 70 = .ok (.invokestatic 607, 3) := by decide +kernel
theorem d17_73 : decode jdk_42_method_75_code 73 = .ok (.ifCond .ge 7, 3) := by decide +kernel
theorem d17_76 : decode jdk_42_method_75_code 76 = .ok (.iconst 1, 1) := by decide +kernel
theorem d17_77 : decode jdk_42_method_75_code 77 = .ok (.goto 4, 3) := by decide +kernel
theorem d17_81 : decode jdk_42_method_75_code 81 = .ok (.ireturn, 1) := by decide +kernel
theorem d17_80 : decode jdk_42_method_75_code 80 = .ok (.iconst 0, 1) := by decide +kernel
set_option maxRecDepth 65536 in
set_option maxHeartbeats 40000000 in
theorem rmSW2 (l : Launch) (Z : State) (a0 : Array Value) (hw : ∀ d ∈ tables_1, d.before a0 Z = true) (ws : List Jvm.Cond) (a1 : Addr) (a2 : Addr) (G1 : Int32) (tp : Addr) (kbp : ClassId) (cs : List Int32) (tl : Addr) (kbl : ClassId) (h0 : Heap) (n0 : Nat) (Z0 : n0 ≤ h0.size) (O0 : Old Z n0 h0) (S_COMPACT : Sta Z Z.heap "java/lang/String" "COMPACT_STRINGS" "Z" (.int G1)) (P_COMPACT : ¬ (G1 = (0 : Int32))) (PE : Exa Z h0 a1 "java/lang/String") (PV : Fld Z h0 a1 "java/lang/String" "value" "[B" (.ref tp)) (PC : Fld Z h0 a1 "java/lang/String" "coder" "B" (.int (0 : Int32))) (PA : Arv Z h0 tp kbp .byte (Int32.ofNat cs.length) ((cs.map (fun c => c.toInt8.toInt32)).map Value.int) (.int (0 : Int32))) (hok : ∀ c ∈ cs, ¬ c < 0 ∧ ¬ (255 : Int32) < c) (hlen : cs.length ≤ 4) (LE : Exa Z h0 a2 "java/lang/String") (LV : Fld Z h0 a2 "java/lang/String" "value" "[B" (.ref tl)) (LC : Fld Z h0 a2 "java/lang/String" "coder" "B" (.int (0 : Int32))) (LA : Arv Z h0 tl kbl .byte (1 : Int32) ((([47] : List Int32).map (fun c => c.toInt8.toInt32)).map Value.int) (.int (0 : Int32))) :
    MetFree l (⟨"java/lang/String", "startsWith", "(Ljava/lang/String;I)Z"⟩ : MethodName) (head1 (Jvm.Cond.code (⟨"java/lang/String", "startsWith", "(Ljava/lang/String;I)Z"⟩ : MethodName) jdk_42_method_75_code 8 (some .boolean) :: ws) ({ frames := 2, cells := 0, slots := 0, locals := 40 } : Room)) (fun a U => a = #[(.ref a1), (.ref a2), (.int (0 : Int32))] ∧ Z.Warmed39 U.vm ∧ U.heap = h0) (fun _ _ _ _ _ => True) (fun _ U o U' => ∃ v L, o = .returned v ∧ QSW2 Z a1 a2 G1 tp kbp cs tl kbl h0 n0 v U'.heap L ∧ FrameEnd U o U' L ({ frames := 2, cells := 0, slots := 0, locals := 40 } : Room).cells ({ frames := 2, cells := 0, slots := 0, locals := 40 } : Room).slots) := by
  refine MetFree.of_bodySF (plainFor_of_name pn_0) hisR ?_
  intro p e s m args below meth c s₁ Bd hml0 hP hK
  obtain ⟨rfl, hZ, hh⟩ := hP
  have hx := Bd.exec
  have hby := Bd.bytes
  have hlk := BodyLoose.notSynchronized Bd
  have hml : c.maxLocals = 8 := hml0
  have hret := Bd.returns
  have hown : s.vm.findClass "java/lang/String" = some m.cls := findClass_of_methodNamed Bd.named
  have hnm := (name_of_methodNamed Bd.named Bd.method).1
  have X0 : Stand p l e ({ frames := 2, cells := 0, slots := 0, locals := 40 } : Room) s m #[(.ref a1), (.ref a2), (.int (0 : Int32))] below meth c s₁ [] 0 0 := Stand.of_body Bd
  have e0 : s₁.heap = h0 := by rw [← hh, Bd.state]; rfl
  have N0 := Fr.nil n0
  show Go p e below s ({ frames := 2, cells := 0, slots := 0, locals := 40 } : Room).cells ({ frames := 2, cells := 0, slots := 0, locals := 40 } : Room).slots (QSW2 Z a1 a2 G1 tp kbp cs tl kbl h0 n0) s₁ (entryFrame m #[(.ref a1), (.ref a2), (.int (0 : Int32))] 8)
  refine Go.cast (ef_rmSW2 m a1 a2) ?_
  show Go _ _ _ _ _ _ _ s₁ (mkF m 0 #[.val (.ref a1), .val (.ref a2), .val (.int (0 : Int32)), .unset, .unset, .unset, .unset, .unset] [])
  refine Go.step (fun t_ k_ => XS.iloadN X0.here hx rfl (hb hby d17_0) rfl k_) ?_
  show Go _ _ _ _ _ _ _ s₁ (mkF m 1 #[.val (.ref a1), .val (.ref a2), .val (.int (0 : Int32)), .unset, .unset, .unset, .unset, .unset] [(.int (0 : Int32))])
  have hb1_1 : ¬ ((0 : Int32) < (0 : Int32)) := by decide
  refine Go.step (fun t_ k_ => XS.ifNo X0.here hx rfl (hb hby d17_1) rfl (XT.i0_lt_f hb1_1) k_) ?_
  show Go _ _ _ _ _ _ _ s₁ (mkF m 4 #[.val (.ref a1), .val (.ref a2), .val (.int (0 : Int32)), .unset, .unset, .unset, .unset, .unset] [])
  refine Go.step (fun t_ k_ => XS.iloadN X0.here hx rfl (hb hby d17_4) rfl k_) ?_
  show Go _ _ _ _ _ _ _ s₁ (mkF m 5 #[.val (.ref a1), .val (.ref a2), .val (.int (0 : Int32)), .unset, .unset, .unset, .unset, .unset] [(.int (0 : Int32))])
  refine Go.step (fun t_ k_ => XS.aloadN X0.here hx rfl (hb hby d17_5) rfl rfl k_) ?_
  show Go _ _ _ _ _ _ _ s₁ (mkF m 6 #[.val (.ref a1), .val (.ref a2), .val (.int (0 : Int32)), .unset, .unset, .unset, .unset, .unset] [(.ref a1), (.int (0 : Int32))])
  have hcd2 : StrChars.Road.CodA cs 0 (Int32.ofNat cs.length) ((cs.map (fun c => c.toInt8.toInt32)).map Value.int) := StrChars.Road.codOf rfl (fun c hc => (hok c hc).2)
  have hbd2 : ∀ c ∈ cs, ¬ c < 0 ∧ ¬ (65535 : Int32) < c := own_up _ hok
  obtain ⟨cq2, kq2, qa2, qb2, qc2⟩ := isOf hZ e0 PE
  obtain ⟨vv2, _, ⟨T2, L2, k2, n2⟩, -, X2, ⟨Lc2, hQ2, l2, y2, z2⟩, st2⟩ := X0.virtualBack hx (y := (⟨"java/lang/String", "length", "()I"⟩ : MethodName)) (z := (⟨"java/lang/String", "length", "()I"⟩ : MethodName)) hown (mvT hZ (hw _ (List.mem_of_getElem? (i := 95) rfl))) (mvT hZ (hw _ (List.mem_of_getElem? (i := 75) rfl))) (notFace_of_selects (args := #[]) (mvT hZ (hw _ (List.mem_of_getElem? (i := 77) rfl)))) (mvT hZ (hw _ (List.mem_of_getElem? (i := 77) rfl))) (mvT hZ (hw _ (List.mem_of_getElem? (i := 76) rfl))) (by decide) (StrChars.Road.lenW (W := 1) hZ (own_wordsLen hw) (kI := 4) (hw _ (List.mem_of_getElem? (i := 9) rfl)) PE PV PC PA hcd2 hbd2 (S_COMPACT.ext O0.2) P_COMPACT (own_le4 hlen) (by decide) (by decide)) qa2 qc2 (g := (mkF m 6 #[.val (.ref a1), .val (.ref a2), .val (.int (0 : Int32)), .unset, .unset, .unset, .unset, .unset] [(.ref a1), (.int (0 : Int32))])) rfl (by rw [hml]; rfl) (Steps.refl _) (argsL := []) (rest := [(.int (0 : Int32))]) (lenOf pd_2 rfl) rfl (by show 2 * 0 + _ ≤ _; exact Nat.le_of_eq rfl) (hb hby d17_6) (fun _ _ => ⟨rfl, e0, (by decide : 0 + 0 ≤ _), (by decide : 0 + 0 ≤ _)⟩)
  dsimp only [Pt.U, Pt.locs, Pt.cells, Pt.slots] at X2 l2 y2 z2 st2 hQ2
  subst l2 y2 z2
  obtain ⟨rfl, rfl, e2⟩ := hQ2
  have N2 := Fr.app N0 (Fr.nil n0)
  refine Go.step (fun t_ k_ => st2.trans k_) ?_
  show Go _ _ _ _ _ _ _ T2 (mkF m 9 #[.val (.ref a1), .val (.ref a2), .val (.int (0 : Int32)), .unset, .unset, .unset, .unset, .unset] [(.int (Int32.ofNat cs.length)), (.int (0 : Int32))])
  refine Go.step (fun t_ k_ => XS.aloadN X2.here hx rfl (hb hby d17_9) rfl rfl k_) ?_
  show Go _ _ _ _ _ _ _ T2 (mkF m 10 #[.val (.ref a1), .val (.ref a2), .val (.int (0 : Int32)), .unset, .unset, .unset, .unset, .unset] [(.ref a2), (.int (Int32.ofNat cs.length)), (.int (0 : Int32))])
  have hcd3 : StrChars.Road.CodA ([47] : List Int32) 0 (1 : Int32) ((([47] : List Int32).map (fun c => c.toInt8.toInt32)).map Value.int) := StrChars.Road.codOf (n := 1) rfl (fun c hc => (own_slash c hc).2)
  have hbd3 : ∀ c ∈ ([47] : List Int32), ¬ c < 0 ∧ ¬ (65535 : Int32) < c := own_up _ own_slash
  obtain ⟨cq3, kq3, qa3, qb3, qc3⟩ := isOf hZ e2 LE
  obtain ⟨vv3, _, ⟨T3, L3, k3, n3⟩, -, X3, ⟨Lc3, hQ3, l3, y3, z3⟩, st3⟩ := X2.virtualBack hx (y := (⟨"java/lang/String", "length", "()I"⟩ : MethodName)) (z := (⟨"java/lang/String", "length", "()I"⟩ : MethodName)) hown (mvT hZ (hw _ (List.mem_of_getElem? (i := 95) rfl))) (mvT hZ (hw _ (List.mem_of_getElem? (i := 75) rfl))) (notFace_of_selects (args := #[]) (mvT hZ (hw _ (List.mem_of_getElem? (i := 77) rfl)))) (mvT hZ (hw _ (List.mem_of_getElem? (i := 77) rfl))) (mvT hZ (hw _ (List.mem_of_getElem? (i := 76) rfl))) (by decide) (StrChars.Road.lenW (W := 2) hZ (own_wordsLen hw) (kI := 4) (hw _ (List.mem_of_getElem? (i := 9) rfl)) LE LV LC LA hcd3 hbd3 (S_COMPACT.ext O0.2) P_COMPACT (Nat.le_of_ble_eq_true rfl) (by decide) (by decide)) qa3 qc3 (g := (mkF m 10 #[.val (.ref a1), .val (.ref a2), .val (.int (0 : Int32)), .unset, .unset, .unset, .unset, .unset] [(.ref a2), (.int (Int32.ofNat cs.length)), (.int (0 : Int32))])) rfl (by rw [hml]; rfl) (Steps.refl _) (argsL := []) (rest := [(.int (Int32.ofNat cs.length)), (.int (0 : Int32))]) (lenOf pd_2 rfl) rfl (by show 2 * 0 + _ ≤ _; exact Nat.le_of_eq rfl) (hb hby d17_10) (fun _ _ => ⟨rfl, e2, (by decide : 0 + 0 ≤ _), (by decide : 0 + 0 ≤ _)⟩)
  dsimp only [Pt.U, Pt.locs, Pt.cells, Pt.slots] at X3 l3 y3 z3 st3 hQ3
  subst l3 y3 z3
  obtain ⟨rfl, rfl, e3⟩ := hQ3
  have N3 := Fr.app N2 (Fr.nil n0)
  refine Go.step (fun t_ k_ => st3.trans k_) ?_
  show Go _ _ _ _ _ _ _ T3 (mkF m 13 #[.val (.ref a1), .val (.ref a2), .val (.int (0 : Int32)), .unset, .unset, .unset, .unset, .unset] [(.int (1 : Int32)), (.int (Int32.ofNat cs.length)), (.int (0 : Int32))])
  refine Go.step (fun t_ k_ => XS.isub X3.here hx rfl (hb hby d17_13) rfl k_) ?_
  show Go _ _ _ _ _ _ _ T3 (mkF m 14 #[.val (.ref a1), .val (.ref a2), .val (.int (0 : Int32)), .unset, .unset, .unset, .unset, .unset] [(.int ((Int32.ofNat cs.length) - (1 : Int32))), (.int (0 : Int32))])
  by_cases hb14_4 : ((Int32.ofNat cs.length) - (1 : Int32)) < (0 : Int32)
  · refine Go.step (fun t_ k_ => XS.icmpNo X3.here hx rfl (hb hby d17_14) rfl (XT.ii_le_f hb14_4) k_) ?_
    show Go _ _ _ _ _ _ _ T3 (mkF m 17 #[.val (.ref a1), .val (.ref a2), .val (.int (0 : Int32)), .unset, .unset, .unset, .unset, .unset] [])
    refine Go.step (fun t_ k_ => XS.iconst X3.here hx rfl (hb hby d17_17) k_) ?_
    show Go _ _ _ _ _ _ _ T3 (mkF m 18 #[.val (.ref a1), .val (.ref a2), .val (.int (0 : Int32)), .unset, .unset, .unset, .unset, .unset] [(.int (0 : Int32))])
    refine Go.ret X3 hx hlk hret rfl (Or.inl ⟨rfl, Or.inr (Or.inl rfl), _, rfl⟩) (hb hby d17_18) ?_ (by decide) (by decide)
    show QSW2 Z _ _ _ _ _ _ _ _ _ _ _ T3.heap _
    exact ⟨_, rfl, Or.inl rfl, N3, e3⟩
  · refine Go.step (fun t_ k_ => XS.icmpYes X3.here hx rfl (pc0 := 14) (pc' := 19) rfl (hb hby d17_14) rfl (XT.ii_le_t hb14_4) (by decide) (by decide) k_) ?_
    show Go _ _ _ _ _ _ _ T3 (mkF m 19 #[.val (.ref a1), .val (.ref a2), .val (.int (0 : Int32)), .unset, .unset, .unset, .unset, .unset] [])
    refine Go.step (fun t_ k_ => XS.aloadN X3.here hx rfl (hb hby d17_19) rfl rfl k_) ?_
    show Go _ _ _ _ _ _ _ T3 (mkF m 20 #[.val (.ref a1), .val (.ref a2), .val (.int (0 : Int32)), .unset, .unset, .unset, .unset, .unset] [(.ref a1)])
    obtain ⟨T5, X5, e5, st5⟩ := getF X3 hx hZ hown (host := "") (Or.inl (hw _ (List.mem_of_getElem? (i := 28) rfl))) Via.refl e3 PV (g := (mkF m 20 #[.val (.ref a1), .val (.ref a2), .val (.int (0 : Int32)), .unset, .unset, .unset, .unset, .unset] [(.ref a1)])) rfl rfl (hb hby d17_20)
    refine Go.step st5 ?_
    show Go _ _ _ _ _ _ _ T5 (mkF m 23 #[.val (.ref a1), .val (.ref a2), .val (.int (0 : Int32)), .unset, .unset, .unset, .unset, .unset] [(.ref tp)])
    refine Go.step (fun t_ k_ => XS.astoreN X5.here hx rfl (hb hby d17_23) rfl rfl (l' := #[.val (.ref a1), .val (.ref a2), .val (.int (0 : Int32)), .val (.ref tp), .unset, .unset, .unset, .unset]) rfl k_) ?_
    show Go _ _ _ _ _ _ _ T5 (mkF m 24 #[.val (.ref a1), .val (.ref a2), .val (.int (0 : Int32)), .val (.ref tp), .unset, .unset, .unset, .unset] [])
    refine Go.step (fun t_ k_ => XS.aloadN X5.here hx rfl (hb hby d17_24) rfl rfl k_) ?_
    show Go _ _ _ _ _ _ _ T5 (mkF m 25 #[.val (.ref a1), .val (.ref a2), .val (.int (0 : Int32)), .val (.ref tp), .unset, .unset, .unset, .unset] [(.ref a2)])
    obtain ⟨T6, X6, e6, st6⟩ := getF X5 hx hZ hown (host := "") (Or.inl (hw _ (List.mem_of_getElem? (i := 28) rfl))) Via.refl e5 LV (g := (mkF m 25 #[.val (.ref a1), .val (.ref a2), .val (.int (0 : Int32)), .val (.ref tp), .unset, .unset, .unset, .unset] [(.ref a2)])) rfl rfl (hb hby d17_25)
    refine Go.step st6 ?_
    show Go _ _ _ _ _ _ _ T6 (mkF m 28 #[.val (.ref a1), .val (.ref a2), .val (.int (0 : Int32)), .val (.ref tp), .unset, .unset, .unset, .unset] [(.ref tl)])
    refine Go.step (fun t_ k_ => XS.astore X6.here hx rfl (hb hby d17_28) rfl rfl (l' := #[.val (.ref a1), .val (.ref a2), .val (.int (0 : Int32)), .val (.ref tp), .val (.ref tl), .unset, .unset, .unset]) rfl k_) ?_
    show Go _ _ _ _ _ _ _ T6 (mkF m 30 #[.val (.ref a1), .val (.ref a2), .val (.int (0 : Int32)), .val (.ref tp), .val (.ref tl), .unset, .unset, .unset] [])
    refine Go.step (fun t_ k_ => XS.iconst X6.here hx rfl (hb hby d17_30) k_) ?_
    show Go _ _ _ _ _ _ _ T6 (mkF m 31 #[.val (.ref a1), .val (.ref a2), .val (.int (0 : Int32)), .val (.ref tp), .val (.ref tl), .unset, .unset, .unset] [(.int (0 : Int32))])
    refine Go.step (fun t_ k_ => XS.istore X6.here hx rfl (hb hby d17_31) rfl (l' := #[.val (.ref a1), .val (.ref a2), .val (.int (0 : Int32)), .val (.ref tp), .val (.ref tl), .val (.int (0 : Int32)), .unset, .unset]) rfl k_) ?_
    show Go _ _ _ _ _ _ _ T6 (mkF m 33 #[.val (.ref a1), .val (.ref a2), .val (.int (0 : Int32)), .val (.ref tp), .val (.ref tl), .val (.int (0 : Int32)), .unset, .unset] [])
    refine Go.step (fun t_ k_ => XS.aload X6.here hx rfl (hb hby d17_33) rfl rfl k_) ?_
    show Go _ _ _ _ _ _ _ T6 (mkF m 35 #[.val (.ref a1), .val (.ref a2), .val (.int (0 : Int32)), .val (.ref tp), .val (.ref tl), .val (.int (0 : Int32)), .unset, .unset] [(.ref tl)])
    obtain ⟨c7, Ar7, q7, S7, M7, H7, U7⟩ := id LA
    refine Go.step (fun t_ k_ => X6.arraylength hx (by rw [e6]; exact Ar7.1) (State.isArrayOf_alike hZ.alike Ar7.2.1) (g := (mkF m 35 #[.val (.ref a1), .val (.ref a2), .val (.int (0 : Int32)), .val (.ref tp), .val (.ref tl), .val (.int (0 : Int32)), .unset, .unset] [(.ref tl)])) rfl rfl (hb hby d17_35) _ k_) ?_
    rw [len_of S7 M7]
    show Go _ _ _ _ _ _ _ T6 (mkF m 36 #[.val (.ref a1), .val (.ref a2), .val (.int (0 : Int32)), .val (.ref tp), .val (.ref tl), .val (.int (0 : Int32)), .unset, .unset] [(.int (1 : Int32))])
    refine Go.step (fun t_ k_ => XS.istore X6.here hx rfl (hb hby d17_36) rfl (l' := #[.val (.ref a1), .val (.ref a2), .val (.int (0 : Int32)), .val (.ref tp), .val (.ref tl), .val (.int (0 : Int32)), .val (.int (1 : Int32)), .unset]) rfl k_) ?_
    show Go _ _ _ _ _ _ _ T6 (mkF m 38 #[.val (.ref a1), .val (.ref a2), .val (.int (0 : Int32)), .val (.ref tp), .val (.ref tl), .val (.int (0 : Int32)), .val (.int (1 : Int32)), .unset] [])
    refine Go.step (fun t_ k_ => XS.aloadN X6.here hx rfl (hb hby d17_38) rfl rfl k_) ?_
    show Go _ _ _ _ _ _ _ T6 (mkF m 39 #[.val (.ref a1), .val (.ref a2), .val (.int (0 : Int32)), .val (.ref tp), .val (.ref tl), .val (.int (0 : Int32)), .val (.int (1 : Int32)), .unset] [(.ref a1)])
    obtain ⟨cq8, kq8, qa8, qb8, qc8⟩ := isOf hZ e6 PE
    obtain ⟨_, _, ⟨T8, L8, k8, n8⟩, -, X8, ⟨Lc8, hQ8, l8, y8, z8⟩, st8⟩ := X6.virtualBack hx (y := (⟨"java/lang/String", "coder", "()B"⟩ : MethodName)) (z := (⟨"java/lang/String", "coder", "()B"⟩ : MethodName)) hown (mvT hZ (hw _ (List.mem_of_getElem? (i := 79) rfl))) (mvT hZ (hw _ (List.mem_of_getElem? (i := 80) rfl))) (notFace_of_selects (args := #[]) (mvT hZ (hw _ (List.mem_of_getElem? (i := 82) rfl)))) (mvT hZ (hw _ (List.mem_of_getElem? (i := 82) rfl))) (mvT hZ (hw _ (List.mem_of_getElem? (i := 81) rfl))) (by decide) (backOf (W := 0) (rmCd l Z a0 hw [] a1 G1 h0 n0 Z0 O0 S_COMPACT P_COMPACT PC) hZ (hw _ (List.mem_of_getElem? (i := 83) rfl)) (hw _ (List.mem_of_getElem? (i := 10) rfl)) (by decide) (by decide)) qa8 qc8 (g := (mkF m 39 #[.val (.ref a1), .val (.ref a2), .val (.int (0 : Int32)), .val (.ref tp), .val (.ref tl), .val (.int (0 : Int32)), .val (.int (1 : Int32)), .unset] [(.ref a1)])) rfl (by rw [hml]; rfl) (Steps.refl _) (argsL := []) (rest := []) (lenOf pd_4 rfl) rfl (by show 2 * 0 + _ ≤ _; exact Nat.le_of_eq rfl) (hb hby d17_39) (fun _ _ => ⟨rfl, e6, (by decide : 0 + 0 ≤ _), (by decide : 0 + 0 ≤ _)⟩)
    dsimp only [Pt.U, Pt.locs, Pt.cells, Pt.slots] at X8 l8 y8 z8 st8 hQ8
    subst l8 y8 z8
    obtain ⟨rfl, N8q, e8⟩ := hQ8
    have N8 := Fr.app N3 N8q
    refine Go.step (fun t_ k_ => st8.trans k_) ?_
    show Go _ _ _ _ _ _ _ T8 (mkF m 42 #[.val (.ref a1), .val (.ref a2), .val (.int (0 : Int32)), .val (.ref tp), .val (.ref tl), .val (.int (0 : Int32)), .val (.int (1 : Int32)), .unset] [(.int (0 : Int32))])
    refine Go.step (fun t_ k_ => XS.istore X8.here hx rfl (hb hby d17_42) rfl (l' := #[.val (.ref a1), .val (.ref a2), .val (.int (0 : Int32)), .val (.ref tp), .val (.ref tl), .val (.int (0 : Int32)), .val (.int (1 : Int32)), .val (.int (0 : Int32))]) rfl k_) ?_
    show Go _ _ _ _ _ _ _ T8 (mkF m 44 #[.val (.ref a1), .val (.ref a2), .val (.int (0 : Int32)), .val (.ref tp), .val (.ref tl), .val (.int (0 : Int32)), .val (.int (1 : Int32)), .val (.int (0 : Int32))] [])
    refine Go.step (fun t_ k_ => XS.iload X8.here hx rfl (hb hby d17_44) rfl k_) ?_
    show Go _ _ _ _ _ _ _ T8 (mkF m 46 #[.val (.ref a1), .val (.ref a2), .val (.int (0 : Int32)), .val (.ref tp), .val (.ref tl), .val (.int (0 : Int32)), .val (.int (1 : Int32)), .val (.int (0 : Int32))] [(.int (0 : Int32))])
    refine Go.step (fun t_ k_ => XS.aloadN X8.here hx rfl (hb hby d17_46) rfl rfl k_) ?_
    show Go _ _ _ _ _ _ _ T8 (mkF m 47 #[.val (.ref a1), .val (.ref a2), .val (.int (0 : Int32)), .val (.ref tp), .val (.ref tl), .val (.int (0 : Int32)), .val (.int (1 : Int32)), .val (.int (0 : Int32))] [(.ref a2), (.int (0 : Int32))])
    obtain ⟨cq9, kq9, qa9, qb9, qc9⟩ := isOf hZ (e8) LE
    obtain ⟨_, _, ⟨T9, L9, k9, n9⟩, -, X9, ⟨Lc9, hQ9, l9, y9, z9⟩, st9⟩ := X8.virtualBack hx (y := (⟨"java/lang/String", "coder", "()B"⟩ : MethodName)) (z := (⟨"java/lang/String", "coder", "()B"⟩ : MethodName)) hown (mvT hZ (hw _ (List.mem_of_getElem? (i := 79) rfl))) (mvT hZ (hw _ (List.mem_of_getElem? (i := 80) rfl))) (notFace_of_selects (args := #[]) (mvT hZ (hw _ (List.mem_of_getElem? (i := 82) rfl)))) (mvT hZ (hw _ (List.mem_of_getElem? (i := 82) rfl))) (mvT hZ (hw _ (List.mem_of_getElem? (i := 81) rfl))) (by decide) (backOf (W := 1) (rmCd l Z a0 hw [] a2 G1 h0 n0 Z0 O0 S_COMPACT P_COMPACT LC) hZ (hw _ (List.mem_of_getElem? (i := 83) rfl)) (hw _ (List.mem_of_getElem? (i := 10) rfl)) (by decide) (by decide)) qa9 qc9 (g := (mkF m 47 #[.val (.ref a1), .val (.ref a2), .val (.int (0 : Int32)), .val (.ref tp), .val (.ref tl), .val (.int (0 : Int32)), .val (.int (1 : Int32)), .val (.int (0 : Int32))] [(.ref a2), (.int (0 : Int32))])) rfl (by rw [hml]; rfl) (Steps.refl _) (argsL := []) (rest := [(.int (0 : Int32))]) (lenOf pd_4 rfl) rfl (by show 2 * 0 + _ ≤ _; exact Nat.le_of_eq rfl) (hb hby d17_47) (fun _ _ => ⟨rfl, (e8), (by decide : 0 + 0 + 0 ≤ _), (by decide : 0 + 0 + 0 ≤ _)⟩)
    dsimp only [Pt.U, Pt.locs, Pt.cells, Pt.slots] at X9 l9 y9 z9 st9 hQ9
    subst l9 y9 z9
    obtain ⟨rfl, N9q, e9⟩ := hQ9
    have N9 := Fr.app N8 N9q
    refine Go.step (fun t_ k_ => st9.trans k_) ?_
    show Go _ _ _ _ _ _ _ T9 (mkF m 50 #[.val (.ref a1), .val (.ref a2), .val (.int (0 : Int32)), .val (.ref tp), .val (.ref tl), .val (.int (0 : Int32)), .val (.int (1 : Int32)), .val (.int (0 : Int32))] [(.int (0 : Int32)), (.int (0 : Int32))])
    have hb50_10 : (0 : Int32) = (0 : Int32) := by decide
    refine Go.step (fun t_ k_ => XS.icmpNo X9.here hx rfl (hb hby d17_50) rfl (XT.ii_ne_f hb50_10) k_) ?_
    show Go _ _ _ _ _ _ _ T9 (mkF m 53 #[.val (.ref a1), .val (.ref a2), .val (.int (0 : Int32)), .val (.ref tp), .val (.ref tl), .val (.int (0 : Int32)), .val (.int (1 : Int32)), .val (.int (0 : Int32))] [])
    refine Go.step (fun t_ k_ => XS.iload X9.here hx rfl (hb hby d17_53) rfl k_) ?_
    show Go _ _ _ _ _ _ _ T9 (mkF m 55 #[.val (.ref a1), .val (.ref a2), .val (.int (0 : Int32)), .val (.ref tp), .val (.ref tl), .val (.int (0 : Int32)), .val (.int (1 : Int32)), .val (.int (0 : Int32))] [(.int (0 : Int32))])
    refine Go.step (fun t_ k_ => XS.iconst X9.here hx rfl (hb hby d17_55) k_) ?_
    show Go _ _ _ _ _ _ _ T9 (mkF m 56 #[.val (.ref a1), .val (.ref a2), .val (.int (0 : Int32)), .val (.ref tp), .val (.ref tl), .val (.int (0 : Int32)), .val (.int (1 : Int32)), .val (.int (0 : Int32))] [(.int (1 : Int32)), (.int (0 : Int32))])
    have hb56_11 : ¬ ((0 : Int32) = (1 : Int32)) := by decide
    refine Go.step (fun t_ k_ => XS.icmpYes X9.here hx rfl (pc0 := 56) (pc' := 63) rfl (hb hby d17_56) rfl (XT.ii_ne_t hb56_11) (by decide) (by decide) k_) ?_
    show Go _ _ _ _ _ _ _ T9 (mkF m 63 #[.val (.ref a1), .val (.ref a2), .val (.int (0 : Int32)), .val (.ref tp), .val (.ref tl), .val (.int (0 : Int32)), .val (.int (1 : Int32)), .val (.int (0 : Int32))] [])
    refine Go.step (fun t_ k_ => XS.aloadN X9.here hx rfl (hb hby d17_63) rfl rfl k_) ?_
    show Go _ _ _ _ _ _ _ T9 (mkF m 64 #[.val (.ref a1), .val (.ref a2), .val (.int (0 : Int32)), .val (.ref tp), .val (.ref tl), .val (.int (0 : Int32)), .val (.int (1 : Int32)), .val (.int (0 : Int32))] [(.ref tp)])
    refine Go.step (fun t_ k_ => XS.iloadN X9.here hx rfl (hb hby d17_64) rfl k_) ?_
    show Go _ _ _ _ _ _ _ T9 (mkF m 65 #[.val (.ref a1), .val (.ref a2), .val (.int (0 : Int32)), .val (.ref tp), .val (.ref tl), .val (.int (0 : Int32)), .val (.int (1 : Int32)), .val (.int (0 : Int32))] [(.int (0 : Int32)), (.ref tp)])
    refine Go.step (fun t_ k_ => XS.aload X9.here hx rfl (hb hby d17_65) rfl rfl k_) ?_
    show Go _ _ _ _ _ _ _ T9 (mkF m 67 #[.val (.ref a1), .val (.ref a2), .val (.int (0 : Int32)), .val (.ref tp), .val (.ref tl), .val (.int (0 : Int32)), .val (.int (1 : Int32)), .val (.int (0 : Int32))] [(.ref tl), (.int (0 : Int32)), (.ref tp)])
    refine Go.step (fun t_ k_ => XS.iconst X9.here hx rfl (hb hby d17_67) k_) ?_
    show Go _ _ _ _ _ _ _ T9 (mkF m 68 #[.val (.ref a1), .val (.ref a2), .val (.int (0 : Int32)), .val (.ref tp), .val (.ref tl), .val (.int (0 : Int32)), .val (.int (1 : Int32)), .val (.int (0 : Int32))] [(.int (0 : Int32)), (.ref tl), (.int (0 : Int32)), (.ref tp)])
    refine Go.step (fun t_ k_ => XS.iload X9.here hx rfl (hb hby d17_68) rfl k_) ?_
    show Go _ _ _ _ _ _ _ T9 (mkF m 70 #[.val (.ref a1), .val (.ref a2), .val (.int (0 : Int32)), .val (.ref tp), .val (.ref tl), .val (.int (0 : Int32)), .val (.int (1 : Int32)), .val (.int (0 : Int32))] [(.int (1 : Int32)), (.int (0 : Int32)), (.ref tl), (.int (0 : Int32)), (.ref tp)])
    obtain ⟨_, _, ⟨T12, L12, k12, n12⟩, -, X12, ⟨Lc12, hQ12, l12, y12, z12⟩, st12⟩ := Jvm.LawKit.callS X9 hx (y := (⟨"jdk/internal/util/ArraysSupport", "mismatch", "([BI[BII)I"⟩ : MethodName)) hown (mvT hZ (hw _ (List.mem_of_getElem? (i := 96) rfl))) (mvT hZ (hw _ (List.mem_of_getElem? (i := 97) rfl))) (mvT hZ (hw _ (List.mem_of_getElem? (i := 98) rfl))) (mvT hZ (hw _ (List.mem_of_getElem? (i := 99) rfl))) (by decide) (backOf (W := 0) (rmMm l Z a0 hw [] tp tl kbp cs kbl h0 n0 Z0 PA LA hlen (own_len1 hlen hb14_4)) hZ (hw _ (List.mem_of_getElem? (i := 99) rfl)) (hw _ (List.mem_of_getElem? (i := 98) rfl)) (by decide) (by decide)) (g := (mkF m 70 #[.val (.ref a1), .val (.ref a2), .val (.int (0 : Int32)), .val (.ref tp), .val (.ref tl), .val (.int (0 : Int32)), .val (.int (1 : Int32)), .val (.int (0 : Int32))] [(.int (1 : Int32)), (.int (0 : Int32)), (.ref tl), (.int (0 : Int32)), (.ref tp)])) rfl (by rw [hml]; rfl) (argsL := [(.ref tp), (.int (0 : Int32)), (.ref tl), (.int (0 : Int32)), (.int (1 : Int32))]) (rest := []) (lenOf pd_5 rfl) rfl (by show 2 * 0 + _ ≤ _; exact Nat.le_of_eq rfl) (hb hby d17_70) (fun _ _ => ⟨rfl, (e9), (by decide : 0 + 0 + 0 + 0 ≤ _), (by decide : 0 + 0 + 0 + 0 ≤ _)⟩)
    dsimp only [Pt.U, Pt.locs, Pt.cells, Pt.slots] at X12 l12 y12 z12 st12 hQ12
    subst l12 y12 z12
    obtain ⟨rm12, rfl, N12q, e12⟩ := hQ12
    have N12 := Fr.app N9 N12q
    refine Go.step st12 ?_
    show Go _ _ _ _ _ _ _ T12 (mkF m 73 #[.val (.ref a1), .val (.ref a2), .val (.int (0 : Int32)), .val (.ref tp), .val (.ref tl), .val (.int (0 : Int32)), .val (.int (1 : Int32)), .val (.int (0 : Int32))] [(.int rm12)])
    by_cases hb73_13 : rm12 < (0 : Int32)
    · refine Go.step (fun t_ k_ => XS.ifNo X12.here hx rfl (hb hby d17_73) rfl (XT.i0_ge_f hb73_13) k_) ?_
      show Go _ _ _ _ _ _ _ T12 (mkF m 76 #[.val (.ref a1), .val (.ref a2), .val (.int (0 : Int32)), .val (.ref tp), .val (.ref tl), .val (.int (0 : Int32)), .val (.int (1 : Int32)), .val (.int (0 : Int32))] [])
      refine Go.step (fun t_ k_ => XS.iconst X12.here hx rfl (hb hby d17_76) k_) ?_
      show Go _ _ _ _ _ _ _ T12 (mkF m 77 #[.val (.ref a1), .val (.ref a2), .val (.int (0 : Int32)), .val (.ref tp), .val (.ref tl), .val (.int (0 : Int32)), .val (.int (1 : Int32)), .val (.int (0 : Int32))] [(.int (1 : Int32))])
      refine Go.step (fun t_ k_ => XS.goto X12.here hx rfl (pc0 := 77) (pc' := 81) rfl (hb hby d17_77) (by decide) (by decide) k_) ?_
      show Go _ _ _ _ _ _ _ T12 (mkF m 81 #[.val (.ref a1), .val (.ref a2), .val (.int (0 : Int32)), .val (.ref tp), .val (.ref tl), .val (.int (0 : Int32)), .val (.int (1 : Int32)), .val (.int (0 : Int32))] [(.int (1 : Int32))])
      refine Go.ret X12 hx hlk hret rfl (Or.inl ⟨rfl, Or.inr (Or.inl rfl), _, rfl⟩) (hb hby d17_81) ?_ (by decide) (by decide)
      show QSW2 Z _ _ _ _ _ _ _ _ _ _ _ T12.heap _
      exact ⟨_, rfl, Or.inr ⟨rfl, own_len1 hlen hb14_4⟩, N12, (e12)⟩
    · refine Go.step (fun t_ k_ => XS.ifYes X12.here hx rfl (pc0 := 73) (pc' := 80) rfl (hb hby d17_73) rfl (XT.i0_ge_t hb73_13) (by decide) (by decide) k_) ?_
      show Go _ _ _ _ _ _ _ T12 (mkF m 80 #[.val (.ref a1), .val (.ref a2), .val (.int (0 : Int32)), .val (.ref tp), .val (.ref tl), .val (.int (0 : Int32)), .val (.int (1 : Int32)), .val (.int (0 : Int32))] [])
      refine Go.step (fun t_ k_ => XS.iconst X12.here hx rfl (hb hby d17_80) k_) ?_
      show Go _ _ _ _ _ _ _ T12 (mkF m 81 #[.val (.ref a1), .val (.ref a2), .val (.int (0 : Int32)), .val (.ref tp), .val (.ref tl), .val (.int (0 : Int32)), .val (.int (1 : Int32)), .val (.int (0 : Int32))] [(.int (0 : Int32))])
      refine Go.ret X12 hx hlk hret rfl (Or.inl ⟨rfl, Or.inr (Or.inl rfl), _, rfl⟩) (hb hby d17_81) ?_ (by decide) (by decide)
      show QSW2 Z _ _ _ _ _ _ _ _ _ _ _ T12.heap _
      exact ⟨_, rfl, Or.inl rfl, N12, (e12)⟩
theorem ef_rmSW1 (m : MethodId) (a1 : Addr) (a2 : Addr) : entryFrame m #[(.ref a1), (.ref a2)] 2 = mkF m 0 #[.val (.ref a1), .val (.ref a2)] [] := by first | (simp [entryFrame, mkF, argsToLocals, Value.category]; done) | rfl
def QSW1 (Z : State) (a1 : Addr) (a2 : Addr) (G1 : Int32) (tp : Addr) (kbp : ClassId) (cs : List Int32) (tl : Addr) (kbl : ClassId) (h0 : Heap) (n0 : Nat) (v : Option Value) (h : Heap) (L : List Loc) : Prop := ∃ r : Int32, v = some (.int r) ∧ (r = 0 ∨ (r = 1 ∧ 0 < cs.length)) ∧ Fr n0 L ∧ h = h0
theorem d16_0 : decode jdk_42_method_76_code 0 = .ok (.aload_n 0, 1) := by decide +kernel
theorem d16_1 : decode jdk_42_method_76_code 1 = .ok (.aload_n 1, 1) := by decide +kernel
theorem d16_2 : decode jdk_42_method_76_code 2 = .ok (.iconst 0, 1) := by decide +kernel
theorem pd_6 : parseMethodDescriptor "(Ljava/lang/String;I)Z" = some ⟨[(.object "java/lang/String"), .int], some .boolean⟩ := by decide +kernel
theorem d16_3 : decode jdk_42_method_76_code 3 = .ok (.invokevirtual 624, 3) := by decide +kernel
theorem d16_6 : decode jdk_42_method_76_code 6 = .ok (.ireturn, 1) := by decide +kernel
set_option maxRecDepth 65536 in
set_option maxHeartbeats 40000000 in
theorem rmSW1 (l : Launch) (Z : State) (a0 : Array Value) (hw : ∀ d ∈ tables_1, d.before a0 Z = true) (ws : List Jvm.Cond) (a1 : Addr) (a2 : Addr) (G1 : Int32) (tp : Addr) (kbp : ClassId) (cs : List Int32) (tl : Addr) (kbl : ClassId) (h0 : Heap) (n0 : Nat) (Z0 : n0 ≤ h0.size) (O0 : Old Z n0 h0) (S_COMPACT : Sta Z Z.heap "java/lang/String" "COMPACT_STRINGS" "Z" (.int G1)) (P_COMPACT : ¬ (G1 = (0 : Int32))) (PE : Exa Z h0 a1 "java/lang/String") (PV : Fld Z h0 a1 "java/lang/String" "value" "[B" (.ref tp)) (PC : Fld Z h0 a1 "java/lang/String" "coder" "B" (.int (0 : Int32))) (PA : Arv Z h0 tp kbp .byte (Int32.ofNat cs.length) ((cs.map (fun c => c.toInt8.toInt32)).map Value.int) (.int (0 : Int32))) (hok : ∀ c ∈ cs, ¬ c < 0 ∧ ¬ (255 : Int32) < c) (hlen : cs.length ≤ 4) (LE : Exa Z h0 a2 "java/lang/String") (LV : Fld Z h0 a2 "java/lang/String" "value" "[B" (.ref tl)) (LC : Fld Z h0 a2 "java/lang/String" "coder" "B" (.int (0 : Int32))) (LA : Arv Z h0 tl kbl .byte (1 : Int32) ((([47] : List Int32).map (fun c => c.toInt8.toInt32)).map Value.int) (.int (0 : Int32))) :
    MetFree l (⟨"java/lang/String", "startsWith", "(Ljava/lang/String;)Z"⟩ : MethodName) (head1 (Jvm.Cond.code (⟨"java/lang/String", "startsWith", "(Ljava/lang/String;)Z"⟩ : MethodName) jdk_42_method_76_code 2 (some .boolean) :: ws) ({ frames := 3, cells := 0, slots := 0, locals := 60 } : Room)) (fun a U => a = #[(.ref a1), (.ref a2)] ∧ Z.Warmed39 U.vm ∧ U.heap = h0) (fun _ _ _ _ _ => True) (fun _ U o U' => ∃ v L, o = .returned v ∧ QSW1 Z a1 a2 G1 tp kbp cs tl kbl h0 n0 v U'.heap L ∧ FrameEnd U o U' L ({ frames := 3, cells := 0, slots := 0, locals := 60 } : Room).cells ({ frames := 3, cells := 0, slots := 0, locals := 60 } : Room).slots) := by
  refine MetFree.of_bodySF (plainFor_of_name pn_0) hisR ?_
  intro p e s m args below meth c s₁ Bd hml0 hP hK
  obtain ⟨rfl, hZ, hh⟩ := hP
  have hx := Bd.exec
  have hby := Bd.bytes
  have hlk := BodyLoose.notSynchronized Bd
  have hml : c.maxLocals = 2 := hml0
  have hret := Bd.returns
  have hown : s.vm.findClass "java/lang/String" = some m.cls := findClass_of_methodNamed Bd.named
  have hnm := (name_of_methodNamed Bd.named Bd.method).1
  have X0 : Stand p l e ({ frames := 3, cells := 0, slots := 0, locals := 60 } : Room) s m #[(.ref a1), (.ref a2)] below meth c s₁ [] 0 0 := Stand.of_body Bd
  have e0 : s₁.heap = h0 := by rw [← hh, Bd.state]; rfl
  have N0 := Fr.nil n0
  show Go p e below s ({ frames := 3, cells := 0, slots := 0, locals := 60 } : Room).cells ({ frames := 3, cells := 0, slots := 0, locals := 60 } : Room).slots (QSW1 Z a1 a2 G1 tp kbp cs tl kbl h0 n0) s₁ (entryFrame m #[(.ref a1), (.ref a2)] 2)
  refine Go.cast (ef_rmSW1 m a1 a2) ?_
  show Go _ _ _ _ _ _ _ s₁ (mkF m 0 #[.val (.ref a1), .val (.ref a2)] [])
  refine Go.step (fun t_ k_ => XS.aloadN X0.here hx rfl (hb hby d16_0) rfl rfl k_) ?_
  show Go _ _ _ _ _ _ _ s₁ (mkF m 1 #[.val (.ref a1), .val (.ref a2)] [(.ref a1)])
  refine Go.step (fun t_ k_ => XS.aloadN X0.here hx rfl (hb hby d16_1) rfl rfl k_) ?_
  show Go _ _ _ _ _ _ _ s₁ (mkF m 2 #[.val (.ref a1), .val (.ref a2)] [(.ref a2), (.ref a1)])
  refine Go.step (fun t_ k_ => XS.iconst X0.here hx rfl (hb hby d16_2) k_) ?_
  show Go _ _ _ _ _ _ _ s₁ (mkF m 3 #[.val (.ref a1), .val (.ref a2)] [(.int (0 : Int32)), (.ref a2), (.ref a1)])
  obtain ⟨cq1, kq1, qa1, qb1, qc1⟩ := isOf hZ e0 PE
  obtain ⟨_, _, ⟨T1, L1, k1, n1⟩, -, X1, ⟨Lc1, hQ1, l1, y1, z1⟩, st1⟩ := X0.virtualBack hx (y := (⟨"java/lang/String", "startsWith", "(Ljava/lang/String;I)Z"⟩ : MethodName)) (z := (⟨"java/lang/String", "startsWith", "(Ljava/lang/String;I)Z"⟩ : MethodName)) hown (mvT hZ (hw _ (List.mem_of_getElem? (i := 90) rfl))) (mvT hZ (hw _ (List.mem_of_getElem? (i := 91) rfl))) (notFace_of_selects (args := #[]) (mvT hZ (hw _ (List.mem_of_getElem? (i := 93) rfl)))) (mvT hZ (hw _ (List.mem_of_getElem? (i := 93) rfl))) (mvT hZ (hw _ (List.mem_of_getElem? (i := 92) rfl))) (by decide) (backOf (W := 0) (rmSW2 l Z a0 hw [] a1 a2 G1 tp kbp cs tl kbl h0 n0 Z0 O0 S_COMPACT P_COMPACT PE PV PC PA hok hlen LE LV LC LA) hZ (hw _ (List.mem_of_getElem? (i := 94) rfl)) (hw _ (List.mem_of_getElem? (i := 10) rfl)) (by decide) (by decide)) qa1 qc1 (g := (mkF m 3 #[.val (.ref a1), .val (.ref a2)] [(.int (0 : Int32)), (.ref a2), (.ref a1)])) rfl (by rw [hml]; rfl) (Steps.refl _) (argsL := [(.ref a2), (.int (0 : Int32))]) (rest := []) (lenOf pd_6 rfl) rfl (by show 2 * 0 + _ ≤ _; exact Nat.le_of_eq rfl) (hb hby d16_3) (fun _ _ => ⟨rfl, e0, (by decide : 0 + 0 ≤ _), (by decide : 0 + 0 ≤ _)⟩)
  dsimp only [Pt.U, Pt.locs, Pt.cells, Pt.slots] at X1 l1 y1 z1 st1 hQ1
  subst l1 y1 z1
  obtain ⟨rs1, rfl, hrs1, N1q, e1⟩ := hQ1
  have N1 := Fr.app N0 N1q
  refine Go.step (fun t_ k_ => st1.trans k_) ?_
  show Go _ _ _ _ _ _ _ T1 (mkF m 6 #[.val (.ref a1), .val (.ref a2)] [(.int rs1)])
  refine Go.ret X1 hx hlk hret (nar01 (hrs1.imp id (·.1))) (Or.inl ⟨rfl, Or.inr (Or.inl rfl), _, rfl⟩) (hb hby d16_6) ?_ (by decide) (by decide)
  show QSW1 Z _ _ _ _ _ _ _ _ _ _ _ T1.heap _
  exact ⟨_, rfl, hrs1, N1, (e1)⟩
theorem ef_rmNxA (m : MethodId) (a1 : Addr) : entryFrame m #[(.ref a1)] 1 = mkF m 0 #[.val (.ref a1)] [] := by first | (simp [entryFrame, mkF, argsToLocals, Value.category]; done) | rfl
def QNxA (Z : State) (a1 : Addr) (G1 : Int32) (G3 : Value) (sp : Addr) (tp : Addr) (kbp : ClassId) (cs : List Int32) (h0 : Heap) (n0 : Nat) (v : Option Value) (h : Heap) (L : List Loc) : Prop := ∃ (r : Int32) (j i : Nat), v = some (.int r) ∧ Fr n0 L ∧ Keep h0 h [a1] ∧ Exa Z h a1 "com/example/affordance/affordance/PathSegments" ∧ Fld Z h a1 "com/example/affordance/affordance/PathSegments" "path" "Ljava/lang/String;" (.ref sp) ∧ Fld Z h a1 "com/example/affordance/affordance/PathSegments" "start" "I" (.int (Int32.ofNat j)) ∧ Fld Z h a1 "com/example/affordance/affordance/PathSegments" "end" "I" (.int (Int32.ofNat i)) ∧ Fld Z h a1 "com/example/affordance/affordance/PathSegments" "template" "Z" (.int (own_tpl cs j i)) ∧ j ≤ i ∧ i ≤ cs.length
theorem d13_0 : decode prog_44_method_2_code 0 = .ok (.aload_n 0, 1) := by decide +kernel
theorem d13_1 : decode prog_44_method_2_code 1 = .ok (.getfield 7, 3) := by decide +kernel
theorem d13_4 : decode prog_44_method_2_code 4 = .ok (.aload_n 0, 1) := by decide +kernel
theorem d13_5 : decode prog_44_method_2_code 5 = .ok (.getfield 13, 3) := by decide +kernel
theorem d13_8 : decode prog_44_method_2_code 8 = .ok (.invokevirtual 17, 3) := by decide +kernel
theorem d13_11 : decode prog_44_method_2_code 11 = .ok (.if_icmp .ne 5, 3) := by decide +kernel
theorem d13_16 : decode prog_44_method_2_code 16 = .ok (.aload_n 0, 1) := by decide +kernel
theorem d13_17 : decode prog_44_method_2_code 17 = .ok (.aload_n 0, 1) := by decide +kernel
theorem d13_18 : decode prog_44_method_2_code 18 = .ok (.getfield 7, 3) := by decide +kernel
theorem d13_21 : decode prog_44_method_2_code 21 = .ok (.ifCond .ge 19, 3) := by decide +kernel
theorem d13_24 : decode prog_44_method_2_code 24 = .ok (.aload_n 0, 1) := by decide +kernel
theorem d13_25 : decode prog_44_method_2_code 25 = .ok (.getfield 13, 3) := by decide +kernel
theorem d13_28 : decode prog_44_method_2_code 28 = .ok (.ldc 23, 2) := by decide +kernel
theorem pd_7 : parseMethodDescriptor "(Ljava/lang/String;)Z" = some ⟨[(.object "java/lang/String")], some .boolean⟩ := by decide +kernel
theorem d13_30 : decode prog_44_method_2_code 30 = .ok (.invokevirtual 25, 3) := by decide +kernel
theorem d13_33 : decode prog_44_method_2_code 33 = .ok (.ifCond .eq 7, 3) := by decide +kernel
theorem d13_40 : decode prog_44_method_2_code 40 = .ok (.aload_n 0, 1) := by decide +kernel
theorem d13_41 : decode prog_44_method_2_code 41 = .ok (.getfield 7, 3) := by decide +kernel
theorem d13_44 : decode prog_44_method_2_code 44 = .ok (.iconst 1, 1) := by decide +kernel
theorem d13_45 : decode prog_44_method_2_code 45 = .ok (.iadd, 1) := by decide +kernel
theorem d13_46 : decode prog_44_method_2_code 46 = .ok (.putfield 29, 3) := by decide +kernel
theorem d13_49 : decode prog_44_method_2_code 49 = .ok (.aload_n 0, 1) := by decide +kernel
theorem d13_50 : decode prog_44_method_2_code 50 = .ok (.aload_n 0, 1) := by decide +kernel
theorem d13_51 : decode prog_44_method_2_code 51 = .ok (.getfield 29, 3) := by decide +kernel
theorem d13_54 : decode prog_44_method_2_code 54 = .ok (.putfield 7, 3) := by decide +kernel
theorem d13_57 : decode prog_44_method_2_code 57 = .ok (.aload_n 0, 1) := by decide +kernel
theorem d13_58 : decode prog_44_method_2_code 58 = .ok (.iconst 0, 1) := by decide +kernel
theorem d13_59 : decode prog_44_method_2_code 59 = .ok (.putfield 32, 3) := by decide +kernel
theorem d13_62 : decode prog_44_method_2_code 62 = .ok (.aload_n 0, 1) := by decide +kernel
theorem d13_63 : decode prog_44_method_2_code 63 = .ok (.getfield 7, 3) := by decide +kernel
theorem d13_66 : decode prog_44_method_2_code 66 = .ok (.aload_n 0, 1) := by decide +kernel
theorem d13_67 : decode prog_44_method_2_code 67 = .ok (.getfield 13, 3) := by decide +kernel
theorem d13_70 : decode prog_44_method_2_code 70 = .ok (.invokevirtual 17, 3) := by decide +kernel
theorem d13_73 : decode prog_44_method_2_code 73 = .ok (.if_icmp .ge 62, 3) := by decide +kernel
theorem d13_76 : decode prog_44_method_2_code 76 = .ok (.aload_n 0, 1) := by decide +kernel
theorem d13_77 : decode prog_44_method_2_code 77 = .ok (.getfield 13, 3) := by decide +kernel
theorem d13_80 : decode prog_44_method_2_code 80 = .ok (.aload_n 0, 1) := by decide +kernel
theorem d13_81 : decode prog_44_method_2_code 81 = .ok (.getfield 7, 3) := by decide +kernel
theorem d13_84 : decode prog_44_method_2_code 84 = .ok (.invokevirtual 36, 3) := by decide +kernel
theorem d13_87 : decode prog_44_method_2_code 87 = .ok (.bipush 47, 2) := by decide +kernel
theorem d13_89 : decode prog_44_method_2_code 89 = .ok (.if_icmp .eq 46, 3) := by decide +kernel
theorem d13_135 : decode prog_44_method_2_code 135 = .ok (.iconst 1, 1) := by decide +kernel
theorem d13_136 : decode prog_44_method_2_code 136 = .ok (.ireturn, 1) := by decide +kernel
theorem d13_92 : decode prog_44_method_2_code 92 = .ok (.aload_n 0, 1) := by decide +kernel
theorem d13_93 : decode prog_44_method_2_code 93 = .ok (.dup, 1) := by decide +kernel
theorem d13_94 : decode prog_44_method_2_code 94 = .ok (.getfield 32, 3) := by decide +kernel
theorem d13_97 : decode prog_44_method_2_code 97 = .ok (.aload_n 0, 1) := by decide +kernel
theorem d13_98 : decode prog_44_method_2_code 98 = .ok (.getfield 13, 3) := by decide +kernel
theorem d13_101 : decode prog_44_method_2_code 101 = .ok (.aload_n 0, 1) := by decide +kernel
theorem d13_102 : decode prog_44_method_2_code 102 = .ok (.getfield 7, 3) := by decide +kernel
theorem d13_105 : decode prog_44_method_2_code 105 = .ok (.invokevirtual 36, 3) := by decide +kernel
theorem d13_108 : decode prog_44_method_2_code 108 = .ok (.bipush 123, 2) := by decide +kernel
theorem d13_118 : decode prog_44_method_2_code 118 = .ok (.ior, 1) := by decide +kernel
theorem d13_119 : decode prog_44_method_2_code 119 = .ok (.putfield 32, 3) := by decide +kernel
theorem d13_122 : decode prog_44_method_2_code 122 = .ok (.aload_n 0, 1) := by decide +kernel
theorem d13_123 : decode prog_44_method_2_code 123 = .ok (.dup, 1) := by decide +kernel
theorem d13_124 : decode prog_44_method_2_code 124 = .ok (.getfield 7, 3) := by decide +kernel
theorem d13_127 : decode prog_44_method_2_code 127 = .ok (.iconst 1, 1) := by decide +kernel
theorem d13_128 : decode prog_44_method_2_code 128 = .ok (.iadd, 1) := by decide +kernel
theorem d13_129 : decode prog_44_method_2_code 129 = .ok (.putfield 7, 3) := by decide +kernel
theorem d13_132 : decode prog_44_method_2_code 132 = .ok (.goto (-70), 3) := by decide +kernel
theorem d13_110 : decode prog_44_method_2_code 110 = .ok (.if_icmp .ne 7, 3) := by decide +kernel
theorem d13_113 : decode prog_44_method_2_code 113 = .ok (.iconst 1, 1) := by decide +kernel
theorem d13_114 : decode prog_44_method_2_code 114 = .ok (.goto 4, 3) := by decide +kernel
theorem d13_117 : decode prog_44_method_2_code 117 = .ok (.iconst 0, 1) := by decide +kernel
set_option maxRecDepth 65536 in
set_option maxHeartbeats 40000000 in
theorem lpA (l : Launch) (Z : State) (a0 : Array Value) (hw : ∀ d ∈ tables_1, d.before a0 Z = true) (a1 : Addr) (G1 : Int32) (G3 : Value) (sp : Addr) (tp : Addr) (kbp : ClassId) (cs : List Int32) (h0 : Heap) (n0 : Nat) (Z0 : n0 ≤ h0.size) (g1 : n0 ≤ a1) (O0 : Old Z n0 h0) (S_COMPACT : Sta Z Z.heap "java/lang/String" "COMPACT_STRINGS" "Z" (.int G1)) (P_COMPACT : ¬ (G1 = (0 : Int32))) (S_SIOOBE : Sta Z Z.heap "jdk/internal/util/Preconditions" "SIOOBE_FORMATTER" "Ljava/util/function/BiFunction;" G3) (r_SIOOBE : G3.isRef = true) (QE1 : Exa Z h0 a1 "com/example/affordance/affordance/PathSegments") (Q_path : Fld Z h0 a1 "com/example/affordance/affordance/PathSegments" "path" "Ljava/lang/String;" (.ref sp)) (Q_start : Fld Z h0 a1 "com/example/affordance/affordance/PathSegments" "start" "I" (.int (0 : Int32))) (Q_end : Fld Z h0 a1 "com/example/affordance/affordance/PathSegments" "end" "I" (.int (-1 : Int32))) (Q_template : Fld Z h0 a1 "com/example/affordance/affordance/PathSegments" "template" "Z" (.int (0 : Int32))) (PE : Exa Z h0 sp "java/lang/String") (PV : Fld Z h0 sp "java/lang/String" "value" "[B" (.ref tp)) (PC : Fld Z h0 sp "java/lang/String" "coder" "B" (.int (0 : Int32))) (PA : Arv Z h0 tp kbp .byte (Int32.ofNat cs.length) ((cs.map (fun c => c.toInt8.toInt32)).map Value.int) (.int (0 : Int32))) (hok : ∀ c ∈ cs, ¬ c < 0 ∧ ¬ (255 : Int32) < c) (hlen : cs.length ≤ 4) (nsp : sp ≠ a1) (ntp : tp ≠ a1) {p : Program} {e : Env} {s : State} {m : MethodId} {below : List Frame} {meth : Method} {c : Code} (hx : p.tables.exec = Jvm.exec) (hby : c.code = prog_44_method_2_code) (hlk : meth.locks = false) (hml : c.maxLocals = 1) (hret : meth.sig.returnType = some .boolean) (hnm : meth.name = "next") :
    ∀ (kk : Nat) (j : Nat) (i : Nat) {T : State} {locs : List Loc} {h : Heap} {vm0 : Vm} {k0 : Nat} (_ : Stand p l e ({ frames := 5, cells := 2, slots := 8, locals := 80 } : Room) (s.setVm vm0) m #[(.ref a1)] below meth c T locs 2 8) (e1 : T.heap = h) (N1 : Fr n0 locs) (Zs1 : n0 ≤ h.size) (O1 : Old Z n0 h) (K1 : Keep h0 h [a1]) (hS1 : s.Since vm0 k0) (hk1 : k0 ≤ h.size) (hZ1 : Z.Warmed39 (s.setVm vm0).vm) (hown1 : (s.setVm vm0).vm.findClass "com/example/affordance/affordance/PathSegments" = some m.cls) (hEL : EW Z a0 own_EL) (C1 : CHr Z own_EL s.vm h0 vm0 h) (H_0 : Exa Z h a1 "com/example/affordance/affordance/PathSegments") (H_1 : Fld Z h a1 "com/example/affordance/affordance/PathSegments" "path" "Ljava/lang/String;" (.ref sp)) (H_2 : Fld Z h a1 "com/example/affordance/affordance/PathSegments" "start" "I" (.int (Int32.ofNat j))) (H_3 : Fld Z h a1 "com/example/affordance/affordance/PathSegments" "end" "I" (.int (Int32.ofNat i))) (H_4 : Fld Z h a1 "com/example/affordance/affordance/PathSegments" "template" "Z" (.int (own_tpl cs j i))) (H_5 : Exa Z h sp "java/lang/String") (H_6 : Fld Z h sp "java/lang/String" "value" "[B" (.ref tp)) (H_7 : Fld Z h sp "java/lang/String" "coder" "B" (.int (0 : Int32))) (H_8 : Arv Z h tp kbp .byte (Int32.ofNat cs.length) ((cs.map (fun c => c.toInt8.toInt32)).map Value.int) (.int (0 : Int32))) (hji : j ≤ i) (hil : i ≤ cs.length) (_ : cs.length - i = kk), GoH p e below s ({ frames := 5, cells := 2, slots := 8, locals := 80 } : Room).cells ({ frames := 5, cells := 2, slots := 8, locals := 80 } : Room).slots Z own_EL h0 (QNxA Z a1 G1 G3 sp tp kbp cs h0 n0) T (mkF m 62 #[.val (.ref a1)] []) := by
  intro kk
  induction kk using Nat.strongRecOn with
  | ind kk ih =>
    intro j i T locs h vm0 k0 X1 e1 N1 Zs1 O1 K1 hS1 hk1 hZ1 hown1 hEL C1 H_0 H_1 H_2 H_3 H_4 H_5 H_6 H_7 H_8 hji hil hkk
    show GoH _ _ _ _ _ _ _ _ _ _ T (mkF m 62 #[.val (.ref a1)] [])
    refine GoH.step (fun t_ k_ => XS.aloadN X1.here hx rfl (hb hby d13_62) rfl rfl k_) ?_
    show GoH _ _ _ _ _ _ _ _ _ _ T (mkF m 63 #[.val (.ref a1)] [(.ref a1)])
    obtain ⟨T16, X16, e16, st16⟩ := getF X1 hx hZ1 hown1 (host := "") (Or.inl (hw _ (List.mem_of_getElem? (i := 37) rfl))) Via.refl e1 H_3 (g := (mkF m 63 #[.val (.ref a1)] [(.ref a1)])) rfl rfl (hb hby d13_63)
    refine GoH.step st16 ?_
    show GoH _ _ _ _ _ _ _ _ _ _ T16 (mkF m 66 #[.val (.ref a1)] [(.int (Int32.ofNat i))])
    refine GoH.step (fun t_ k_ => XS.aloadN X16.here hx rfl (hb hby d13_66) rfl rfl k_) ?_
    show GoH _ _ _ _ _ _ _ _ _ _ T16 (mkF m 67 #[.val (.ref a1)] [(.ref a1), (.int (Int32.ofNat i))])
    obtain ⟨T17, X17, e17, st17⟩ := getF X16 hx hZ1 hown1 (host := "") (Or.inl (hw _ (List.mem_of_getElem? (i := 39) rfl))) Via.refl e16 H_1 (g := (mkF m 67 #[.val (.ref a1)] [(.ref a1), (.int (Int32.ofNat i))])) rfl rfl (hb hby d13_67)
    refine GoH.step st17 ?_
    show GoH _ _ _ _ _ _ _ _ _ _ T17 (mkF m 70 #[.val (.ref a1)] [(.ref sp), (.int (Int32.ofNat i))])
    have hcd18 : StrChars.Road.CodA cs 0 (Int32.ofNat cs.length) ((cs.map (fun c => c.toInt8.toInt32)).map Value.int) := StrChars.Road.codOf rfl (fun c hc => (hok c hc).2)
    have hbd18 : ∀ c ∈ cs, ¬ c < 0 ∧ ¬ (65535 : Int32) < c := own_up _ hok
    obtain ⟨cq18, kq18, qa18, qb18, qc18⟩ := isOf hZ1 e17 H_5
    obtain ⟨vv18, _, ⟨T18, L18, k18, n18⟩, -, X18, ⟨Lc18, hQ18, l18, y18, z18⟩, st18⟩ := X17.virtualBack hx (y := (⟨"java/lang/String", "length", "()I"⟩ : MethodName)) (z := (⟨"java/lang/String", "length", "()I"⟩ : MethodName)) hown1 (mvT hZ1 (hw _ (List.mem_of_getElem? (i := 74) rfl))) (mvT hZ1 (hw _ (List.mem_of_getElem? (i := 75) rfl))) (notFace_of_selects (args := #[]) (mvT hZ1 (hw _ (List.mem_of_getElem? (i := 77) rfl)))) (mvT hZ1 (hw _ (List.mem_of_getElem? (i := 77) rfl))) (mvT hZ1 (hw _ (List.mem_of_getElem? (i := 76) rfl))) (by decide) (StrChars.Road.lenW (W := 1) hZ1 (own_wordsLen hw) (kI := 4) (hw _ (List.mem_of_getElem? (i := 9) rfl)) H_5 H_6 H_7 H_8 hcd18 hbd18 (S_COMPACT.ext O1.2) P_COMPACT (own_le4 hlen) (by decide) (by decide)) qa18 qc18 (g := (mkF m 70 #[.val (.ref a1)] [(.ref sp), (.int (Int32.ofNat i))])) rfl (by rw [hml]; rfl) (Steps.refl _) (argsL := []) (rest := [(.int (Int32.ofNat i))]) (lenOf pd_2 rfl) rfl (by show 2 * 0 + _ ≤ _; exact Nat.le_of_eq rfl) (hb hby d13_70) (fun _ _ => ⟨rfl, e17, (by decide : 2 + 0 ≤ _), (by decide : 8 + 0 ≤ _)⟩)
    dsimp only [Pt.U, Pt.locs, Pt.cells, Pt.slots] at X18 l18 y18 z18 st18 hQ18
    subst l18 y18 z18
    obtain ⟨rfl, rfl, e18⟩ := hQ18
    have N18 := Fr.app N1 (Fr.nil n0)
    refine GoH.step (fun t_ k_ => st18.trans k_) ?_
    show GoH _ _ _ _ _ _ _ _ _ _ T18 (mkF m 73 #[.val (.ref a1)] [(.int (Int32.ofNat cs.length)), (.int (Int32.ofNat i))])
    by_cases hb73_19 : (Int32.ofNat i) < (Int32.ofNat cs.length)
    · refine GoH.step (fun t_ k_ => XS.icmpNo X18.here hx rfl (hb hby d13_73) rfl (XT.ii_ge_f hb73_19) k_) ?_
      show GoH _ _ _ _ _ _ _ _ _ _ T18 (mkF m 76 #[.val (.ref a1)] [])
      refine GoH.step (fun t_ k_ => XS.aloadN X18.here hx rfl (hb hby d13_76) rfl rfl k_) ?_
      show GoH _ _ _ _ _ _ _ _ _ _ T18 (mkF m 77 #[.val (.ref a1)] [(.ref a1)])
      obtain ⟨T20, X20, e20, st20⟩ := getF X18 hx hZ1 hown1 (host := "") (Or.inl (hw _ (List.mem_of_getElem? (i := 39) rfl))) Via.refl e18 H_1 (g := (mkF m 77 #[.val (.ref a1)] [(.ref a1)])) rfl rfl (hb hby d13_77)
      refine GoH.step st20 ?_
      show GoH _ _ _ _ _ _ _ _ _ _ T20 (mkF m 80 #[.val (.ref a1)] [(.ref sp)])
      refine GoH.step (fun t_ k_ => XS.aloadN X20.here hx rfl (hb hby d13_80) rfl rfl k_) ?_
      show GoH _ _ _ _ _ _ _ _ _ _ T20 (mkF m 81 #[.val (.ref a1)] [(.ref a1), (.ref sp)])
      obtain ⟨T21, X21, e21, st21⟩ := getF X20 hx hZ1 hown1 (host := "") (Or.inl (hw _ (List.mem_of_getElem? (i := 37) rfl))) Via.refl e20 H_3 (g := (mkF m 81 #[.val (.ref a1)] [(.ref a1), (.ref sp)])) rfl rfl (hb hby d13_81)
      refine GoH.step st21 ?_
      show GoH _ _ _ _ _ _ _ _ _ _ T21 (mkF m 84 #[.val (.ref a1)] [(.int (Int32.ofNat i)), (.ref sp)])
      have hcd22 : StrChars.Road.CodA cs 0 (Int32.ofNat cs.length) ((cs.map (fun c => c.toInt8.toInt32)).map Value.int) := StrChars.Road.codOf rfl (fun c hc => (hok c hc).2)
      have hbd22 : ∀ c ∈ cs, ¬ c < 0 ∧ ¬ (65535 : Int32) < c := own_up _ hok
      obtain ⟨cq22, kq22, qa22, qb22, qc22⟩ := isOf hZ1 e21 H_5
      obtain ⟨vv22, _, ⟨T22, L22, k22, n22⟩, -, X22, ⟨Lc22, hQ22, l22, y22, z22⟩, st22⟩ := X21.virtualBack hx (y := (⟨"java/lang/String", "charAt", "(I)C"⟩ : MethodName)) (z := (⟨"java/lang/String", "charAt", "(I)C"⟩ : MethodName)) hown1 (mvT hZ1 (hw _ (List.mem_of_getElem? (i := 102) rfl))) (mvT hZ1 (hw _ (List.mem_of_getElem? (i := 103) rfl))) (notFace_of_selects (args := #[]) (mvT hZ1 (hw _ (List.mem_of_getElem? (i := 105) rfl)))) (mvT hZ1 (hw _ (List.mem_of_getElem? (i := 105) rfl))) (mvT hZ1 (hw _ (List.mem_of_getElem? (i := 104) rfl))) (by decide) (StrChars.Road.chN (W := 0) hZ1 (own_wordsChN hw) (kI := 4) (hw _ (List.mem_of_getElem? (i := 9) rfl)) H_5 H_6 H_7 H_8 hcd22 hbd22 (S_COMPACT.ext O1.2) P_COMPACT (S_SIOOBE.ext O1.2) r_SIOOBE (own_le4 hlen) (i := i) ((own_lt (by omega) (by omega)).mp hb73_19) (j := (Int32.ofNat i)) rfl (by decide) (by decide)) qa22 qc22 (g := (mkF m 84 #[.val (.ref a1)] [(.int (Int32.ofNat i)), (.ref sp)])) rfl (by rw [hml]; rfl) (Steps.refl _) (argsL := [(.int (Int32.ofNat i))]) (rest := []) (lenOf pd_3 rfl) rfl (by show 2 * 0 + _ ≤ _; exact Nat.le_of_eq rfl) (hb hby d13_84) (fun _ _ => ⟨rfl, e21, (by decide : 2 + 0 ≤ _), (by decide : 8 + 0 ≤ _)⟩)
      dsimp only [Pt.U, Pt.locs, Pt.cells, Pt.slots] at X22 l22 y22 z22 st22 hQ22
      subst l22 y22 z22
      obtain ⟨rfl, rfl, e22⟩ := hQ22
      have N22 := Fr.app N18 (Fr.nil n0)
      refine GoH.step (fun t_ k_ => st22.trans k_) ?_
      show GoH _ _ _ _ _ _ _ _ _ _ T22 (mkF m 87 #[.val (.ref a1)] [(.int (cs.getD i 0))])
      refine GoH.step (fun t_ k_ => XS.bipush X22.here hx rfl (hb hby d13_87) k_) ?_
      show GoH _ _ _ _ _ _ _ _ _ _ T22 (mkF m 89 #[.val (.ref a1)] [(.int (47 : Int32)), (.int (cs.getD i 0))])
      by_cases hb89_23 : (cs.getD i 0) = (47 : Int32)
      · refine GoH.step (fun t_ k_ => XS.icmpYes X22.here hx rfl (pc0 := 89) (pc' := 135) rfl (hb hby d13_89) rfl (XT.ii_eq_t hb89_23) (by decide) (by decide) k_) ?_
        show GoH _ _ _ _ _ _ _ _ _ _ T22 (mkF m 135 #[.val (.ref a1)] [])
        refine GoH.step (fun t_ k_ => XS.iconst X22.here hx rfl (hb hby d13_135) k_) ?_
        show GoH _ _ _ _ _ _ _ _ _ _ T22 (mkF m 136 #[.val (.ref a1)] [(.int (1 : Int32))])
        have hkr : k0 ≤ T22.heap.size := by rw [e22]; exact hk1
        have hCr : CHr Z own_EL s.vm h0 vm0 T22.heap := by rw [e22]; exact C1
        refine GoH.ret X22 hx hlk hS1 hkr hZ1 hEL hCr hret rfl (Or.inl ⟨rfl, Or.inr (Or.inl rfl), _, rfl⟩) (hb hby d13_136) ?_ (by decide) (by decide)
        show QNxA Z _ _ _ _ _ _ _ _ _ _ T22.heap _
        rw [e22]
        exact ⟨_, j, i, rfl, N22, K1, H_0, H_1, H_2, H_3, H_4, hji, hil⟩
      · refine GoH.step (fun t_ k_ => XS.icmpNo X22.here hx rfl (hb hby d13_89) rfl (XT.ii_eq_f hb89_23) k_) ?_
        show GoH _ _ _ _ _ _ _ _ _ _ T22 (mkF m 92 #[.val (.ref a1)] [])
        refine GoH.step (fun t_ k_ => XS.aloadN X22.here hx rfl (hb hby d13_92) rfl rfl k_) ?_
        show GoH _ _ _ _ _ _ _ _ _ _ T22 (mkF m 93 #[.val (.ref a1)] [(.ref a1)])
        refine GoH.step (fun t_ k_ => XS.dup X22.here hx rfl (hb hby d13_93) rfl rfl k_) ?_
        show GoH _ _ _ _ _ _ _ _ _ _ T22 (mkF m 94 #[.val (.ref a1)] [(.ref a1), (.ref a1)])
        obtain ⟨T24, X24, e24, st24⟩ := getF X22 hx hZ1 hown1 (host := "") (Or.inl (hw _ (List.mem_of_getElem? (i := 100) rfl))) Via.refl e22 H_4 (g := (mkF m 94 #[.val (.ref a1)] [(.ref a1), (.ref a1)])) rfl rfl (hb hby d13_94)
        refine GoH.step st24 ?_
        show GoH _ _ _ _ _ _ _ _ _ _ T24 (mkF m 97 #[.val (.ref a1)] [(.int (own_tpl cs j i)), (.ref a1)])
        refine GoH.step (fun t_ k_ => XS.aloadN X24.here hx rfl (hb hby d13_97) rfl rfl k_) ?_
        show GoH _ _ _ _ _ _ _ _ _ _ T24 (mkF m 98 #[.val (.ref a1)] [(.ref a1), (.int (own_tpl cs j i)), (.ref a1)])
        obtain ⟨T25, X25, e25, st25⟩ := getF X24 hx hZ1 hown1 (host := "") (Or.inl (hw _ (List.mem_of_getElem? (i := 39) rfl))) Via.refl e24 H_1 (g := (mkF m 98 #[.val (.ref a1)] [(.ref a1), (.int (own_tpl cs j i)), (.ref a1)])) rfl rfl (hb hby d13_98)
        refine GoH.step st25 ?_
        show GoH _ _ _ _ _ _ _ _ _ _ T25 (mkF m 101 #[.val (.ref a1)] [(.ref sp), (.int (own_tpl cs j i)), (.ref a1)])
        refine GoH.step (fun t_ k_ => XS.aloadN X25.here hx rfl (hb hby d13_101) rfl rfl k_) ?_
        show GoH _ _ _ _ _ _ _ _ _ _ T25 (mkF m 102 #[.val (.ref a1)] [(.ref a1), (.ref sp), (.int (own_tpl cs j i)), (.ref a1)])
        obtain ⟨T26, X26, e26, st26⟩ := getF X25 hx hZ1 hown1 (host := "") (Or.inl (hw _ (List.mem_of_getElem? (i := 37) rfl))) Via.refl e25 H_3 (g := (mkF m 102 #[.val (.ref a1)] [(.ref a1), (.ref sp), (.int (own_tpl cs j i)), (.ref a1)])) rfl rfl (hb hby d13_102)
        refine GoH.step st26 ?_
        show GoH _ _ _ _ _ _ _ _ _ _ T26 (mkF m 105 #[.val (.ref a1)] [(.int (Int32.ofNat i)), (.ref sp), (.int (own_tpl cs j i)), (.ref a1)])
        have hcd27 : StrChars.Road.CodA cs 0 (Int32.ofNat cs.length) ((cs.map (fun c => c.toInt8.toInt32)).map Value.int) := StrChars.Road.codOf rfl (fun c hc => (hok c hc).2)
        have hbd27 : ∀ c ∈ cs, ¬ c < 0 ∧ ¬ (65535 : Int32) < c := own_up _ hok
        obtain ⟨cq27, kq27, qa27, qb27, qc27⟩ := isOf hZ1 e26 H_5
        obtain ⟨vv27, _, ⟨T27, L27, k27, n27⟩, -, X27, ⟨Lc27, hQ27, l27, y27, z27⟩, st27⟩ := X26.virtualBack hx (y := (⟨"java/lang/String", "charAt", "(I)C"⟩ : MethodName)) (z := (⟨"java/lang/String", "charAt", "(I)C"⟩ : MethodName)) hown1 (mvT hZ1 (hw _ (List.mem_of_getElem? (i := 102) rfl))) (mvT hZ1 (hw _ (List.mem_of_getElem? (i := 103) rfl))) (notFace_of_selects (args := #[]) (mvT hZ1 (hw _ (List.mem_of_getElem? (i := 105) rfl)))) (mvT hZ1 (hw _ (List.mem_of_getElem? (i := 105) rfl))) (mvT hZ1 (hw _ (List.mem_of_getElem? (i := 104) rfl))) (by decide) (StrChars.Road.chN (W := 2) hZ1 (own_wordsChN hw) (kI := 4) (hw _ (List.mem_of_getElem? (i := 9) rfl)) H_5 H_6 H_7 H_8 hcd27 hbd27 (S_COMPACT.ext O1.2) P_COMPACT (S_SIOOBE.ext O1.2) r_SIOOBE (own_le4 hlen) (i := i) ((own_lt (by omega) (by omega)).mp hb73_19) (j := (Int32.ofNat i)) rfl (by decide) (by decide)) qa27 qc27 (g := (mkF m 105 #[.val (.ref a1)] [(.int (Int32.ofNat i)), (.ref sp), (.int (own_tpl cs j i)), (.ref a1)])) rfl (by rw [hml]; rfl) (Steps.refl _) (argsL := [(.int (Int32.ofNat i))]) (rest := [(.int (own_tpl cs j i)), (.ref a1)]) (lenOf pd_3 rfl) rfl (by show 2 * 0 + _ ≤ _; exact Nat.le_of_eq rfl) (hb hby d13_105) (fun _ _ => ⟨rfl, e26, (by decide : 2 + 0 ≤ _), (by decide : 8 + 0 ≤ _)⟩)
        dsimp only [Pt.U, Pt.locs, Pt.cells, Pt.slots] at X27 l27 y27 z27 st27 hQ27
        subst l27 y27 z27
        obtain ⟨rfl, rfl, e27⟩ := hQ27
        have N27 := Fr.app N22 (Fr.nil n0)
        refine GoH.step (fun t_ k_ => st27.trans k_) ?_
        show GoH _ _ _ _ _ _ _ _ _ _ T27 (mkF m 108 #[.val (.ref a1)] [(.int (cs.getD i 0)), (.int (own_tpl cs j i)), (.ref a1)])
        refine GoH.step (fun t_ k_ => XS.bipush X27.here hx rfl (hb hby d13_108) k_) ?_
        show GoH _ _ _ _ _ _ _ _ _ _ T27 (mkF m 110 #[.val (.ref a1)] [(.int (123 : Int32)), (.int (cs.getD i 0)), (.int (own_tpl cs j i)), (.ref a1)])
        have jnr110_29 : ∀ r110_29 : Int32, (r110_29 = (1 : Int32) ∧ (cs.getD i 0) = (123 : Int32)) ∨ (r110_29 = (0 : Int32) ∧ ¬ ((cs.getD i 0) = (123 : Int32))) → GoH p e below s ({ frames := 5, cells := 2, slots := 8, locals := 80 } : Room).cells ({ frames := 5, cells := 2, slots := 8, locals := 80 } : Room).slots Z own_EL h0 (QNxA Z a1 G1 G3 sp tp kbp cs h0 n0) T27 (mkF m 118 #[.val (.ref a1)] [(.int r110_29), (.int (own_tpl cs j i)), (.ref a1)]) := by
          intro r110_29 hr110_29
          show GoH _ _ _ _ _ _ _ _ _ _ T27 (mkF m 118 #[.val (.ref a1)] [(.int r110_29), (.int (own_tpl cs j i)), (.ref a1)])
          refine GoH.step (fun t_ k_ => XT.ior X27.here hx rfl (hb hby d13_118) rfl k_) ?_
          show GoH _ _ _ _ _ _ _ _ _ _ T27 (mkF m 119 #[.val (.ref a1)] [(.int ((own_tpl cs j i) ||| r110_29)), (.ref a1)])
          rw [show own_tpl cs j i ||| r110_29 = own_tpl cs j (i + 1) from own_tpl_step hji hr110_29]
          show GoH _ _ _ _ _ _ _ _ _ _ T27 (mkF m 119 #[.val (.ref a1)] [(.int (own_tpl cs j (i + 1))), (.ref a1)])
          obtain ⟨T30, h30, X30, e30, W30, st30⟩ := putF X27 hx hZ1 hown1 (host := "") (Or.inl (hw _ (List.mem_of_getElem? (i := 100) rfl))) Via.refl e27 H_4 H_0 (Or.inl (hw _ (List.mem_of_getElem? (i := 101) rfl))) (hw _ (List.mem_of_getElem? (i := 31) rfl)) (ty := .boolean) (by decide) (own_tpl_nar cs j (i + 1)) (own_tpl_fit cs j (i + 1)) (g := (mkF m 119 #[.val (.ref a1)] [(.int (own_tpl cs j (i + 1))), (.ref a1)])) rfl rfl (hb hby d13_119)
          have N30 := Fr.snoc X30 N27 g1
          refine GoH.step st30 ?_
          have f30_0 : Exa Z h30 a1 "com/example/affordance/affordance/PathSegments" := (H_0.wr W30)
          have f30_1 : Fld Z h30 a1 "com/example/affordance/affordance/PathSegments" "path" "Ljava/lang/String;" (.ref sp) := (H_1.other W30 (Or.inr (slot_ne (Or.inr (hw _ (List.mem_of_getElem? (i := 40) rfl))) (Or.inl (hw _ (List.mem_of_getElem? (i := 101) rfl))) (by decide) (t := (.object "java/lang/String")) (t' := .boolean) (by decide) (by decide))))
          have f30_2 : Fld Z h30 a1 "com/example/affordance/affordance/PathSegments" "start" "I" (.int (Int32.ofNat j)) := (H_2.other W30 (Or.inr (slot_ne (Or.inl (hw _ (List.mem_of_getElem? (i := 47) rfl))) (Or.inl (hw _ (List.mem_of_getElem? (i := 101) rfl))) (by decide) (t := .int) (t' := .boolean) (by decide) (by decide))))
          have f30_3 : Fld Z h30 a1 "com/example/affordance/affordance/PathSegments" "end" "I" (.int (Int32.ofNat i)) := (H_3.other W30 (Or.inr (slot_ne (Or.inl (hw _ (List.mem_of_getElem? (i := 38) rfl))) (Or.inl (hw _ (List.mem_of_getElem? (i := 101) rfl))) (by decide) (t := .int) (t' := .boolean) (by decide) (by decide))))
          have f30_4 : Fld Z h30 a1 "com/example/affordance/affordance/PathSegments" "template" "Z" (.int (own_tpl cs j (i + 1))) := (H_4.same W30)
          have f30_5 : Exa Z h30 sp "java/lang/String" := (H_5.wr W30)
          have f30_6 : Fld Z h30 sp "java/lang/String" "value" "[B" (.ref tp) := (H_6.other W30 (Or.inl nsp))
          have f30_7 : Fld Z h30 sp "java/lang/String" "coder" "B" (.int (0 : Int32)) := (H_7.other W30 (Or.inl nsp))
          have f30_8 : Arv Z h30 tp kbp .byte (Int32.ofNat cs.length) ((cs.map (fun c => c.toInt8.toInt32)).map Value.int) (.int (0 : Int32)) := (H_8.other W30 ntp)
          have sfw30 : Safe Z own_EL vm0 _ a1 := (Safe.exa hZ1.alike H_0 (by decide) (by decide))
          have hk30 : _ ≤ h30.size := Nat.le_trans hk1 (Keep.of_wr W30).1
          have C30 : CHr Z own_EL s.vm h0 vm0 h30 := C1.trans (CHr.wr W30 sfw30 C1.1)
          have Zs30 : n0 ≤ h30.size := (Nat.le_trans Zs1 (Keep.of_wr W30).1)
          have O30 : Old Z n0 h30 := O1.wr W30 g1
          have K30 : Keep h0 h30 [a1] := K1.wr W30 (Or.inl (List.mem_of_getElem? (i := 0) rfl))
          show GoH _ _ _ _ _ _ _ _ _ _ T30 (mkF m 122 #[.val (.ref a1)] [])
          refine GoH.step (fun t_ k_ => XS.aloadN X30.here hx rfl (hb hby d13_122) rfl rfl k_) ?_
          show GoH _ _ _ _ _ _ _ _ _ _ T30 (mkF m 123 #[.val (.ref a1)] [(.ref a1)])
          refine GoH.step (fun t_ k_ => XS.dup X30.here hx rfl (hb hby d13_123) rfl rfl k_) ?_
          show GoH _ _ _ _ _ _ _ _ _ _ T30 (mkF m 124 #[.val (.ref a1)] [(.ref a1), (.ref a1)])
          obtain ⟨T31, X31, e31, st31⟩ := getF X30 hx hZ1 hown1 (host := "") (Or.inl (hw _ (List.mem_of_getElem? (i := 37) rfl))) Via.refl e30 f30_3 (g := (mkF m 124 #[.val (.ref a1)] [(.ref a1), (.ref a1)])) rfl rfl (hb hby d13_124)
          refine GoH.step st31 ?_
          show GoH _ _ _ _ _ _ _ _ _ _ T31 (mkF m 127 #[.val (.ref a1)] [(.int (Int32.ofNat i)), (.ref a1)])
          refine GoH.step (fun t_ k_ => XS.iconst X31.here hx rfl (hb hby d13_127) k_) ?_
          show GoH _ _ _ _ _ _ _ _ _ _ T31 (mkF m 128 #[.val (.ref a1)] [(.int (1 : Int32)), (.int (Int32.ofNat i)), (.ref a1)])
          refine GoH.step (fun t_ k_ => XS.iadd X31.here hx rfl (hb hby d13_128) rfl k_) ?_
          show GoH _ _ _ _ _ _ _ _ _ _ T31 (mkF m 129 #[.val (.ref a1)] [(.int ((Int32.ofNat i) + (1 : Int32))), (.ref a1)])
          rw [show Int32.ofNat i + (1 : Int32) = Int32.ofNat (i + 1) from (inc_ofNat i).symm]
          show GoH _ _ _ _ _ _ _ _ _ _ T31 (mkF m 129 #[.val (.ref a1)] [(.int (Int32.ofNat (i + 1))), (.ref a1)])
          obtain ⟨T32, h32, X32, e32, W32, st32⟩ := putF X31 hx hZ1 hown1 (host := "") (Or.inl (hw _ (List.mem_of_getElem? (i := 37) rfl))) Via.refl e31 f30_3 f30_0 (Or.inl (hw _ (List.mem_of_getElem? (i := 38) rfl))) (hw _ (List.mem_of_getElem? (i := 31) rfl)) (ty := .int) (by decide) rfl rfl (g := (mkF m 129 #[.val (.ref a1)] [(.int (Int32.ofNat (i + 1))), (.ref a1)])) rfl rfl (hb hby d13_129)
          have N32 := Fr.snoc X32 N30 g1
          refine GoH.step st32 ?_
          have f32_0 : Exa Z h32 a1 "com/example/affordance/affordance/PathSegments" := (f30_0.wr W32)
          have f32_1 : Fld Z h32 a1 "com/example/affordance/affordance/PathSegments" "path" "Ljava/lang/String;" (.ref sp) := (f30_1.other W32 (Or.inr (slot_ne (Or.inr (hw _ (List.mem_of_getElem? (i := 40) rfl))) (Or.inl (hw _ (List.mem_of_getElem? (i := 38) rfl))) (by decide) (t := (.object "java/lang/String")) (t' := .int) (by decide) (by decide))))
          have f32_2 : Fld Z h32 a1 "com/example/affordance/affordance/PathSegments" "start" "I" (.int (Int32.ofNat j)) := (f30_2.other W32 (Or.inr (slot_ne (Or.inl (hw _ (List.mem_of_getElem? (i := 47) rfl))) (Or.inl (hw _ (List.mem_of_getElem? (i := 38) rfl))) (by decide) (t := .int) (t' := .int) (by decide) (by decide))))
          have f32_3 : Fld Z h32 a1 "com/example/affordance/affordance/PathSegments" "end" "I" (.int (Int32.ofNat (i + 1))) := (f30_3.same W32)
          have f32_4 : Fld Z h32 a1 "com/example/affordance/affordance/PathSegments" "template" "Z" (.int (own_tpl cs j (i + 1))) := (f30_4.other W32 (Or.inr (slot_ne (Or.inl (hw _ (List.mem_of_getElem? (i := 101) rfl))) (Or.inl (hw _ (List.mem_of_getElem? (i := 38) rfl))) (by decide) (t := .boolean) (t' := .int) (by decide) (by decide))))
          have f32_5 : Exa Z h32 sp "java/lang/String" := (f30_5.wr W32)
          have f32_6 : Fld Z h32 sp "java/lang/String" "value" "[B" (.ref tp) := (f30_6.other W32 (Or.inl nsp))
          have f32_7 : Fld Z h32 sp "java/lang/String" "coder" "B" (.int (0 : Int32)) := (f30_7.other W32 (Or.inl nsp))
          have f32_8 : Arv Z h32 tp kbp .byte (Int32.ofNat cs.length) ((cs.map (fun c => c.toInt8.toInt32)).map Value.int) (.int (0 : Int32)) := (f30_8.other W32 ntp)
          have sfw32 : Safe Z own_EL vm0 _ a1 := (Safe.exa hZ1.alike f30_0 (by decide) (by decide))
          have hk32 : _ ≤ h32.size := Nat.le_trans hk30 (Keep.of_wr W32).1
          have C32 : CHr Z own_EL s.vm h0 vm0 h32 := C30.trans (CHr.wr W32 sfw32 C30.1)
          have Zs32 : n0 ≤ h32.size := (Nat.le_trans Zs30 (Keep.of_wr W32).1)
          have O32 : Old Z n0 h32 := O30.wr W32 g1
          have K32 : Keep h0 h32 [a1] := K30.wr W32 (Or.inl (List.mem_of_getElem? (i := 0) rfl))
          show GoH _ _ _ _ _ _ _ _ _ _ T32 (mkF m 132 #[.val (.ref a1)] [])
          refine GoH.step (fun t_ k_ => XS.goto X32.here hx rfl (pc0 := 132) (pc' := 62) rfl (hb hby d13_132) (by decide) (by decide) k_) ?_
          show GoH _ _ _ _ _ _ _ _ _ _ T32 (mkF m 62 #[.val (.ref a1)] [])
          have hi1 : i < cs.length := (own_lt (by omega) (by omega)).mp hb73_19
          exact ih (cs.length - (i + 1)) (by omega) (j) (i + 1) (X32.mono (by decide) (by decide)) e32 N32 Zs32 O32 K32 hS1 hk32 hZ1 hown1 hEL C32 f32_0 f32_1 f32_2 f32_3 f32_4 f32_5 f32_6 f32_7 f32_8 (by omega) hi1 rfl
        by_cases hb110_28 : (cs.getD i 0) = (123 : Int32)
        · refine GoH.step (fun t_ k_ => XS.icmpNo X27.here hx rfl (hb hby d13_110) rfl (XT.ii_ne_f hb110_28) k_) ?_
          show GoH _ _ _ _ _ _ _ _ _ _ T27 (mkF m 113 #[.val (.ref a1)] [(.int (own_tpl cs j i)), (.ref a1)])
          refine GoH.step (fun t_ k_ => XS.iconst X27.here hx rfl (hb hby d13_113) k_) ?_
          show GoH _ _ _ _ _ _ _ _ _ _ T27 (mkF m 114 #[.val (.ref a1)] [(.int (1 : Int32)), (.int (own_tpl cs j i)), (.ref a1)])
          refine GoH.step (fun t_ k_ => XS.goto X27.here hx rfl (pc0 := 114) (pc' := 118) rfl (hb hby d13_114) (by decide) (by decide) k_) ?_
          show GoH _ _ _ _ _ _ _ _ _ _ T27 (mkF m 118 #[.val (.ref a1)] [(.int (1 : Int32)), (.int (own_tpl cs j i)), (.ref a1)])
          exact jnr110_29 _ (Or.inl ⟨rfl, hb110_28⟩)
        · refine GoH.step (fun t_ k_ => XS.icmpYes X27.here hx rfl (pc0 := 110) (pc' := 117) rfl (hb hby d13_110) rfl (XT.ii_ne_t hb110_28) (by decide) (by decide) k_) ?_
          show GoH _ _ _ _ _ _ _ _ _ _ T27 (mkF m 117 #[.val (.ref a1)] [(.int (own_tpl cs j i)), (.ref a1)])
          refine GoH.step (fun t_ k_ => XS.iconst X27.here hx rfl (hb hby d13_117) k_) ?_
          show GoH _ _ _ _ _ _ _ _ _ _ T27 (mkF m 118 #[.val (.ref a1)] [(.int (0 : Int32)), (.int (own_tpl cs j i)), (.ref a1)])
          exact jnr110_29 _ (Or.inr ⟨rfl, hb110_28⟩)
    · refine GoH.step (fun t_ k_ => XS.icmpYes X18.here hx rfl (pc0 := 73) (pc' := 135) rfl (hb hby d13_73) rfl (XT.ii_ge_t hb73_19) (by decide) (by decide) k_) ?_
      show GoH _ _ _ _ _ _ _ _ _ _ T18 (mkF m 135 #[.val (.ref a1)] [])
      refine GoH.step (fun t_ k_ => XS.iconst X18.here hx rfl (hb hby d13_135) k_) ?_
      show GoH _ _ _ _ _ _ _ _ _ _ T18 (mkF m 136 #[.val (.ref a1)] [(.int (1 : Int32))])
      have hkr : k0 ≤ T18.heap.size := by rw [e18]; exact hk1
      have hCr : CHr Z own_EL s.vm h0 vm0 T18.heap := by rw [e18]; exact C1
      refine GoH.ret X18 hx hlk hS1 hkr hZ1 hEL hCr hret rfl (Or.inl ⟨rfl, Or.inr (Or.inl rfl), _, rfl⟩) (hb hby d13_136) ?_ (by decide) (by decide)
      show QNxA Z _ _ _ _ _ _ _ _ _ _ T18.heap _
      rw [e18]
      exact ⟨_, j, i, rfl, N18, K1, H_0, H_1, H_2, H_3, H_4, hji, hil⟩
theorem d13_36 : decode prog_44_method_2_code 36 = .ok (.iconst 1, 1) := by decide +kernel
theorem d13_37 : decode prog_44_method_2_code 37 = .ok (.goto 9, 3) := by decide +kernel
set_option maxRecDepth 65536 in
set_option maxHeartbeats 40000000 in
theorem rmNxA (l : Launch) (Z : State) (a0 : Array Value) (hw : ∀ d ∈ tables_1, d.before a0 Z = true) (ws : List Jvm.Cond) (a1 : Addr) (G1 : Int32) (G3 : Value) (sp : Addr) (tp : Addr) (kbp : ClassId) (cs : List Int32) (h0 : Heap) (n0 : Nat) (Z0 : n0 ≤ h0.size) (g1 : n0 ≤ a1) (O0 : Old Z n0 h0) (S_COMPACT : Sta Z Z.heap "java/lang/String" "COMPACT_STRINGS" "Z" (.int G1)) (P_COMPACT : ¬ (G1 = (0 : Int32))) (S_SIOOBE : Sta Z Z.heap "jdk/internal/util/Preconditions" "SIOOBE_FORMATTER" "Ljava/util/function/BiFunction;" G3) (r_SIOOBE : G3.isRef = true) (QE1 : Exa Z h0 a1 "com/example/affordance/affordance/PathSegments") (Q_path : Fld Z h0 a1 "com/example/affordance/affordance/PathSegments" "path" "Ljava/lang/String;" (.ref sp)) (Q_start : Fld Z h0 a1 "com/example/affordance/affordance/PathSegments" "start" "I" (.int (0 : Int32))) (Q_end : Fld Z h0 a1 "com/example/affordance/affordance/PathSegments" "end" "I" (.int (-1 : Int32))) (Q_template : Fld Z h0 a1 "com/example/affordance/affordance/PathSegments" "template" "Z" (.int (0 : Int32))) (PE : Exa Z h0 sp "java/lang/String") (PV : Fld Z h0 sp "java/lang/String" "value" "[B" (.ref tp)) (PC : Fld Z h0 sp "java/lang/String" "coder" "B" (.int (0 : Int32))) (PA : Arv Z h0 tp kbp .byte (Int32.ofNat cs.length) ((cs.map (fun c => c.toInt8.toInt32)).map Value.int) (.int (0 : Int32))) (hok : ∀ c ∈ cs, ¬ c < 0 ∧ ¬ (255 : Int32) < c) (hlen : cs.length ≤ 4) (nsp : sp ≠ a1) (ntp : tp ≠ a1) :
    MetFree l (⟨"com/example/affordance/affordance/PathSegments", "next", "()Z"⟩ : MethodName) (head1 (Jvm.Cond.code (⟨"com/example/affordance/affordance/PathSegments", "next", "()Z"⟩ : MethodName) prog_44_method_2_code 1 (some .boolean) :: ws) ({ frames := 5, cells := 2, slots := 8, locals := 80 } : Room)) (fun a U => a = #[(.ref a1)] ∧ Z.Warmed39 U.vm ∧ U.heap = h0 ∧ CHv Z own_EL U.vm h0) (fun _ _ _ _ _ => True) (fun _ U o U' => ∃ v L, o = .returned v ∧ QNxA Z a1 G1 G3 sp tp kbp cs h0 n0 v U'.heap L ∧ CHr Z own_EL U.vm U.heap U'.vm U'.heap ∧ ReturnedEndW U o U' L ({ frames := 5, cells := 2, slots := 8, locals := 80 } : Room).cells ({ frames := 5, cells := 2, slots := 8, locals := 80 } : Room).slots) := by
  refine MetFree.of_bodySF (plainFor_of_name pn_2) hisR ?_
  intro p e s m args below meth c s₁ Bd hml0 hP hK
  obtain ⟨rfl, hZ0, hh, hCH⟩ := hP
  have hx := Bd.exec
  have hby := Bd.bytes
  have hlk := BodyLoose.notSynchronized Bd
  have hml : c.maxLocals = 1 := hml0
  have hret := Bd.returns
  have hown0 : (s.setVm s.vm).vm.findClass "com/example/affordance/affordance/PathSegments" = some m.cls := findClass_of_methodNamed Bd.named
  have hnm := (name_of_methodNamed Bd.named Bd.method).1
  have X0 : Stand p l e ({ frames := 5, cells := 2, slots := 8, locals := 80 } : Room) (s.setVm s.vm) m #[(.ref a1)] below meth c s₁ [] 0 0 := Stand.of_body Bd
  have hZ0 : Z.Warmed39 (s.setVm s.vm).vm := hZ0
  have hEL : EW Z a0 own_EL := own_EW hw
  have hS0 : s.Since s.vm h0.size := (State.WarmedH.refl s).since _
  have hk0 : h0.size ≤ h0.size := Nat.le_refl _
  have C0 : CHr Z own_EL s.vm h0 s.vm h0 := CHr.refl hCH
  have e0 : s₁.heap = h0 := by rw [← hh, Bd.state]; rfl
  have N0 := Fr.nil n0
  show GoH p e below s ({ frames := 5, cells := 2, slots := 8, locals := 80 } : Room).cells ({ frames := 5, cells := 2, slots := 8, locals := 80 } : Room).slots Z own_EL s.heap (QNxA Z a1 G1 G3 sp tp kbp cs h0 n0) s₁ (entryFrame m #[(.ref a1)] 1)
  rw [hh]
  refine GoH.cast (ef_rmNxA m a1) ?_
  have K0 : Keep h0 h0 [a1] := Keep.refl _ _
  show GoH _ _ _ _ _ _ _ _ _ _ s₁ (mkF m 0 #[.val (.ref a1)] [])
  refine GoH.step (fun t_ k_ => XS.aloadN X0.here hx rfl (hb hby d13_0) rfl rfl k_) ?_
  show GoH _ _ _ _ _ _ _ _ _ _ s₁ (mkF m 1 #[.val (.ref a1)] [(.ref a1)])
  obtain ⟨T1, X1, e1, st1⟩ := getF X0 hx hZ0 hown0 (host := "") (Or.inl (hw _ (List.mem_of_getElem? (i := 37) rfl))) Via.refl e0 Q_end (g := (mkF m 1 #[.val (.ref a1)] [(.ref a1)])) rfl rfl (hb hby d13_1)
  refine GoH.step st1 ?_
  show GoH _ _ _ _ _ _ _ _ _ _ T1 (mkF m 4 #[.val (.ref a1)] [(.int (-1 : Int32))])
  refine GoH.step (fun t_ k_ => XS.aloadN X1.here hx rfl (hb hby d13_4) rfl rfl k_) ?_
  show GoH _ _ _ _ _ _ _ _ _ _ T1 (mkF m 5 #[.val (.ref a1)] [(.ref a1), (.int (-1 : Int32))])
  obtain ⟨T2, X2, e2, st2⟩ := getF X1 hx hZ0 hown0 (host := "") (Or.inl (hw _ (List.mem_of_getElem? (i := 39) rfl))) Via.refl e1 Q_path (g := (mkF m 5 #[.val (.ref a1)] [(.ref a1), (.int (-1 : Int32))])) rfl rfl (hb hby d13_5)
  refine GoH.step st2 ?_
  show GoH _ _ _ _ _ _ _ _ _ _ T2 (mkF m 8 #[.val (.ref a1)] [(.ref sp), (.int (-1 : Int32))])
  have hcd3 : StrChars.Road.CodA cs 0 (Int32.ofNat cs.length) ((cs.map (fun c => c.toInt8.toInt32)).map Value.int) := StrChars.Road.codOf rfl (fun c hc => (hok c hc).2)
  have hbd3 : ∀ c ∈ cs, ¬ c < 0 ∧ ¬ (65535 : Int32) < c := own_up _ hok
  obtain ⟨cq3, kq3, qa3, qb3, qc3⟩ := isOf hZ0 e2 PE
  obtain ⟨vv3, _, ⟨T3, L3, k3, n3⟩, -, X3, ⟨Lc3, hQ3, l3, y3, z3⟩, st3⟩ := X2.virtualBack hx (y := (⟨"java/lang/String", "length", "()I"⟩ : MethodName)) (z := (⟨"java/lang/String", "length", "()I"⟩ : MethodName)) hown0 (mvT hZ0 (hw _ (List.mem_of_getElem? (i := 74) rfl))) (mvT hZ0 (hw _ (List.mem_of_getElem? (i := 75) rfl))) (notFace_of_selects (args := #[]) (mvT hZ0 (hw _ (List.mem_of_getElem? (i := 77) rfl)))) (mvT hZ0 (hw _ (List.mem_of_getElem? (i := 77) rfl))) (mvT hZ0 (hw _ (List.mem_of_getElem? (i := 76) rfl))) (by decide) (StrChars.Road.lenW (W := 1) hZ0 (own_wordsLen hw) (kI := 4) (hw _ (List.mem_of_getElem? (i := 9) rfl)) PE PV PC PA hcd3 hbd3 (S_COMPACT.ext O0.2) P_COMPACT (own_le4 hlen) (by decide) (by decide)) qa3 qc3 (g := (mkF m 8 #[.val (.ref a1)] [(.ref sp), (.int (-1 : Int32))])) rfl (by rw [hml]; rfl) (Steps.refl _) (argsL := []) (rest := [(.int (-1 : Int32))]) (lenOf pd_2 rfl) rfl (by show 2 * 0 + _ ≤ _; exact Nat.le_of_eq rfl) (hb hby d13_8) (fun _ _ => ⟨rfl, e2, (by decide : 0 + 0 ≤ _), (by decide : 0 + 0 ≤ _)⟩)
  dsimp only [Pt.U, Pt.locs, Pt.cells, Pt.slots] at X3 l3 y3 z3 st3 hQ3
  subst l3 y3 z3
  obtain ⟨rfl, rfl, e3⟩ := hQ3
  have N3 := Fr.app N0 (Fr.nil n0)
  refine GoH.step (fun t_ k_ => st3.trans k_) ?_
  show GoH _ _ _ _ _ _ _ _ _ _ T3 (mkF m 11 #[.val (.ref a1)] [(.int (Int32.ofNat cs.length)), (.int (-1 : Int32))])
  have hb11_4 : ¬ ((-1 : Int32) = (Int32.ofNat cs.length)) := by exact own_m1 (by omega)
  refine GoH.step (fun t_ k_ => XS.icmpYes X3.here hx rfl (pc0 := 11) (pc' := 16) rfl (hb hby d13_11) rfl (XT.ii_ne_t hb11_4) (by decide) (by decide) k_) ?_
  show GoH _ _ _ _ _ _ _ _ _ _ T3 (mkF m 16 #[.val (.ref a1)] [])
  refine GoH.step (fun t_ k_ => XS.aloadN X3.here hx rfl (hb hby d13_16) rfl rfl k_) ?_
  show GoH _ _ _ _ _ _ _ _ _ _ T3 (mkF m 17 #[.val (.ref a1)] [(.ref a1)])
  refine GoH.step (fun t_ k_ => XS.aloadN X3.here hx rfl (hb hby d13_17) rfl rfl k_) ?_
  show GoH _ _ _ _ _ _ _ _ _ _ T3 (mkF m 18 #[.val (.ref a1)] [(.ref a1), (.ref a1)])
  obtain ⟨T5, X5, e5, st5⟩ := getF X3 hx hZ0 hown0 (host := "") (Or.inl (hw _ (List.mem_of_getElem? (i := 37) rfl))) Via.refl e3 Q_end (g := (mkF m 18 #[.val (.ref a1)] [(.ref a1), (.ref a1)])) rfl rfl (hb hby d13_18)
  refine GoH.step st5 ?_
  show GoH _ _ _ _ _ _ _ _ _ _ T5 (mkF m 21 #[.val (.ref a1)] [(.int (-1 : Int32)), (.ref a1)])
  have hb21_6 : (-1 : Int32) < (0 : Int32) := by decide
  refine GoH.step (fun t_ k_ => XS.ifNo X5.here hx rfl (hb hby d13_21) rfl (XT.i0_ge_f hb21_6) k_) ?_
  show GoH _ _ _ _ _ _ _ _ _ _ T5 (mkF m 24 #[.val (.ref a1)] [(.ref a1)])
  refine GoH.step (fun t_ k_ => XS.aloadN X5.here hx rfl (hb hby d13_24) rfl rfl k_) ?_
  show GoH _ _ _ _ _ _ _ _ _ _ T5 (mkF m 25 #[.val (.ref a1)] [(.ref a1), (.ref a1)])
  obtain ⟨T7, X7, e7, st7⟩ := getF X5 hx hZ0 hown0 (host := "") (Or.inl (hw _ (List.mem_of_getElem? (i := 39) rfl))) Via.refl e5 Q_path (g := (mkF m 25 #[.val (.ref a1)] [(.ref a1), (.ref a1)])) rfl rfl (hb hby d13_25)
  refine GoH.step st7 ?_
  show GoH _ _ _ _ _ _ _ _ _ _ T7 (mkF m 28 #[.val (.ref a1)] [(.ref sp), (.ref a1)])
  obtain ⟨lt8, T8, h8, kk8, lb8, kb8, X8, e8, E8, hS8, hk8, hZ8, hown8, fE8, fC8, fV8, fA8, la8, lb_8, CHq8, -, hsn8, st8⟩ := ldcCH X7 hx hZ0 hown0 (hw _ (List.mem_of_getElem? (i := 84) rfl)) (own_SA hw) e7 hS0 hk0 hEL (by decide) C0.1 (vs := [(.int (47 : Int32))]) (z := (1 : Int32)) ⟨(by decide), (by decide)⟩ (by decide) (by decide) (g := (mkF m 28 #[.val (.ref a1)] [(.ref sp), (.ref a1)])) rfl (hb hby d13_28) (n := 4) (by decide) (by decide) (by decide) (by decide)
  have f8_0 : Exa Z h8 a1 "com/example/affordance/affordance/PathSegments" := (QE1.ext E8)
  have f8_1 : Fld Z h8 a1 "com/example/affordance/affordance/PathSegments" "path" "Ljava/lang/String;" (.ref sp) := (Q_path.ext E8)
  have f8_2 : Fld Z h8 a1 "com/example/affordance/affordance/PathSegments" "start" "I" (.int (0 : Int32)) := (Q_start.ext E8)
  have f8_3 : Fld Z h8 a1 "com/example/affordance/affordance/PathSegments" "end" "I" (.int (-1 : Int32)) := (Q_end.ext E8)
  have f8_4 : Fld Z h8 a1 "com/example/affordance/affordance/PathSegments" "template" "Z" (.int (0 : Int32)) := (Q_template.ext E8)
  have f8_5 : Exa Z h8 sp "java/lang/String" := (PE.ext E8)
  have f8_6 : Fld Z h8 sp "java/lang/String" "value" "[B" (.ref tp) := (PV.ext E8)
  have f8_7 : Fld Z h8 sp "java/lang/String" "coder" "B" (.int (0 : Int32)) := (PC.ext E8)
  have f8_8 : Arv Z h8 tp kbp .byte (Int32.ofNat cs.length) ((cs.map (fun c => c.toInt8.toInt32)).map Value.int) (.int (0 : Int32)) := (PA.ext E8)
  have f8_9 : Exa Z h8 lt8 "java/lang/String" := fE8
  have f8_10 : Fld Z h8 lt8 "java/lang/String" "coder" "B" (.int (0 : Int32)) := fC8
  have f8_11 : Fld Z h8 lt8 "java/lang/String" "value" "[B" (.ref lb8) := fV8
  have f8_12 : Arv Z h8 lb8 kb8 .byte (1 : Int32) [(.int (47 : Int32))] (.int (0 : Int32)) := fA8
  have CC8 : CHr Z own_EL s.vm h0 T8.vm h8 := C0.trans CHq8
  have Zs8 : n0 ≤ h8.size := (Nat.le_trans Z0 E8.1)
  have O8 : Old Z n0 h8 := O0.ext E8
  have K8 : Keep h0 h8 [a1] := K0.ext E8
  refine GoH.step st8 ?_
  show GoH _ _ _ _ _ _ _ _ _ _ T8 (mkF m 30 #[.val (.ref a1)] [(.ref lt8), (.ref sp), (.ref a1)])
  obtain ⟨cq9, kq9, qa9, qb9, qc9⟩ := isOf hZ8 e8 f8_5
  obtain ⟨_, _, ⟨T9, L9, k9, n9⟩, -, X9, ⟨Lc9, hQ9, l9, y9, z9⟩, st9⟩ := X8.virtualBack hx (y := (⟨"java/lang/String", "startsWith", "(Ljava/lang/String;)Z"⟩ : MethodName)) (z := (⟨"java/lang/String", "startsWith", "(Ljava/lang/String;)Z"⟩ : MethodName)) hown8 (mvT hZ8 (hw _ (List.mem_of_getElem? (i := 85) rfl))) (mvT hZ8 (hw _ (List.mem_of_getElem? (i := 86) rfl))) (notFace_of_selects (args := #[]) (mvT hZ8 (hw _ (List.mem_of_getElem? (i := 88) rfl)))) (mvT hZ8 (hw _ (List.mem_of_getElem? (i := 88) rfl))) (mvT hZ8 (hw _ (List.mem_of_getElem? (i := 87) rfl))) (by decide) (backOf (W := 1) (rmSW1 l Z a0 hw [] sp lt8 G1 tp kbp cs lb8 kb8 h8 n0 Zs8 O8 S_COMPACT P_COMPACT f8_5 f8_6 f8_7 f8_8 hok hlen f8_9 f8_11 f8_10 f8_12) hZ8 (hw _ (List.mem_of_getElem? (i := 89) rfl)) (hw _ (List.mem_of_getElem? (i := 10) rfl)) (by decide) (by decide)) qa9 qc9 (g := (mkF m 30 #[.val (.ref a1)] [(.ref lt8), (.ref sp), (.ref a1)])) rfl (by rw [hml]; rfl) (Steps.refl _) (argsL := [(.ref lt8)]) (rest := [(.ref a1)]) (lenOf pd_7 rfl) rfl (by show 2 * 0 + _ ≤ _; exact Nat.le_of_eq rfl) (hb hby d13_30) (fun _ _ => ⟨rfl, e8, (by decide : 0 + 2 + 0 ≤ _), (by decide : 0 + (4 + 4) + 0 ≤ _)⟩)
  dsimp only [Pt.U, Pt.locs, Pt.cells, Pt.slots] at X9 l9 y9 z9 st9 hQ9
  subst l9 y9 z9
  obtain ⟨rs9, rfl, hrs9, N9q, e9⟩ := hQ9
  have N9 := Fr.app N3 N9q
  refine GoH.step (fun t_ k_ => st9.trans k_) ?_
  show GoH _ _ _ _ _ _ _ _ _ _ T9 (mkF m 33 #[.val (.ref a1)] [(.int rs9), (.ref a1)])
  by_cases hb33_10 : rs9 = (0 : Int32)
  · refine GoH.step (fun t_ k_ => XS.ifYes X9.here hx rfl (pc0 := 33) (pc' := 40) rfl (hb hby d13_33) rfl (XT.i0_eq_t hb33_10) (by decide) (by decide) k_) ?_
    show GoH _ _ _ _ _ _ _ _ _ _ T9 (mkF m 40 #[.val (.ref a1)] [(.ref a1)])
    refine GoH.step (fun t_ k_ => XS.aloadN X9.here hx rfl (hb hby d13_40) rfl rfl k_) ?_
    show GoH _ _ _ _ _ _ _ _ _ _ T9 (mkF m 41 #[.val (.ref a1)] [(.ref a1), (.ref a1)])
    obtain ⟨T11, X11, e11, st11⟩ := getF X9 hx hZ8 hown8 (host := "") (Or.inl (hw _ (List.mem_of_getElem? (i := 37) rfl))) Via.refl (e9) f8_3 (g := (mkF m 41 #[.val (.ref a1)] [(.ref a1), (.ref a1)])) rfl rfl (hb hby d13_41)
    refine GoH.step st11 ?_
    show GoH _ _ _ _ _ _ _ _ _ _ T11 (mkF m 44 #[.val (.ref a1)] [(.int (-1 : Int32)), (.ref a1)])
    refine GoH.step (fun t_ k_ => XS.iconst X11.here hx rfl (hb hby d13_44) k_) ?_
    show GoH _ _ _ _ _ _ _ _ _ _ T11 (mkF m 45 #[.val (.ref a1)] [(.int (1 : Int32)), (.int (-1 : Int32)), (.ref a1)])
    refine GoH.step (fun t_ k_ => XS.iadd X11.here hx rfl (hb hby d13_45) rfl k_) ?_
    show GoH _ _ _ _ _ _ _ _ _ _ T11 (mkF m 46 #[.val (.ref a1)] [(.int (0 : Int32)), (.ref a1)])
    show GoH _ _ _ _ _ _ _ _ _ _ T11 (mkF m 46 #[.val (.ref a1)] [(.int (Int32.ofNat 0)), (.ref a1)])
    obtain ⟨T12, h12, X12, e12, W12, st12⟩ := putF X11 hx hZ8 hown8 (host := "") (Or.inl (hw _ (List.mem_of_getElem? (i := 46) rfl))) Via.refl e11 f8_2 f8_0 (Or.inl (hw _ (List.mem_of_getElem? (i := 47) rfl))) (hw _ (List.mem_of_getElem? (i := 31) rfl)) (ty := .int) (by decide) rfl rfl (g := (mkF m 46 #[.val (.ref a1)] [(.int (Int32.ofNat 0)), (.ref a1)])) rfl rfl (hb hby d13_46)
    have N12 := Fr.snoc X12 N9 g1
    refine GoH.step st12 ?_
    have f12_0 : Exa Z h12 a1 "com/example/affordance/affordance/PathSegments" := (f8_0.wr W12)
    have f12_1 : Fld Z h12 a1 "com/example/affordance/affordance/PathSegments" "path" "Ljava/lang/String;" (.ref sp) := (f8_1.other W12 (Or.inr (slot_ne (Or.inr (hw _ (List.mem_of_getElem? (i := 40) rfl))) (Or.inl (hw _ (List.mem_of_getElem? (i := 47) rfl))) (by decide) (t := (.object "java/lang/String")) (t' := .int) (by decide) (by decide))))
    have f12_2 : Fld Z h12 a1 "com/example/affordance/affordance/PathSegments" "start" "I" (.int (Int32.ofNat 0)) := (f8_2.same W12)
    have f12_3 : Fld Z h12 a1 "com/example/affordance/affordance/PathSegments" "end" "I" (.int (-1 : Int32)) := (f8_3.other W12 (Or.inr (slot_ne (Or.inl (hw _ (List.mem_of_getElem? (i := 38) rfl))) (Or.inl (hw _ (List.mem_of_getElem? (i := 47) rfl))) (by decide) (t := .int) (t' := .int) (by decide) (by decide))))
    have f12_4 : Fld Z h12 a1 "com/example/affordance/affordance/PathSegments" "template" "Z" (.int (0 : Int32)) := (f8_4.other W12 (Or.inr (slot_ne (Or.inl (hw _ (List.mem_of_getElem? (i := 101) rfl))) (Or.inl (hw _ (List.mem_of_getElem? (i := 47) rfl))) (by decide) (t := .boolean) (t' := .int) (by decide) (by decide))))
    have f12_5 : Exa Z h12 sp "java/lang/String" := (f8_5.wr W12)
    have f12_6 : Fld Z h12 sp "java/lang/String" "value" "[B" (.ref tp) := (f8_6.other W12 (Or.inl nsp))
    have f12_7 : Fld Z h12 sp "java/lang/String" "coder" "B" (.int (0 : Int32)) := (f8_7.other W12 (Or.inl nsp))
    have f12_8 : Arv Z h12 tp kbp .byte (Int32.ofNat cs.length) ((cs.map (fun c => c.toInt8.toInt32)).map Value.int) (.int (0 : Int32)) := (f8_8.other W12 ntp)
    have f12_9 : Exa Z h12 lt8 "java/lang/String" := (f8_9.wr W12)
    have f12_10 : Fld Z h12 lt8 "java/lang/String" "coder" "B" (.int (0 : Int32)) := (f8_10.other W12 (Or.inl (ne_exa f8_9 f8_0 (by decide))))
    have f12_11 : Fld Z h12 lt8 "java/lang/String" "value" "[B" (.ref lb8) := (f8_11.other W12 (Or.inl (ne_exa f8_9 f8_0 (by decide))))
    have f12_12 : Arv Z h12 lb8 kb8 .byte (1 : Int32) [(.int (47 : Int32))] (.int (0 : Int32)) := (f8_12.other W12 (Ne.symm (own_ne_arv f8_0 (hw _ (List.mem_of_getElem? (i := 31) rfl)) f8_12)))
    have sfw12 : Safe Z own_EL T8.vm _ a1 := (Safe.exa hZ8.alike f8_0 (by decide) (by decide))
    have hk12 : _ ≤ h12.size := Nat.le_trans hk8 (Keep.of_wr W12).1
    have C12 : CHr Z own_EL s.vm h0 T8.vm h12 := CC8.trans (CHr.wr W12 sfw12 CC8.1)
    have Zs12 : n0 ≤ h12.size := (Nat.le_trans Zs8 (Keep.of_wr W12).1)
    have O12 : Old Z n0 h12 := O8.wr W12 g1
    have K12 : Keep h0 h12 [a1] := K8.wr W12 (Or.inl (List.mem_of_getElem? (i := 0) rfl))
    show GoH _ _ _ _ _ _ _ _ _ _ T12 (mkF m 49 #[.val (.ref a1)] [])
    refine GoH.step (fun t_ k_ => XS.aloadN X12.here hx rfl (hb hby d13_49) rfl rfl k_) ?_
    show GoH _ _ _ _ _ _ _ _ _ _ T12 (mkF m 50 #[.val (.ref a1)] [(.ref a1)])
    refine GoH.step (fun t_ k_ => XS.aloadN X12.here hx rfl (hb hby d13_50) rfl rfl k_) ?_
    show GoH _ _ _ _ _ _ _ _ _ _ T12 (mkF m 51 #[.val (.ref a1)] [(.ref a1), (.ref a1)])
    obtain ⟨T13, X13, e13, st13⟩ := getF X12 hx hZ8 hown8 (host := "") (Or.inl (hw _ (List.mem_of_getElem? (i := 46) rfl))) Via.refl e12 f12_2 (g := (mkF m 51 #[.val (.ref a1)] [(.ref a1), (.ref a1)])) rfl rfl (hb hby d13_51)
    refine GoH.step st13 ?_
    show GoH _ _ _ _ _ _ _ _ _ _ T13 (mkF m 54 #[.val (.ref a1)] [(.int (Int32.ofNat 0)), (.ref a1)])
    obtain ⟨T14, h14, X14, e14, W14, st14⟩ := putF X13 hx hZ8 hown8 (host := "") (Or.inl (hw _ (List.mem_of_getElem? (i := 37) rfl))) Via.refl e13 f12_3 f12_0 (Or.inl (hw _ (List.mem_of_getElem? (i := 38) rfl))) (hw _ (List.mem_of_getElem? (i := 31) rfl)) (ty := .int) (by decide) rfl rfl (g := (mkF m 54 #[.val (.ref a1)] [(.int (Int32.ofNat 0)), (.ref a1)])) rfl rfl (hb hby d13_54)
    have N14 := Fr.snoc X14 N12 g1
    refine GoH.step st14 ?_
    have f14_0 : Exa Z h14 a1 "com/example/affordance/affordance/PathSegments" := (f12_0.wr W14)
    have f14_1 : Fld Z h14 a1 "com/example/affordance/affordance/PathSegments" "path" "Ljava/lang/String;" (.ref sp) := (f12_1.other W14 (Or.inr (slot_ne (Or.inr (hw _ (List.mem_of_getElem? (i := 40) rfl))) (Or.inl (hw _ (List.mem_of_getElem? (i := 38) rfl))) (by decide) (t := (.object "java/lang/String")) (t' := .int) (by decide) (by decide))))
    have f14_2 : Fld Z h14 a1 "com/example/affordance/affordance/PathSegments" "start" "I" (.int (Int32.ofNat 0)) := (f12_2.other W14 (Or.inr (slot_ne (Or.inl (hw _ (List.mem_of_getElem? (i := 47) rfl))) (Or.inl (hw _ (List.mem_of_getElem? (i := 38) rfl))) (by decide) (t := .int) (t' := .int) (by decide) (by decide))))
    have f14_3 : Fld Z h14 a1 "com/example/affordance/affordance/PathSegments" "end" "I" (.int (Int32.ofNat 0)) := (f12_3.same W14)
    have f14_4 : Fld Z h14 a1 "com/example/affordance/affordance/PathSegments" "template" "Z" (.int (0 : Int32)) := (f12_4.other W14 (Or.inr (slot_ne (Or.inl (hw _ (List.mem_of_getElem? (i := 101) rfl))) (Or.inl (hw _ (List.mem_of_getElem? (i := 38) rfl))) (by decide) (t := .boolean) (t' := .int) (by decide) (by decide))))
    have f14_5 : Exa Z h14 sp "java/lang/String" := (f12_5.wr W14)
    have f14_6 : Fld Z h14 sp "java/lang/String" "value" "[B" (.ref tp) := (f12_6.other W14 (Or.inl nsp))
    have f14_7 : Fld Z h14 sp "java/lang/String" "coder" "B" (.int (0 : Int32)) := (f12_7.other W14 (Or.inl nsp))
    have f14_8 : Arv Z h14 tp kbp .byte (Int32.ofNat cs.length) ((cs.map (fun c => c.toInt8.toInt32)).map Value.int) (.int (0 : Int32)) := (f12_8.other W14 ntp)
    have f14_9 : Exa Z h14 lt8 "java/lang/String" := (f12_9.wr W14)
    have f14_10 : Fld Z h14 lt8 "java/lang/String" "coder" "B" (.int (0 : Int32)) := (f12_10.other W14 (Or.inl (ne_exa f12_9 f12_0 (by decide))))
    have f14_11 : Fld Z h14 lt8 "java/lang/String" "value" "[B" (.ref lb8) := (f12_11.other W14 (Or.inl (ne_exa f12_9 f12_0 (by decide))))
    have f14_12 : Arv Z h14 lb8 kb8 .byte (1 : Int32) [(.int (47 : Int32))] (.int (0 : Int32)) := (f12_12.other W14 (Ne.symm (own_ne_arv f12_0 (hw _ (List.mem_of_getElem? (i := 31) rfl)) f12_12)))
    have sfw14 : Safe Z own_EL T8.vm _ a1 := (Safe.exa hZ8.alike f12_0 (by decide) (by decide))
    have hk14 : _ ≤ h14.size := Nat.le_trans hk12 (Keep.of_wr W14).1
    have C14 : CHr Z own_EL s.vm h0 T8.vm h14 := C12.trans (CHr.wr W14 sfw14 C12.1)
    have Zs14 : n0 ≤ h14.size := (Nat.le_trans Zs12 (Keep.of_wr W14).1)
    have O14 : Old Z n0 h14 := O12.wr W14 g1
    have K14 : Keep h0 h14 [a1] := K12.wr W14 (Or.inl (List.mem_of_getElem? (i := 0) rfl))
    show GoH _ _ _ _ _ _ _ _ _ _ T14 (mkF m 57 #[.val (.ref a1)] [])
    refine GoH.step (fun t_ k_ => XS.aloadN X14.here hx rfl (hb hby d13_57) rfl rfl k_) ?_
    show GoH _ _ _ _ _ _ _ _ _ _ T14 (mkF m 58 #[.val (.ref a1)] [(.ref a1)])
    refine GoH.step (fun t_ k_ => XS.iconst X14.here hx rfl (hb hby d13_58) k_) ?_
    show GoH _ _ _ _ _ _ _ _ _ _ T14 (mkF m 59 #[.val (.ref a1)] [(.int (0 : Int32)), (.ref a1)])
    obtain ⟨T15, h15, X15, e15, W15, st15⟩ := putF X14 hx hZ8 hown8 (host := "") (Or.inl (hw _ (List.mem_of_getElem? (i := 100) rfl))) Via.refl e14 f14_4 f14_0 (Or.inl (hw _ (List.mem_of_getElem? (i := 101) rfl))) (hw _ (List.mem_of_getElem? (i := 31) rfl)) (ty := .boolean) (by decide) rfl rfl (g := (mkF m 59 #[.val (.ref a1)] [(.int (0 : Int32)), (.ref a1)])) rfl rfl (hb hby d13_59)
    have N15 := Fr.snoc X15 N14 g1
    refine GoH.step st15 ?_
    have f15_0 : Exa Z h15 a1 "com/example/affordance/affordance/PathSegments" := (f14_0.wr W15)
    have f15_1 : Fld Z h15 a1 "com/example/affordance/affordance/PathSegments" "path" "Ljava/lang/String;" (.ref sp) := (f14_1.other W15 (Or.inr (slot_ne (Or.inr (hw _ (List.mem_of_getElem? (i := 40) rfl))) (Or.inl (hw _ (List.mem_of_getElem? (i := 101) rfl))) (by decide) (t := (.object "java/lang/String")) (t' := .boolean) (by decide) (by decide))))
    have f15_2 : Fld Z h15 a1 "com/example/affordance/affordance/PathSegments" "start" "I" (.int (Int32.ofNat 0)) := (f14_2.other W15 (Or.inr (slot_ne (Or.inl (hw _ (List.mem_of_getElem? (i := 47) rfl))) (Or.inl (hw _ (List.mem_of_getElem? (i := 101) rfl))) (by decide) (t := .int) (t' := .boolean) (by decide) (by decide))))
    have f15_3 : Fld Z h15 a1 "com/example/affordance/affordance/PathSegments" "end" "I" (.int (Int32.ofNat 0)) := (f14_3.other W15 (Or.inr (slot_ne (Or.inl (hw _ (List.mem_of_getElem? (i := 38) rfl))) (Or.inl (hw _ (List.mem_of_getElem? (i := 101) rfl))) (by decide) (t := .int) (t' := .boolean) (by decide) (by decide))))
    have f15_4 : Fld Z h15 a1 "com/example/affordance/affordance/PathSegments" "template" "Z" (.int (0 : Int32)) := (f14_4.same W15)
    have f15_5 : Exa Z h15 sp "java/lang/String" := (f14_5.wr W15)
    have f15_6 : Fld Z h15 sp "java/lang/String" "value" "[B" (.ref tp) := (f14_6.other W15 (Or.inl nsp))
    have f15_7 : Fld Z h15 sp "java/lang/String" "coder" "B" (.int (0 : Int32)) := (f14_7.other W15 (Or.inl nsp))
    have f15_8 : Arv Z h15 tp kbp .byte (Int32.ofNat cs.length) ((cs.map (fun c => c.toInt8.toInt32)).map Value.int) (.int (0 : Int32)) := (f14_8.other W15 ntp)
    have f15_9 : Exa Z h15 lt8 "java/lang/String" := (f14_9.wr W15)
    have f15_10 : Fld Z h15 lt8 "java/lang/String" "coder" "B" (.int (0 : Int32)) := (f14_10.other W15 (Or.inl (ne_exa f14_9 f14_0 (by decide))))
    have f15_11 : Fld Z h15 lt8 "java/lang/String" "value" "[B" (.ref lb8) := (f14_11.other W15 (Or.inl (ne_exa f14_9 f14_0 (by decide))))
    have f15_12 : Arv Z h15 lb8 kb8 .byte (1 : Int32) [(.int (47 : Int32))] (.int (0 : Int32)) := (f14_12.other W15 (Ne.symm (own_ne_arv f14_0 (hw _ (List.mem_of_getElem? (i := 31) rfl)) f14_12)))
    have sfw15 : Safe Z own_EL T8.vm _ a1 := (Safe.exa hZ8.alike f14_0 (by decide) (by decide))
    have hk15 : _ ≤ h15.size := Nat.le_trans hk14 (Keep.of_wr W15).1
    have C15 : CHr Z own_EL s.vm h0 T8.vm h15 := C14.trans (CHr.wr W15 sfw15 C14.1)
    have Zs15 : n0 ≤ h15.size := (Nat.le_trans Zs14 (Keep.of_wr W15).1)
    have O15 : Old Z n0 h15 := O14.wr W15 g1
    have K15 : Keep h0 h15 [a1] := K14.wr W15 (Or.inl (List.mem_of_getElem? (i := 0) rfl))
    show GoH _ _ _ _ _ _ _ _ _ _ T15 (mkF m 62 #[.val (.ref a1)] [])
    exact lpA l Z a0 hw a1 G1 G3 sp tp kbp cs h0 n0 Z0 g1 O0 S_COMPACT P_COMPACT S_SIOOBE r_SIOOBE QE1 Q_path Q_start Q_end Q_template PE PV PC PA hok hlen nsp ntp hx hby hlk hml hret hnm _ (0) (0) (X15.mono (by decide) (by decide)) e15 N15 Zs15 O15 K15 hS8 hk15 hZ8 hown8 hEL C15 f15_0 f15_1 f15_2 f15_3 (by rw [own_tpl_self]; exact f15_4) f15_5 f15_6 f15_7 f15_8 (Nat.le_refl _) (Nat.zero_le _) rfl
  · refine GoH.step (fun t_ k_ => XS.ifNo X9.here hx rfl (hb hby d13_33) rfl (XT.i0_eq_f hb33_10) k_) ?_
    show GoH _ _ _ _ _ _ _ _ _ _ T9 (mkF m 36 #[.val (.ref a1)] [(.ref a1)])
    refine GoH.step (fun t_ k_ => XS.iconst X9.here hx rfl (hb hby d13_36) k_) ?_
    show GoH _ _ _ _ _ _ _ _ _ _ T9 (mkF m 37 #[.val (.ref a1)] [(.int (1 : Int32)), (.ref a1)])
    refine GoH.step (fun t_ k_ => XS.goto X9.here hx rfl (pc0 := 37) (pc' := 46) rfl (hb hby d13_37) (by decide) (by decide) k_) ?_
    show GoH _ _ _ _ _ _ _ _ _ _ T9 (mkF m 46 #[.val (.ref a1)] [(.int (1 : Int32)), (.ref a1)])
    have hj1 : 0 < cs.length := (hrs9.resolve_left hb33_10).2
    show GoH _ _ _ _ _ _ _ _ _ _ T9 (mkF m 46 #[.val (.ref a1)] [(.int (Int32.ofNat 1)), (.ref a1)])
    obtain ⟨T33, h33, X33, e33, W33, st33⟩ := putF X9 hx hZ8 hown8 (host := "") (Or.inl (hw _ (List.mem_of_getElem? (i := 46) rfl))) Via.refl (e9) f8_2 f8_0 (Or.inl (hw _ (List.mem_of_getElem? (i := 47) rfl))) (hw _ (List.mem_of_getElem? (i := 31) rfl)) (ty := .int) (by decide) rfl rfl (g := (mkF m 46 #[.val (.ref a1)] [(.int (Int32.ofNat 1)), (.ref a1)])) rfl rfl (hb hby d13_46)
    have N33 := Fr.snoc X33 N9 g1
    refine GoH.step st33 ?_
    have f33_0 : Exa Z h33 a1 "com/example/affordance/affordance/PathSegments" := (f8_0.wr W33)
    have f33_1 : Fld Z h33 a1 "com/example/affordance/affordance/PathSegments" "path" "Ljava/lang/String;" (.ref sp) := (f8_1.other W33 (Or.inr (slot_ne (Or.inr (hw _ (List.mem_of_getElem? (i := 40) rfl))) (Or.inl (hw _ (List.mem_of_getElem? (i := 47) rfl))) (by decide) (t := (.object "java/lang/String")) (t' := .int) (by decide) (by decide))))
    have f33_2 : Fld Z h33 a1 "com/example/affordance/affordance/PathSegments" "start" "I" (.int (Int32.ofNat 1)) := (f8_2.same W33)
    have f33_3 : Fld Z h33 a1 "com/example/affordance/affordance/PathSegments" "end" "I" (.int (-1 : Int32)) := (f8_3.other W33 (Or.inr (slot_ne (Or.inl (hw _ (List.mem_of_getElem? (i := 38) rfl))) (Or.inl (hw _ (List.mem_of_getElem? (i := 47) rfl))) (by decide) (t := .int) (t' := .int) (by decide) (by decide))))
    have f33_4 : Fld Z h33 a1 "com/example/affordance/affordance/PathSegments" "template" "Z" (.int (0 : Int32)) := (f8_4.other W33 (Or.inr (slot_ne (Or.inl (hw _ (List.mem_of_getElem? (i := 101) rfl))) (Or.inl (hw _ (List.mem_of_getElem? (i := 47) rfl))) (by decide) (t := .boolean) (t' := .int) (by decide) (by decide))))
    have f33_5 : Exa Z h33 sp "java/lang/String" := (f8_5.wr W33)
    have f33_6 : Fld Z h33 sp "java/lang/String" "value" "[B" (.ref tp) := (f8_6.other W33 (Or.inl nsp))
    have f33_7 : Fld Z h33 sp "java/lang/String" "coder" "B" (.int (0 : Int32)) := (f8_7.other W33 (Or.inl nsp))
    have f33_8 : Arv Z h33 tp kbp .byte (Int32.ofNat cs.length) ((cs.map (fun c => c.toInt8.toInt32)).map Value.int) (.int (0 : Int32)) := (f8_8.other W33 ntp)
    have f33_9 : Exa Z h33 lt8 "java/lang/String" := (f8_9.wr W33)
    have f33_10 : Fld Z h33 lt8 "java/lang/String" "coder" "B" (.int (0 : Int32)) := (f8_10.other W33 (Or.inl (ne_exa f8_9 f8_0 (by decide))))
    have f33_11 : Fld Z h33 lt8 "java/lang/String" "value" "[B" (.ref lb8) := (f8_11.other W33 (Or.inl (ne_exa f8_9 f8_0 (by decide))))
    have f33_12 : Arv Z h33 lb8 kb8 .byte (1 : Int32) [(.int (47 : Int32))] (.int (0 : Int32)) := (f8_12.other W33 (Ne.symm (own_ne_arv f8_0 (hw _ (List.mem_of_getElem? (i := 31) rfl)) f8_12)))
    have sfw33 : Safe Z own_EL T8.vm _ a1 := (Safe.exa hZ8.alike f8_0 (by decide) (by decide))
    have hk33 : _ ≤ h33.size := Nat.le_trans hk8 (Keep.of_wr W33).1
    have C33 : CHr Z own_EL s.vm h0 T8.vm h33 := CC8.trans (CHr.wr W33 sfw33 CC8.1)
    have Zs33 : n0 ≤ h33.size := (Nat.le_trans Zs8 (Keep.of_wr W33).1)
    have O33 : Old Z n0 h33 := O8.wr W33 g1
    have K33 : Keep h0 h33 [a1] := K8.wr W33 (Or.inl (List.mem_of_getElem? (i := 0) rfl))
    show GoH _ _ _ _ _ _ _ _ _ _ T33 (mkF m 49 #[.val (.ref a1)] [])
    refine GoH.step (fun t_ k_ => XS.aloadN X33.here hx rfl (hb hby d13_49) rfl rfl k_) ?_
    show GoH _ _ _ _ _ _ _ _ _ _ T33 (mkF m 50 #[.val (.ref a1)] [(.ref a1)])
    refine GoH.step (fun t_ k_ => XS.aloadN X33.here hx rfl (hb hby d13_50) rfl rfl k_) ?_
    show GoH _ _ _ _ _ _ _ _ _ _ T33 (mkF m 51 #[.val (.ref a1)] [(.ref a1), (.ref a1)])
    obtain ⟨T34, X34, e34, st34⟩ := getF X33 hx hZ8 hown8 (host := "") (Or.inl (hw _ (List.mem_of_getElem? (i := 46) rfl))) Via.refl e33 f33_2 (g := (mkF m 51 #[.val (.ref a1)] [(.ref a1), (.ref a1)])) rfl rfl (hb hby d13_51)
    refine GoH.step st34 ?_
    show GoH _ _ _ _ _ _ _ _ _ _ T34 (mkF m 54 #[.val (.ref a1)] [(.int (Int32.ofNat 1)), (.ref a1)])
    obtain ⟨T35, h35, X35, e35, W35, st35⟩ := putF X34 hx hZ8 hown8 (host := "") (Or.inl (hw _ (List.mem_of_getElem? (i := 37) rfl))) Via.refl e34 f33_3 f33_0 (Or.inl (hw _ (List.mem_of_getElem? (i := 38) rfl))) (hw _ (List.mem_of_getElem? (i := 31) rfl)) (ty := .int) (by decide) rfl rfl (g := (mkF m 54 #[.val (.ref a1)] [(.int (Int32.ofNat 1)), (.ref a1)])) rfl rfl (hb hby d13_54)
    have N35 := Fr.snoc X35 N33 g1
    refine GoH.step st35 ?_
    have f35_0 : Exa Z h35 a1 "com/example/affordance/affordance/PathSegments" := (f33_0.wr W35)
    have f35_1 : Fld Z h35 a1 "com/example/affordance/affordance/PathSegments" "path" "Ljava/lang/String;" (.ref sp) := (f33_1.other W35 (Or.inr (slot_ne (Or.inr (hw _ (List.mem_of_getElem? (i := 40) rfl))) (Or.inl (hw _ (List.mem_of_getElem? (i := 38) rfl))) (by decide) (t := (.object "java/lang/String")) (t' := .int) (by decide) (by decide))))
    have f35_2 : Fld Z h35 a1 "com/example/affordance/affordance/PathSegments" "start" "I" (.int (Int32.ofNat 1)) := (f33_2.other W35 (Or.inr (slot_ne (Or.inl (hw _ (List.mem_of_getElem? (i := 47) rfl))) (Or.inl (hw _ (List.mem_of_getElem? (i := 38) rfl))) (by decide) (t := .int) (t' := .int) (by decide) (by decide))))
    have f35_3 : Fld Z h35 a1 "com/example/affordance/affordance/PathSegments" "end" "I" (.int (Int32.ofNat 1)) := (f33_3.same W35)
    have f35_4 : Fld Z h35 a1 "com/example/affordance/affordance/PathSegments" "template" "Z" (.int (0 : Int32)) := (f33_4.other W35 (Or.inr (slot_ne (Or.inl (hw _ (List.mem_of_getElem? (i := 101) rfl))) (Or.inl (hw _ (List.mem_of_getElem? (i := 38) rfl))) (by decide) (t := .boolean) (t' := .int) (by decide) (by decide))))
    have f35_5 : Exa Z h35 sp "java/lang/String" := (f33_5.wr W35)
    have f35_6 : Fld Z h35 sp "java/lang/String" "value" "[B" (.ref tp) := (f33_6.other W35 (Or.inl nsp))
    have f35_7 : Fld Z h35 sp "java/lang/String" "coder" "B" (.int (0 : Int32)) := (f33_7.other W35 (Or.inl nsp))
    have f35_8 : Arv Z h35 tp kbp .byte (Int32.ofNat cs.length) ((cs.map (fun c => c.toInt8.toInt32)).map Value.int) (.int (0 : Int32)) := (f33_8.other W35 ntp)
    have f35_9 : Exa Z h35 lt8 "java/lang/String" := (f33_9.wr W35)
    have f35_10 : Fld Z h35 lt8 "java/lang/String" "coder" "B" (.int (0 : Int32)) := (f33_10.other W35 (Or.inl (ne_exa f33_9 f33_0 (by decide))))
    have f35_11 : Fld Z h35 lt8 "java/lang/String" "value" "[B" (.ref lb8) := (f33_11.other W35 (Or.inl (ne_exa f33_9 f33_0 (by decide))))
    have f35_12 : Arv Z h35 lb8 kb8 .byte (1 : Int32) [(.int (47 : Int32))] (.int (0 : Int32)) := (f33_12.other W35 (Ne.symm (own_ne_arv f33_0 (hw _ (List.mem_of_getElem? (i := 31) rfl)) f33_12)))
    have sfw35 : Safe Z own_EL T8.vm _ a1 := (Safe.exa hZ8.alike f33_0 (by decide) (by decide))
    have hk35 : _ ≤ h35.size := Nat.le_trans hk33 (Keep.of_wr W35).1
    have C35 : CHr Z own_EL s.vm h0 T8.vm h35 := C33.trans (CHr.wr W35 sfw35 C33.1)
    have Zs35 : n0 ≤ h35.size := (Nat.le_trans Zs33 (Keep.of_wr W35).1)
    have O35 : Old Z n0 h35 := O33.wr W35 g1
    have K35 : Keep h0 h35 [a1] := K33.wr W35 (Or.inl (List.mem_of_getElem? (i := 0) rfl))
    show GoH _ _ _ _ _ _ _ _ _ _ T35 (mkF m 57 #[.val (.ref a1)] [])
    refine GoH.step (fun t_ k_ => XS.aloadN X35.here hx rfl (hb hby d13_57) rfl rfl k_) ?_
    show GoH _ _ _ _ _ _ _ _ _ _ T35 (mkF m 58 #[.val (.ref a1)] [(.ref a1)])
    refine GoH.step (fun t_ k_ => XS.iconst X35.here hx rfl (hb hby d13_58) k_) ?_
    show GoH _ _ _ _ _ _ _ _ _ _ T35 (mkF m 59 #[.val (.ref a1)] [(.int (0 : Int32)), (.ref a1)])
    obtain ⟨T36, h36, X36, e36, W36, st36⟩ := putF X35 hx hZ8 hown8 (host := "") (Or.inl (hw _ (List.mem_of_getElem? (i := 100) rfl))) Via.refl e35 f35_4 f35_0 (Or.inl (hw _ (List.mem_of_getElem? (i := 101) rfl))) (hw _ (List.mem_of_getElem? (i := 31) rfl)) (ty := .boolean) (by decide) rfl rfl (g := (mkF m 59 #[.val (.ref a1)] [(.int (0 : Int32)), (.ref a1)])) rfl rfl (hb hby d13_59)
    have N36 := Fr.snoc X36 N35 g1
    refine GoH.step st36 ?_
    have f36_0 : Exa Z h36 a1 "com/example/affordance/affordance/PathSegments" := (f35_0.wr W36)
    have f36_1 : Fld Z h36 a1 "com/example/affordance/affordance/PathSegments" "path" "Ljava/lang/String;" (.ref sp) := (f35_1.other W36 (Or.inr (slot_ne (Or.inr (hw _ (List.mem_of_getElem? (i := 40) rfl))) (Or.inl (hw _ (List.mem_of_getElem? (i := 101) rfl))) (by decide) (t := (.object "java/lang/String")) (t' := .boolean) (by decide) (by decide))))
    have f36_2 : Fld Z h36 a1 "com/example/affordance/affordance/PathSegments" "start" "I" (.int (Int32.ofNat 1)) := (f35_2.other W36 (Or.inr (slot_ne (Or.inl (hw _ (List.mem_of_getElem? (i := 47) rfl))) (Or.inl (hw _ (List.mem_of_getElem? (i := 101) rfl))) (by decide) (t := .int) (t' := .boolean) (by decide) (by decide))))
    have f36_3 : Fld Z h36 a1 "com/example/affordance/affordance/PathSegments" "end" "I" (.int (Int32.ofNat 1)) := (f35_3.other W36 (Or.inr (slot_ne (Or.inl (hw _ (List.mem_of_getElem? (i := 38) rfl))) (Or.inl (hw _ (List.mem_of_getElem? (i := 101) rfl))) (by decide) (t := .int) (t' := .boolean) (by decide) (by decide))))
    have f36_4 : Fld Z h36 a1 "com/example/affordance/affordance/PathSegments" "template" "Z" (.int (0 : Int32)) := (f35_4.same W36)
    have f36_5 : Exa Z h36 sp "java/lang/String" := (f35_5.wr W36)
    have f36_6 : Fld Z h36 sp "java/lang/String" "value" "[B" (.ref tp) := (f35_6.other W36 (Or.inl nsp))
    have f36_7 : Fld Z h36 sp "java/lang/String" "coder" "B" (.int (0 : Int32)) := (f35_7.other W36 (Or.inl nsp))
    have f36_8 : Arv Z h36 tp kbp .byte (Int32.ofNat cs.length) ((cs.map (fun c => c.toInt8.toInt32)).map Value.int) (.int (0 : Int32)) := (f35_8.other W36 ntp)
    have f36_9 : Exa Z h36 lt8 "java/lang/String" := (f35_9.wr W36)
    have f36_10 : Fld Z h36 lt8 "java/lang/String" "coder" "B" (.int (0 : Int32)) := (f35_10.other W36 (Or.inl (ne_exa f35_9 f35_0 (by decide))))
    have f36_11 : Fld Z h36 lt8 "java/lang/String" "value" "[B" (.ref lb8) := (f35_11.other W36 (Or.inl (ne_exa f35_9 f35_0 (by decide))))
    have f36_12 : Arv Z h36 lb8 kb8 .byte (1 : Int32) [(.int (47 : Int32))] (.int (0 : Int32)) := (f35_12.other W36 (Ne.symm (own_ne_arv f35_0 (hw _ (List.mem_of_getElem? (i := 31) rfl)) f35_12)))
    have sfw36 : Safe Z own_EL T8.vm _ a1 := (Safe.exa hZ8.alike f35_0 (by decide) (by decide))
    have hk36 : _ ≤ h36.size := Nat.le_trans hk35 (Keep.of_wr W36).1
    have C36 : CHr Z own_EL s.vm h0 T8.vm h36 := C35.trans (CHr.wr W36 sfw36 C35.1)
    have Zs36 : n0 ≤ h36.size := (Nat.le_trans Zs35 (Keep.of_wr W36).1)
    have O36 : Old Z n0 h36 := O35.wr W36 g1
    have K36 : Keep h0 h36 [a1] := K35.wr W36 (Or.inl (List.mem_of_getElem? (i := 0) rfl))
    show GoH _ _ _ _ _ _ _ _ _ _ T36 (mkF m 62 #[.val (.ref a1)] [])
    exact lpA l Z a0 hw a1 G1 G3 sp tp kbp cs h0 n0 Z0 g1 O0 S_COMPACT P_COMPACT S_SIOOBE r_SIOOBE QE1 Q_path Q_start Q_end Q_template PE PV PC PA hok hlen nsp ntp hx hby hlk hml hret hnm _ (1) (1) (X36.mono (by decide) (by decide)) e36 N36 Zs36 O36 K36 hS8 hk36 hZ8 hown8 hEL C36 f36_0 f36_1 f36_2 f36_3 (by rw [own_tpl_self]; exact f36_4) f36_5 f36_6 f36_7 f36_8 (Nat.le_refl _) (hj1) rfl
theorem ef_rmNxB (m : MethodId) (a1 : Addr) : entryFrame m #[(.ref a1)] 1 = mkF m 0 #[.val (.ref a1)] [] := by first | (simp [entryFrame, mkF, argsToLocals, Value.category]; done) | rfl
def QNxB (Z : State) (a1 : Addr) (G1 : Int32) (G3 : Value) (sp : Addr) (tp : Addr) (kbp : ClassId) (cs : List Int32) (j0 : Nat) (i0 : Nat) (h0 : Heap) (n0 : Nat) (v : Option Value) (h : Heap) (L : List Loc) : Prop := ∃ (r : Int32) (j i : Nat), v = some (.int r) ∧ Fr n0 L ∧ Keep h0 h [a1] ∧ Exa Z h a1 "com/example/affordance/affordance/PathSegments" ∧ Fld Z h a1 "com/example/affordance/affordance/PathSegments" "path" "Ljava/lang/String;" (.ref sp) ∧ Fld Z h a1 "com/example/affordance/affordance/PathSegments" "start" "I" (.int (Int32.ofNat j)) ∧ Fld Z h a1 "com/example/affordance/affordance/PathSegments" "end" "I" (.int (Int32.ofNat i)) ∧ Fld Z h a1 "com/example/affordance/affordance/PathSegments" "template" "Z" (.int (own_tpl cs j i)) ∧ j ≤ i ∧ i ≤ cs.length
theorem d13_14 : decode prog_44_method_2_code 14 = .ok (.iconst 0, 1) := by decide +kernel
theorem d13_15 : decode prog_44_method_2_code 15 = .ok (.ireturn, 1) := by decide +kernel
set_option maxRecDepth 65536 in
set_option maxHeartbeats 40000000 in
theorem lpB (l : Launch) (Z : State) (a0 : Array Value) (hw : ∀ d ∈ tables_1, d.before a0 Z = true) (a1 : Addr) (G1 : Int32) (G3 : Value) (sp : Addr) (tp : Addr) (kbp : ClassId) (cs : List Int32) (j0 : Nat) (i0 : Nat) (h0 : Heap) (n0 : Nat) (Z0 : n0 ≤ h0.size) (g1 : n0 ≤ a1) (O0 : Old Z n0 h0) (S_COMPACT : Sta Z Z.heap "java/lang/String" "COMPACT_STRINGS" "Z" (.int G1)) (P_COMPACT : ¬ (G1 = (0 : Int32))) (S_SIOOBE : Sta Z Z.heap "jdk/internal/util/Preconditions" "SIOOBE_FORMATTER" "Ljava/util/function/BiFunction;" G3) (r_SIOOBE : G3.isRef = true) (QE1 : Exa Z h0 a1 "com/example/affordance/affordance/PathSegments") (Q_path : Fld Z h0 a1 "com/example/affordance/affordance/PathSegments" "path" "Ljava/lang/String;" (.ref sp)) (Q_start : Fld Z h0 a1 "com/example/affordance/affordance/PathSegments" "start" "I" (.int (Int32.ofNat j0))) (Q_end : Fld Z h0 a1 "com/example/affordance/affordance/PathSegments" "end" "I" (.int (Int32.ofNat i0))) (Q_template : Fld Z h0 a1 "com/example/affordance/affordance/PathSegments" "template" "Z" (.int (own_tpl cs j0 i0))) (PE : Exa Z h0 sp "java/lang/String") (PV : Fld Z h0 sp "java/lang/String" "value" "[B" (.ref tp)) (PC : Fld Z h0 sp "java/lang/String" "coder" "B" (.int (0 : Int32))) (PA : Arv Z h0 tp kbp .byte (Int32.ofNat cs.length) ((cs.map (fun c => c.toInt8.toInt32)).map Value.int) (.int (0 : Int32))) (hok : ∀ c ∈ cs, ¬ c < 0 ∧ ¬ (255 : Int32) < c) (hlen : cs.length ≤ 4) (nsp : sp ≠ a1) (ntp : tp ≠ a1) (hji : j0 ≤ i0) (hil : i0 ≤ cs.length) {p : Program} {e : Env} {s : State} {m : MethodId} {below : List Frame} {meth : Method} {c : Code} (hx : p.tables.exec = Jvm.exec) (hby : c.code = prog_44_method_2_code) (hlk : meth.locks = false) (hml : c.maxLocals = 1) (hret : meth.sig.returnType = some .boolean) (hnm : meth.name = "next") :
    ∀ (kk : Nat) (j : Nat) (i : Nat) {T : State} {locs : List Loc} {h : Heap} {vm0 : Vm} {k0 : Nat} (_ : Stand p l e ({ frames := 5, cells := 2, slots := 8, locals := 80 } : Room) (s.setVm vm0) m #[(.ref a1)] below meth c T locs 2 8) (e1 : T.heap = h) (N1 : Fr n0 locs) (Zs1 : n0 ≤ h.size) (O1 : Old Z n0 h) (K1 : Keep h0 h [a1]) (hS1 : s.Since vm0 k0) (hk1 : k0 ≤ h.size) (hZ1 : Z.Warmed39 (s.setVm vm0).vm) (hown1 : (s.setVm vm0).vm.findClass "com/example/affordance/affordance/PathSegments" = some m.cls) (hEL : EW Z a0 own_EL) (C1 : CHr Z own_EL s.vm h0 vm0 h) (H_0 : Exa Z h a1 "com/example/affordance/affordance/PathSegments") (H_1 : Fld Z h a1 "com/example/affordance/affordance/PathSegments" "path" "Ljava/lang/String;" (.ref sp)) (H_2 : Fld Z h a1 "com/example/affordance/affordance/PathSegments" "start" "I" (.int (Int32.ofNat j))) (H_3 : Fld Z h a1 "com/example/affordance/affordance/PathSegments" "end" "I" (.int (Int32.ofNat i))) (H_4 : Fld Z h a1 "com/example/affordance/affordance/PathSegments" "template" "Z" (.int (own_tpl cs j i))) (H_5 : Exa Z h sp "java/lang/String") (H_6 : Fld Z h sp "java/lang/String" "value" "[B" (.ref tp)) (H_7 : Fld Z h sp "java/lang/String" "coder" "B" (.int (0 : Int32))) (H_8 : Arv Z h tp kbp .byte (Int32.ofNat cs.length) ((cs.map (fun c => c.toInt8.toInt32)).map Value.int) (.int (0 : Int32))) (hji : j ≤ i) (hil : i ≤ cs.length) (_ : cs.length - i = kk), GoH p e below s ({ frames := 5, cells := 2, slots := 8, locals := 80 } : Room).cells ({ frames := 5, cells := 2, slots := 8, locals := 80 } : Room).slots Z own_EL h0 (QNxB Z a1 G1 G3 sp tp kbp cs j0 i0 h0 n0) T (mkF m 62 #[.val (.ref a1)] []) := by
  intro kk
  induction kk using Nat.strongRecOn with
  | ind kk ih =>
    intro j i T locs h vm0 k0 X1 e1 N1 Zs1 O1 K1 hS1 hk1 hZ1 hown1 hEL C1 H_0 H_1 H_2 H_3 H_4 H_5 H_6 H_7 H_8 hji hil hkk
    show GoH _ _ _ _ _ _ _ _ _ _ T (mkF m 62 #[.val (.ref a1)] [])
    refine GoH.step (fun t_ k_ => XS.aloadN X1.here hx rfl (hb hby d13_62) rfl rfl k_) ?_
    show GoH _ _ _ _ _ _ _ _ _ _ T (mkF m 63 #[.val (.ref a1)] [(.ref a1)])
    obtain ⟨T12, X12, e12, st12⟩ := getF X1 hx hZ1 hown1 (host := "") (Or.inl (hw _ (List.mem_of_getElem? (i := 37) rfl))) Via.refl e1 H_3 (g := (mkF m 63 #[.val (.ref a1)] [(.ref a1)])) rfl rfl (hb hby d13_63)
    refine GoH.step st12 ?_
    show GoH _ _ _ _ _ _ _ _ _ _ T12 (mkF m 66 #[.val (.ref a1)] [(.int (Int32.ofNat i))])
    refine GoH.step (fun t_ k_ => XS.aloadN X12.here hx rfl (hb hby d13_66) rfl rfl k_) ?_
    show GoH _ _ _ _ _ _ _ _ _ _ T12 (mkF m 67 #[.val (.ref a1)] [(.ref a1), (.int (Int32.ofNat i))])
    obtain ⟨T13, X13, e13, st13⟩ := getF X12 hx hZ1 hown1 (host := "") (Or.inl (hw _ (List.mem_of_getElem? (i := 39) rfl))) Via.refl e12 H_1 (g := (mkF m 67 #[.val (.ref a1)] [(.ref a1), (.int (Int32.ofNat i))])) rfl rfl (hb hby d13_67)
    refine GoH.step st13 ?_
    show GoH _ _ _ _ _ _ _ _ _ _ T13 (mkF m 70 #[.val (.ref a1)] [(.ref sp), (.int (Int32.ofNat i))])
    have hcd14 : StrChars.Road.CodA cs 0 (Int32.ofNat cs.length) ((cs.map (fun c => c.toInt8.toInt32)).map Value.int) := StrChars.Road.codOf rfl (fun c hc => (hok c hc).2)
    have hbd14 : ∀ c ∈ cs, ¬ c < 0 ∧ ¬ (65535 : Int32) < c := own_up _ hok
    obtain ⟨cq14, kq14, qa14, qb14, qc14⟩ := isOf hZ1 e13 H_5
    obtain ⟨vv14, _, ⟨T14, L14, k14, n14⟩, -, X14, ⟨Lc14, hQ14, l14, y14, z14⟩, st14⟩ := X13.virtualBack hx (y := (⟨"java/lang/String", "length", "()I"⟩ : MethodName)) (z := (⟨"java/lang/String", "length", "()I"⟩ : MethodName)) hown1 (mvT hZ1 (hw _ (List.mem_of_getElem? (i := 74) rfl))) (mvT hZ1 (hw _ (List.mem_of_getElem? (i := 75) rfl))) (notFace_of_selects (args := #[]) (mvT hZ1 (hw _ (List.mem_of_getElem? (i := 77) rfl)))) (mvT hZ1 (hw _ (List.mem_of_getElem? (i := 77) rfl))) (mvT hZ1 (hw _ (List.mem_of_getElem? (i := 76) rfl))) (by decide) (StrChars.Road.lenW (W := 1) hZ1 (own_wordsLen hw) (kI := 4) (hw _ (List.mem_of_getElem? (i := 9) rfl)) H_5 H_6 H_7 H_8 hcd14 hbd14 (S_COMPACT.ext O1.2) P_COMPACT (own_le4 hlen) (by decide) (by decide)) qa14 qc14 (g := (mkF m 70 #[.val (.ref a1)] [(.ref sp), (.int (Int32.ofNat i))])) rfl (by rw [hml]; rfl) (Steps.refl _) (argsL := []) (rest := [(.int (Int32.ofNat i))]) (lenOf pd_2 rfl) rfl (by show 2 * 0 + _ ≤ _; exact Nat.le_of_eq rfl) (hb hby d13_70) (fun _ _ => ⟨rfl, e13, (by decide : 2 + 0 ≤ _), (by decide : 8 + 0 ≤ _)⟩)
    dsimp only [Pt.U, Pt.locs, Pt.cells, Pt.slots] at X14 l14 y14 z14 st14 hQ14
    subst l14 y14 z14
    obtain ⟨rfl, rfl, e14⟩ := hQ14
    have N14 := Fr.app N1 (Fr.nil n0)
    refine GoH.step (fun t_ k_ => st14.trans k_) ?_
    show GoH _ _ _ _ _ _ _ _ _ _ T14 (mkF m 73 #[.val (.ref a1)] [(.int (Int32.ofNat cs.length)), (.int (Int32.ofNat i))])
    by_cases hb73_15 : (Int32.ofNat i) < (Int32.ofNat cs.length)
    · refine GoH.step (fun t_ k_ => XS.icmpNo X14.here hx rfl (hb hby d13_73) rfl (XT.ii_ge_f hb73_15) k_) ?_
      show GoH _ _ _ _ _ _ _ _ _ _ T14 (mkF m 76 #[.val (.ref a1)] [])
      refine GoH.step (fun t_ k_ => XS.aloadN X14.here hx rfl (hb hby d13_76) rfl rfl k_) ?_
      show GoH _ _ _ _ _ _ _ _ _ _ T14 (mkF m 77 #[.val (.ref a1)] [(.ref a1)])
      obtain ⟨T16, X16, e16, st16⟩ := getF X14 hx hZ1 hown1 (host := "") (Or.inl (hw _ (List.mem_of_getElem? (i := 39) rfl))) Via.refl e14 H_1 (g := (mkF m 77 #[.val (.ref a1)] [(.ref a1)])) rfl rfl (hb hby d13_77)
      refine GoH.step st16 ?_
      show GoH _ _ _ _ _ _ _ _ _ _ T16 (mkF m 80 #[.val (.ref a1)] [(.ref sp)])
      refine GoH.step (fun t_ k_ => XS.aloadN X16.here hx rfl (hb hby d13_80) rfl rfl k_) ?_
      show GoH _ _ _ _ _ _ _ _ _ _ T16 (mkF m 81 #[.val (.ref a1)] [(.ref a1), (.ref sp)])
      obtain ⟨T17, X17, e17, st17⟩ := getF X16 hx hZ1 hown1 (host := "") (Or.inl (hw _ (List.mem_of_getElem? (i := 37) rfl))) Via.refl e16 H_3 (g := (mkF m 81 #[.val (.ref a1)] [(.ref a1), (.ref sp)])) rfl rfl (hb hby d13_81)
      refine GoH.step st17 ?_
      show GoH _ _ _ _ _ _ _ _ _ _ T17 (mkF m 84 #[.val (.ref a1)] [(.int (Int32.ofNat i)), (.ref sp)])
      have hcd18 : StrChars.Road.CodA cs 0 (Int32.ofNat cs.length) ((cs.map (fun c => c.toInt8.toInt32)).map Value.int) := StrChars.Road.codOf rfl (fun c hc => (hok c hc).2)
      have hbd18 : ∀ c ∈ cs, ¬ c < 0 ∧ ¬ (65535 : Int32) < c := own_up _ hok
      obtain ⟨cq18, kq18, qa18, qb18, qc18⟩ := isOf hZ1 e17 H_5
      obtain ⟨vv18, _, ⟨T18, L18, k18, n18⟩, -, X18, ⟨Lc18, hQ18, l18, y18, z18⟩, st18⟩ := X17.virtualBack hx (y := (⟨"java/lang/String", "charAt", "(I)C"⟩ : MethodName)) (z := (⟨"java/lang/String", "charAt", "(I)C"⟩ : MethodName)) hown1 (mvT hZ1 (hw _ (List.mem_of_getElem? (i := 102) rfl))) (mvT hZ1 (hw _ (List.mem_of_getElem? (i := 103) rfl))) (notFace_of_selects (args := #[]) (mvT hZ1 (hw _ (List.mem_of_getElem? (i := 105) rfl)))) (mvT hZ1 (hw _ (List.mem_of_getElem? (i := 105) rfl))) (mvT hZ1 (hw _ (List.mem_of_getElem? (i := 104) rfl))) (by decide) (StrChars.Road.chN (W := 0) hZ1 (own_wordsChN hw) (kI := 4) (hw _ (List.mem_of_getElem? (i := 9) rfl)) H_5 H_6 H_7 H_8 hcd18 hbd18 (S_COMPACT.ext O1.2) P_COMPACT (S_SIOOBE.ext O1.2) r_SIOOBE (own_le4 hlen) (i := i) ((own_lt (by omega) (by omega)).mp hb73_15) (j := (Int32.ofNat i)) rfl (by decide) (by decide)) qa18 qc18 (g := (mkF m 84 #[.val (.ref a1)] [(.int (Int32.ofNat i)), (.ref sp)])) rfl (by rw [hml]; rfl) (Steps.refl _) (argsL := [(.int (Int32.ofNat i))]) (rest := []) (lenOf pd_3 rfl) rfl (by show 2 * 0 + _ ≤ _; exact Nat.le_of_eq rfl) (hb hby d13_84) (fun _ _ => ⟨rfl, e17, (by decide : 2 + 0 ≤ _), (by decide : 8 + 0 ≤ _)⟩)
      dsimp only [Pt.U, Pt.locs, Pt.cells, Pt.slots] at X18 l18 y18 z18 st18 hQ18
      subst l18 y18 z18
      obtain ⟨rfl, rfl, e18⟩ := hQ18
      have N18 := Fr.app N14 (Fr.nil n0)
      refine GoH.step (fun t_ k_ => st18.trans k_) ?_
      show GoH _ _ _ _ _ _ _ _ _ _ T18 (mkF m 87 #[.val (.ref a1)] [(.int (cs.getD i 0))])
      refine GoH.step (fun t_ k_ => XS.bipush X18.here hx rfl (hb hby d13_87) k_) ?_
      show GoH _ _ _ _ _ _ _ _ _ _ T18 (mkF m 89 #[.val (.ref a1)] [(.int (47 : Int32)), (.int (cs.getD i 0))])
      by_cases hb89_19 : (cs.getD i 0) = (47 : Int32)
      · refine GoH.step (fun t_ k_ => XS.icmpYes X18.here hx rfl (pc0 := 89) (pc' := 135) rfl (hb hby d13_89) rfl (XT.ii_eq_t hb89_19) (by decide) (by decide) k_) ?_
        show GoH _ _ _ _ _ _ _ _ _ _ T18 (mkF m 135 #[.val (.ref a1)] [])
        refine GoH.step (fun t_ k_ => XS.iconst X18.here hx rfl (hb hby d13_135) k_) ?_
        show GoH _ _ _ _ _ _ _ _ _ _ T18 (mkF m 136 #[.val (.ref a1)] [(.int (1 : Int32))])
        have hkr : k0 ≤ T18.heap.size := by rw [e18]; exact hk1
        have hCr : CHr Z own_EL s.vm h0 vm0 T18.heap := by rw [e18]; exact C1
        refine GoH.ret X18 hx hlk hS1 hkr hZ1 hEL hCr hret rfl (Or.inl ⟨rfl, Or.inr (Or.inl rfl), _, rfl⟩) (hb hby d13_136) ?_ (by decide) (by decide)
        show QNxB Z _ _ _ _ _ _ _ _ _ _ _ _ T18.heap _
        rw [e18]
        exact ⟨_, j, i, rfl, N18, K1, H_0, H_1, H_2, H_3, H_4, hji, hil⟩
      · refine GoH.step (fun t_ k_ => XS.icmpNo X18.here hx rfl (hb hby d13_89) rfl (XT.ii_eq_f hb89_19) k_) ?_
        show GoH _ _ _ _ _ _ _ _ _ _ T18 (mkF m 92 #[.val (.ref a1)] [])
        refine GoH.step (fun t_ k_ => XS.aloadN X18.here hx rfl (hb hby d13_92) rfl rfl k_) ?_
        show GoH _ _ _ _ _ _ _ _ _ _ T18 (mkF m 93 #[.val (.ref a1)] [(.ref a1)])
        refine GoH.step (fun t_ k_ => XS.dup X18.here hx rfl (hb hby d13_93) rfl rfl k_) ?_
        show GoH _ _ _ _ _ _ _ _ _ _ T18 (mkF m 94 #[.val (.ref a1)] [(.ref a1), (.ref a1)])
        obtain ⟨T20, X20, e20, st20⟩ := getF X18 hx hZ1 hown1 (host := "") (Or.inl (hw _ (List.mem_of_getElem? (i := 100) rfl))) Via.refl e18 H_4 (g := (mkF m 94 #[.val (.ref a1)] [(.ref a1), (.ref a1)])) rfl rfl (hb hby d13_94)
        refine GoH.step st20 ?_
        show GoH _ _ _ _ _ _ _ _ _ _ T20 (mkF m 97 #[.val (.ref a1)] [(.int (own_tpl cs j i)), (.ref a1)])
        refine GoH.step (fun t_ k_ => XS.aloadN X20.here hx rfl (hb hby d13_97) rfl rfl k_) ?_
        show GoH _ _ _ _ _ _ _ _ _ _ T20 (mkF m 98 #[.val (.ref a1)] [(.ref a1), (.int (own_tpl cs j i)), (.ref a1)])
        obtain ⟨T21, X21, e21, st21⟩ := getF X20 hx hZ1 hown1 (host := "") (Or.inl (hw _ (List.mem_of_getElem? (i := 39) rfl))) Via.refl e20 H_1 (g := (mkF m 98 #[.val (.ref a1)] [(.ref a1), (.int (own_tpl cs j i)), (.ref a1)])) rfl rfl (hb hby d13_98)
        refine GoH.step st21 ?_
        show GoH _ _ _ _ _ _ _ _ _ _ T21 (mkF m 101 #[.val (.ref a1)] [(.ref sp), (.int (own_tpl cs j i)), (.ref a1)])
        refine GoH.step (fun t_ k_ => XS.aloadN X21.here hx rfl (hb hby d13_101) rfl rfl k_) ?_
        show GoH _ _ _ _ _ _ _ _ _ _ T21 (mkF m 102 #[.val (.ref a1)] [(.ref a1), (.ref sp), (.int (own_tpl cs j i)), (.ref a1)])
        obtain ⟨T22, X22, e22, st22⟩ := getF X21 hx hZ1 hown1 (host := "") (Or.inl (hw _ (List.mem_of_getElem? (i := 37) rfl))) Via.refl e21 H_3 (g := (mkF m 102 #[.val (.ref a1)] [(.ref a1), (.ref sp), (.int (own_tpl cs j i)), (.ref a1)])) rfl rfl (hb hby d13_102)
        refine GoH.step st22 ?_
        show GoH _ _ _ _ _ _ _ _ _ _ T22 (mkF m 105 #[.val (.ref a1)] [(.int (Int32.ofNat i)), (.ref sp), (.int (own_tpl cs j i)), (.ref a1)])
        have hcd23 : StrChars.Road.CodA cs 0 (Int32.ofNat cs.length) ((cs.map (fun c => c.toInt8.toInt32)).map Value.int) := StrChars.Road.codOf rfl (fun c hc => (hok c hc).2)
        have hbd23 : ∀ c ∈ cs, ¬ c < 0 ∧ ¬ (65535 : Int32) < c := own_up _ hok
        obtain ⟨cq23, kq23, qa23, qb23, qc23⟩ := isOf hZ1 e22 H_5
        obtain ⟨vv23, _, ⟨T23, L23, k23, n23⟩, -, X23, ⟨Lc23, hQ23, l23, y23, z23⟩, st23⟩ := X22.virtualBack hx (y := (⟨"java/lang/String", "charAt", "(I)C"⟩ : MethodName)) (z := (⟨"java/lang/String", "charAt", "(I)C"⟩ : MethodName)) hown1 (mvT hZ1 (hw _ (List.mem_of_getElem? (i := 102) rfl))) (mvT hZ1 (hw _ (List.mem_of_getElem? (i := 103) rfl))) (notFace_of_selects (args := #[]) (mvT hZ1 (hw _ (List.mem_of_getElem? (i := 105) rfl)))) (mvT hZ1 (hw _ (List.mem_of_getElem? (i := 105) rfl))) (mvT hZ1 (hw _ (List.mem_of_getElem? (i := 104) rfl))) (by decide) (StrChars.Road.chN (W := 2) hZ1 (own_wordsChN hw) (kI := 4) (hw _ (List.mem_of_getElem? (i := 9) rfl)) H_5 H_6 H_7 H_8 hcd23 hbd23 (S_COMPACT.ext O1.2) P_COMPACT (S_SIOOBE.ext O1.2) r_SIOOBE (own_le4 hlen) (i := i) ((own_lt (by omega) (by omega)).mp hb73_15) (j := (Int32.ofNat i)) rfl (by decide) (by decide)) qa23 qc23 (g := (mkF m 105 #[.val (.ref a1)] [(.int (Int32.ofNat i)), (.ref sp), (.int (own_tpl cs j i)), (.ref a1)])) rfl (by rw [hml]; rfl) (Steps.refl _) (argsL := [(.int (Int32.ofNat i))]) (rest := [(.int (own_tpl cs j i)), (.ref a1)]) (lenOf pd_3 rfl) rfl (by show 2 * 0 + _ ≤ _; exact Nat.le_of_eq rfl) (hb hby d13_105) (fun _ _ => ⟨rfl, e22, (by decide : 2 + 0 ≤ _), (by decide : 8 + 0 ≤ _)⟩)
        dsimp only [Pt.U, Pt.locs, Pt.cells, Pt.slots] at X23 l23 y23 z23 st23 hQ23
        subst l23 y23 z23
        obtain ⟨rfl, rfl, e23⟩ := hQ23
        have N23 := Fr.app N18 (Fr.nil n0)
        refine GoH.step (fun t_ k_ => st23.trans k_) ?_
        show GoH _ _ _ _ _ _ _ _ _ _ T23 (mkF m 108 #[.val (.ref a1)] [(.int (cs.getD i 0)), (.int (own_tpl cs j i)), (.ref a1)])
        refine GoH.step (fun t_ k_ => XS.bipush X23.here hx rfl (hb hby d13_108) k_) ?_
        show GoH _ _ _ _ _ _ _ _ _ _ T23 (mkF m 110 #[.val (.ref a1)] [(.int (123 : Int32)), (.int (cs.getD i 0)), (.int (own_tpl cs j i)), (.ref a1)])
        have jnr110_25 : ∀ r110_25 : Int32, (r110_25 = (1 : Int32) ∧ (cs.getD i 0) = (123 : Int32)) ∨ (r110_25 = (0 : Int32) ∧ ¬ ((cs.getD i 0) = (123 : Int32))) → GoH p e below s ({ frames := 5, cells := 2, slots := 8, locals := 80 } : Room).cells ({ frames := 5, cells := 2, slots := 8, locals := 80 } : Room).slots Z own_EL h0 (QNxB Z a1 G1 G3 sp tp kbp cs j0 i0 h0 n0) T23 (mkF m 118 #[.val (.ref a1)] [(.int r110_25), (.int (own_tpl cs j i)), (.ref a1)]) := by
          intro r110_25 hr110_25
          show GoH _ _ _ _ _ _ _ _ _ _ T23 (mkF m 118 #[.val (.ref a1)] [(.int r110_25), (.int (own_tpl cs j i)), (.ref a1)])
          refine GoH.step (fun t_ k_ => XT.ior X23.here hx rfl (hb hby d13_118) rfl k_) ?_
          show GoH _ _ _ _ _ _ _ _ _ _ T23 (mkF m 119 #[.val (.ref a1)] [(.int ((own_tpl cs j i) ||| r110_25)), (.ref a1)])
          rw [show own_tpl cs j i ||| r110_25 = own_tpl cs j (i + 1) from own_tpl_step hji hr110_25]
          show GoH _ _ _ _ _ _ _ _ _ _ T23 (mkF m 119 #[.val (.ref a1)] [(.int (own_tpl cs j (i + 1))), (.ref a1)])
          obtain ⟨T26, h26, X26, e26, W26, st26⟩ := putF X23 hx hZ1 hown1 (host := "") (Or.inl (hw _ (List.mem_of_getElem? (i := 100) rfl))) Via.refl e23 H_4 H_0 (Or.inl (hw _ (List.mem_of_getElem? (i := 101) rfl))) (hw _ (List.mem_of_getElem? (i := 31) rfl)) (ty := .boolean) (by decide) (own_tpl_nar cs j (i + 1)) (own_tpl_fit cs j (i + 1)) (g := (mkF m 119 #[.val (.ref a1)] [(.int (own_tpl cs j (i + 1))), (.ref a1)])) rfl rfl (hb hby d13_119)
          have N26 := Fr.snoc X26 N23 g1
          refine GoH.step st26 ?_
          have f26_0 : Exa Z h26 a1 "com/example/affordance/affordance/PathSegments" := (H_0.wr W26)
          have f26_1 : Fld Z h26 a1 "com/example/affordance/affordance/PathSegments" "path" "Ljava/lang/String;" (.ref sp) := (H_1.other W26 (Or.inr (slot_ne (Or.inr (hw _ (List.mem_of_getElem? (i := 40) rfl))) (Or.inl (hw _ (List.mem_of_getElem? (i := 101) rfl))) (by decide) (t := (.object "java/lang/String")) (t' := .boolean) (by decide) (by decide))))
          have f26_2 : Fld Z h26 a1 "com/example/affordance/affordance/PathSegments" "start" "I" (.int (Int32.ofNat j)) := (H_2.other W26 (Or.inr (slot_ne (Or.inl (hw _ (List.mem_of_getElem? (i := 47) rfl))) (Or.inl (hw _ (List.mem_of_getElem? (i := 101) rfl))) (by decide) (t := .int) (t' := .boolean) (by decide) (by decide))))
          have f26_3 : Fld Z h26 a1 "com/example/affordance/affordance/PathSegments" "end" "I" (.int (Int32.ofNat i)) := (H_3.other W26 (Or.inr (slot_ne (Or.inl (hw _ (List.mem_of_getElem? (i := 38) rfl))) (Or.inl (hw _ (List.mem_of_getElem? (i := 101) rfl))) (by decide) (t := .int) (t' := .boolean) (by decide) (by decide))))
          have f26_4 : Fld Z h26 a1 "com/example/affordance/affordance/PathSegments" "template" "Z" (.int (own_tpl cs j (i + 1))) := (H_4.same W26)
          have f26_5 : Exa Z h26 sp "java/lang/String" := (H_5.wr W26)
          have f26_6 : Fld Z h26 sp "java/lang/String" "value" "[B" (.ref tp) := (H_6.other W26 (Or.inl nsp))
          have f26_7 : Fld Z h26 sp "java/lang/String" "coder" "B" (.int (0 : Int32)) := (H_7.other W26 (Or.inl nsp))
          have f26_8 : Arv Z h26 tp kbp .byte (Int32.ofNat cs.length) ((cs.map (fun c => c.toInt8.toInt32)).map Value.int) (.int (0 : Int32)) := (H_8.other W26 ntp)
          have sfw26 : Safe Z own_EL vm0 _ a1 := (Safe.exa hZ1.alike H_0 (by decide) (by decide))
          have hk26 : _ ≤ h26.size := Nat.le_trans hk1 (Keep.of_wr W26).1
          have C26 : CHr Z own_EL s.vm h0 vm0 h26 := C1.trans (CHr.wr W26 sfw26 C1.1)
          have Zs26 : n0 ≤ h26.size := (Nat.le_trans Zs1 (Keep.of_wr W26).1)
          have O26 : Old Z n0 h26 := O1.wr W26 g1
          have K26 : Keep h0 h26 [a1] := K1.wr W26 (Or.inl (List.mem_of_getElem? (i := 0) rfl))
          show GoH _ _ _ _ _ _ _ _ _ _ T26 (mkF m 122 #[.val (.ref a1)] [])
          refine GoH.step (fun t_ k_ => XS.aloadN X26.here hx rfl (hb hby d13_122) rfl rfl k_) ?_
          show GoH _ _ _ _ _ _ _ _ _ _ T26 (mkF m 123 #[.val (.ref a1)] [(.ref a1)])
          refine GoH.step (fun t_ k_ => XS.dup X26.here hx rfl (hb hby d13_123) rfl rfl k_) ?_
          show GoH _ _ _ _ _ _ _ _ _ _ T26 (mkF m 124 #[.val (.ref a1)] [(.ref a1), (.ref a1)])
          obtain ⟨T27, X27, e27, st27⟩ := getF X26 hx hZ1 hown1 (host := "") (Or.inl (hw _ (List.mem_of_getElem? (i := 37) rfl))) Via.refl e26 f26_3 (g := (mkF m 124 #[.val (.ref a1)] [(.ref a1), (.ref a1)])) rfl rfl (hb hby d13_124)
          refine GoH.step st27 ?_
          show GoH _ _ _ _ _ _ _ _ _ _ T27 (mkF m 127 #[.val (.ref a1)] [(.int (Int32.ofNat i)), (.ref a1)])
          refine GoH.step (fun t_ k_ => XS.iconst X27.here hx rfl (hb hby d13_127) k_) ?_
          show GoH _ _ _ _ _ _ _ _ _ _ T27 (mkF m 128 #[.val (.ref a1)] [(.int (1 : Int32)), (.int (Int32.ofNat i)), (.ref a1)])
          refine GoH.step (fun t_ k_ => XS.iadd X27.here hx rfl (hb hby d13_128) rfl k_) ?_
          show GoH _ _ _ _ _ _ _ _ _ _ T27 (mkF m 129 #[.val (.ref a1)] [(.int ((Int32.ofNat i) + (1 : Int32))), (.ref a1)])
          rw [show Int32.ofNat i + (1 : Int32) = Int32.ofNat (i + 1) from (inc_ofNat i).symm]
          show GoH _ _ _ _ _ _ _ _ _ _ T27 (mkF m 129 #[.val (.ref a1)] [(.int (Int32.ofNat (i + 1))), (.ref a1)])
          obtain ⟨T28, h28, X28, e28, W28, st28⟩ := putF X27 hx hZ1 hown1 (host := "") (Or.inl (hw _ (List.mem_of_getElem? (i := 37) rfl))) Via.refl e27 f26_3 f26_0 (Or.inl (hw _ (List.mem_of_getElem? (i := 38) rfl))) (hw _ (List.mem_of_getElem? (i := 31) rfl)) (ty := .int) (by decide) rfl rfl (g := (mkF m 129 #[.val (.ref a1)] [(.int (Int32.ofNat (i + 1))), (.ref a1)])) rfl rfl (hb hby d13_129)
          have N28 := Fr.snoc X28 N26 g1
          refine GoH.step st28 ?_
          have f28_0 : Exa Z h28 a1 "com/example/affordance/affordance/PathSegments" := (f26_0.wr W28)
          have f28_1 : Fld Z h28 a1 "com/example/affordance/affordance/PathSegments" "path" "Ljava/lang/String;" (.ref sp) := (f26_1.other W28 (Or.inr (slot_ne (Or.inr (hw _ (List.mem_of_getElem? (i := 40) rfl))) (Or.inl (hw _ (List.mem_of_getElem? (i := 38) rfl))) (by decide) (t := (.object "java/lang/String")) (t' := .int) (by decide) (by decide))))
          have f28_2 : Fld Z h28 a1 "com/example/affordance/affordance/PathSegments" "start" "I" (.int (Int32.ofNat j)) := (f26_2.other W28 (Or.inr (slot_ne (Or.inl (hw _ (List.mem_of_getElem? (i := 47) rfl))) (Or.inl (hw _ (List.mem_of_getElem? (i := 38) rfl))) (by decide) (t := .int) (t' := .int) (by decide) (by decide))))
          have f28_3 : Fld Z h28 a1 "com/example/affordance/affordance/PathSegments" "end" "I" (.int (Int32.ofNat (i + 1))) := (f26_3.same W28)
          have f28_4 : Fld Z h28 a1 "com/example/affordance/affordance/PathSegments" "template" "Z" (.int (own_tpl cs j (i + 1))) := (f26_4.other W28 (Or.inr (slot_ne (Or.inl (hw _ (List.mem_of_getElem? (i := 101) rfl))) (Or.inl (hw _ (List.mem_of_getElem? (i := 38) rfl))) (by decide) (t := .boolean) (t' := .int) (by decide) (by decide))))
          have f28_5 : Exa Z h28 sp "java/lang/String" := (f26_5.wr W28)
          have f28_6 : Fld Z h28 sp "java/lang/String" "value" "[B" (.ref tp) := (f26_6.other W28 (Or.inl nsp))
          have f28_7 : Fld Z h28 sp "java/lang/String" "coder" "B" (.int (0 : Int32)) := (f26_7.other W28 (Or.inl nsp))
          have f28_8 : Arv Z h28 tp kbp .byte (Int32.ofNat cs.length) ((cs.map (fun c => c.toInt8.toInt32)).map Value.int) (.int (0 : Int32)) := (f26_8.other W28 ntp)
          have sfw28 : Safe Z own_EL vm0 _ a1 := (Safe.exa hZ1.alike f26_0 (by decide) (by decide))
          have hk28 : _ ≤ h28.size := Nat.le_trans hk26 (Keep.of_wr W28).1
          have C28 : CHr Z own_EL s.vm h0 vm0 h28 := C26.trans (CHr.wr W28 sfw28 C26.1)
          have Zs28 : n0 ≤ h28.size := (Nat.le_trans Zs26 (Keep.of_wr W28).1)
          have O28 : Old Z n0 h28 := O26.wr W28 g1
          have K28 : Keep h0 h28 [a1] := K26.wr W28 (Or.inl (List.mem_of_getElem? (i := 0) rfl))
          show GoH _ _ _ _ _ _ _ _ _ _ T28 (mkF m 132 #[.val (.ref a1)] [])
          refine GoH.step (fun t_ k_ => XS.goto X28.here hx rfl (pc0 := 132) (pc' := 62) rfl (hb hby d13_132) (by decide) (by decide) k_) ?_
          show GoH _ _ _ _ _ _ _ _ _ _ T28 (mkF m 62 #[.val (.ref a1)] [])
          have hi1 : i < cs.length := (own_lt (by omega) (by omega)).mp hb73_15
          exact ih (cs.length - (i + 1)) (by omega) (j) (i + 1) (X28.mono (by decide) (by decide)) e28 N28 Zs28 O28 K28 hS1 hk28 hZ1 hown1 hEL C28 f28_0 f28_1 f28_2 f28_3 f28_4 f28_5 f28_6 f28_7 f28_8 (by omega) hi1 rfl
        by_cases hb110_24 : (cs.getD i 0) = (123 : Int32)
        · refine GoH.step (fun t_ k_ => XS.icmpNo X23.here hx rfl (hb hby d13_110) rfl (XT.ii_ne_f hb110_24) k_) ?_
          show GoH _ _ _ _ _ _ _ _ _ _ T23 (mkF m 113 #[.val (.ref a1)] [(.int (own_tpl cs j i)), (.ref a1)])
          refine GoH.step (fun t_ k_ => XS.iconst X23.here hx rfl (hb hby d13_113) k_) ?_
          show GoH _ _ _ _ _ _ _ _ _ _ T23 (mkF m 114 #[.val (.ref a1)] [(.int (1 : Int32)), (.int (own_tpl cs j i)), (.ref a1)])
          refine GoH.step (fun t_ k_ => XS.goto X23.here hx rfl (pc0 := 114) (pc' := 118) rfl (hb hby d13_114) (by decide) (by decide) k_) ?_
          show GoH _ _ _ _ _ _ _ _ _ _ T23 (mkF m 118 #[.val (.ref a1)] [(.int (1 : Int32)), (.int (own_tpl cs j i)), (.ref a1)])
          exact jnr110_25 _ (Or.inl ⟨rfl, hb110_24⟩)
        · refine GoH.step (fun t_ k_ => XS.icmpYes X23.here hx rfl (pc0 := 110) (pc' := 117) rfl (hb hby d13_110) rfl (XT.ii_ne_t hb110_24) (by decide) (by decide) k_) ?_
          show GoH _ _ _ _ _ _ _ _ _ _ T23 (mkF m 117 #[.val (.ref a1)] [(.int (own_tpl cs j i)), (.ref a1)])
          refine GoH.step (fun t_ k_ => XS.iconst X23.here hx rfl (hb hby d13_117) k_) ?_
          show GoH _ _ _ _ _ _ _ _ _ _ T23 (mkF m 118 #[.val (.ref a1)] [(.int (0 : Int32)), (.int (own_tpl cs j i)), (.ref a1)])
          exact jnr110_25 _ (Or.inr ⟨rfl, hb110_24⟩)
    · refine GoH.step (fun t_ k_ => XS.icmpYes X14.here hx rfl (pc0 := 73) (pc' := 135) rfl (hb hby d13_73) rfl (XT.ii_ge_t hb73_15) (by decide) (by decide) k_) ?_
      show GoH _ _ _ _ _ _ _ _ _ _ T14 (mkF m 135 #[.val (.ref a1)] [])
      refine GoH.step (fun t_ k_ => XS.iconst X14.here hx rfl (hb hby d13_135) k_) ?_
      show GoH _ _ _ _ _ _ _ _ _ _ T14 (mkF m 136 #[.val (.ref a1)] [(.int (1 : Int32))])
      have hkr : k0 ≤ T14.heap.size := by rw [e14]; exact hk1
      have hCr : CHr Z own_EL s.vm h0 vm0 T14.heap := by rw [e14]; exact C1
      refine GoH.ret X14 hx hlk hS1 hkr hZ1 hEL hCr hret rfl (Or.inl ⟨rfl, Or.inr (Or.inl rfl), _, rfl⟩) (hb hby d13_136) ?_ (by decide) (by decide)
      show QNxB Z _ _ _ _ _ _ _ _ _ _ _ _ T14.heap _
      rw [e14]
      exact ⟨_, j, i, rfl, N14, K1, H_0, H_1, H_2, H_3, H_4, hji, hil⟩
set_option maxRecDepth 65536 in
set_option maxHeartbeats 40000000 in
theorem rmNxB (l : Launch) (Z : State) (a0 : Array Value) (hw : ∀ d ∈ tables_1, d.before a0 Z = true) (ws : List Jvm.Cond) (a1 : Addr) (G1 : Int32) (G3 : Value) (sp : Addr) (tp : Addr) (kbp : ClassId) (cs : List Int32) (j0 : Nat) (i0 : Nat) (h0 : Heap) (n0 : Nat) (Z0 : n0 ≤ h0.size) (g1 : n0 ≤ a1) (O0 : Old Z n0 h0) (S_COMPACT : Sta Z Z.heap "java/lang/String" "COMPACT_STRINGS" "Z" (.int G1)) (P_COMPACT : ¬ (G1 = (0 : Int32))) (S_SIOOBE : Sta Z Z.heap "jdk/internal/util/Preconditions" "SIOOBE_FORMATTER" "Ljava/util/function/BiFunction;" G3) (r_SIOOBE : G3.isRef = true) (QE1 : Exa Z h0 a1 "com/example/affordance/affordance/PathSegments") (Q_path : Fld Z h0 a1 "com/example/affordance/affordance/PathSegments" "path" "Ljava/lang/String;" (.ref sp)) (Q_start : Fld Z h0 a1 "com/example/affordance/affordance/PathSegments" "start" "I" (.int (Int32.ofNat j0))) (Q_end : Fld Z h0 a1 "com/example/affordance/affordance/PathSegments" "end" "I" (.int (Int32.ofNat i0))) (Q_template : Fld Z h0 a1 "com/example/affordance/affordance/PathSegments" "template" "Z" (.int (own_tpl cs j0 i0))) (PE : Exa Z h0 sp "java/lang/String") (PV : Fld Z h0 sp "java/lang/String" "value" "[B" (.ref tp)) (PC : Fld Z h0 sp "java/lang/String" "coder" "B" (.int (0 : Int32))) (PA : Arv Z h0 tp kbp .byte (Int32.ofNat cs.length) ((cs.map (fun c => c.toInt8.toInt32)).map Value.int) (.int (0 : Int32))) (hok : ∀ c ∈ cs, ¬ c < 0 ∧ ¬ (255 : Int32) < c) (hlen : cs.length ≤ 4) (nsp : sp ≠ a1) (ntp : tp ≠ a1) (hji : j0 ≤ i0) (hil : i0 ≤ cs.length) :
    MetFree l (⟨"com/example/affordance/affordance/PathSegments", "next", "()Z"⟩ : MethodName) (head1 (Jvm.Cond.code (⟨"com/example/affordance/affordance/PathSegments", "next", "()Z"⟩ : MethodName) prog_44_method_2_code 1 (some .boolean) :: ws) ({ frames := 5, cells := 2, slots := 8, locals := 80 } : Room)) (fun a U => a = #[(.ref a1)] ∧ Z.Warmed39 U.vm ∧ U.heap = h0 ∧ CHv Z own_EL U.vm h0) (fun _ _ _ _ _ => True) (fun _ U o U' => ∃ v L, o = .returned v ∧ QNxB Z a1 G1 G3 sp tp kbp cs j0 i0 h0 n0 v U'.heap L ∧ CHr Z own_EL U.vm U.heap U'.vm U'.heap ∧ ReturnedEndW U o U' L ({ frames := 5, cells := 2, slots := 8, locals := 80 } : Room).cells ({ frames := 5, cells := 2, slots := 8, locals := 80 } : Room).slots) := by
  refine MetFree.of_bodySF (plainFor_of_name pn_2) hisR ?_
  intro p e s m args below meth c s₁ Bd hml0 hP hK
  obtain ⟨rfl, hZ0, hh, hCH⟩ := hP
  have hx := Bd.exec
  have hby := Bd.bytes
  have hlk := BodyLoose.notSynchronized Bd
  have hml : c.maxLocals = 1 := hml0
  have hret := Bd.returns
  have hown0 : (s.setVm s.vm).vm.findClass "com/example/affordance/affordance/PathSegments" = some m.cls := findClass_of_methodNamed Bd.named
  have hnm := (name_of_methodNamed Bd.named Bd.method).1
  have X0 : Stand p l e ({ frames := 5, cells := 2, slots := 8, locals := 80 } : Room) (s.setVm s.vm) m #[(.ref a1)] below meth c s₁ [] 0 0 := Stand.of_body Bd
  have hZ0 : Z.Warmed39 (s.setVm s.vm).vm := hZ0
  have hEL : EW Z a0 own_EL := own_EW hw
  have hS0 : s.Since s.vm h0.size := (State.WarmedH.refl s).since _
  have hk0 : h0.size ≤ h0.size := Nat.le_refl _
  have C0 : CHr Z own_EL s.vm h0 s.vm h0 := CHr.refl hCH
  have e0 : s₁.heap = h0 := by rw [← hh, Bd.state]; rfl
  have N0 := Fr.nil n0
  show GoH p e below s ({ frames := 5, cells := 2, slots := 8, locals := 80 } : Room).cells ({ frames := 5, cells := 2, slots := 8, locals := 80 } : Room).slots Z own_EL s.heap (QNxB Z a1 G1 G3 sp tp kbp cs j0 i0 h0 n0) s₁ (entryFrame m #[(.ref a1)] 1)
  rw [hh]
  refine GoH.cast (ef_rmNxB m a1) ?_
  have K0 : Keep h0 h0 [a1] := Keep.refl _ _
  show GoH _ _ _ _ _ _ _ _ _ _ s₁ (mkF m 0 #[.val (.ref a1)] [])
  refine GoH.step (fun t_ k_ => XS.aloadN X0.here hx rfl (hb hby d13_0) rfl rfl k_) ?_
  show GoH _ _ _ _ _ _ _ _ _ _ s₁ (mkF m 1 #[.val (.ref a1)] [(.ref a1)])
  obtain ⟨T1, X1, e1, st1⟩ := getF X0 hx hZ0 hown0 (host := "") (Or.inl (hw _ (List.mem_of_getElem? (i := 37) rfl))) Via.refl e0 Q_end (g := (mkF m 1 #[.val (.ref a1)] [(.ref a1)])) rfl rfl (hb hby d13_1)
  refine GoH.step st1 ?_
  show GoH _ _ _ _ _ _ _ _ _ _ T1 (mkF m 4 #[.val (.ref a1)] [(.int (Int32.ofNat i0))])
  refine GoH.step (fun t_ k_ => XS.aloadN X1.here hx rfl (hb hby d13_4) rfl rfl k_) ?_
  show GoH _ _ _ _ _ _ _ _ _ _ T1 (mkF m 5 #[.val (.ref a1)] [(.ref a1), (.int (Int32.ofNat i0))])
  obtain ⟨T2, X2, e2, st2⟩ := getF X1 hx hZ0 hown0 (host := "") (Or.inl (hw _ (List.mem_of_getElem? (i := 39) rfl))) Via.refl e1 Q_path (g := (mkF m 5 #[.val (.ref a1)] [(.ref a1), (.int (Int32.ofNat i0))])) rfl rfl (hb hby d13_5)
  refine GoH.step st2 ?_
  show GoH _ _ _ _ _ _ _ _ _ _ T2 (mkF m 8 #[.val (.ref a1)] [(.ref sp), (.int (Int32.ofNat i0))])
  have hcd3 : StrChars.Road.CodA cs 0 (Int32.ofNat cs.length) ((cs.map (fun c => c.toInt8.toInt32)).map Value.int) := StrChars.Road.codOf rfl (fun c hc => (hok c hc).2)
  have hbd3 : ∀ c ∈ cs, ¬ c < 0 ∧ ¬ (65535 : Int32) < c := own_up _ hok
  obtain ⟨cq3, kq3, qa3, qb3, qc3⟩ := isOf hZ0 e2 PE
  obtain ⟨vv3, _, ⟨T3, L3, k3, n3⟩, -, X3, ⟨Lc3, hQ3, l3, y3, z3⟩, st3⟩ := X2.virtualBack hx (y := (⟨"java/lang/String", "length", "()I"⟩ : MethodName)) (z := (⟨"java/lang/String", "length", "()I"⟩ : MethodName)) hown0 (mvT hZ0 (hw _ (List.mem_of_getElem? (i := 74) rfl))) (mvT hZ0 (hw _ (List.mem_of_getElem? (i := 75) rfl))) (notFace_of_selects (args := #[]) (mvT hZ0 (hw _ (List.mem_of_getElem? (i := 77) rfl)))) (mvT hZ0 (hw _ (List.mem_of_getElem? (i := 77) rfl))) (mvT hZ0 (hw _ (List.mem_of_getElem? (i := 76) rfl))) (by decide) (StrChars.Road.lenW (W := 1) hZ0 (own_wordsLen hw) (kI := 4) (hw _ (List.mem_of_getElem? (i := 9) rfl)) PE PV PC PA hcd3 hbd3 (S_COMPACT.ext O0.2) P_COMPACT (own_le4 hlen) (by decide) (by decide)) qa3 qc3 (g := (mkF m 8 #[.val (.ref a1)] [(.ref sp), (.int (Int32.ofNat i0))])) rfl (by rw [hml]; rfl) (Steps.refl _) (argsL := []) (rest := [(.int (Int32.ofNat i0))]) (lenOf pd_2 rfl) rfl (by show 2 * 0 + _ ≤ _; exact Nat.le_of_eq rfl) (hb hby d13_8) (fun _ _ => ⟨rfl, e2, (by decide : 0 + 0 ≤ _), (by decide : 0 + 0 ≤ _)⟩)
  dsimp only [Pt.U, Pt.locs, Pt.cells, Pt.slots] at X3 l3 y3 z3 st3 hQ3
  subst l3 y3 z3
  obtain ⟨rfl, rfl, e3⟩ := hQ3
  have N3 := Fr.app N0 (Fr.nil n0)
  refine GoH.step (fun t_ k_ => st3.trans k_) ?_
  show GoH _ _ _ _ _ _ _ _ _ _ T3 (mkF m 11 #[.val (.ref a1)] [(.int (Int32.ofNat cs.length)), (.int (Int32.ofNat i0))])
  by_cases hb11_4 : (Int32.ofNat i0) = (Int32.ofNat cs.length)
  · refine GoH.step (fun t_ k_ => XS.icmpNo X3.here hx rfl (hb hby d13_11) rfl (XT.ii_ne_f hb11_4) k_) ?_
    show GoH _ _ _ _ _ _ _ _ _ _ T3 (mkF m 14 #[.val (.ref a1)] [])
    refine GoH.step (fun t_ k_ => XS.iconst X3.here hx rfl (hb hby d13_14) k_) ?_
    show GoH _ _ _ _ _ _ _ _ _ _ T3 (mkF m 15 #[.val (.ref a1)] [(.int (0 : Int32))])
    have hkr : h0.size ≤ T3.heap.size := by rw [e3]; exact hk0
    have hCr : CHr Z own_EL s.vm h0 s.vm T3.heap := by rw [e3]; exact C0
    refine GoH.ret X3 hx hlk hS0 hkr hZ0 hEL hCr hret rfl (Or.inl ⟨rfl, Or.inr (Or.inl rfl), _, rfl⟩) (hb hby d13_15) ?_ (by decide) (by decide)
    show QNxB Z _ _ _ _ _ _ _ _ _ _ _ _ T3.heap _
    rw [e3]
    exact ⟨_, j0, i0, rfl, N3, K0, QE1, Q_path, Q_start, Q_end, Q_template, hji, hil⟩
  · refine GoH.step (fun t_ k_ => XS.icmpYes X3.here hx rfl (pc0 := 11) (pc' := 16) rfl (hb hby d13_11) rfl (XT.ii_ne_t hb11_4) (by decide) (by decide) k_) ?_
    show GoH _ _ _ _ _ _ _ _ _ _ T3 (mkF m 16 #[.val (.ref a1)] [])
    refine GoH.step (fun t_ k_ => XS.aloadN X3.here hx rfl (hb hby d13_16) rfl rfl k_) ?_
    show GoH _ _ _ _ _ _ _ _ _ _ T3 (mkF m 17 #[.val (.ref a1)] [(.ref a1)])
    refine GoH.step (fun t_ k_ => XS.aloadN X3.here hx rfl (hb hby d13_17) rfl rfl k_) ?_
    show GoH _ _ _ _ _ _ _ _ _ _ T3 (mkF m 18 #[.val (.ref a1)] [(.ref a1), (.ref a1)])
    obtain ⟨T5, X5, e5, st5⟩ := getF X3 hx hZ0 hown0 (host := "") (Or.inl (hw _ (List.mem_of_getElem? (i := 37) rfl))) Via.refl e3 Q_end (g := (mkF m 18 #[.val (.ref a1)] [(.ref a1), (.ref a1)])) rfl rfl (hb hby d13_18)
    refine GoH.step st5 ?_
    show GoH _ _ _ _ _ _ _ _ _ _ T5 (mkF m 21 #[.val (.ref a1)] [(.int (Int32.ofNat i0)), (.ref a1)])
    have hb21_6 : ¬ ((Int32.ofNat i0) < (0 : Int32)) := by exact own_nn (by omega)
    refine GoH.step (fun t_ k_ => XS.ifYes X5.here hx rfl (pc0 := 21) (pc' := 40) rfl (hb hby d13_21) rfl (XT.i0_ge_t hb21_6) (by decide) (by decide) k_) ?_
    show GoH _ _ _ _ _ _ _ _ _ _ T5 (mkF m 40 #[.val (.ref a1)] [(.ref a1)])
    refine GoH.step (fun t_ k_ => XS.aloadN X5.here hx rfl (hb hby d13_40) rfl rfl k_) ?_
    show GoH _ _ _ _ _ _ _ _ _ _ T5 (mkF m 41 #[.val (.ref a1)] [(.ref a1), (.ref a1)])
    obtain ⟨T7, X7, e7, st7⟩ := getF X5 hx hZ0 hown0 (host := "") (Or.inl (hw _ (List.mem_of_getElem? (i := 37) rfl))) Via.refl e5 Q_end (g := (mkF m 41 #[.val (.ref a1)] [(.ref a1), (.ref a1)])) rfl rfl (hb hby d13_41)
    refine GoH.step st7 ?_
    show GoH _ _ _ _ _ _ _ _ _ _ T7 (mkF m 44 #[.val (.ref a1)] [(.int (Int32.ofNat i0)), (.ref a1)])
    refine GoH.step (fun t_ k_ => XS.iconst X7.here hx rfl (hb hby d13_44) k_) ?_
    show GoH _ _ _ _ _ _ _ _ _ _ T7 (mkF m 45 #[.val (.ref a1)] [(.int (1 : Int32)), (.int (Int32.ofNat i0)), (.ref a1)])
    refine GoH.step (fun t_ k_ => XS.iadd X7.here hx rfl (hb hby d13_45) rfl k_) ?_
    show GoH _ _ _ _ _ _ _ _ _ _ T7 (mkF m 46 #[.val (.ref a1)] [(.int ((Int32.ofNat i0) + (1 : Int32))), (.ref a1)])
    have hil2 : i0 + 1 ≤ cs.length := Nat.lt_of_le_of_ne hil (fun q => hb11_4 (by rw [q]))
    rw [show Int32.ofNat i0 + (1 : Int32) = Int32.ofNat (i0 + 1) from (inc_ofNat i0).symm]
    show GoH _ _ _ _ _ _ _ _ _ _ T7 (mkF m 46 #[.val (.ref a1)] [(.int (Int32.ofNat (i0 + 1))), (.ref a1)])
    obtain ⟨T8, h8, X8, e8, W8, st8⟩ := putF X7 hx hZ0 hown0 (host := "") (Or.inl (hw _ (List.mem_of_getElem? (i := 46) rfl))) Via.refl e7 Q_start QE1 (Or.inl (hw _ (List.mem_of_getElem? (i := 47) rfl))) (hw _ (List.mem_of_getElem? (i := 31) rfl)) (ty := .int) (by decide) rfl rfl (g := (mkF m 46 #[.val (.ref a1)] [(.int (Int32.ofNat (i0 + 1))), (.ref a1)])) rfl rfl (hb hby d13_46)
    have N8 := Fr.snoc X8 N3 g1
    refine GoH.step st8 ?_
    have f8_0 : Exa Z h8 a1 "com/example/affordance/affordance/PathSegments" := (QE1.wr W8)
    have f8_1 : Fld Z h8 a1 "com/example/affordance/affordance/PathSegments" "path" "Ljava/lang/String;" (.ref sp) := (Q_path.other W8 (Or.inr (slot_ne (Or.inr (hw _ (List.mem_of_getElem? (i := 40) rfl))) (Or.inl (hw _ (List.mem_of_getElem? (i := 47) rfl))) (by decide) (t := (.object "java/lang/String")) (t' := .int) (by decide) (by decide))))
    have f8_2 : Fld Z h8 a1 "com/example/affordance/affordance/PathSegments" "start" "I" (.int (Int32.ofNat (i0 + 1))) := (Q_start.same W8)
    have f8_3 : Fld Z h8 a1 "com/example/affordance/affordance/PathSegments" "end" "I" (.int (Int32.ofNat i0)) := (Q_end.other W8 (Or.inr (slot_ne (Or.inl (hw _ (List.mem_of_getElem? (i := 38) rfl))) (Or.inl (hw _ (List.mem_of_getElem? (i := 47) rfl))) (by decide) (t := .int) (t' := .int) (by decide) (by decide))))
    have f8_4 : Fld Z h8 a1 "com/example/affordance/affordance/PathSegments" "template" "Z" (.int (own_tpl cs j0 i0)) := (Q_template.other W8 (Or.inr (slot_ne (Or.inl (hw _ (List.mem_of_getElem? (i := 101) rfl))) (Or.inl (hw _ (List.mem_of_getElem? (i := 47) rfl))) (by decide) (t := .boolean) (t' := .int) (by decide) (by decide))))
    have f8_5 : Exa Z h8 sp "java/lang/String" := (PE.wr W8)
    have f8_6 : Fld Z h8 sp "java/lang/String" "value" "[B" (.ref tp) := (PV.other W8 (Or.inl nsp))
    have f8_7 : Fld Z h8 sp "java/lang/String" "coder" "B" (.int (0 : Int32)) := (PC.other W8 (Or.inl nsp))
    have f8_8 : Arv Z h8 tp kbp .byte (Int32.ofNat cs.length) ((cs.map (fun c => c.toInt8.toInt32)).map Value.int) (.int (0 : Int32)) := (PA.other W8 ntp)
    have sfw8 : Safe Z own_EL s.vm _ a1 := (Safe.exa hZ0.alike QE1 (by decide) (by decide))
    have hk8 : _ ≤ h8.size := Nat.le_trans hk0 (Keep.of_wr W8).1
    have C8 : CHr Z own_EL s.vm h0 s.vm h8 := C0.trans (CHr.wr W8 sfw8 C0.1)
    have Zs8 : n0 ≤ h8.size := (Nat.le_trans Z0 (Keep.of_wr W8).1)
    have O8 : Old Z n0 h8 := O0.wr W8 g1
    have K8 : Keep h0 h8 [a1] := K0.wr W8 (Or.inl (List.mem_of_getElem? (i := 0) rfl))
    show GoH _ _ _ _ _ _ _ _ _ _ T8 (mkF m 49 #[.val (.ref a1)] [])
    refine GoH.step (fun t_ k_ => XS.aloadN X8.here hx rfl (hb hby d13_49) rfl rfl k_) ?_
    show GoH _ _ _ _ _ _ _ _ _ _ T8 (mkF m 50 #[.val (.ref a1)] [(.ref a1)])
    refine GoH.step (fun t_ k_ => XS.aloadN X8.here hx rfl (hb hby d13_50) rfl rfl k_) ?_
    show GoH _ _ _ _ _ _ _ _ _ _ T8 (mkF m 51 #[.val (.ref a1)] [(.ref a1), (.ref a1)])
    obtain ⟨T9, X9, e9, st9⟩ := getF X8 hx hZ0 hown0 (host := "") (Or.inl (hw _ (List.mem_of_getElem? (i := 46) rfl))) Via.refl e8 f8_2 (g := (mkF m 51 #[.val (.ref a1)] [(.ref a1), (.ref a1)])) rfl rfl (hb hby d13_51)
    refine GoH.step st9 ?_
    show GoH _ _ _ _ _ _ _ _ _ _ T9 (mkF m 54 #[.val (.ref a1)] [(.int (Int32.ofNat (i0 + 1))), (.ref a1)])
    obtain ⟨T10, h10, X10, e10, W10, st10⟩ := putF X9 hx hZ0 hown0 (host := "") (Or.inl (hw _ (List.mem_of_getElem? (i := 37) rfl))) Via.refl e9 f8_3 f8_0 (Or.inl (hw _ (List.mem_of_getElem? (i := 38) rfl))) (hw _ (List.mem_of_getElem? (i := 31) rfl)) (ty := .int) (by decide) rfl rfl (g := (mkF m 54 #[.val (.ref a1)] [(.int (Int32.ofNat (i0 + 1))), (.ref a1)])) rfl rfl (hb hby d13_54)
    have N10 := Fr.snoc X10 N8 g1
    refine GoH.step st10 ?_
    have f10_0 : Exa Z h10 a1 "com/example/affordance/affordance/PathSegments" := (f8_0.wr W10)
    have f10_1 : Fld Z h10 a1 "com/example/affordance/affordance/PathSegments" "path" "Ljava/lang/String;" (.ref sp) := (f8_1.other W10 (Or.inr (slot_ne (Or.inr (hw _ (List.mem_of_getElem? (i := 40) rfl))) (Or.inl (hw _ (List.mem_of_getElem? (i := 38) rfl))) (by decide) (t := (.object "java/lang/String")) (t' := .int) (by decide) (by decide))))
    have f10_2 : Fld Z h10 a1 "com/example/affordance/affordance/PathSegments" "start" "I" (.int (Int32.ofNat (i0 + 1))) := (f8_2.other W10 (Or.inr (slot_ne (Or.inl (hw _ (List.mem_of_getElem? (i := 47) rfl))) (Or.inl (hw _ (List.mem_of_getElem? (i := 38) rfl))) (by decide) (t := .int) (t' := .int) (by decide) (by decide))))
    have f10_3 : Fld Z h10 a1 "com/example/affordance/affordance/PathSegments" "end" "I" (.int (Int32.ofNat (i0 + 1))) := (f8_3.same W10)
    have f10_4 : Fld Z h10 a1 "com/example/affordance/affordance/PathSegments" "template" "Z" (.int (own_tpl cs j0 i0)) := (f8_4.other W10 (Or.inr (slot_ne (Or.inl (hw _ (List.mem_of_getElem? (i := 101) rfl))) (Or.inl (hw _ (List.mem_of_getElem? (i := 38) rfl))) (by decide) (t := .boolean) (t' := .int) (by decide) (by decide))))
    have f10_5 : Exa Z h10 sp "java/lang/String" := (f8_5.wr W10)
    have f10_6 : Fld Z h10 sp "java/lang/String" "value" "[B" (.ref tp) := (f8_6.other W10 (Or.inl nsp))
    have f10_7 : Fld Z h10 sp "java/lang/String" "coder" "B" (.int (0 : Int32)) := (f8_7.other W10 (Or.inl nsp))
    have f10_8 : Arv Z h10 tp kbp .byte (Int32.ofNat cs.length) ((cs.map (fun c => c.toInt8.toInt32)).map Value.int) (.int (0 : Int32)) := (f8_8.other W10 ntp)
    have sfw10 : Safe Z own_EL s.vm _ a1 := (Safe.exa hZ0.alike f8_0 (by decide) (by decide))
    have hk10 : _ ≤ h10.size := Nat.le_trans hk8 (Keep.of_wr W10).1
    have C10 : CHr Z own_EL s.vm h0 s.vm h10 := C8.trans (CHr.wr W10 sfw10 C8.1)
    have Zs10 : n0 ≤ h10.size := (Nat.le_trans Zs8 (Keep.of_wr W10).1)
    have O10 : Old Z n0 h10 := O8.wr W10 g1
    have K10 : Keep h0 h10 [a1] := K8.wr W10 (Or.inl (List.mem_of_getElem? (i := 0) rfl))
    show GoH _ _ _ _ _ _ _ _ _ _ T10 (mkF m 57 #[.val (.ref a1)] [])
    refine GoH.step (fun t_ k_ => XS.aloadN X10.here hx rfl (hb hby d13_57) rfl rfl k_) ?_
    show GoH _ _ _ _ _ _ _ _ _ _ T10 (mkF m 58 #[.val (.ref a1)] [(.ref a1)])
    refine GoH.step (fun t_ k_ => XS.iconst X10.here hx rfl (hb hby d13_58) k_) ?_
    show GoH _ _ _ _ _ _ _ _ _ _ T10 (mkF m 59 #[.val (.ref a1)] [(.int (0 : Int32)), (.ref a1)])
    obtain ⟨T11, h11, X11, e11, W11, st11⟩ := putF X10 hx hZ0 hown0 (host := "") (Or.inl (hw _ (List.mem_of_getElem? (i := 100) rfl))) Via.refl e10 f10_4 f10_0 (Or.inl (hw _ (List.mem_of_getElem? (i := 101) rfl))) (hw _ (List.mem_of_getElem? (i := 31) rfl)) (ty := .boolean) (by decide) rfl rfl (g := (mkF m 59 #[.val (.ref a1)] [(.int (0 : Int32)), (.ref a1)])) rfl rfl (hb hby d13_59)
    have N11 := Fr.snoc X11 N10 g1
    refine GoH.step st11 ?_
    have f11_0 : Exa Z h11 a1 "com/example/affordance/affordance/PathSegments" := (f10_0.wr W11)
    have f11_1 : Fld Z h11 a1 "com/example/affordance/affordance/PathSegments" "path" "Ljava/lang/String;" (.ref sp) := (f10_1.other W11 (Or.inr (slot_ne (Or.inr (hw _ (List.mem_of_getElem? (i := 40) rfl))) (Or.inl (hw _ (List.mem_of_getElem? (i := 101) rfl))) (by decide) (t := (.object "java/lang/String")) (t' := .boolean) (by decide) (by decide))))
    have f11_2 : Fld Z h11 a1 "com/example/affordance/affordance/PathSegments" "start" "I" (.int (Int32.ofNat (i0 + 1))) := (f10_2.other W11 (Or.inr (slot_ne (Or.inl (hw _ (List.mem_of_getElem? (i := 47) rfl))) (Or.inl (hw _ (List.mem_of_getElem? (i := 101) rfl))) (by decide) (t := .int) (t' := .boolean) (by decide) (by decide))))
    have f11_3 : Fld Z h11 a1 "com/example/affordance/affordance/PathSegments" "end" "I" (.int (Int32.ofNat (i0 + 1))) := (f10_3.other W11 (Or.inr (slot_ne (Or.inl (hw _ (List.mem_of_getElem? (i := 38) rfl))) (Or.inl (hw _ (List.mem_of_getElem? (i := 101) rfl))) (by decide) (t := .int) (t' := .boolean) (by decide) (by decide))))
    have f11_4 : Fld Z h11 a1 "com/example/affordance/affordance/PathSegments" "template" "Z" (.int (0 : Int32)) := (f10_4.same W11)
    have f11_5 : Exa Z h11 sp "java/lang/String" := (f10_5.wr W11)
    have f11_6 : Fld Z h11 sp "java/lang/String" "value" "[B" (.ref tp) := (f10_6.other W11 (Or.inl nsp))
    have f11_7 : Fld Z h11 sp "java/lang/String" "coder" "B" (.int (0 : Int32)) := (f10_7.other W11 (Or.inl nsp))
    have f11_8 : Arv Z h11 tp kbp .byte (Int32.ofNat cs.length) ((cs.map (fun c => c.toInt8.toInt32)).map Value.int) (.int (0 : Int32)) := (f10_8.other W11 ntp)
    have sfw11 : Safe Z own_EL s.vm _ a1 := (Safe.exa hZ0.alike f10_0 (by decide) (by decide))
    have hk11 : _ ≤ h11.size := Nat.le_trans hk10 (Keep.of_wr W11).1
    have C11 : CHr Z own_EL s.vm h0 s.vm h11 := C10.trans (CHr.wr W11 sfw11 C10.1)
    have Zs11 : n0 ≤ h11.size := (Nat.le_trans Zs10 (Keep.of_wr W11).1)
    have O11 : Old Z n0 h11 := O10.wr W11 g1
    have K11 : Keep h0 h11 [a1] := K10.wr W11 (Or.inl (List.mem_of_getElem? (i := 0) rfl))
    show GoH _ _ _ _ _ _ _ _ _ _ T11 (mkF m 62 #[.val (.ref a1)] [])
    exact lpB l Z a0 hw a1 G1 G3 sp tp kbp cs j0 i0 h0 n0 Z0 g1 O0 S_COMPACT P_COMPACT S_SIOOBE r_SIOOBE QE1 Q_path Q_start Q_end Q_template PE PV PC PA hok hlen nsp ntp hji hil hx hby hlk hml hret hnm _ (i0 + 1) (i0 + 1) (X11.mono (by decide) (by decide)) e11 N11 Zs11 O11 K11 hS0 hk11 hZ0 hown0 hEL C11 f11_0 f11_1 f11_2 f11_3 (by rw [own_tpl_self]; exact f11_4) f11_5 f11_6 f11_7 f11_8 (Nat.le_refl _) (hil2) rfl
def Q0 (Z : State) (p1 : Int32) (p2 : Int32) (p3 : Int32) (p4 : Int32) (p5 : Int32) (G1 : Int32) (G3 : Value) (h0 : Heap) (n0 : Nat) (v : Option Value) (h : Heap) (L : List Loc) : Prop := v = some (.int (1 : Int32)) ∧ Fr n0 L
theorem pd_8 : parseMethodDescriptor "(Ljava/lang/String;III)Z" = some ⟨[(.object "java/lang/String"), .int, .int, .int], some .boolean⟩ := by decide +kernel
theorem pd_9 : parseMethodDescriptor "()Z" = some ⟨[], some .boolean⟩ := by decide +kernel
set_option maxRecDepth 65536 in
set_option maxHeartbeats 40000000 in
theorem sgT (l : Launch) (Z : State) (a0 : Array Value) (hw : ∀ d ∈ tables_1, d.before a0 Z = true) (p1 : Int32) (p2 : Int32) (p3 : Int32) (p4 : Int32) (p5 : Int32) (G1 : Int32) (G3 : Value) (h0 : Heap) (n0 : Nat) (Z0 : n0 ≤ h0.size) (O0 : Old Z n0 h0) (S_COMPACT : Sta Z Z.heap "java/lang/String" "COMPACT_STRINGS" "Z" (.int G1)) (P_COMPACT : ¬ (G1 = (0 : Int32))) (S_SIOOBE : Sta Z Z.heap "jdk/internal/util/Preconditions" "SIOOBE_FORMATTER" "Ljava/util/function/BiFunction;" G3) (r_SIOOBE : G3.isRef = true) {p : Program} {e : Env} {s : State} {m : MethodId} {below : List Frame} {meth : Method} {c : Code} (hx : p.tables.exec = Jvm.exec) (hby : c.code = code) (hlk : meth.locks = false) (hml : c.maxLocals = 12) (hret : meth.sig.returnType = ret) (hnm : meth.name = "law") (nl kd : Int32) (sp tp : Addr) (kbp : ClassId) (cs : List Int32) (j i : Nat) (ps : Addr) {T : State} {locs : List Loc} {h : Heap} {vm0 : Vm} {k0 : Nat} (X1 : Stand p l e room_1 (s.setVm vm0) m #[(.int p1), (.int p2), (.int p3), (.int p4), (.int p5)] below meth c T locs 20 200) (e1 : T.heap = h) (N1 : Fr n0 locs) (Zs1 : n0 ≤ h.size) (O1 : Old Z n0 h) (hS1 : s.Since vm0 k0) (hk1 : k0 ≤ h.size) (hZ1 : Z.Warmed39 (s.setVm vm0).vm) (hown1 : (s.setVm vm0).vm.findClass "com/example/affordance/affordance/PathSegmentsIsLiteralPinLaw" = some m.cls) (hEL : EW Z a0 own_EL) (C1 : CHr Z own_EL s.vm h0 vm0 h) (H_0 : Exa Z h ps "com/example/affordance/affordance/PathSegments") (H_1 : Fld Z h ps "com/example/affordance/affordance/PathSegments" "path" "Ljava/lang/String;" (.ref sp)) (H_2 : Fld Z h ps "com/example/affordance/affordance/PathSegments" "start" "I" (.int (Int32.ofNat j))) (H_3 : Fld Z h ps "com/example/affordance/affordance/PathSegments" "end" "I" (.int (Int32.ofNat i))) (H_4 : Fld Z h ps "com/example/affordance/affordance/PathSegments" "template" "Z" (.int (own_tpl cs j i))) (H_5 : Exa Z h sp "java/lang/String") (H_6 : Fld Z h sp "java/lang/String" "value" "[B" (.ref tp)) (H_7 : Fld Z h sp "java/lang/String" "coder" "B" (.int (0 : Int32))) (H_8 : Arv Z h tp kbp .byte (Int32.ofNat cs.length) ((cs.map (fun c => c.toInt8.toInt32)).map Value.int) (.int (0 : Int32))) (hok : ∀ c ∈ cs, ¬ c < 0 ∧ ¬ (255 : Int32) < c) (hlen : cs.length ≤ 4) (hji : j ≤ i) (hil : i ≤ cs.length) :
    GoH p e below s room_1.cells room_1.slots Z own_EL h0 (Q0 Z p1 p2 p3 p4 p5 G1 G3 h0 n0) T (mkF m 115 #[.val (.int p1), .val (.int p2), .val (.int p3), .val (.int p4), .val (.int p5), .val (.int nl), .val (.int kd), .val (.ref sp), .val (.ref ps), .unset, .unset, .unset] []) := by
  show GoH _ _ _ _ _ _ _ _ _ _ T (mkF m 115 #[.val (.int p1), .val (.int p2), .val (.int p3), .val (.int p4), .val (.int p5), .val (.int nl), .val (.int kd), .val (.ref sp), .val (.ref ps), .unset, .unset, .unset] [])
  refine GoH.step (fun t_ k_ => XS.aload X1.here hx rfl (hb hby at_115) rfl rfl k_) ?_
  show GoH _ _ _ _ _ _ _ _ _ _ T (mkF m 117 #[.val (.int p1), .val (.int p2), .val (.int p3), .val (.int p4), .val (.int p5), .val (.int nl), .val (.int kd), .val (.ref sp), .val (.ref ps), .unset, .unset, .unset] [(.ref ps)])
  obtain ⟨cq1, kq1, qa1, qb1, qc1⟩ := isOf hZ1 e1 H_0
  obtain ⟨_, _, ⟨T1, L1, k1, n1⟩, -, X1, ⟨Lc1, hQ1, l1, y1, z1⟩, st1⟩ := X1.virtualBack hx (y := (⟨"com/example/affordance/affordance/PathSegments", "start", "()I"⟩ : MethodName)) (z := (⟨"com/example/affordance/affordance/PathSegments", "start", "()I"⟩ : MethodName)) hown1 (mvT hZ1 (hw _ (List.mem_of_getElem? (i := 41) rfl))) (mvT hZ1 (hw _ (List.mem_of_getElem? (i := 42) rfl))) (notFace_of_selects (args := #[]) (mvT hZ1 (hw _ (List.mem_of_getElem? (i := 44) rfl)))) (mvT hZ1 (hw _ (List.mem_of_getElem? (i := 44) rfl))) (mvT hZ1 (hw _ (List.mem_of_getElem? (i := 43) rfl))) (by decide) (backOf (W := 0) (rmGs l Z a0 hw [] ps (Int32.ofNat j) h n0 Zs1 H_2) hZ1 (hw _ (List.mem_of_getElem? (i := 45) rfl)) (hw _ (List.mem_of_getElem? (i := 32) rfl)) (by decide) (by decide)) qa1 qc1 (g := (mkF m 117 #[.val (.int p1), .val (.int p2), .val (.int p3), .val (.int p4), .val (.int p5), .val (.int nl), .val (.int kd), .val (.ref sp), .val (.ref ps), .unset, .unset, .unset] [(.ref ps)])) rfl (by rw [hml]; rfl) (Steps.refl _) (argsL := []) (rest := []) (lenOf pd_2 rfl) rfl (by show 2 * 0 + _ ≤ _; exact Nat.le_of_eq rfl) (hb hby at_117) (fun _ _ => ⟨rfl, e1, (by decide : 20 + 0 ≤ _), (by decide : 200 + 0 ≤ _)⟩)
  dsimp only [Pt.U, Pt.locs, Pt.cells, Pt.slots] at X1 l1 y1 z1 st1 hQ1
  subst l1 y1 z1
  obtain ⟨rfl, N1q, e1⟩ := hQ1
  have N1 := Fr.app N1 N1q
  refine GoH.step (fun t_ k_ => st1.trans k_) ?_
  show GoH _ _ _ _ _ _ _ _ _ _ T1 (mkF m 120 #[.val (.int p1), .val (.int p2), .val (.int p3), .val (.int p4), .val (.int p5), .val (.int nl), .val (.int kd), .val (.ref sp), .val (.ref ps), .unset, .unset, .unset] [(.int (Int32.ofNat j))])
  refine GoH.step (fun t_ k_ => XS.istore X1.here hx rfl (hb hby at_120) rfl (l' := #[.val (.int p1), .val (.int p2), .val (.int p3), .val (.int p4), .val (.int p5), .val (.int nl), .val (.int kd), .val (.ref sp), .val (.ref ps), .val (.int (Int32.ofNat j)), .unset, .unset]) rfl k_) ?_
  show GoH _ _ _ _ _ _ _ _ _ _ T1 (mkF m 122 #[.val (.int p1), .val (.int p2), .val (.int p3), .val (.int p4), .val (.int p5), .val (.int nl), .val (.int kd), .val (.ref sp), .val (.ref ps), .val (.int (Int32.ofNat j)), .unset, .unset] [])
  refine GoH.step (fun t_ k_ => XS.aload X1.here hx rfl (hb hby at_122) rfl rfl k_) ?_
  show GoH _ _ _ _ _ _ _ _ _ _ T1 (mkF m 124 #[.val (.int p1), .val (.int p2), .val (.int p3), .val (.int p4), .val (.int p5), .val (.int nl), .val (.int kd), .val (.ref sp), .val (.ref ps), .val (.int (Int32.ofNat j)), .unset, .unset] [(.ref ps)])
  obtain ⟨cq2, kq2, qa2, qb2, qc2⟩ := isOf hZ1 (e1) H_0
  obtain ⟨_, _, ⟨T2, L2, k2, n2⟩, -, X2, ⟨Lc2, hQ2, l2, y2, z2⟩, st2⟩ := X1.virtualBack hx (y := (⟨"com/example/affordance/affordance/PathSegments", "end", "()I"⟩ : MethodName)) (z := (⟨"com/example/affordance/affordance/PathSegments", "end", "()I"⟩ : MethodName)) hown1 (mvT hZ1 (hw _ (List.mem_of_getElem? (i := 48) rfl))) (mvT hZ1 (hw _ (List.mem_of_getElem? (i := 49) rfl))) (notFace_of_selects (args := #[]) (mvT hZ1 (hw _ (List.mem_of_getElem? (i := 51) rfl)))) (mvT hZ1 (hw _ (List.mem_of_getElem? (i := 51) rfl))) (mvT hZ1 (hw _ (List.mem_of_getElem? (i := 50) rfl))) (by decide) (backOf (W := 0) (rmGe l Z a0 hw [] ps (Int32.ofNat i) h n0 Zs1 H_3) hZ1 (hw _ (List.mem_of_getElem? (i := 52) rfl)) (hw _ (List.mem_of_getElem? (i := 32) rfl)) (by decide) (by decide)) qa2 qc2 (g := (mkF m 124 #[.val (.int p1), .val (.int p2), .val (.int p3), .val (.int p4), .val (.int p5), .val (.int nl), .val (.int kd), .val (.ref sp), .val (.ref ps), .val (.int (Int32.ofNat j)), .unset, .unset] [(.ref ps)])) rfl (by rw [hml]; rfl) (Steps.refl _) (argsL := []) (rest := []) (lenOf pd_2 rfl) rfl (by show 2 * 0 + _ ≤ _; exact Nat.le_of_eq rfl) (hb hby at_124) (fun _ _ => ⟨rfl, (e1), (by decide : 20 + 0 + 0 ≤ _), (by decide : 200 + 0 + 0 ≤ _)⟩)
  dsimp only [Pt.U, Pt.locs, Pt.cells, Pt.slots] at X2 l2 y2 z2 st2 hQ2
  subst l2 y2 z2
  obtain ⟨rfl, N2q, e2⟩ := hQ2
  have N2 := Fr.app N1 N2q
  refine GoH.step (fun t_ k_ => st2.trans k_) ?_
  show GoH _ _ _ _ _ _ _ _ _ _ T2 (mkF m 127 #[.val (.int p1), .val (.int p2), .val (.int p3), .val (.int p4), .val (.int p5), .val (.int nl), .val (.int kd), .val (.ref sp), .val (.ref ps), .val (.int (Int32.ofNat j)), .unset, .unset] [(.int (Int32.ofNat i))])
  refine GoH.step (fun t_ k_ => XS.istore X2.here hx rfl (hb hby at_127) rfl (l' := #[.val (.int p1), .val (.int p2), .val (.int p3), .val (.int p4), .val (.int p5), .val (.int nl), .val (.int kd), .val (.ref sp), .val (.ref ps), .val (.int (Int32.ofNat j)), .val (.int (Int32.ofNat i)), .unset]) rfl k_) ?_
  show GoH _ _ _ _ _ _ _ _ _ _ T2 (mkF m 129 #[.val (.int p1), .val (.int p2), .val (.int p3), .val (.int p4), .val (.int p5), .val (.int nl), .val (.int kd), .val (.ref sp), .val (.ref ps), .val (.int (Int32.ofNat j)), .val (.int (Int32.ofNat i)), .unset] [])
  refine GoH.step (fun t_ k_ => XS.iload X2.here hx rfl (hb hby at_129) rfl k_) ?_
  show GoH _ _ _ _ _ _ _ _ _ _ T2 (mkF m 131 #[.val (.int p1), .val (.int p2), .val (.int p3), .val (.int p4), .val (.int p5), .val (.int nl), .val (.int kd), .val (.ref sp), .val (.ref ps), .val (.int (Int32.ofNat j)), .val (.int (Int32.ofNat i)), .unset] [(.int (Int32.ofNat i))])
  refine GoH.step (fun t_ k_ => XS.iload X2.here hx rfl (hb hby at_131) rfl k_) ?_
  show GoH _ _ _ _ _ _ _ _ _ _ T2 (mkF m 133 #[.val (.int p1), .val (.int p2), .val (.int p3), .val (.int p4), .val (.int p5), .val (.int nl), .val (.int kd), .val (.ref sp), .val (.ref ps), .val (.int (Int32.ofNat j)), .val (.int (Int32.ofNat i)), .unset] [(.int (Int32.ofNat j)), (.int (Int32.ofNat i))])
  by_cases hb133_3 : (Int32.ofNat j) < (Int32.ofNat i)
  · refine GoH.step (fun t_ k_ => XS.icmpNo X2.here hx rfl (hb hby at_133) rfl (XT.ii_le_f hb133_3) k_) ?_
    show GoH _ _ _ _ _ _ _ _ _ _ T2 (mkF m 136 #[.val (.int p1), .val (.int p2), .val (.int p3), .val (.int p4), .val (.int p5), .val (.int nl), .val (.int kd), .val (.ref sp), .val (.ref ps), .val (.int (Int32.ofNat j)), .val (.int (Int32.ofNat i)), .unset] [])
    refine GoH.step (fun t_ k_ => XS.aload X2.here hx rfl (hb hby at_136) rfl rfl k_) ?_
    show GoH _ _ _ _ _ _ _ _ _ _ T2 (mkF m 138 #[.val (.int p1), .val (.int p2), .val (.int p3), .val (.int p4), .val (.int p5), .val (.int nl), .val (.int kd), .val (.ref sp), .val (.ref ps), .val (.int (Int32.ofNat j)), .val (.int (Int32.ofNat i)), .unset] [(.ref sp)])
    refine GoH.step (fun t_ k_ => XS.iconst X2.here hx rfl (hb hby at_138) k_) ?_
    show GoH _ _ _ _ _ _ _ _ _ _ T2 (mkF m 139 #[.val (.int p1), .val (.int p2), .val (.int p3), .val (.int p4), .val (.int p5), .val (.int nl), .val (.int kd), .val (.ref sp), .val (.ref ps), .val (.int (Int32.ofNat j)), .val (.int (Int32.ofNat i)), .unset] [(.int (0 : Int32)), (.ref sp)])
    refine GoH.step (fun t_ k_ => XS.iload X2.here hx rfl (hb hby at_139) rfl k_) ?_
    show GoH _ _ _ _ _ _ _ _ _ _ T2 (mkF m 141 #[.val (.int p1), .val (.int p2), .val (.int p3), .val (.int p4), .val (.int p5), .val (.int nl), .val (.int kd), .val (.ref sp), .val (.ref ps), .val (.int (Int32.ofNat j)), .val (.int (Int32.ofNat i)), .unset] [(.int (Int32.ofNat j)), (.int (0 : Int32)), (.ref sp)])
    refine GoH.step (fun t_ k_ => XS.iload X2.here hx rfl (hb hby at_141) rfl k_) ?_
    show GoH _ _ _ _ _ _ _ _ _ _ T2 (mkF m 143 #[.val (.int p1), .val (.int p2), .val (.int p3), .val (.int p4), .val (.int p5), .val (.int nl), .val (.int kd), .val (.ref sp), .val (.ref ps), .val (.int (Int32.ofNat j)), .val (.int (Int32.ofNat i)), .unset] [(.int (Int32.ofNat i)), (.int (Int32.ofNat j)), (.int (0 : Int32)), (.ref sp)])
    show GoH _ _ _ _ _ _ _ _ _ _ T2 (mkF m 143 #[.val (.int p1), .val (.int p2), .val (.int p3), .val (.int p4), .val (.int p5), .val (.int nl), .val (.int kd), .val (.ref sp), .val (.ref ps), .val (.int (Int32.ofNat j)), .val (.int (Int32.ofNat i)), .unset] [(.int (Int32.ofNat i)), (.int (Int32.ofNat j)), (.int (Int32.ofNat 0)), (.ref sp)])
    obtain ⟨_, _, ⟨T4, L4, k4, n4⟩, -, X4, ⟨Lc4, hQ4, l4, y4, z4⟩, st4⟩ := Jvm.LawKit.callS X2 hx (y := (⟨"com/example/affordance/affordance/PathSegmentsIsLiteralPinLaw", "brace", "(Ljava/lang/String;III)Z"⟩ : MethodName)) hown1 (mvT hZ1 (hw _ (List.mem_of_getElem? (i := 124) rfl))) (mvT hZ1 (hw _ (List.mem_of_getElem? (i := 125) rfl))) (mvT hZ1 (hw _ (List.mem_of_getElem? (i := 3) rfl))) (mvT hZ1 (hw _ (List.mem_of_getElem? (i := 126) rfl))) (by decide) (backOf (W := 0) (rmBr l Z a0 hw [] sp (Int32.ofNat j) (Int32.ofNat i) 0 G1 G3 tp kbp cs h n0 Zs1 (by decide) O1 S_COMPACT P_COMPACT S_SIOOBE r_SIOOBE H_5 H_6 H_7 H_8 hok hlen) hZ1 (hw _ (List.mem_of_getElem? (i := 126) rfl)) (hw _ (List.mem_of_getElem? (i := 3) rfl)) (by decide) (by decide)) (g := (mkF m 143 #[.val (.int p1), .val (.int p2), .val (.int p3), .val (.int p4), .val (.int p5), .val (.int nl), .val (.int kd), .val (.ref sp), .val (.ref ps), .val (.int (Int32.ofNat j)), .val (.int (Int32.ofNat i)), .unset] [(.int (Int32.ofNat i)), (.int (Int32.ofNat j)), (.int (Int32.ofNat 0)), (.ref sp)])) rfl (by rw [hml]; rfl) (argsL := [(.ref sp), (.int (Int32.ofNat 0)), (.int (Int32.ofNat j)), (.int (Int32.ofNat i))]) (rest := []) (lenOf pd_8 rfl) rfl (by show 2 * 0 + _ ≤ _; exact Nat.le_of_eq rfl) (hb hby at_143) (fun _ _ => ⟨rfl, (e2), (by decide : 20 + 0 + 0 + 0 ≤ _), (by decide : 200 + 0 + 0 + 0 ≤ _)⟩)
    dsimp only [Pt.U, Pt.locs, Pt.cells, Pt.slots] at X4 l4 y4 z4 st4 hQ4
    subst l4 y4 z4
    obtain ⟨rfl, N4q, e4⟩ := hQ4
    have N4 := Fr.app N2 N4q
    refine GoH.step st4 ?_
    show GoH _ _ _ _ _ _ _ _ _ _ T4 (mkF m 146 #[.val (.int p1), .val (.int p2), .val (.int p3), .val (.int p4), .val (.int p5), .val (.int nl), .val (.int kd), .val (.ref sp), .val (.ref ps), .val (.int (Int32.ofNat j)), .val (.int (Int32.ofNat i)), .unset] [(.int (own_brace cs 0 (Int32.ofNat j) (Int32.ofNat i)))])
    by_cases hb146_5 : (own_brace cs 0 (Int32.ofNat j) (Int32.ofNat i)) = (0 : Int32)
    · refine GoH.step (fun t_ k_ => XS.ifNo X4.here hx rfl (hb hby at_146) rfl (XT.i0_ne_f hb146_5) k_) ?_
      show GoH _ _ _ _ _ _ _ _ _ _ T4 (mkF m 149 #[.val (.int p1), .val (.int p2), .val (.int p3), .val (.int p4), .val (.int p5), .val (.int nl), .val (.int kd), .val (.ref sp), .val (.ref ps), .val (.int (Int32.ofNat j)), .val (.int (Int32.ofNat i)), .unset] [])
      refine GoH.step (fun t_ k_ => XS.aload X4.here hx rfl (hb hby at_149) rfl rfl k_) ?_
      show GoH _ _ _ _ _ _ _ _ _ _ T4 (mkF m 151 #[.val (.int p1), .val (.int p2), .val (.int p3), .val (.int p4), .val (.int p5), .val (.int nl), .val (.int kd), .val (.ref sp), .val (.ref ps), .val (.int (Int32.ofNat j)), .val (.int (Int32.ofNat i)), .unset] [(.ref sp)])
      refine GoH.step (fun t_ k_ => XS.iconst X4.here hx rfl (hb hby at_151) k_) ?_
      show GoH _ _ _ _ _ _ _ _ _ _ T4 (mkF m 152 #[.val (.int p1), .val (.int p2), .val (.int p3), .val (.int p4), .val (.int p5), .val (.int nl), .val (.int kd), .val (.ref sp), .val (.ref ps), .val (.int (Int32.ofNat j)), .val (.int (Int32.ofNat i)), .unset] [(.int (1 : Int32)), (.ref sp)])
      refine GoH.step (fun t_ k_ => XS.iload X4.here hx rfl (hb hby at_152) rfl k_) ?_
      show GoH _ _ _ _ _ _ _ _ _ _ T4 (mkF m 154 #[.val (.int p1), .val (.int p2), .val (.int p3), .val (.int p4), .val (.int p5), .val (.int nl), .val (.int kd), .val (.ref sp), .val (.ref ps), .val (.int (Int32.ofNat j)), .val (.int (Int32.ofNat i)), .unset] [(.int (Int32.ofNat j)), (.int (1 : Int32)), (.ref sp)])
      refine GoH.step (fun t_ k_ => XS.iload X4.here hx rfl (hb hby at_154) rfl k_) ?_
      show GoH _ _ _ _ _ _ _ _ _ _ T4 (mkF m 156 #[.val (.int p1), .val (.int p2), .val (.int p3), .val (.int p4), .val (.int p5), .val (.int nl), .val (.int kd), .val (.ref sp), .val (.ref ps), .val (.int (Int32.ofNat j)), .val (.int (Int32.ofNat i)), .unset] [(.int (Int32.ofNat i)), (.int (Int32.ofNat j)), (.int (1 : Int32)), (.ref sp)])
      show GoH _ _ _ _ _ _ _ _ _ _ T4 (mkF m 156 #[.val (.int p1), .val (.int p2), .val (.int p3), .val (.int p4), .val (.int p5), .val (.int nl), .val (.int kd), .val (.ref sp), .val (.ref ps), .val (.int (Int32.ofNat j)), .val (.int (Int32.ofNat i)), .unset] [(.int (Int32.ofNat i)), (.int (Int32.ofNat j)), (.int (Int32.ofNat 1)), (.ref sp)])
      obtain ⟨_, _, ⟨T6, L6, k6, n6⟩, -, X6, ⟨Lc6, hQ6, l6, y6, z6⟩, st6⟩ := Jvm.LawKit.callS X4 hx (y := (⟨"com/example/affordance/affordance/PathSegmentsIsLiteralPinLaw", "brace", "(Ljava/lang/String;III)Z"⟩ : MethodName)) hown1 (mvT hZ1 (hw _ (List.mem_of_getElem? (i := 124) rfl))) (mvT hZ1 (hw _ (List.mem_of_getElem? (i := 125) rfl))) (mvT hZ1 (hw _ (List.mem_of_getElem? (i := 3) rfl))) (mvT hZ1 (hw _ (List.mem_of_getElem? (i := 126) rfl))) (by decide) (backOf (W := 0) (rmBr l Z a0 hw [] sp (Int32.ofNat j) (Int32.ofNat i) 1 G1 G3 tp kbp cs h n0 Zs1 (by decide) O1 S_COMPACT P_COMPACT S_SIOOBE r_SIOOBE H_5 H_6 H_7 H_8 hok hlen) hZ1 (hw _ (List.mem_of_getElem? (i := 126) rfl)) (hw _ (List.mem_of_getElem? (i := 3) rfl)) (by decide) (by decide)) (g := (mkF m 156 #[.val (.int p1), .val (.int p2), .val (.int p3), .val (.int p4), .val (.int p5), .val (.int nl), .val (.int kd), .val (.ref sp), .val (.ref ps), .val (.int (Int32.ofNat j)), .val (.int (Int32.ofNat i)), .unset] [(.int (Int32.ofNat i)), (.int (Int32.ofNat j)), (.int (Int32.ofNat 1)), (.ref sp)])) rfl (by rw [hml]; rfl) (argsL := [(.ref sp), (.int (Int32.ofNat 1)), (.int (Int32.ofNat j)), (.int (Int32.ofNat i))]) (rest := []) (lenOf pd_8 rfl) rfl (by show 2 * 0 + _ ≤ _; exact Nat.le_of_eq rfl) (hb hby at_156) (fun _ _ => ⟨rfl, (e4), (by decide : 20 + 0 + 0 + 0 + 0 ≤ _), (by decide : 200 + 0 + 0 + 0 + 0 ≤ _)⟩)
      dsimp only [Pt.U, Pt.locs, Pt.cells, Pt.slots] at X6 l6 y6 z6 st6 hQ6
      subst l6 y6 z6
      obtain ⟨rfl, N6q, e6⟩ := hQ6
      have N6 := Fr.app N4 N6q
      refine GoH.step st6 ?_
      show GoH _ _ _ _ _ _ _ _ _ _ T6 (mkF m 159 #[.val (.int p1), .val (.int p2), .val (.int p3), .val (.int p4), .val (.int p5), .val (.int nl), .val (.int kd), .val (.ref sp), .val (.ref ps), .val (.int (Int32.ofNat j)), .val (.int (Int32.ofNat i)), .unset] [(.int (own_brace cs 1 (Int32.ofNat j) (Int32.ofNat i)))])
      by_cases hb159_7 : (own_brace cs 1 (Int32.ofNat j) (Int32.ofNat i)) = (0 : Int32)
      · refine GoH.step (fun t_ k_ => XS.ifNo X6.here hx rfl (hb hby at_159) rfl (XT.i0_ne_f hb159_7) k_) ?_
        show GoH _ _ _ _ _ _ _ _ _ _ T6 (mkF m 162 #[.val (.int p1), .val (.int p2), .val (.int p3), .val (.int p4), .val (.int p5), .val (.int nl), .val (.int kd), .val (.ref sp), .val (.ref ps), .val (.int (Int32.ofNat j)), .val (.int (Int32.ofNat i)), .unset] [])
        refine GoH.step (fun t_ k_ => XS.aload X6.here hx rfl (hb hby at_162) rfl rfl k_) ?_
        show GoH _ _ _ _ _ _ _ _ _ _ T6 (mkF m 164 #[.val (.int p1), .val (.int p2), .val (.int p3), .val (.int p4), .val (.int p5), .val (.int nl), .val (.int kd), .val (.ref sp), .val (.ref ps), .val (.int (Int32.ofNat j)), .val (.int (Int32.ofNat i)), .unset] [(.ref sp)])
        refine GoH.step (fun t_ k_ => XS.iconst X6.here hx rfl (hb hby at_164) k_) ?_
        show GoH _ _ _ _ _ _ _ _ _ _ T6 (mkF m 165 #[.val (.int p1), .val (.int p2), .val (.int p3), .val (.int p4), .val (.int p5), .val (.int nl), .val (.int kd), .val (.ref sp), .val (.ref ps), .val (.int (Int32.ofNat j)), .val (.int (Int32.ofNat i)), .unset] [(.int (2 : Int32)), (.ref sp)])
        refine GoH.step (fun t_ k_ => XS.iload X6.here hx rfl (hb hby at_165) rfl k_) ?_
        show GoH _ _ _ _ _ _ _ _ _ _ T6 (mkF m 167 #[.val (.int p1), .val (.int p2), .val (.int p3), .val (.int p4), .val (.int p5), .val (.int nl), .val (.int kd), .val (.ref sp), .val (.ref ps), .val (.int (Int32.ofNat j)), .val (.int (Int32.ofNat i)), .unset] [(.int (Int32.ofNat j)), (.int (2 : Int32)), (.ref sp)])
        refine GoH.step (fun t_ k_ => XS.iload X6.here hx rfl (hb hby at_167) rfl k_) ?_
        show GoH _ _ _ _ _ _ _ _ _ _ T6 (mkF m 169 #[.val (.int p1), .val (.int p2), .val (.int p3), .val (.int p4), .val (.int p5), .val (.int nl), .val (.int kd), .val (.ref sp), .val (.ref ps), .val (.int (Int32.ofNat j)), .val (.int (Int32.ofNat i)), .unset] [(.int (Int32.ofNat i)), (.int (Int32.ofNat j)), (.int (2 : Int32)), (.ref sp)])
        show GoH _ _ _ _ _ _ _ _ _ _ T6 (mkF m 169 #[.val (.int p1), .val (.int p2), .val (.int p3), .val (.int p4), .val (.int p5), .val (.int nl), .val (.int kd), .val (.ref sp), .val (.ref ps), .val (.int (Int32.ofNat j)), .val (.int (Int32.ofNat i)), .unset] [(.int (Int32.ofNat i)), (.int (Int32.ofNat j)), (.int (Int32.ofNat 2)), (.ref sp)])
        obtain ⟨_, _, ⟨T8, L8, k8, n8⟩, -, X8, ⟨Lc8, hQ8, l8, y8, z8⟩, st8⟩ := Jvm.LawKit.callS X6 hx (y := (⟨"com/example/affordance/affordance/PathSegmentsIsLiteralPinLaw", "brace", "(Ljava/lang/String;III)Z"⟩ : MethodName)) hown1 (mvT hZ1 (hw _ (List.mem_of_getElem? (i := 124) rfl))) (mvT hZ1 (hw _ (List.mem_of_getElem? (i := 125) rfl))) (mvT hZ1 (hw _ (List.mem_of_getElem? (i := 3) rfl))) (mvT hZ1 (hw _ (List.mem_of_getElem? (i := 126) rfl))) (by decide) (backOf (W := 0) (rmBr l Z a0 hw [] sp (Int32.ofNat j) (Int32.ofNat i) 2 G1 G3 tp kbp cs h n0 Zs1 (by decide) O1 S_COMPACT P_COMPACT S_SIOOBE r_SIOOBE H_5 H_6 H_7 H_8 hok hlen) hZ1 (hw _ (List.mem_of_getElem? (i := 126) rfl)) (hw _ (List.mem_of_getElem? (i := 3) rfl)) (by decide) (by decide)) (g := (mkF m 169 #[.val (.int p1), .val (.int p2), .val (.int p3), .val (.int p4), .val (.int p5), .val (.int nl), .val (.int kd), .val (.ref sp), .val (.ref ps), .val (.int (Int32.ofNat j)), .val (.int (Int32.ofNat i)), .unset] [(.int (Int32.ofNat i)), (.int (Int32.ofNat j)), (.int (Int32.ofNat 2)), (.ref sp)])) rfl (by rw [hml]; rfl) (argsL := [(.ref sp), (.int (Int32.ofNat 2)), (.int (Int32.ofNat j)), (.int (Int32.ofNat i))]) (rest := []) (lenOf pd_8 rfl) rfl (by show 2 * 0 + _ ≤ _; exact Nat.le_of_eq rfl) (hb hby at_169) (fun _ _ => ⟨rfl, (e6), (by decide : 20 + 0 + 0 + 0 + 0 + 0 ≤ _), (by decide : 200 + 0 + 0 + 0 + 0 + 0 ≤ _)⟩)
        dsimp only [Pt.U, Pt.locs, Pt.cells, Pt.slots] at X8 l8 y8 z8 st8 hQ8
        subst l8 y8 z8
        obtain ⟨rfl, N8q, e8⟩ := hQ8
        have N8 := Fr.app N6 N8q
        refine GoH.step st8 ?_
        show GoH _ _ _ _ _ _ _ _ _ _ T8 (mkF m 172 #[.val (.int p1), .val (.int p2), .val (.int p3), .val (.int p4), .val (.int p5), .val (.int nl), .val (.int kd), .val (.ref sp), .val (.ref ps), .val (.int (Int32.ofNat j)), .val (.int (Int32.ofNat i)), .unset] [(.int (own_brace cs 2 (Int32.ofNat j) (Int32.ofNat i)))])
        by_cases hb172_9 : (own_brace cs 2 (Int32.ofNat j) (Int32.ofNat i)) = (0 : Int32)
        · refine GoH.step (fun t_ k_ => XS.ifNo X8.here hx rfl (hb hby at_172) rfl (XT.i0_ne_f hb172_9) k_) ?_
          show GoH _ _ _ _ _ _ _ _ _ _ T8 (mkF m 175 #[.val (.int p1), .val (.int p2), .val (.int p3), .val (.int p4), .val (.int p5), .val (.int nl), .val (.int kd), .val (.ref sp), .val (.ref ps), .val (.int (Int32.ofNat j)), .val (.int (Int32.ofNat i)), .unset] [])
          refine GoH.step (fun t_ k_ => XS.aload X8.here hx rfl (hb hby at_175) rfl rfl k_) ?_
          show GoH _ _ _ _ _ _ _ _ _ _ T8 (mkF m 177 #[.val (.int p1), .val (.int p2), .val (.int p3), .val (.int p4), .val (.int p5), .val (.int nl), .val (.int kd), .val (.ref sp), .val (.ref ps), .val (.int (Int32.ofNat j)), .val (.int (Int32.ofNat i)), .unset] [(.ref sp)])
          refine GoH.step (fun t_ k_ => XS.iconst X8.here hx rfl (hb hby at_177) k_) ?_
          show GoH _ _ _ _ _ _ _ _ _ _ T8 (mkF m 178 #[.val (.int p1), .val (.int p2), .val (.int p3), .val (.int p4), .val (.int p5), .val (.int nl), .val (.int kd), .val (.ref sp), .val (.ref ps), .val (.int (Int32.ofNat j)), .val (.int (Int32.ofNat i)), .unset] [(.int (3 : Int32)), (.ref sp)])
          refine GoH.step (fun t_ k_ => XS.iload X8.here hx rfl (hb hby at_178) rfl k_) ?_
          show GoH _ _ _ _ _ _ _ _ _ _ T8 (mkF m 180 #[.val (.int p1), .val (.int p2), .val (.int p3), .val (.int p4), .val (.int p5), .val (.int nl), .val (.int kd), .val (.ref sp), .val (.ref ps), .val (.int (Int32.ofNat j)), .val (.int (Int32.ofNat i)), .unset] [(.int (Int32.ofNat j)), (.int (3 : Int32)), (.ref sp)])
          refine GoH.step (fun t_ k_ => XS.iload X8.here hx rfl (hb hby at_180) rfl k_) ?_
          show GoH _ _ _ _ _ _ _ _ _ _ T8 (mkF m 182 #[.val (.int p1), .val (.int p2), .val (.int p3), .val (.int p4), .val (.int p5), .val (.int nl), .val (.int kd), .val (.ref sp), .val (.ref ps), .val (.int (Int32.ofNat j)), .val (.int (Int32.ofNat i)), .unset] [(.int (Int32.ofNat i)), (.int (Int32.ofNat j)), (.int (3 : Int32)), (.ref sp)])
          show GoH _ _ _ _ _ _ _ _ _ _ T8 (mkF m 182 #[.val (.int p1), .val (.int p2), .val (.int p3), .val (.int p4), .val (.int p5), .val (.int nl), .val (.int kd), .val (.ref sp), .val (.ref ps), .val (.int (Int32.ofNat j)), .val (.int (Int32.ofNat i)), .unset] [(.int (Int32.ofNat i)), (.int (Int32.ofNat j)), (.int (Int32.ofNat 3)), (.ref sp)])
          obtain ⟨_, _, ⟨T10, L10, k10, n10⟩, -, X10, ⟨Lc10, hQ10, l10, y10, z10⟩, st10⟩ := Jvm.LawKit.callS X8 hx (y := (⟨"com/example/affordance/affordance/PathSegmentsIsLiteralPinLaw", "brace", "(Ljava/lang/String;III)Z"⟩ : MethodName)) hown1 (mvT hZ1 (hw _ (List.mem_of_getElem? (i := 124) rfl))) (mvT hZ1 (hw _ (List.mem_of_getElem? (i := 125) rfl))) (mvT hZ1 (hw _ (List.mem_of_getElem? (i := 3) rfl))) (mvT hZ1 (hw _ (List.mem_of_getElem? (i := 126) rfl))) (by decide) (backOf (W := 0) (rmBr l Z a0 hw [] sp (Int32.ofNat j) (Int32.ofNat i) 3 G1 G3 tp kbp cs h n0 Zs1 (by decide) O1 S_COMPACT P_COMPACT S_SIOOBE r_SIOOBE H_5 H_6 H_7 H_8 hok hlen) hZ1 (hw _ (List.mem_of_getElem? (i := 126) rfl)) (hw _ (List.mem_of_getElem? (i := 3) rfl)) (by decide) (by decide)) (g := (mkF m 182 #[.val (.int p1), .val (.int p2), .val (.int p3), .val (.int p4), .val (.int p5), .val (.int nl), .val (.int kd), .val (.ref sp), .val (.ref ps), .val (.int (Int32.ofNat j)), .val (.int (Int32.ofNat i)), .unset] [(.int (Int32.ofNat i)), (.int (Int32.ofNat j)), (.int (Int32.ofNat 3)), (.ref sp)])) rfl (by rw [hml]; rfl) (argsL := [(.ref sp), (.int (Int32.ofNat 3)), (.int (Int32.ofNat j)), (.int (Int32.ofNat i))]) (rest := []) (lenOf pd_8 rfl) rfl (by show 2 * 0 + _ ≤ _; exact Nat.le_of_eq rfl) (hb hby at_182) (fun _ _ => ⟨rfl, (e8), (by decide : 20 + 0 + 0 + 0 + 0 + 0 + 0 ≤ _), (by decide : 200 + 0 + 0 + 0 + 0 + 0 + 0 ≤ _)⟩)
          dsimp only [Pt.U, Pt.locs, Pt.cells, Pt.slots] at X10 l10 y10 z10 st10 hQ10
          subst l10 y10 z10
          obtain ⟨rfl, N10q, e10⟩ := hQ10
          have N10 := Fr.app N8 N10q
          refine GoH.step st10 ?_
          show GoH _ _ _ _ _ _ _ _ _ _ T10 (mkF m 185 #[.val (.int p1), .val (.int p2), .val (.int p3), .val (.int p4), .val (.int p5), .val (.int nl), .val (.int kd), .val (.ref sp), .val (.ref ps), .val (.int (Int32.ofNat j)), .val (.int (Int32.ofNat i)), .unset] [(.int (own_brace cs 3 (Int32.ofNat j) (Int32.ofNat i)))])
          by_cases hb185_11 : (own_brace cs 3 (Int32.ofNat j) (Int32.ofNat i)) = (0 : Int32)
          · refine GoH.step (fun t_ k_ => XS.ifNo X10.here hx rfl (hb hby at_185) rfl (XT.i0_ne_f hb185_11) k_) ?_
            show GoH _ _ _ _ _ _ _ _ _ _ T10 (mkF m 188 #[.val (.int p1), .val (.int p2), .val (.int p3), .val (.int p4), .val (.int p5), .val (.int nl), .val (.int kd), .val (.ref sp), .val (.ref ps), .val (.int (Int32.ofNat j)), .val (.int (Int32.ofNat i)), .unset] [])
            refine GoH.step (fun t_ k_ => XS.iconst X10.here hx rfl (hb hby at_188) k_) ?_
            show GoH _ _ _ _ _ _ _ _ _ _ T10 (mkF m 189 #[.val (.int p1), .val (.int p2), .val (.int p3), .val (.int p4), .val (.int p5), .val (.int nl), .val (.int kd), .val (.ref sp), .val (.ref ps), .val (.int (Int32.ofNat j)), .val (.int (Int32.ofNat i)), .unset] [(.int (1 : Int32))])
            refine GoH.step (fun t_ k_ => XS.goto X10.here hx rfl (pc0 := 189) (pc' := 193) rfl (hb hby at_189) (by decide) (by decide) k_) ?_
            show GoH _ _ _ _ _ _ _ _ _ _ T10 (mkF m 193 #[.val (.int p1), .val (.int p2), .val (.int p3), .val (.int p4), .val (.int p5), .val (.int nl), .val (.int kd), .val (.ref sp), .val (.ref ps), .val (.int (Int32.ofNat j)), .val (.int (Int32.ofNat i)), .unset] [(.int (1 : Int32))])
            refine GoH.step (fun t_ k_ => XS.istore X10.here hx rfl (hb hby at_193) rfl (l' := #[.val (.int p1), .val (.int p2), .val (.int p3), .val (.int p4), .val (.int p5), .val (.int nl), .val (.int kd), .val (.ref sp), .val (.ref ps), .val (.int (Int32.ofNat j)), .val (.int (Int32.ofNat i)), .val (.int (1 : Int32))]) rfl k_) ?_
            show GoH _ _ _ _ _ _ _ _ _ _ T10 (mkF m 195 #[.val (.int p1), .val (.int p2), .val (.int p3), .val (.int p4), .val (.int p5), .val (.int nl), .val (.int kd), .val (.ref sp), .val (.ref ps), .val (.int (Int32.ofNat j)), .val (.int (Int32.ofNat i)), .val (.int (1 : Int32))] [])
            refine GoH.step (fun t_ k_ => XS.aload X10.here hx rfl (hb hby at_195) rfl rfl k_) ?_
            show GoH _ _ _ _ _ _ _ _ _ _ T10 (mkF m 197 #[.val (.int p1), .val (.int p2), .val (.int p3), .val (.int p4), .val (.int p5), .val (.int nl), .val (.int kd), .val (.ref sp), .val (.ref ps), .val (.int (Int32.ofNat j)), .val (.int (Int32.ofNat i)), .val (.int (1 : Int32))] [(.ref ps)])
            obtain ⟨cq12, kq12, qa12, qb12, qc12⟩ := isOf hZ1 (e10) H_0
            obtain ⟨_, _, ⟨T12, L12, k12, n12⟩, -, X12, ⟨Lc12, hQ12, l12, y12, z12⟩, st12⟩ := X10.virtualBack hx (y := (⟨"com/example/affordance/affordance/PathSegments", "isLiteral", "()Z"⟩ : MethodName)) (z := (⟨"com/example/affordance/affordance/PathSegments", "isLiteral", "()Z"⟩ : MethodName)) hown1 (mvT hZ1 (hw _ (List.mem_of_getElem? (i := 53) rfl))) (mvT hZ1 (hw _ (List.mem_of_getElem? (i := 54) rfl))) (notFace_of_selects (args := #[]) (mvT hZ1 (hw _ (List.mem_of_getElem? (i := 56) rfl)))) (mvT hZ1 (hw _ (List.mem_of_getElem? (i := 56) rfl))) (mvT hZ1 (hw _ (List.mem_of_getElem? (i := 55) rfl))) (by decide) (backOf (W := 0) (rmIL l Z a0 hw [] ps (Int32.ofNat j) (Int32.ofNat i) (own_tpl cs j i) h n0 Zs1 H_2 H_3 H_4) hZ1 (hw _ (List.mem_of_getElem? (i := 57) rfl)) (hw _ (List.mem_of_getElem? (i := 32) rfl)) (by decide) (by decide)) qa12 qc12 (g := (mkF m 197 #[.val (.int p1), .val (.int p2), .val (.int p3), .val (.int p4), .val (.int p5), .val (.int nl), .val (.int kd), .val (.ref sp), .val (.ref ps), .val (.int (Int32.ofNat j)), .val (.int (Int32.ofNat i)), .val (.int (1 : Int32))] [(.ref ps)])) rfl (by rw [hml]; rfl) (Steps.refl _) (argsL := []) (rest := []) (lenOf pd_9 rfl) rfl (by show 2 * 0 + _ ≤ _; exact Nat.le_of_eq rfl) (hb hby at_197) (fun _ _ => ⟨rfl, (e10), (by decide : 20 + 0 + 0 + 0 + 0 + 0 + 0 + 0 ≤ _), (by decide : 200 + 0 + 0 + 0 + 0 + 0 + 0 + 0 ≤ _)⟩)
            dsimp only [Pt.U, Pt.locs, Pt.cells, Pt.slots] at X12 l12 y12 z12 st12 hQ12
            subst l12 y12 z12
            obtain ⟨rfl, N12q, e12⟩ := hQ12
            have N12 := Fr.app N10 N12q
            refine GoH.step (fun t_ k_ => st12.trans k_) ?_
            show GoH _ _ _ _ _ _ _ _ _ _ T12 (mkF m 200 #[.val (.int p1), .val (.int p2), .val (.int p3), .val (.int p4), .val (.int p5), .val (.int nl), .val (.int kd), .val (.ref sp), .val (.ref ps), .val (.int (Int32.ofNat j)), .val (.int (Int32.ofNat i)), .val (.int (1 : Int32))] [(.int (own_lit (Int32.ofNat j) (Int32.ofNat i) (own_tpl cs j i)))])
            refine GoH.step (fun t_ k_ => XS.iload X12.here hx rfl (hb hby at_200) rfl k_) ?_
            show GoH _ _ _ _ _ _ _ _ _ _ T12 (mkF m 202 #[.val (.int p1), .val (.int p2), .val (.int p3), .val (.int p4), .val (.int p5), .val (.int nl), .val (.int kd), .val (.ref sp), .val (.ref ps), .val (.int (Int32.ofNat j)), .val (.int (Int32.ofNat i)), .val (.int (1 : Int32))] [(.int (1 : Int32)), (.int (own_lit (Int32.ofNat j) (Int32.ofNat i) (own_tpl cs j i)))])
            have hb202_13 : (own_lit (Int32.ofNat j) (Int32.ofNat i) (own_tpl cs j i)) = (1 : Int32) := by rw [own_lit, if_pos hb133_3, own_all hlen hji hil hb146_5 hb159_7 hb172_9 hb185_11]; decide
            refine GoH.step (fun t_ k_ => XS.icmpNo X12.here hx rfl (hb hby at_202) rfl (XT.ii_ne_f hb202_13) k_) ?_
            show GoH _ _ _ _ _ _ _ _ _ _ T12 (mkF m 205 #[.val (.int p1), .val (.int p2), .val (.int p3), .val (.int p4), .val (.int p5), .val (.int nl), .val (.int kd), .val (.ref sp), .val (.ref ps), .val (.int (Int32.ofNat j)), .val (.int (Int32.ofNat i)), .val (.int (1 : Int32))] [])
            refine GoH.step (fun t_ k_ => XS.iconst X12.here hx rfl (hb hby at_205) k_) ?_
            show GoH _ _ _ _ _ _ _ _ _ _ T12 (mkF m 206 #[.val (.int p1), .val (.int p2), .val (.int p3), .val (.int p4), .val (.int p5), .val (.int nl), .val (.int kd), .val (.ref sp), .val (.ref ps), .val (.int (Int32.ofNat j)), .val (.int (Int32.ofNat i)), .val (.int (1 : Int32))] [(.int (1 : Int32))])
            refine GoH.step (fun t_ k_ => XS.goto X12.here hx rfl (pc0 := 206) (pc' := 210) rfl (hb hby at_206) (by decide) (by decide) k_) ?_
            show GoH _ _ _ _ _ _ _ _ _ _ T12 (mkF m 210 #[.val (.int p1), .val (.int p2), .val (.int p3), .val (.int p4), .val (.int p5), .val (.int nl), .val (.int kd), .val (.ref sp), .val (.ref ps), .val (.int (Int32.ofNat j)), .val (.int (Int32.ofNat i)), .val (.int (1 : Int32))] [(.int (1 : Int32))])
            have hkr : k0 ≤ T12.heap.size := by rw [(e12)]; exact hk1
            have hCr : CHr Z own_EL s.vm h0 vm0 T12.heap := by rw [(e12)]; exact C1
            refine GoH.ret X12 hx hlk hS1 hkr hZ1 hEL hCr hret rfl (Or.inl ⟨rfl, Or.inr (Or.inl rfl), _, rfl⟩) (hb hby at_210) ?_ (by decide) (by decide)
            show Q0 Z _ _ _ _ _ _ _ _ _ _ T12.heap _
            exact ⟨rfl, N12⟩
          · refine GoH.step (fun t_ k_ => XS.ifYes X10.here hx rfl (pc0 := 185) (pc' := 192) rfl (hb hby at_185) rfl (XT.i0_ne_t hb185_11) (by decide) (by decide) k_) ?_
            show GoH _ _ _ _ _ _ _ _ _ _ T10 (mkF m 192 #[.val (.int p1), .val (.int p2), .val (.int p3), .val (.int p4), .val (.int p5), .val (.int nl), .val (.int kd), .val (.ref sp), .val (.ref ps), .val (.int (Int32.ofNat j)), .val (.int (Int32.ofNat i)), .unset] [])
            refine GoH.step (fun t_ k_ => XS.iconst X10.here hx rfl (hb hby at_192) k_) ?_
            show GoH _ _ _ _ _ _ _ _ _ _ T10 (mkF m 193 #[.val (.int p1), .val (.int p2), .val (.int p3), .val (.int p4), .val (.int p5), .val (.int nl), .val (.int kd), .val (.ref sp), .val (.ref ps), .val (.int (Int32.ofNat j)), .val (.int (Int32.ofNat i)), .unset] [(.int (0 : Int32))])
            refine GoH.step (fun t_ k_ => XS.istore X10.here hx rfl (hb hby at_193) rfl (l' := #[.val (.int p1), .val (.int p2), .val (.int p3), .val (.int p4), .val (.int p5), .val (.int nl), .val (.int kd), .val (.ref sp), .val (.ref ps), .val (.int (Int32.ofNat j)), .val (.int (Int32.ofNat i)), .val (.int (0 : Int32))]) rfl k_) ?_
            show GoH _ _ _ _ _ _ _ _ _ _ T10 (mkF m 195 #[.val (.int p1), .val (.int p2), .val (.int p3), .val (.int p4), .val (.int p5), .val (.int nl), .val (.int kd), .val (.ref sp), .val (.ref ps), .val (.int (Int32.ofNat j)), .val (.int (Int32.ofNat i)), .val (.int (0 : Int32))] [])
            refine GoH.step (fun t_ k_ => XS.aload X10.here hx rfl (hb hby at_195) rfl rfl k_) ?_
            show GoH _ _ _ _ _ _ _ _ _ _ T10 (mkF m 197 #[.val (.int p1), .val (.int p2), .val (.int p3), .val (.int p4), .val (.int p5), .val (.int nl), .val (.int kd), .val (.ref sp), .val (.ref ps), .val (.int (Int32.ofNat j)), .val (.int (Int32.ofNat i)), .val (.int (0 : Int32))] [(.ref ps)])
            obtain ⟨cq14, kq14, qa14, qb14, qc14⟩ := isOf hZ1 (e10) H_0
            obtain ⟨_, _, ⟨T14, L14, k14, n14⟩, -, X14, ⟨Lc14, hQ14, l14, y14, z14⟩, st14⟩ := X10.virtualBack hx (y := (⟨"com/example/affordance/affordance/PathSegments", "isLiteral", "()Z"⟩ : MethodName)) (z := (⟨"com/example/affordance/affordance/PathSegments", "isLiteral", "()Z"⟩ : MethodName)) hown1 (mvT hZ1 (hw _ (List.mem_of_getElem? (i := 53) rfl))) (mvT hZ1 (hw _ (List.mem_of_getElem? (i := 54) rfl))) (notFace_of_selects (args := #[]) (mvT hZ1 (hw _ (List.mem_of_getElem? (i := 56) rfl)))) (mvT hZ1 (hw _ (List.mem_of_getElem? (i := 56) rfl))) (mvT hZ1 (hw _ (List.mem_of_getElem? (i := 55) rfl))) (by decide) (backOf (W := 0) (rmIL l Z a0 hw [] ps (Int32.ofNat j) (Int32.ofNat i) (own_tpl cs j i) h n0 Zs1 H_2 H_3 H_4) hZ1 (hw _ (List.mem_of_getElem? (i := 57) rfl)) (hw _ (List.mem_of_getElem? (i := 32) rfl)) (by decide) (by decide)) qa14 qc14 (g := (mkF m 197 #[.val (.int p1), .val (.int p2), .val (.int p3), .val (.int p4), .val (.int p5), .val (.int nl), .val (.int kd), .val (.ref sp), .val (.ref ps), .val (.int (Int32.ofNat j)), .val (.int (Int32.ofNat i)), .val (.int (0 : Int32))] [(.ref ps)])) rfl (by rw [hml]; rfl) (Steps.refl _) (argsL := []) (rest := []) (lenOf pd_9 rfl) rfl (by show 2 * 0 + _ ≤ _; exact Nat.le_of_eq rfl) (hb hby at_197) (fun _ _ => ⟨rfl, (e10), (by decide : 20 + 0 + 0 + 0 + 0 + 0 + 0 + 0 ≤ _), (by decide : 200 + 0 + 0 + 0 + 0 + 0 + 0 + 0 ≤ _)⟩)
            dsimp only [Pt.U, Pt.locs, Pt.cells, Pt.slots] at X14 l14 y14 z14 st14 hQ14
            subst l14 y14 z14
            obtain ⟨rfl, N14q, e14⟩ := hQ14
            have N14 := Fr.app N10 N14q
            refine GoH.step (fun t_ k_ => st14.trans k_) ?_
            show GoH _ _ _ _ _ _ _ _ _ _ T14 (mkF m 200 #[.val (.int p1), .val (.int p2), .val (.int p3), .val (.int p4), .val (.int p5), .val (.int nl), .val (.int kd), .val (.ref sp), .val (.ref ps), .val (.int (Int32.ofNat j)), .val (.int (Int32.ofNat i)), .val (.int (0 : Int32))] [(.int (own_lit (Int32.ofNat j) (Int32.ofNat i) (own_tpl cs j i)))])
            refine GoH.step (fun t_ k_ => XS.iload X14.here hx rfl (hb hby at_200) rfl k_) ?_
            show GoH _ _ _ _ _ _ _ _ _ _ T14 (mkF m 202 #[.val (.int p1), .val (.int p2), .val (.int p3), .val (.int p4), .val (.int p5), .val (.int nl), .val (.int kd), .val (.ref sp), .val (.ref ps), .val (.int (Int32.ofNat j)), .val (.int (Int32.ofNat i)), .val (.int (0 : Int32))] [(.int (0 : Int32)), (.int (own_lit (Int32.ofNat j) (Int32.ofNat i) (own_tpl cs j i)))])
            have hb202_15 : (own_lit (Int32.ofNat j) (Int32.ofNat i) (own_tpl cs j i)) = (0 : Int32) := by rw [own_lit, if_pos hb133_3, own_br_one (by decide) (by omega) (by omega) hb185_11]; decide
            refine GoH.step (fun t_ k_ => XS.icmpNo X14.here hx rfl (hb hby at_202) rfl (XT.ii_ne_f hb202_15) k_) ?_
            show GoH _ _ _ _ _ _ _ _ _ _ T14 (mkF m 205 #[.val (.int p1), .val (.int p2), .val (.int p3), .val (.int p4), .val (.int p5), .val (.int nl), .val (.int kd), .val (.ref sp), .val (.ref ps), .val (.int (Int32.ofNat j)), .val (.int (Int32.ofNat i)), .val (.int (0 : Int32))] [])
            refine GoH.step (fun t_ k_ => XS.iconst X14.here hx rfl (hb hby at_205) k_) ?_
            show GoH _ _ _ _ _ _ _ _ _ _ T14 (mkF m 206 #[.val (.int p1), .val (.int p2), .val (.int p3), .val (.int p4), .val (.int p5), .val (.int nl), .val (.int kd), .val (.ref sp), .val (.ref ps), .val (.int (Int32.ofNat j)), .val (.int (Int32.ofNat i)), .val (.int (0 : Int32))] [(.int (1 : Int32))])
            refine GoH.step (fun t_ k_ => XS.goto X14.here hx rfl (pc0 := 206) (pc' := 210) rfl (hb hby at_206) (by decide) (by decide) k_) ?_
            show GoH _ _ _ _ _ _ _ _ _ _ T14 (mkF m 210 #[.val (.int p1), .val (.int p2), .val (.int p3), .val (.int p4), .val (.int p5), .val (.int nl), .val (.int kd), .val (.ref sp), .val (.ref ps), .val (.int (Int32.ofNat j)), .val (.int (Int32.ofNat i)), .val (.int (0 : Int32))] [(.int (1 : Int32))])
            have hkr : k0 ≤ T14.heap.size := by rw [(e14)]; exact hk1
            have hCr : CHr Z own_EL s.vm h0 vm0 T14.heap := by rw [(e14)]; exact C1
            refine GoH.ret X14 hx hlk hS1 hkr hZ1 hEL hCr hret rfl (Or.inl ⟨rfl, Or.inr (Or.inl rfl), _, rfl⟩) (hb hby at_210) ?_ (by decide) (by decide)
            show Q0 Z _ _ _ _ _ _ _ _ _ _ T14.heap _
            exact ⟨rfl, N14⟩
        · refine GoH.step (fun t_ k_ => XS.ifYes X8.here hx rfl (pc0 := 172) (pc' := 192) rfl (hb hby at_172) rfl (XT.i0_ne_t hb172_9) (by decide) (by decide) k_) ?_
          show GoH _ _ _ _ _ _ _ _ _ _ T8 (mkF m 192 #[.val (.int p1), .val (.int p2), .val (.int p3), .val (.int p4), .val (.int p5), .val (.int nl), .val (.int kd), .val (.ref sp), .val (.ref ps), .val (.int (Int32.ofNat j)), .val (.int (Int32.ofNat i)), .unset] [])
          refine GoH.step (fun t_ k_ => XS.iconst X8.here hx rfl (hb hby at_192) k_) ?_
          show GoH _ _ _ _ _ _ _ _ _ _ T8 (mkF m 193 #[.val (.int p1), .val (.int p2), .val (.int p3), .val (.int p4), .val (.int p5), .val (.int nl), .val (.int kd), .val (.ref sp), .val (.ref ps), .val (.int (Int32.ofNat j)), .val (.int (Int32.ofNat i)), .unset] [(.int (0 : Int32))])
          refine GoH.step (fun t_ k_ => XS.istore X8.here hx rfl (hb hby at_193) rfl (l' := #[.val (.int p1), .val (.int p2), .val (.int p3), .val (.int p4), .val (.int p5), .val (.int nl), .val (.int kd), .val (.ref sp), .val (.ref ps), .val (.int (Int32.ofNat j)), .val (.int (Int32.ofNat i)), .val (.int (0 : Int32))]) rfl k_) ?_
          show GoH _ _ _ _ _ _ _ _ _ _ T8 (mkF m 195 #[.val (.int p1), .val (.int p2), .val (.int p3), .val (.int p4), .val (.int p5), .val (.int nl), .val (.int kd), .val (.ref sp), .val (.ref ps), .val (.int (Int32.ofNat j)), .val (.int (Int32.ofNat i)), .val (.int (0 : Int32))] [])
          refine GoH.step (fun t_ k_ => XS.aload X8.here hx rfl (hb hby at_195) rfl rfl k_) ?_
          show GoH _ _ _ _ _ _ _ _ _ _ T8 (mkF m 197 #[.val (.int p1), .val (.int p2), .val (.int p3), .val (.int p4), .val (.int p5), .val (.int nl), .val (.int kd), .val (.ref sp), .val (.ref ps), .val (.int (Int32.ofNat j)), .val (.int (Int32.ofNat i)), .val (.int (0 : Int32))] [(.ref ps)])
          obtain ⟨cq16, kq16, qa16, qb16, qc16⟩ := isOf hZ1 (e8) H_0
          obtain ⟨_, _, ⟨T16, L16, k16, n16⟩, -, X16, ⟨Lc16, hQ16, l16, y16, z16⟩, st16⟩ := X8.virtualBack hx (y := (⟨"com/example/affordance/affordance/PathSegments", "isLiteral", "()Z"⟩ : MethodName)) (z := (⟨"com/example/affordance/affordance/PathSegments", "isLiteral", "()Z"⟩ : MethodName)) hown1 (mvT hZ1 (hw _ (List.mem_of_getElem? (i := 53) rfl))) (mvT hZ1 (hw _ (List.mem_of_getElem? (i := 54) rfl))) (notFace_of_selects (args := #[]) (mvT hZ1 (hw _ (List.mem_of_getElem? (i := 56) rfl)))) (mvT hZ1 (hw _ (List.mem_of_getElem? (i := 56) rfl))) (mvT hZ1 (hw _ (List.mem_of_getElem? (i := 55) rfl))) (by decide) (backOf (W := 0) (rmIL l Z a0 hw [] ps (Int32.ofNat j) (Int32.ofNat i) (own_tpl cs j i) h n0 Zs1 H_2 H_3 H_4) hZ1 (hw _ (List.mem_of_getElem? (i := 57) rfl)) (hw _ (List.mem_of_getElem? (i := 32) rfl)) (by decide) (by decide)) qa16 qc16 (g := (mkF m 197 #[.val (.int p1), .val (.int p2), .val (.int p3), .val (.int p4), .val (.int p5), .val (.int nl), .val (.int kd), .val (.ref sp), .val (.ref ps), .val (.int (Int32.ofNat j)), .val (.int (Int32.ofNat i)), .val (.int (0 : Int32))] [(.ref ps)])) rfl (by rw [hml]; rfl) (Steps.refl _) (argsL := []) (rest := []) (lenOf pd_9 rfl) rfl (by show 2 * 0 + _ ≤ _; exact Nat.le_of_eq rfl) (hb hby at_197) (fun _ _ => ⟨rfl, (e8), (by decide : 20 + 0 + 0 + 0 + 0 + 0 + 0 ≤ _), (by decide : 200 + 0 + 0 + 0 + 0 + 0 + 0 ≤ _)⟩)
          dsimp only [Pt.U, Pt.locs, Pt.cells, Pt.slots] at X16 l16 y16 z16 st16 hQ16
          subst l16 y16 z16
          obtain ⟨rfl, N16q, e16⟩ := hQ16
          have N16 := Fr.app N8 N16q
          refine GoH.step (fun t_ k_ => st16.trans k_) ?_
          show GoH _ _ _ _ _ _ _ _ _ _ T16 (mkF m 200 #[.val (.int p1), .val (.int p2), .val (.int p3), .val (.int p4), .val (.int p5), .val (.int nl), .val (.int kd), .val (.ref sp), .val (.ref ps), .val (.int (Int32.ofNat j)), .val (.int (Int32.ofNat i)), .val (.int (0 : Int32))] [(.int (own_lit (Int32.ofNat j) (Int32.ofNat i) (own_tpl cs j i)))])
          refine GoH.step (fun t_ k_ => XS.iload X16.here hx rfl (hb hby at_200) rfl k_) ?_
          show GoH _ _ _ _ _ _ _ _ _ _ T16 (mkF m 202 #[.val (.int p1), .val (.int p2), .val (.int p3), .val (.int p4), .val (.int p5), .val (.int nl), .val (.int kd), .val (.ref sp), .val (.ref ps), .val (.int (Int32.ofNat j)), .val (.int (Int32.ofNat i)), .val (.int (0 : Int32))] [(.int (0 : Int32)), (.int (own_lit (Int32.ofNat j) (Int32.ofNat i) (own_tpl cs j i)))])
          have hb202_17 : (own_lit (Int32.ofNat j) (Int32.ofNat i) (own_tpl cs j i)) = (0 : Int32) := by rw [own_lit, if_pos hb133_3, own_br_one (by decide) (by omega) (by omega) hb172_9]; decide
          refine GoH.step (fun t_ k_ => XS.icmpNo X16.here hx rfl (hb hby at_202) rfl (XT.ii_ne_f hb202_17) k_) ?_
          show GoH _ _ _ _ _ _ _ _ _ _ T16 (mkF m 205 #[.val (.int p1), .val (.int p2), .val (.int p3), .val (.int p4), .val (.int p5), .val (.int nl), .val (.int kd), .val (.ref sp), .val (.ref ps), .val (.int (Int32.ofNat j)), .val (.int (Int32.ofNat i)), .val (.int (0 : Int32))] [])
          refine GoH.step (fun t_ k_ => XS.iconst X16.here hx rfl (hb hby at_205) k_) ?_
          show GoH _ _ _ _ _ _ _ _ _ _ T16 (mkF m 206 #[.val (.int p1), .val (.int p2), .val (.int p3), .val (.int p4), .val (.int p5), .val (.int nl), .val (.int kd), .val (.ref sp), .val (.ref ps), .val (.int (Int32.ofNat j)), .val (.int (Int32.ofNat i)), .val (.int (0 : Int32))] [(.int (1 : Int32))])
          refine GoH.step (fun t_ k_ => XS.goto X16.here hx rfl (pc0 := 206) (pc' := 210) rfl (hb hby at_206) (by decide) (by decide) k_) ?_
          show GoH _ _ _ _ _ _ _ _ _ _ T16 (mkF m 210 #[.val (.int p1), .val (.int p2), .val (.int p3), .val (.int p4), .val (.int p5), .val (.int nl), .val (.int kd), .val (.ref sp), .val (.ref ps), .val (.int (Int32.ofNat j)), .val (.int (Int32.ofNat i)), .val (.int (0 : Int32))] [(.int (1 : Int32))])
          have hkr : k0 ≤ T16.heap.size := by rw [(e16)]; exact hk1
          have hCr : CHr Z own_EL s.vm h0 vm0 T16.heap := by rw [(e16)]; exact C1
          refine GoH.ret X16 hx hlk hS1 hkr hZ1 hEL hCr hret rfl (Or.inl ⟨rfl, Or.inr (Or.inl rfl), _, rfl⟩) (hb hby at_210) ?_ (by decide) (by decide)
          show Q0 Z _ _ _ _ _ _ _ _ _ _ T16.heap _
          exact ⟨rfl, N16⟩
      · refine GoH.step (fun t_ k_ => XS.ifYes X6.here hx rfl (pc0 := 159) (pc' := 192) rfl (hb hby at_159) rfl (XT.i0_ne_t hb159_7) (by decide) (by decide) k_) ?_
        show GoH _ _ _ _ _ _ _ _ _ _ T6 (mkF m 192 #[.val (.int p1), .val (.int p2), .val (.int p3), .val (.int p4), .val (.int p5), .val (.int nl), .val (.int kd), .val (.ref sp), .val (.ref ps), .val (.int (Int32.ofNat j)), .val (.int (Int32.ofNat i)), .unset] [])
        refine GoH.step (fun t_ k_ => XS.iconst X6.here hx rfl (hb hby at_192) k_) ?_
        show GoH _ _ _ _ _ _ _ _ _ _ T6 (mkF m 193 #[.val (.int p1), .val (.int p2), .val (.int p3), .val (.int p4), .val (.int p5), .val (.int nl), .val (.int kd), .val (.ref sp), .val (.ref ps), .val (.int (Int32.ofNat j)), .val (.int (Int32.ofNat i)), .unset] [(.int (0 : Int32))])
        refine GoH.step (fun t_ k_ => XS.istore X6.here hx rfl (hb hby at_193) rfl (l' := #[.val (.int p1), .val (.int p2), .val (.int p3), .val (.int p4), .val (.int p5), .val (.int nl), .val (.int kd), .val (.ref sp), .val (.ref ps), .val (.int (Int32.ofNat j)), .val (.int (Int32.ofNat i)), .val (.int (0 : Int32))]) rfl k_) ?_
        show GoH _ _ _ _ _ _ _ _ _ _ T6 (mkF m 195 #[.val (.int p1), .val (.int p2), .val (.int p3), .val (.int p4), .val (.int p5), .val (.int nl), .val (.int kd), .val (.ref sp), .val (.ref ps), .val (.int (Int32.ofNat j)), .val (.int (Int32.ofNat i)), .val (.int (0 : Int32))] [])
        refine GoH.step (fun t_ k_ => XS.aload X6.here hx rfl (hb hby at_195) rfl rfl k_) ?_
        show GoH _ _ _ _ _ _ _ _ _ _ T6 (mkF m 197 #[.val (.int p1), .val (.int p2), .val (.int p3), .val (.int p4), .val (.int p5), .val (.int nl), .val (.int kd), .val (.ref sp), .val (.ref ps), .val (.int (Int32.ofNat j)), .val (.int (Int32.ofNat i)), .val (.int (0 : Int32))] [(.ref ps)])
        obtain ⟨cq18, kq18, qa18, qb18, qc18⟩ := isOf hZ1 (e6) H_0
        obtain ⟨_, _, ⟨T18, L18, k18, n18⟩, -, X18, ⟨Lc18, hQ18, l18, y18, z18⟩, st18⟩ := X6.virtualBack hx (y := (⟨"com/example/affordance/affordance/PathSegments", "isLiteral", "()Z"⟩ : MethodName)) (z := (⟨"com/example/affordance/affordance/PathSegments", "isLiteral", "()Z"⟩ : MethodName)) hown1 (mvT hZ1 (hw _ (List.mem_of_getElem? (i := 53) rfl))) (mvT hZ1 (hw _ (List.mem_of_getElem? (i := 54) rfl))) (notFace_of_selects (args := #[]) (mvT hZ1 (hw _ (List.mem_of_getElem? (i := 56) rfl)))) (mvT hZ1 (hw _ (List.mem_of_getElem? (i := 56) rfl))) (mvT hZ1 (hw _ (List.mem_of_getElem? (i := 55) rfl))) (by decide) (backOf (W := 0) (rmIL l Z a0 hw [] ps (Int32.ofNat j) (Int32.ofNat i) (own_tpl cs j i) h n0 Zs1 H_2 H_3 H_4) hZ1 (hw _ (List.mem_of_getElem? (i := 57) rfl)) (hw _ (List.mem_of_getElem? (i := 32) rfl)) (by decide) (by decide)) qa18 qc18 (g := (mkF m 197 #[.val (.int p1), .val (.int p2), .val (.int p3), .val (.int p4), .val (.int p5), .val (.int nl), .val (.int kd), .val (.ref sp), .val (.ref ps), .val (.int (Int32.ofNat j)), .val (.int (Int32.ofNat i)), .val (.int (0 : Int32))] [(.ref ps)])) rfl (by rw [hml]; rfl) (Steps.refl _) (argsL := []) (rest := []) (lenOf pd_9 rfl) rfl (by show 2 * 0 + _ ≤ _; exact Nat.le_of_eq rfl) (hb hby at_197) (fun _ _ => ⟨rfl, (e6), (by decide : 20 + 0 + 0 + 0 + 0 + 0 ≤ _), (by decide : 200 + 0 + 0 + 0 + 0 + 0 ≤ _)⟩)
        dsimp only [Pt.U, Pt.locs, Pt.cells, Pt.slots] at X18 l18 y18 z18 st18 hQ18
        subst l18 y18 z18
        obtain ⟨rfl, N18q, e18⟩ := hQ18
        have N18 := Fr.app N6 N18q
        refine GoH.step (fun t_ k_ => st18.trans k_) ?_
        show GoH _ _ _ _ _ _ _ _ _ _ T18 (mkF m 200 #[.val (.int p1), .val (.int p2), .val (.int p3), .val (.int p4), .val (.int p5), .val (.int nl), .val (.int kd), .val (.ref sp), .val (.ref ps), .val (.int (Int32.ofNat j)), .val (.int (Int32.ofNat i)), .val (.int (0 : Int32))] [(.int (own_lit (Int32.ofNat j) (Int32.ofNat i) (own_tpl cs j i)))])
        refine GoH.step (fun t_ k_ => XS.iload X18.here hx rfl (hb hby at_200) rfl k_) ?_
        show GoH _ _ _ _ _ _ _ _ _ _ T18 (mkF m 202 #[.val (.int p1), .val (.int p2), .val (.int p3), .val (.int p4), .val (.int p5), .val (.int nl), .val (.int kd), .val (.ref sp), .val (.ref ps), .val (.int (Int32.ofNat j)), .val (.int (Int32.ofNat i)), .val (.int (0 : Int32))] [(.int (0 : Int32)), (.int (own_lit (Int32.ofNat j) (Int32.ofNat i) (own_tpl cs j i)))])
        have hb202_19 : (own_lit (Int32.ofNat j) (Int32.ofNat i) (own_tpl cs j i)) = (0 : Int32) := by rw [own_lit, if_pos hb133_3, own_br_one (by decide) (by omega) (by omega) hb159_7]; decide
        refine GoH.step (fun t_ k_ => XS.icmpNo X18.here hx rfl (hb hby at_202) rfl (XT.ii_ne_f hb202_19) k_) ?_
        show GoH _ _ _ _ _ _ _ _ _ _ T18 (mkF m 205 #[.val (.int p1), .val (.int p2), .val (.int p3), .val (.int p4), .val (.int p5), .val (.int nl), .val (.int kd), .val (.ref sp), .val (.ref ps), .val (.int (Int32.ofNat j)), .val (.int (Int32.ofNat i)), .val (.int (0 : Int32))] [])
        refine GoH.step (fun t_ k_ => XS.iconst X18.here hx rfl (hb hby at_205) k_) ?_
        show GoH _ _ _ _ _ _ _ _ _ _ T18 (mkF m 206 #[.val (.int p1), .val (.int p2), .val (.int p3), .val (.int p4), .val (.int p5), .val (.int nl), .val (.int kd), .val (.ref sp), .val (.ref ps), .val (.int (Int32.ofNat j)), .val (.int (Int32.ofNat i)), .val (.int (0 : Int32))] [(.int (1 : Int32))])
        refine GoH.step (fun t_ k_ => XS.goto X18.here hx rfl (pc0 := 206) (pc' := 210) rfl (hb hby at_206) (by decide) (by decide) k_) ?_
        show GoH _ _ _ _ _ _ _ _ _ _ T18 (mkF m 210 #[.val (.int p1), .val (.int p2), .val (.int p3), .val (.int p4), .val (.int p5), .val (.int nl), .val (.int kd), .val (.ref sp), .val (.ref ps), .val (.int (Int32.ofNat j)), .val (.int (Int32.ofNat i)), .val (.int (0 : Int32))] [(.int (1 : Int32))])
        have hkr : k0 ≤ T18.heap.size := by rw [(e18)]; exact hk1
        have hCr : CHr Z own_EL s.vm h0 vm0 T18.heap := by rw [(e18)]; exact C1
        refine GoH.ret X18 hx hlk hS1 hkr hZ1 hEL hCr hret rfl (Or.inl ⟨rfl, Or.inr (Or.inl rfl), _, rfl⟩) (hb hby at_210) ?_ (by decide) (by decide)
        show Q0 Z _ _ _ _ _ _ _ _ _ _ T18.heap _
        exact ⟨rfl, N18⟩
    · refine GoH.step (fun t_ k_ => XS.ifYes X4.here hx rfl (pc0 := 146) (pc' := 192) rfl (hb hby at_146) rfl (XT.i0_ne_t hb146_5) (by decide) (by decide) k_) ?_
      show GoH _ _ _ _ _ _ _ _ _ _ T4 (mkF m 192 #[.val (.int p1), .val (.int p2), .val (.int p3), .val (.int p4), .val (.int p5), .val (.int nl), .val (.int kd), .val (.ref sp), .val (.ref ps), .val (.int (Int32.ofNat j)), .val (.int (Int32.ofNat i)), .unset] [])
      refine GoH.step (fun t_ k_ => XS.iconst X4.here hx rfl (hb hby at_192) k_) ?_
      show GoH _ _ _ _ _ _ _ _ _ _ T4 (mkF m 193 #[.val (.int p1), .val (.int p2), .val (.int p3), .val (.int p4), .val (.int p5), .val (.int nl), .val (.int kd), .val (.ref sp), .val (.ref ps), .val (.int (Int32.ofNat j)), .val (.int (Int32.ofNat i)), .unset] [(.int (0 : Int32))])
      refine GoH.step (fun t_ k_ => XS.istore X4.here hx rfl (hb hby at_193) rfl (l' := #[.val (.int p1), .val (.int p2), .val (.int p3), .val (.int p4), .val (.int p5), .val (.int nl), .val (.int kd), .val (.ref sp), .val (.ref ps), .val (.int (Int32.ofNat j)), .val (.int (Int32.ofNat i)), .val (.int (0 : Int32))]) rfl k_) ?_
      show GoH _ _ _ _ _ _ _ _ _ _ T4 (mkF m 195 #[.val (.int p1), .val (.int p2), .val (.int p3), .val (.int p4), .val (.int p5), .val (.int nl), .val (.int kd), .val (.ref sp), .val (.ref ps), .val (.int (Int32.ofNat j)), .val (.int (Int32.ofNat i)), .val (.int (0 : Int32))] [])
      refine GoH.step (fun t_ k_ => XS.aload X4.here hx rfl (hb hby at_195) rfl rfl k_) ?_
      show GoH _ _ _ _ _ _ _ _ _ _ T4 (mkF m 197 #[.val (.int p1), .val (.int p2), .val (.int p3), .val (.int p4), .val (.int p5), .val (.int nl), .val (.int kd), .val (.ref sp), .val (.ref ps), .val (.int (Int32.ofNat j)), .val (.int (Int32.ofNat i)), .val (.int (0 : Int32))] [(.ref ps)])
      obtain ⟨cq20, kq20, qa20, qb20, qc20⟩ := isOf hZ1 (e4) H_0
      obtain ⟨_, _, ⟨T20, L20, k20, n20⟩, -, X20, ⟨Lc20, hQ20, l20, y20, z20⟩, st20⟩ := X4.virtualBack hx (y := (⟨"com/example/affordance/affordance/PathSegments", "isLiteral", "()Z"⟩ : MethodName)) (z := (⟨"com/example/affordance/affordance/PathSegments", "isLiteral", "()Z"⟩ : MethodName)) hown1 (mvT hZ1 (hw _ (List.mem_of_getElem? (i := 53) rfl))) (mvT hZ1 (hw _ (List.mem_of_getElem? (i := 54) rfl))) (notFace_of_selects (args := #[]) (mvT hZ1 (hw _ (List.mem_of_getElem? (i := 56) rfl)))) (mvT hZ1 (hw _ (List.mem_of_getElem? (i := 56) rfl))) (mvT hZ1 (hw _ (List.mem_of_getElem? (i := 55) rfl))) (by decide) (backOf (W := 0) (rmIL l Z a0 hw [] ps (Int32.ofNat j) (Int32.ofNat i) (own_tpl cs j i) h n0 Zs1 H_2 H_3 H_4) hZ1 (hw _ (List.mem_of_getElem? (i := 57) rfl)) (hw _ (List.mem_of_getElem? (i := 32) rfl)) (by decide) (by decide)) qa20 qc20 (g := (mkF m 197 #[.val (.int p1), .val (.int p2), .val (.int p3), .val (.int p4), .val (.int p5), .val (.int nl), .val (.int kd), .val (.ref sp), .val (.ref ps), .val (.int (Int32.ofNat j)), .val (.int (Int32.ofNat i)), .val (.int (0 : Int32))] [(.ref ps)])) rfl (by rw [hml]; rfl) (Steps.refl _) (argsL := []) (rest := []) (lenOf pd_9 rfl) rfl (by show 2 * 0 + _ ≤ _; exact Nat.le_of_eq rfl) (hb hby at_197) (fun _ _ => ⟨rfl, (e4), (by decide : 20 + 0 + 0 + 0 + 0 ≤ _), (by decide : 200 + 0 + 0 + 0 + 0 ≤ _)⟩)
      dsimp only [Pt.U, Pt.locs, Pt.cells, Pt.slots] at X20 l20 y20 z20 st20 hQ20
      subst l20 y20 z20
      obtain ⟨rfl, N20q, e20⟩ := hQ20
      have N20 := Fr.app N4 N20q
      refine GoH.step (fun t_ k_ => st20.trans k_) ?_
      show GoH _ _ _ _ _ _ _ _ _ _ T20 (mkF m 200 #[.val (.int p1), .val (.int p2), .val (.int p3), .val (.int p4), .val (.int p5), .val (.int nl), .val (.int kd), .val (.ref sp), .val (.ref ps), .val (.int (Int32.ofNat j)), .val (.int (Int32.ofNat i)), .val (.int (0 : Int32))] [(.int (own_lit (Int32.ofNat j) (Int32.ofNat i) (own_tpl cs j i)))])
      refine GoH.step (fun t_ k_ => XS.iload X20.here hx rfl (hb hby at_200) rfl k_) ?_
      show GoH _ _ _ _ _ _ _ _ _ _ T20 (mkF m 202 #[.val (.int p1), .val (.int p2), .val (.int p3), .val (.int p4), .val (.int p5), .val (.int nl), .val (.int kd), .val (.ref sp), .val (.ref ps), .val (.int (Int32.ofNat j)), .val (.int (Int32.ofNat i)), .val (.int (0 : Int32))] [(.int (0 : Int32)), (.int (own_lit (Int32.ofNat j) (Int32.ofNat i) (own_tpl cs j i)))])
      have hb202_21 : (own_lit (Int32.ofNat j) (Int32.ofNat i) (own_tpl cs j i)) = (0 : Int32) := by rw [own_lit, if_pos hb133_3, own_br_one (by decide) (by omega) (by omega) hb146_5]; decide
      refine GoH.step (fun t_ k_ => XS.icmpNo X20.here hx rfl (hb hby at_202) rfl (XT.ii_ne_f hb202_21) k_) ?_
      show GoH _ _ _ _ _ _ _ _ _ _ T20 (mkF m 205 #[.val (.int p1), .val (.int p2), .val (.int p3), .val (.int p4), .val (.int p5), .val (.int nl), .val (.int kd), .val (.ref sp), .val (.ref ps), .val (.int (Int32.ofNat j)), .val (.int (Int32.ofNat i)), .val (.int (0 : Int32))] [])
      refine GoH.step (fun t_ k_ => XS.iconst X20.here hx rfl (hb hby at_205) k_) ?_
      show GoH _ _ _ _ _ _ _ _ _ _ T20 (mkF m 206 #[.val (.int p1), .val (.int p2), .val (.int p3), .val (.int p4), .val (.int p5), .val (.int nl), .val (.int kd), .val (.ref sp), .val (.ref ps), .val (.int (Int32.ofNat j)), .val (.int (Int32.ofNat i)), .val (.int (0 : Int32))] [(.int (1 : Int32))])
      refine GoH.step (fun t_ k_ => XS.goto X20.here hx rfl (pc0 := 206) (pc' := 210) rfl (hb hby at_206) (by decide) (by decide) k_) ?_
      show GoH _ _ _ _ _ _ _ _ _ _ T20 (mkF m 210 #[.val (.int p1), .val (.int p2), .val (.int p3), .val (.int p4), .val (.int p5), .val (.int nl), .val (.int kd), .val (.ref sp), .val (.ref ps), .val (.int (Int32.ofNat j)), .val (.int (Int32.ofNat i)), .val (.int (0 : Int32))] [(.int (1 : Int32))])
      have hkr : k0 ≤ T20.heap.size := by rw [(e20)]; exact hk1
      have hCr : CHr Z own_EL s.vm h0 vm0 T20.heap := by rw [(e20)]; exact C1
      refine GoH.ret X20 hx hlk hS1 hkr hZ1 hEL hCr hret rfl (Or.inl ⟨rfl, Or.inr (Or.inl rfl), _, rfl⟩) (hb hby at_210) ?_ (by decide) (by decide)
      show Q0 Z _ _ _ _ _ _ _ _ _ _ T20.heap _
      exact ⟨rfl, N20⟩
  · refine GoH.step (fun t_ k_ => XS.icmpYes X2.here hx rfl (pc0 := 133) (pc' := 192) rfl (hb hby at_133) rfl (XT.ii_le_t hb133_3) (by decide) (by decide) k_) ?_
    show GoH _ _ _ _ _ _ _ _ _ _ T2 (mkF m 192 #[.val (.int p1), .val (.int p2), .val (.int p3), .val (.int p4), .val (.int p5), .val (.int nl), .val (.int kd), .val (.ref sp), .val (.ref ps), .val (.int (Int32.ofNat j)), .val (.int (Int32.ofNat i)), .unset] [])
    refine GoH.step (fun t_ k_ => XS.iconst X2.here hx rfl (hb hby at_192) k_) ?_
    show GoH _ _ _ _ _ _ _ _ _ _ T2 (mkF m 193 #[.val (.int p1), .val (.int p2), .val (.int p3), .val (.int p4), .val (.int p5), .val (.int nl), .val (.int kd), .val (.ref sp), .val (.ref ps), .val (.int (Int32.ofNat j)), .val (.int (Int32.ofNat i)), .unset] [(.int (0 : Int32))])
    refine GoH.step (fun t_ k_ => XS.istore X2.here hx rfl (hb hby at_193) rfl (l' := #[.val (.int p1), .val (.int p2), .val (.int p3), .val (.int p4), .val (.int p5), .val (.int nl), .val (.int kd), .val (.ref sp), .val (.ref ps), .val (.int (Int32.ofNat j)), .val (.int (Int32.ofNat i)), .val (.int (0 : Int32))]) rfl k_) ?_
    show GoH _ _ _ _ _ _ _ _ _ _ T2 (mkF m 195 #[.val (.int p1), .val (.int p2), .val (.int p3), .val (.int p4), .val (.int p5), .val (.int nl), .val (.int kd), .val (.ref sp), .val (.ref ps), .val (.int (Int32.ofNat j)), .val (.int (Int32.ofNat i)), .val (.int (0 : Int32))] [])
    refine GoH.step (fun t_ k_ => XS.aload X2.here hx rfl (hb hby at_195) rfl rfl k_) ?_
    show GoH _ _ _ _ _ _ _ _ _ _ T2 (mkF m 197 #[.val (.int p1), .val (.int p2), .val (.int p3), .val (.int p4), .val (.int p5), .val (.int nl), .val (.int kd), .val (.ref sp), .val (.ref ps), .val (.int (Int32.ofNat j)), .val (.int (Int32.ofNat i)), .val (.int (0 : Int32))] [(.ref ps)])
    obtain ⟨cq22, kq22, qa22, qb22, qc22⟩ := isOf hZ1 (e2) H_0
    obtain ⟨_, _, ⟨T22, L22, k22, n22⟩, -, X22, ⟨Lc22, hQ22, l22, y22, z22⟩, st22⟩ := X2.virtualBack hx (y := (⟨"com/example/affordance/affordance/PathSegments", "isLiteral", "()Z"⟩ : MethodName)) (z := (⟨"com/example/affordance/affordance/PathSegments", "isLiteral", "()Z"⟩ : MethodName)) hown1 (mvT hZ1 (hw _ (List.mem_of_getElem? (i := 53) rfl))) (mvT hZ1 (hw _ (List.mem_of_getElem? (i := 54) rfl))) (notFace_of_selects (args := #[]) (mvT hZ1 (hw _ (List.mem_of_getElem? (i := 56) rfl)))) (mvT hZ1 (hw _ (List.mem_of_getElem? (i := 56) rfl))) (mvT hZ1 (hw _ (List.mem_of_getElem? (i := 55) rfl))) (by decide) (backOf (W := 0) (rmIL l Z a0 hw [] ps (Int32.ofNat j) (Int32.ofNat i) (own_tpl cs j i) h n0 Zs1 H_2 H_3 H_4) hZ1 (hw _ (List.mem_of_getElem? (i := 57) rfl)) (hw _ (List.mem_of_getElem? (i := 32) rfl)) (by decide) (by decide)) qa22 qc22 (g := (mkF m 197 #[.val (.int p1), .val (.int p2), .val (.int p3), .val (.int p4), .val (.int p5), .val (.int nl), .val (.int kd), .val (.ref sp), .val (.ref ps), .val (.int (Int32.ofNat j)), .val (.int (Int32.ofNat i)), .val (.int (0 : Int32))] [(.ref ps)])) rfl (by rw [hml]; rfl) (Steps.refl _) (argsL := []) (rest := []) (lenOf pd_9 rfl) rfl (by show 2 * 0 + _ ≤ _; exact Nat.le_of_eq rfl) (hb hby at_197) (fun _ _ => ⟨rfl, (e2), (by decide : 20 + 0 + 0 + 0 ≤ _), (by decide : 200 + 0 + 0 + 0 ≤ _)⟩)
    dsimp only [Pt.U, Pt.locs, Pt.cells, Pt.slots] at X22 l22 y22 z22 st22 hQ22
    subst l22 y22 z22
    obtain ⟨rfl, N22q, e22⟩ := hQ22
    have N22 := Fr.app N2 N22q
    refine GoH.step (fun t_ k_ => st22.trans k_) ?_
    show GoH _ _ _ _ _ _ _ _ _ _ T22 (mkF m 200 #[.val (.int p1), .val (.int p2), .val (.int p3), .val (.int p4), .val (.int p5), .val (.int nl), .val (.int kd), .val (.ref sp), .val (.ref ps), .val (.int (Int32.ofNat j)), .val (.int (Int32.ofNat i)), .val (.int (0 : Int32))] [(.int (own_lit (Int32.ofNat j) (Int32.ofNat i) (own_tpl cs j i)))])
    refine GoH.step (fun t_ k_ => XS.iload X22.here hx rfl (hb hby at_200) rfl k_) ?_
    show GoH _ _ _ _ _ _ _ _ _ _ T22 (mkF m 202 #[.val (.int p1), .val (.int p2), .val (.int p3), .val (.int p4), .val (.int p5), .val (.int nl), .val (.int kd), .val (.ref sp), .val (.ref ps), .val (.int (Int32.ofNat j)), .val (.int (Int32.ofNat i)), .val (.int (0 : Int32))] [(.int (0 : Int32)), (.int (own_lit (Int32.ofNat j) (Int32.ofNat i) (own_tpl cs j i)))])
    have hb202_23 : (own_lit (Int32.ofNat j) (Int32.ofNat i) (own_tpl cs j i)) = (0 : Int32) := by simp [own_lit, hb133_3]
    refine GoH.step (fun t_ k_ => XS.icmpNo X22.here hx rfl (hb hby at_202) rfl (XT.ii_ne_f hb202_23) k_) ?_
    show GoH _ _ _ _ _ _ _ _ _ _ T22 (mkF m 205 #[.val (.int p1), .val (.int p2), .val (.int p3), .val (.int p4), .val (.int p5), .val (.int nl), .val (.int kd), .val (.ref sp), .val (.ref ps), .val (.int (Int32.ofNat j)), .val (.int (Int32.ofNat i)), .val (.int (0 : Int32))] [])
    refine GoH.step (fun t_ k_ => XS.iconst X22.here hx rfl (hb hby at_205) k_) ?_
    show GoH _ _ _ _ _ _ _ _ _ _ T22 (mkF m 206 #[.val (.int p1), .val (.int p2), .val (.int p3), .val (.int p4), .val (.int p5), .val (.int nl), .val (.int kd), .val (.ref sp), .val (.ref ps), .val (.int (Int32.ofNat j)), .val (.int (Int32.ofNat i)), .val (.int (0 : Int32))] [(.int (1 : Int32))])
    refine GoH.step (fun t_ k_ => XS.goto X22.here hx rfl (pc0 := 206) (pc' := 210) rfl (hb hby at_206) (by decide) (by decide) k_) ?_
    show GoH _ _ _ _ _ _ _ _ _ _ T22 (mkF m 210 #[.val (.int p1), .val (.int p2), .val (.int p3), .val (.int p4), .val (.int p5), .val (.int nl), .val (.int kd), .val (.ref sp), .val (.ref ps), .val (.int (Int32.ofNat j)), .val (.int (Int32.ofNat i)), .val (.int (0 : Int32))] [(.int (1 : Int32))])
    have hkr : k0 ≤ T22.heap.size := by rw [(e22)]; exact hk1
    have hCr : CHr Z own_EL s.vm h0 vm0 T22.heap := by rw [(e22)]; exact C1
    refine GoH.ret X22 hx hlk hS1 hkr hZ1 hEL hCr hret rfl (Or.inl ⟨rfl, Or.inr (Or.inl rfl), _, rfl⟩) (hb hby at_210) ?_ (by decide) (by decide)
    show Q0 Z _ _ _ _ _ _ _ _ _ _ T22.heap _
    exact ⟨rfl, N22⟩
theorem ef_rm0 (m : MethodId) (p1 : Int32) (p2 : Int32) (p3 : Int32) (p4 : Int32) (p5 : Int32) : entryFrame m #[(.int p1), (.int p2), (.int p3), (.int p4), (.int p5)] maxLocals = mkF m 0 #[.val (.int p1), .val (.int p2), .val (.int p3), .val (.int p4), .val (.int p5), .unset, .unset, .unset, .unset, .unset, .unset, .unset] [] := by first | (simp [entryFrame, mkF, argsToLocals, Value.category, maxLocals]; done) | rfl
theorem pd_10 : parseMethodDescriptor "(ICCCC)Ljava/lang/String;" = some ⟨[.int, .char, .char, .char, .char], some (.object "java/lang/String")⟩ := by decide +kernel
theorem pd_11 : parseMethodDescriptor "(Ljava/lang/String;)V" = some ⟨[(.object "java/lang/String")], none⟩ := by decide +kernel
set_option maxRecDepth 65536 in
set_option maxHeartbeats 40000000 in
theorem rm0 (l : Launch) (Z : State) (a0 : Array Value) (hw : ∀ d ∈ tables_1, d.before a0 Z = true) (ws : List Jvm.Cond) (p1 : Int32) (p2 : Int32) (p3 : Int32) (p4 : Int32) (p5 : Int32) (G1 : Int32) (G3 : Value) (h0 : Heap) (n0 : Nat) (Z0 : n0 ≤ h0.size) (O0 : Old Z n0 h0) (S_COMPACT : Sta Z Z.heap "java/lang/String" "COMPACT_STRINGS" "Z" (.int G1)) (P_COMPACT : ¬ (G1 = (0 : Int32))) (S_SIOOBE : Sta Z Z.heap "jdk/internal/util/Preconditions" "SIOOBE_FORMATTER" "Ljava/util/function/BiFunction;" G3) (r_SIOOBE : G3.isRef = true) :
    MetFree l x (head1 (Jvm.Cond.code x code maxLocals ret :: ws) room_1) (fun a U => a = #[(.int p1), (.int p2), (.int p3), (.int p4), (.int p5)] ∧ Z.Warmed39 U.vm ∧ U.heap = h0 ∧ CHv Z own_EL U.vm h0) (fun _ _ _ _ _ => True) (fun _ U o U' => ∃ v L, o = .returned v ∧ Q0 Z p1 p2 p3 p4 p5 G1 G3 h0 n0 v U'.heap L ∧ CHr Z own_EL U.vm U.heap U'.vm U'.heap ∧ ReturnedEndW U o U' L room_1.cells room_1.slots) := by
  refine MetFree.of_bodySF (plainFor_of_name pn_1) hisR ?_
  intro p e s m args below meth c s₁ Bd hml0 hP hK
  obtain ⟨rfl, hZ0, hh, hCH⟩ := hP
  have hx := Bd.exec
  have hby := Bd.bytes
  have hlk := BodyLoose.notSynchronized Bd
  have hml : c.maxLocals = 12 := hml0
  have hret := Bd.returns
  have hown0 : (s.setVm s.vm).vm.findClass "com/example/affordance/affordance/PathSegmentsIsLiteralPinLaw" = some m.cls := findClass_of_methodNamed Bd.named
  have hnm := (name_of_methodNamed Bd.named Bd.method).1
  have X0 : Stand p l e room_1 (s.setVm s.vm) m #[(.int p1), (.int p2), (.int p3), (.int p4), (.int p5)] below meth c s₁ [] 0 0 := Stand.of_body Bd
  have hZ0 : Z.Warmed39 (s.setVm s.vm).vm := hZ0
  have hEL : EW Z a0 own_EL := own_EW hw
  have hS0 : s.Since s.vm h0.size := (State.WarmedH.refl s).since _
  have hk0 : h0.size ≤ h0.size := Nat.le_refl _
  have C0 : CHr Z own_EL s.vm h0 s.vm h0 := CHr.refl hCH
  have e0 : s₁.heap = h0 := by rw [← hh, Bd.state]; rfl
  have N0 := Fr.nil n0
  show GoH p e below s room_1.cells room_1.slots Z own_EL s.heap (Q0 Z p1 p2 p3 p4 p5 G1 G3 h0 n0) s₁ (entryFrame m #[(.int p1), (.int p2), (.int p3), (.int p4), (.int p5)] maxLocals)
  rw [hh]
  refine GoH.cast (ef_rm0 m p1 p2 p3 p4 p5) ?_
  show GoH _ _ _ _ _ _ _ _ _ _ s₁ (mkF m 0 #[.val (.int p1), .val (.int p2), .val (.int p3), .val (.int p4), .val (.int p5), .unset, .unset, .unset, .unset, .unset, .unset, .unset] [])
  refine GoH.step (fun t_ k_ => XS.iload X0.here hx rfl (hb hby at_0) rfl k_) ?_
  show GoH _ _ _ _ _ _ _ _ _ _ s₁ (mkF m 2 #[.val (.int p1), .val (.int p2), .val (.int p3), .val (.int p4), .val (.int p5), .unset, .unset, .unset, .unset, .unset, .unset, .unset] [(.int p5)])
  refine GoH.step (fun t_ k_ => X0.ldcI hx hown0 (mvT hZ0 (hw _ (List.mem_of_getElem? (i := 0) rfl))) rfl (hb hby at_2) k_) ?_
  show GoH _ _ _ _ _ _ _ _ _ _ s₁ (mkF m 4 #[.val (.int p1), .val (.int p2), .val (.int p3), .val (.int p4), .val (.int p5), .unset, .unset, .unset, .unset, .unset, .unset, .unset] [(.int (2147483647 : Int32)), (.int p5)])
  refine GoH.step (fun t_ k_ => XS.iand X0.here hx rfl (hb hby at_4) rfl k_) ?_
  show GoH _ _ _ _ _ _ _ _ _ _ s₁ (mkF m 5 #[.val (.int p1), .val (.int p2), .val (.int p3), .val (.int p4), .val (.int p5), .unset, .unset, .unset, .unset, .unset, .unset, .unset] [(.int (p5 &&& (2147483647 : Int32)))])
  refine GoH.step (fun t_ k_ => XS.iconst X0.here hx rfl (hb hby at_5) k_) ?_
  show GoH _ _ _ _ _ _ _ _ _ _ s₁ (mkF m 6 #[.val (.int p1), .val (.int p2), .val (.int p3), .val (.int p4), .val (.int p5), .unset, .unset, .unset, .unset, .unset, .unset, .unset] [(.int (5 : Int32)), (.int (p5 &&& (2147483647 : Int32)))])
  refine GoH.step (fun t_ k_ => iremM X0 hx rfl (hb hby at_6) rfl (by decide) k_) ?_
  show GoH _ _ _ _ _ _ _ _ _ _ s₁ (mkF m 7 #[.val (.int p1), .val (.int p2), .val (.int p3), .val (.int p4), .val (.int p5), .unset, .unset, .unset, .unset, .unset, .unset, .unset] [(.int ((p5 &&& (2147483647 : Int32)) % (5 : Int32)))])
  generalize hnl : ((p5 &&& (2147483647 : Int32)) % (5 : Int32)) = nl
  show GoH _ _ _ _ _ _ _ _ _ _ s₁ (mkF m 7 #[.val (.int p1), .val (.int p2), .val (.int p3), .val (.int p4), .val (.int p5), .unset, .unset, .unset, .unset, .unset, .unset, .unset] [(.int nl)])
  refine GoH.step (fun t_ k_ => XS.istore X0.here hx rfl (hb hby at_7) rfl (l' := #[.val (.int p1), .val (.int p2), .val (.int p3), .val (.int p4), .val (.int p5), .val (.int nl), .unset, .unset, .unset, .unset, .unset, .unset]) rfl k_) ?_
  show GoH _ _ _ _ _ _ _ _ _ _ s₁ (mkF m 9 #[.val (.int p1), .val (.int p2), .val (.int p3), .val (.int p4), .val (.int p5), .val (.int nl), .unset, .unset, .unset, .unset, .unset, .unset] [])
  refine GoH.step (fun t_ k_ => XS.iload X0.here hx rfl (hb hby at_9) rfl k_) ?_
  show GoH _ _ _ _ _ _ _ _ _ _ s₁ (mkF m 11 #[.val (.int p1), .val (.int p2), .val (.int p3), .val (.int p4), .val (.int p5), .val (.int nl), .unset, .unset, .unset, .unset, .unset, .unset] [(.int p5)])
  refine GoH.step (fun t_ k_ => XS.iconst X0.here hx rfl (hb hby at_11) k_) ?_
  show GoH _ _ _ _ _ _ _ _ _ _ s₁ (mkF m 12 #[.val (.int p1), .val (.int p2), .val (.int p3), .val (.int p4), .val (.int p5), .val (.int nl), .unset, .unset, .unset, .unset, .unset, .unset] [(.int (3 : Int32)), (.int p5)])
  refine GoH.step (fun t_ k_ => XT.iushr X0.here hx rfl (hb hby at_12) rfl k_) ?_
  show GoH _ _ _ _ _ _ _ _ _ _ s₁ (mkF m 13 #[.val (.int p1), .val (.int p2), .val (.int p3), .val (.int p4), .val (.int p5), .val (.int nl), .unset, .unset, .unset, .unset, .unset, .unset] [(.int (XT.ushr p5 (3 : Int32)))])
  refine GoH.step (fun t_ k_ => XS.sipush X0.here hx rfl (hb hby at_13) k_) ?_
  show GoH _ _ _ _ _ _ _ _ _ _ s₁ (mkF m 16 #[.val (.int p1), .val (.int p2), .val (.int p3), .val (.int p4), .val (.int p5), .val (.int nl), .unset, .unset, .unset, .unset, .unset, .unset] [(.int (255 : Int32)), (.int (XT.ushr p5 (3 : Int32)))])
  refine GoH.step (fun t_ k_ => XS.iand X0.here hx rfl (hb hby at_16) rfl k_) ?_
  show GoH _ _ _ _ _ _ _ _ _ _ s₁ (mkF m 17 #[.val (.int p1), .val (.int p2), .val (.int p3), .val (.int p4), .val (.int p5), .val (.int nl), .unset, .unset, .unset, .unset, .unset, .unset] [(.int ((XT.ushr p5 (3 : Int32)) &&& (255 : Int32)))])
  refine GoH.step (fun t_ k_ => XS.bipush X0.here hx rfl (hb hby at_17) k_) ?_
  show GoH _ _ _ _ _ _ _ _ _ _ s₁ (mkF m 19 #[.val (.int p1), .val (.int p2), .val (.int p3), .val (.int p4), .val (.int p5), .val (.int nl), .unset, .unset, .unset, .unset, .unset, .unset] [(.int (6 : Int32)), (.int ((XT.ushr p5 (3 : Int32)) &&& (255 : Int32)))])
  refine GoH.step (fun t_ k_ => iremM X0 hx rfl (hb hby at_19) rfl (by decide) k_) ?_
  show GoH _ _ _ _ _ _ _ _ _ _ s₁ (mkF m 20 #[.val (.int p1), .val (.int p2), .val (.int p3), .val (.int p4), .val (.int p5), .val (.int nl), .unset, .unset, .unset, .unset, .unset, .unset] [(.int (((XT.ushr p5 (3 : Int32)) &&& (255 : Int32)) % (6 : Int32)))])
  generalize hkd : (((XT.ushr p5 (3 : Int32)) &&& (255 : Int32)) % (6 : Int32)) = kd
  show GoH _ _ _ _ _ _ _ _ _ _ s₁ (mkF m 20 #[.val (.int p1), .val (.int p2), .val (.int p3), .val (.int p4), .val (.int p5), .val (.int nl), .unset, .unset, .unset, .unset, .unset, .unset] [(.int kd)])
  refine GoH.step (fun t_ k_ => XS.istore X0.here hx rfl (hb hby at_20) rfl (l' := #[.val (.int p1), .val (.int p2), .val (.int p3), .val (.int p4), .val (.int p5), .val (.int nl), .val (.int kd), .unset, .unset, .unset, .unset, .unset]) rfl k_) ?_
  show GoH _ _ _ _ _ _ _ _ _ _ s₁ (mkF m 22 #[.val (.int p1), .val (.int p2), .val (.int p3), .val (.int p4), .val (.int p5), .val (.int nl), .val (.int kd), .unset, .unset, .unset, .unset, .unset] [])
  refine GoH.step (fun t_ k_ => XS.iload X0.here hx rfl (hb hby at_22) rfl k_) ?_
  show GoH _ _ _ _ _ _ _ _ _ _ s₁ (mkF m 24 #[.val (.int p1), .val (.int p2), .val (.int p3), .val (.int p4), .val (.int p5), .val (.int nl), .val (.int kd), .unset, .unset, .unset, .unset, .unset] [(.int nl)])
  refine GoH.step (fun t_ k_ => XS.iloadN X0.here hx rfl (hb hby at_24) rfl k_) ?_
  show GoH _ _ _ _ _ _ _ _ _ _ s₁ (mkF m 25 #[.val (.int p1), .val (.int p2), .val (.int p3), .val (.int p4), .val (.int p5), .val (.int nl), .val (.int kd), .unset, .unset, .unset, .unset, .unset] [(.int p1), (.int nl)])
  obtain ⟨_, _, ⟨T24, L24, k24, n24⟩, -, X24, ⟨Lc24, hQ24, l24, y24, z24⟩, st24⟩ := Jvm.LawKit.callS X0 hx (y := (⟨"com/example/affordance/affordance/PathSegmentsIsLiteralPinLaw", "pick", "(I)C"⟩ : MethodName)) hown0 (mvT hZ0 (hw _ (List.mem_of_getElem? (i := 1) rfl))) (mvT hZ0 (hw _ (List.mem_of_getElem? (i := 2) rfl))) (mvT hZ0 (hw _ (List.mem_of_getElem? (i := 3) rfl))) (mvT hZ0 (hw _ (List.mem_of_getElem? (i := 4) rfl))) (by decide) (backOf (W := 1) (rmPk l Z a0 hw [] p1 h0 n0 Z0 ) hZ0 (hw _ (List.mem_of_getElem? (i := 4) rfl)) (hw _ (List.mem_of_getElem? (i := 3) rfl)) (by decide) (by decide)) (g := (mkF m 25 #[.val (.int p1), .val (.int p2), .val (.int p3), .val (.int p4), .val (.int p5), .val (.int nl), .val (.int kd), .unset, .unset, .unset, .unset, .unset] [(.int p1), (.int nl)])) rfl (by rw [hml]; rfl) (argsL := [(.int p1)]) (rest := [(.int nl)]) (lenOf pd_3 rfl) rfl (by show 2 * 0 + _ ≤ _; exact Nat.le_of_eq rfl) (hb hby at_25) (fun _ _ => ⟨rfl, e0, (by decide : 0 + 0 ≤ _), (by decide : 0 + 0 ≤ _)⟩)
  dsimp only [Pt.U, Pt.locs, Pt.cells, Pt.slots] at X24 l24 y24 z24 st24 hQ24
  subst l24 y24 z24
  obtain ⟨cc24, rfl, rc24, N24q, e24⟩ := hQ24
  have N24 := Fr.app N0 N24q
  refine GoH.step st24 ?_
  show GoH _ _ _ _ _ _ _ _ _ _ T24 (mkF m 28 #[.val (.int p1), .val (.int p2), .val (.int p3), .val (.int p4), .val (.int p5), .val (.int nl), .val (.int kd), .unset, .unset, .unset, .unset, .unset] [(.int cc24), (.int nl)])
  refine GoH.step (fun t_ k_ => XS.iloadN X24.here hx rfl (hb hby at_28) rfl k_) ?_
  show GoH _ _ _ _ _ _ _ _ _ _ T24 (mkF m 29 #[.val (.int p1), .val (.int p2), .val (.int p3), .val (.int p4), .val (.int p5), .val (.int nl), .val (.int kd), .unset, .unset, .unset, .unset, .unset] [(.int p2), (.int cc24), (.int nl)])
  obtain ⟨_, _, ⟨T25, L25, k25, n25⟩, -, X25, ⟨Lc25, hQ25, l25, y25, z25⟩, st25⟩ := Jvm.LawKit.callS X24 hx (y := (⟨"com/example/affordance/affordance/PathSegmentsIsLiteralPinLaw", "pick", "(I)C"⟩ : MethodName)) hown0 (mvT hZ0 (hw _ (List.mem_of_getElem? (i := 1) rfl))) (mvT hZ0 (hw _ (List.mem_of_getElem? (i := 2) rfl))) (mvT hZ0 (hw _ (List.mem_of_getElem? (i := 3) rfl))) (mvT hZ0 (hw _ (List.mem_of_getElem? (i := 4) rfl))) (by decide) (backOf (W := 2) (rmPk l Z a0 hw [] p2 h0 n0 Z0 ) hZ0 (hw _ (List.mem_of_getElem? (i := 4) rfl)) (hw _ (List.mem_of_getElem? (i := 3) rfl)) (by decide) (by decide)) (g := (mkF m 29 #[.val (.int p1), .val (.int p2), .val (.int p3), .val (.int p4), .val (.int p5), .val (.int nl), .val (.int kd), .unset, .unset, .unset, .unset, .unset] [(.int p2), (.int cc24), (.int nl)])) rfl (by rw [hml]; rfl) (argsL := [(.int p2)]) (rest := [(.int cc24), (.int nl)]) (lenOf pd_3 rfl) rfl (by show 2 * 0 + _ ≤ _; exact Nat.le_of_eq rfl) (hb hby at_29) (fun _ _ => ⟨rfl, (e24), (by decide : 0 + 0 + 0 ≤ _), (by decide : 0 + 0 + 0 ≤ _)⟩)
  dsimp only [Pt.U, Pt.locs, Pt.cells, Pt.slots] at X25 l25 y25 z25 st25 hQ25
  subst l25 y25 z25
  obtain ⟨cc25, rfl, rc25, N25q, e25⟩ := hQ25
  have N25 := Fr.app N24 N25q
  refine GoH.step st25 ?_
  show GoH _ _ _ _ _ _ _ _ _ _ T25 (mkF m 32 #[.val (.int p1), .val (.int p2), .val (.int p3), .val (.int p4), .val (.int p5), .val (.int nl), .val (.int kd), .unset, .unset, .unset, .unset, .unset] [(.int cc25), (.int cc24), (.int nl)])
  refine GoH.step (fun t_ k_ => XS.iloadN X25.here hx rfl (hb hby at_32) rfl k_) ?_
  show GoH _ _ _ _ _ _ _ _ _ _ T25 (mkF m 33 #[.val (.int p1), .val (.int p2), .val (.int p3), .val (.int p4), .val (.int p5), .val (.int nl), .val (.int kd), .unset, .unset, .unset, .unset, .unset] [(.int p3), (.int cc25), (.int cc24), (.int nl)])
  obtain ⟨_, _, ⟨T26, L26, k26, n26⟩, -, X26, ⟨Lc26, hQ26, l26, y26, z26⟩, st26⟩ := Jvm.LawKit.callS X25 hx (y := (⟨"com/example/affordance/affordance/PathSegmentsIsLiteralPinLaw", "pick", "(I)C"⟩ : MethodName)) hown0 (mvT hZ0 (hw _ (List.mem_of_getElem? (i := 1) rfl))) (mvT hZ0 (hw _ (List.mem_of_getElem? (i := 2) rfl))) (mvT hZ0 (hw _ (List.mem_of_getElem? (i := 3) rfl))) (mvT hZ0 (hw _ (List.mem_of_getElem? (i := 4) rfl))) (by decide) (backOf (W := 3) (rmPk l Z a0 hw [] p3 h0 n0 Z0 ) hZ0 (hw _ (List.mem_of_getElem? (i := 4) rfl)) (hw _ (List.mem_of_getElem? (i := 3) rfl)) (by decide) (by decide)) (g := (mkF m 33 #[.val (.int p1), .val (.int p2), .val (.int p3), .val (.int p4), .val (.int p5), .val (.int nl), .val (.int kd), .unset, .unset, .unset, .unset, .unset] [(.int p3), (.int cc25), (.int cc24), (.int nl)])) rfl (by rw [hml]; rfl) (argsL := [(.int p3)]) (rest := [(.int cc25), (.int cc24), (.int nl)]) (lenOf pd_3 rfl) rfl (by show 2 * 0 + _ ≤ _; exact Nat.le_of_eq rfl) (hb hby at_33) (fun _ _ => ⟨rfl, (e25), (by decide : 0 + 0 + 0 + 0 ≤ _), (by decide : 0 + 0 + 0 + 0 ≤ _)⟩)
  dsimp only [Pt.U, Pt.locs, Pt.cells, Pt.slots] at X26 l26 y26 z26 st26 hQ26
  subst l26 y26 z26
  obtain ⟨cc26, rfl, rc26, N26q, e26⟩ := hQ26
  have N26 := Fr.app N25 N26q
  refine GoH.step st26 ?_
  show GoH _ _ _ _ _ _ _ _ _ _ T26 (mkF m 36 #[.val (.int p1), .val (.int p2), .val (.int p3), .val (.int p4), .val (.int p5), .val (.int nl), .val (.int kd), .unset, .unset, .unset, .unset, .unset] [(.int cc26), (.int cc25), (.int cc24), (.int nl)])
  refine GoH.step (fun t_ k_ => XS.iloadN X26.here hx rfl (hb hby at_36) rfl k_) ?_
  show GoH _ _ _ _ _ _ _ _ _ _ T26 (mkF m 37 #[.val (.int p1), .val (.int p2), .val (.int p3), .val (.int p4), .val (.int p5), .val (.int nl), .val (.int kd), .unset, .unset, .unset, .unset, .unset] [(.int p4), (.int cc26), (.int cc25), (.int cc24), (.int nl)])
  obtain ⟨_, _, ⟨T27, L27, k27, n27⟩, -, X27, ⟨Lc27, hQ27, l27, y27, z27⟩, st27⟩ := Jvm.LawKit.callS X26 hx (y := (⟨"com/example/affordance/affordance/PathSegmentsIsLiteralPinLaw", "pick", "(I)C"⟩ : MethodName)) hown0 (mvT hZ0 (hw _ (List.mem_of_getElem? (i := 1) rfl))) (mvT hZ0 (hw _ (List.mem_of_getElem? (i := 2) rfl))) (mvT hZ0 (hw _ (List.mem_of_getElem? (i := 3) rfl))) (mvT hZ0 (hw _ (List.mem_of_getElem? (i := 4) rfl))) (by decide) (backOf (W := 4) (rmPk l Z a0 hw [] p4 h0 n0 Z0 ) hZ0 (hw _ (List.mem_of_getElem? (i := 4) rfl)) (hw _ (List.mem_of_getElem? (i := 3) rfl)) (by decide) (by decide)) (g := (mkF m 37 #[.val (.int p1), .val (.int p2), .val (.int p3), .val (.int p4), .val (.int p5), .val (.int nl), .val (.int kd), .unset, .unset, .unset, .unset, .unset] [(.int p4), (.int cc26), (.int cc25), (.int cc24), (.int nl)])) rfl (by rw [hml]; rfl) (argsL := [(.int p4)]) (rest := [(.int cc26), (.int cc25), (.int cc24), (.int nl)]) (lenOf pd_3 rfl) rfl (by show 2 * 0 + _ ≤ _; exact Nat.le_of_eq rfl) (hb hby at_37) (fun _ _ => ⟨rfl, (e26), (by decide : 0 + 0 + 0 + 0 + 0 ≤ _), (by decide : 0 + 0 + 0 + 0 + 0 ≤ _)⟩)
  dsimp only [Pt.U, Pt.locs, Pt.cells, Pt.slots] at X27 l27 y27 z27 st27 hQ27
  subst l27 y27 z27
  obtain ⟨cc27, rfl, rc27, N27q, e27⟩ := hQ27
  have N27 := Fr.app N26 N27q
  refine GoH.step st27 ?_
  show GoH _ _ _ _ _ _ _ _ _ _ T27 (mkF m 40 #[.val (.int p1), .val (.int p2), .val (.int p3), .val (.int p4), .val (.int p5), .val (.int nl), .val (.int kd), .unset, .unset, .unset, .unset, .unset] [(.int cc27), (.int cc26), (.int cc25), (.int cc24), (.int nl)])
  obtain ⟨_, _, ⟨T28, L28, k28, n28⟩, -, X28, hSq28, hgr28, ⟨Lc28, hQ28, l28, y28, z28, CHq28⟩, st28⟩ := callSS X27 hx (y := (⟨"com/example/affordance/affordance/PathSegmentsIsLiteralPinLaw", "mk", "(ICCCC)Ljava/lang/String;"⟩ : MethodName)) hown0 (mvT hZ0 (hw _ (List.mem_of_getElem? (i := 5) rfl))) (mvT hZ0 (hw _ (List.mem_of_getElem? (i := 6) rfl))) (mvT hZ0 (hw _ (List.mem_of_getElem? (i := 3) rfl))) (mvT hZ0 (hw _ (List.mem_of_getElem? (i := 7) rfl))) (by decide) (backOfSH (W := 0) (rmMk l Z a0 hw [] nl cc24 cc25 cc26 cc27 G1 h0 n0 Z0 O0 S_COMPACT P_COMPACT ⟨rc24.1, rc24.2⟩ ⟨rc25.1, rc25.2⟩ ⟨rc26.1, rc26.2⟩ ⟨rc27.1, rc27.2⟩) hZ0 (hw _ (List.mem_of_getElem? (i := 7) rfl)) (hw _ (List.mem_of_getElem? (i := 3) rfl)) (by decide) (by decide) hEL C0.1) (g := (mkF m 40 #[.val (.int p1), .val (.int p2), .val (.int p3), .val (.int p4), .val (.int p5), .val (.int nl), .val (.int kd), .unset, .unset, .unset, .unset, .unset] [(.int cc27), (.int cc26), (.int cc25), (.int cc24), (.int nl)])) rfl (by rw [hml]; rfl) (argsL := [(.int nl), (.int cc24), (.int cc25), (.int cc26), (.int cc27)]) (rest := []) (lenOf pd_10 rfl) rfl (by show 2 * 0 + _ ≤ _; exact Nat.le_of_eq rfl) (hb hby at_40) (fun _ _ => ⟨rfl, (e27), (by decide : 0 + 0 + 0 + 0 + 0 + 6 ≤ _), (by decide : 0 + 0 + 0 + 0 + 0 + 12 ≤ _)⟩)
  dsimp only [Pt.U, Pt.locs, Pt.cells, Pt.slots] at X28 hSq28 hgr28 l28 y28 z28 st28 hQ28 CHq28
  subst l28 y28 z28
  have X28 : Stand p l e _ (s.setVm T28.vm) _ _ _ _ _ T28 _ _ _ := X28
  have hS28 : s.Since T28.vm T28.heap.size := State.Since.trans hS0 hSq28 (Nat.le_trans hk0 (by first | exact hgr28 | (rw [← (e27)]; exact hgr28)))
  have hZ28 : Z.Warmed39 (s.setVm T28.vm).vm := State.Warmed39.trans (t := s.setVm s.vm) hZ0 hSq28.1
  have hown28 : (s.setVm T28.vm).vm.findClass "com/example/affordance/affordance/PathSegmentsIsLiteralPinLaw" = some m.cls := by rw [show (s.setVm T28.vm).vm = T28.vm from rfl, hSq28.1.alike.findClass]; exact hown0
  have hk28 : T28.heap.size ≤ T28.heap.size := Nat.le_refl _
  obtain ⟨sp, tp, kbp, cs, rfl, hok, hlen, N28q, Kq28, gq28, Eq28, Cq28, Vq28, Aq28⟩ := hQ28
  have N28 := Fr.app N27 N28q
  have f28_0 : Exa Z T28.heap sp "java/lang/String" := Eq28
  have f28_1 : Fld Z T28.heap sp "java/lang/String" "coder" "B" (.int (0 : Int32)) := Cq28
  have f28_2 : Fld Z T28.heap sp "java/lang/String" "value" "[B" (.ref tp) := Vq28
  have f28_3 : Arv Z T28.heap tp kbp .byte (Int32.ofNat cs.length) ((cs.map (fun c => c.toInt8.toInt32)).map Value.int) (.int (0 : Int32)) := Aq28
  have Zs28 : n0 ≤ T28.heap.size := (Nat.le_trans Z0 Kq28.1)
  have O28 : Old Z n0 T28.heap := O0.keep Kq28 all0
  have CC28 : CHr Z own_EL s.vm h0 T28.vm T28.heap := C0.trans CHq28
  refine GoH.step (fun t_ k_ => st28.trans k_) ?_
  show GoH _ _ _ _ _ _ _ _ _ _ T28 (mkF m 43 #[.val (.int p1), .val (.int p2), .val (.int p3), .val (.int p4), .val (.int p5), .val (.int nl), .val (.int kd), .unset, .unset, .unset, .unset, .unset] [(.ref sp)])
  refine GoH.step (fun t_ k_ => XS.astore X28.here hx rfl (hb hby at_43) rfl rfl (l' := #[.val (.int p1), .val (.int p2), .val (.int p3), .val (.int p4), .val (.int p5), .val (.int nl), .val (.int kd), .val (.ref sp), .unset, .unset, .unset, .unset]) rfl k_) ?_
  show GoH _ _ _ _ _ _ _ _ _ _ T28 (mkF m 45 #[.val (.int p1), .val (.int p2), .val (.int p3), .val (.int p4), .val (.int p5), .val (.int nl), .val (.int kd), .val (.ref sp), .unset, .unset, .unset, .unset] [])
  obtain ⟨T29, h29, X29, e29, E29, A29, D29, -, st29⟩ := newO X28 hx hZ28 hown28 (hw _ (List.mem_of_getElem? (i := 30) rfl)) (hw _ (List.mem_of_getElem? (i := 31) rfl)) (hw _ (List.mem_of_getElem? (i := 32) rfl)) rfl (g := (mkF m 45 #[.val (.int p1), .val (.int p2), .val (.int p3), .val (.int p4), .val (.int p5), .val (.int nl), .val (.int kd), .val (.ref sp), .unset, .unset, .unset, .unset] [])) rfl (hb hby at_45) (by decide) (by decide)
  obtain ⟨o29, g29⟩ : ∃ z, z = T28.heap.size := ⟨_, rfl⟩
  rw [← g29] at A29 D29 st29
  have ne_sp_o29 : sp ≠ o29 := Nat.ne_of_lt (Nat.lt_of_lt_of_le f28_0.lt (Nat.le_of_eq g29.symm))
  have ne_tp_o29 : tp ≠ o29 := Nat.ne_of_lt (Nat.lt_of_lt_of_le f28_3.lt (Nat.le_of_eq g29.symm))
  have ge_o29 : n0 ≤ o29 := Nat.le_trans Zs28 (Nat.le_of_eq g29.symm)
  have f29_0 : Exa Z h29 sp "java/lang/String" := (f28_0.ext E29)
  have f29_1 : Fld Z h29 sp "java/lang/String" "coder" "B" (.int (0 : Int32)) := (f28_1.ext E29)
  have f29_2 : Fld Z h29 sp "java/lang/String" "value" "[B" (.ref tp) := (f28_2.ext E29)
  have f29_3 : Arv Z h29 tp kbp .byte (Int32.ofNat cs.length) ((cs.map (fun c => c.toInt8.toInt32)).map Value.int) (.int (0 : Int32)) := (f28_3.ext E29)
  have f29_4 : Exa Z h29 o29 "com/example/affordance/affordance/PathSegments" := A29
  have f29_5 : Fld Z h29 o29 "com/example/affordance/affordance/PathSegments" "end" "I" (.int (0 : Int32)) := (D29 (Or.inl (hw _ (List.mem_of_getElem? (i := 38) rfl))) (ty := .int) (by decide))
  have f29_6 : Fld Z h29 o29 "com/example/affordance/affordance/PathSegments" "path" "Ljava/lang/String;" .null := (D29 (Or.inr (hw _ (List.mem_of_getElem? (i := 40) rfl))) (ty := (.object "java/lang/String")) (by decide))
  have f29_7 : Fld Z h29 o29 "com/example/affordance/affordance/PathSegments" "start" "I" (.int (0 : Int32)) := (D29 (Or.inl (hw _ (List.mem_of_getElem? (i := 47) rfl))) (ty := .int) (by decide))
  have f29_8 : Fld Z h29 o29 "com/example/affordance/affordance/PathSegments" "template" "Z" (.int (0 : Int32)) := (D29 (Or.inl (hw _ (List.mem_of_getElem? (i := 101) rfl))) (ty := .boolean) (by decide))
  have hk29 : _ ≤ h29.size := Nat.le_trans hk28 E29.1
  have C29 : CHr Z own_EL s.vm h0 T28.vm h29 := CC28.trans (CHr.ext E29 CC28.1)
  have Zs29 : n0 ≤ h29.size := (Nat.le_trans Zs28 E29.1)
  have O29 : Old Z n0 h29 := O28.ext E29
  refine GoH.step st29 ?_
  show GoH _ _ _ _ _ _ _ _ _ _ T29 (mkF m 48 #[.val (.int p1), .val (.int p2), .val (.int p3), .val (.int p4), .val (.int p5), .val (.int nl), .val (.int kd), .val (.ref sp), .unset, .unset, .unset, .unset] [(.ref o29)])
  refine GoH.step (fun t_ k_ => XS.dup X29.here hx rfl (hb hby at_48) rfl rfl k_) ?_
  show GoH _ _ _ _ _ _ _ _ _ _ T29 (mkF m 49 #[.val (.int p1), .val (.int p2), .val (.int p3), .val (.int p4), .val (.int p5), .val (.int nl), .val (.int kd), .val (.ref sp), .unset, .unset, .unset, .unset] [(.ref o29), (.ref o29)])
  refine GoH.step (fun t_ k_ => XS.aload X29.here hx rfl (hb hby at_49) rfl rfl k_) ?_
  show GoH _ _ _ _ _ _ _ _ _ _ T29 (mkF m 51 #[.val (.int p1), .val (.int p2), .val (.int p3), .val (.int p4), .val (.int p5), .val (.int nl), .val (.int kd), .val (.ref sp), .unset, .unset, .unset, .unset] [(.ref sp), (.ref o29), (.ref o29)])
  obtain ⟨_, _, ⟨T30, L30, k30, n30⟩, -, X30, ⟨Lc30, hQ30, l30, y30, z30⟩, st30⟩ := X29.specialBack hx (y := (⟨"com/example/affordance/affordance/PathSegments", "<init>", "(Ljava/lang/String;)V"⟩ : MethodName)) rfl hown28 (mvT hZ28 (hw _ (List.mem_of_getElem? (i := 33) rfl))) (mvT hZ28 (hw _ (List.mem_of_getElem? (i := 34) rfl))) (mvT hZ28 (hw _ (List.mem_of_getElem? (i := 35) rfl))) (by decide) (backOf (W := 1) (rmPI l Z a0 hw [] o29 sp h29 n0 Zs29 ge_o29 f29_4 f29_6 f29_7 f29_5 f29_8) hZ28 (hw _ (List.mem_of_getElem? (i := 35) rfl)) (hw _ (List.mem_of_getElem? (i := 32) rfl)) (by decide) (by decide)) (g := (mkF m 51 #[.val (.int p1), .val (.int p2), .val (.int p3), .val (.int p4), .val (.int p5), .val (.int nl), .val (.int kd), .val (.ref sp), .unset, .unset, .unset, .unset] [(.ref sp), (.ref o29), (.ref o29)])) rfl (by rw [hml]; rfl) (Steps.refl _) (a := o29) (argsL := [(.ref sp)]) (rest := [(.ref o29)]) (lenOf pd_11 rfl) rfl (by show 2 * 0 + _ ≤ _; exact Nat.le_of_eq rfl) (hb hby at_51) (fun _ _ => ⟨rfl, e29, (by decide : 0 + 0 + 0 + 0 + 0 + 6 + 1 + 0 ≤ _), (by decide : 0 + 0 + 0 + 0 + 0 + 12 + 4 + 0 ≤ _)⟩)
  dsimp only [Pt.U, Pt.locs, Pt.cells, Pt.slots] at X30 l30 y30 z30 st30 hQ30
  subst l30 y30 z30
  obtain ⟨rfl, N30q, Kq30, Eq30, Fa30, Fb30, Fc30, Fd30⟩ := hQ30
  have N30 := Fr.app N28 N30q
  have f30_0 : Exa Z T30.heap sp "java/lang/String" := (f29_0.keep Kq30)
  have f30_1 : Fld Z T30.heap sp "java/lang/String" "coder" "B" (.int (0 : Int32)) := (f29_1.keep Kq30 (ninS ne_sp_o29 nin0))
  have f30_2 : Fld Z T30.heap sp "java/lang/String" "value" "[B" (.ref tp) := (f29_2.keep Kq30 (ninS ne_sp_o29 nin0))
  have f30_3 : Arv Z T30.heap tp kbp .byte (Int32.ofNat cs.length) ((cs.map (fun c => c.toInt8.toInt32)).map Value.int) (.int (0 : Int32)) := (f29_3.keep Kq30 (ninS ne_tp_o29 nin0))
  have f30_4 : Exa Z T30.heap o29 "com/example/affordance/affordance/PathSegments" := Eq30
  have f30_5 : Fld Z T30.heap o29 "com/example/affordance/affordance/PathSegments" "path" "Ljava/lang/String;" (.ref sp) := Fa30
  have f30_6 : Fld Z T30.heap o29 "com/example/affordance/affordance/PathSegments" "start" "I" (.int (0 : Int32)) := Fb30
  have f30_7 : Fld Z T30.heap o29 "com/example/affordance/affordance/PathSegments" "end" "I" (.int (-1 : Int32)) := Fc30
  have f30_8 : Fld Z T30.heap o29 "com/example/affordance/affordance/PathSegments" "template" "Z" (.int (0 : Int32)) := Fd30
  have sfk30 : ∀ x ∈ ([o29] : List Addr), Safe Z own_EL T28.vm h29 x := (sfS (Safe.exa hZ28.alike f29_4 (by decide) (by decide)) sf0)
  have hk30 : _ ≤ T30.heap.size := Nat.le_trans hk29 Kq30.1
  have C30 : CHr Z own_EL s.vm h0 T28.vm T30.heap := C29.trans (CHr.keep Kq30 sfk30 C29.1)
  have Zs30 : n0 ≤ T30.heap.size := (Nat.le_trans Zs29 Kq30.1)
  have O30 : Old Z n0 T30.heap := O29.keep Kq30 (allS ge_o29 all0)
  refine GoH.step (fun t_ k_ => st30.trans k_) ?_
  show GoH _ _ _ _ _ _ _ _ _ _ T30 (mkF m 54 #[.val (.int p1), .val (.int p2), .val (.int p3), .val (.int p4), .val (.int p5), .val (.int nl), .val (.int kd), .val (.ref sp), .unset, .unset, .unset, .unset] [(.ref o29)])
  refine GoH.step (fun t_ k_ => XS.astore X30.here hx rfl (hb hby at_54) rfl rfl (l' := #[.val (.int p1), .val (.int p2), .val (.int p3), .val (.int p4), .val (.int p5), .val (.int nl), .val (.int kd), .val (.ref sp), .val (.ref o29), .unset, .unset, .unset]) rfl k_) ?_
  show GoH _ _ _ _ _ _ _ _ _ _ T30 (mkF m 56 #[.val (.int p1), .val (.int p2), .val (.int p3), .val (.int p4), .val (.int p5), .val (.int nl), .val (.int kd), .val (.ref sp), .val (.ref o29), .unset, .unset, .unset] [])
  refine GoH.step (fun t_ k_ => XS.iload X30.here hx rfl (hb hby at_56) rfl k_) ?_
  show GoH _ _ _ _ _ _ _ _ _ _ T30 (mkF m 58 #[.val (.int p1), .val (.int p2), .val (.int p3), .val (.int p4), .val (.int p5), .val (.int nl), .val (.int kd), .val (.ref sp), .val (.ref o29), .unset, .unset, .unset] [(.int kd)])
  by_cases hb58_31 : (0 : Int32) < kd
  · refine GoH.step (fun t_ k_ => XS.ifNo X30.here hx rfl (hb hby at_58) rfl (XT.i0_le_f hb58_31) k_) ?_
    show GoH _ _ _ _ _ _ _ _ _ _ T30 (mkF m 61 #[.val (.int p1), .val (.int p2), .val (.int p3), .val (.int p4), .val (.int p5), .val (.int nl), .val (.int kd), .val (.ref sp), .val (.ref o29), .unset, .unset, .unset] [])
    refine GoH.step (fun t_ k_ => XS.aload X30.here hx rfl (hb hby at_61) rfl rfl k_) ?_
    show GoH _ _ _ _ _ _ _ _ _ _ T30 (mkF m 63 #[.val (.int p1), .val (.int p2), .val (.int p3), .val (.int p4), .val (.int p5), .val (.int nl), .val (.int kd), .val (.ref sp), .val (.ref o29), .unset, .unset, .unset] [(.ref o29)])
    obtain ⟨cq32, kq32, qa32, qb32, qc32⟩ := isOf hZ28 rfl f30_4
    obtain ⟨_, _, ⟨T32, L32, k32, n32⟩, -, X32, hSq32, hgr32, ⟨Lc32, hQ32, l32, y32, z32, CHq32⟩, st32⟩ := X30.virtualBackS hx (y := (⟨"com/example/affordance/affordance/PathSegments", "next", "()Z"⟩ : MethodName)) (z := (⟨"com/example/affordance/affordance/PathSegments", "next", "()Z"⟩ : MethodName)) hown28 (mvT hZ28 (hw _ (List.mem_of_getElem? (i := 69) rfl))) (mvT hZ28 (hw _ (List.mem_of_getElem? (i := 70) rfl))) (notFace_of_selects (args := #[]) (mvT hZ28 (hw _ (List.mem_of_getElem? (i := 72) rfl)))) (mvT hZ28 (hw _ (List.mem_of_getElem? (i := 72) rfl))) (mvT hZ28 (hw _ (List.mem_of_getElem? (i := 71) rfl))) (by decide) (backOfSH (W := 0) (rmNxA l Z a0 hw [] o29 G1 G3 sp tp kbp cs T30.heap n0 Zs30 ge_o29 O30 S_COMPACT P_COMPACT S_SIOOBE r_SIOOBE f30_4 f30_5 f30_6 f30_7 f30_8 f30_0 f30_2 f30_1 f30_3 hok hlen ne_sp_o29 ne_tp_o29) hZ28 (hw _ (List.mem_of_getElem? (i := 73) rfl)) (hw _ (List.mem_of_getElem? (i := 32) rfl)) (by decide) (by decide) hEL C30.1) qa32 qc32 (g := (mkF m 63 #[.val (.int p1), .val (.int p2), .val (.int p3), .val (.int p4), .val (.int p5), .val (.int nl), .val (.int kd), .val (.ref sp), .val (.ref o29), .unset, .unset, .unset] [(.ref o29)])) rfl (by rw [hml]; rfl) (Steps.refl _) (argsL := []) (rest := []) (lenOf pd_9 rfl) rfl (by show 2 * 0 + _ ≤ _; exact Nat.le_of_eq rfl) (hb hby at_63) (fun _ _ => ⟨rfl, rfl, (by decide : 0 + 0 + 0 + 0 + 0 + 6 + 1 + 0 + 2 ≤ _), (by decide : 0 + 0 + 0 + 0 + 0 + 12 + 4 + 0 + 8 ≤ _)⟩)
    dsimp only [Pt.U, Pt.locs, Pt.cells, Pt.slots] at X32 hSq32 hgr32 l32 y32 z32 st32 hQ32 CHq32
    subst l32 y32 z32
    have X32 : Stand p l e _ (s.setVm T32.vm) _ _ _ _ _ T32 _ _ _ := X32
    have hS32 : s.Since T32.vm T32.heap.size := State.Since.trans hS28 hSq32 (Nat.le_trans hk30 (by first | exact hgr32 | (rw [← (rfl : T30.heap = T30.heap)]; exact hgr32)))
    have hZ32 : Z.Warmed39 (s.setVm T32.vm).vm := State.Warmed39.trans (t := s.setVm T28.vm) hZ28 hSq32.1
    have hown32 : (s.setVm T32.vm).vm.findClass "com/example/affordance/affordance/PathSegmentsIsLiteralPinLaw" = some m.cls := by rw [show (s.setVm T32.vm).vm = T32.vm from rfl, hSq32.1.alike.findClass]; exact hown28
    have hk32 : T32.heap.size ≤ T32.heap.size := Nat.le_refl _
    obtain ⟨rr32, j32, i32, rfl, N32q, Kq32, Eq32, Fa32, Fb32, Fc32, Fd32, hji32, hil32⟩ := hQ32
    have N32 := Fr.app N30 N32q
    have f32_0 : Exa Z T32.heap sp "java/lang/String" := (f30_0.keep Kq32)
    have f32_1 : Fld Z T32.heap sp "java/lang/String" "coder" "B" (.int (0 : Int32)) := (f30_1.keep Kq32 (ninS ne_sp_o29 nin0))
    have f32_2 : Fld Z T32.heap sp "java/lang/String" "value" "[B" (.ref tp) := (f30_2.keep Kq32 (ninS ne_sp_o29 nin0))
    have f32_3 : Arv Z T32.heap tp kbp .byte (Int32.ofNat cs.length) ((cs.map (fun c => c.toInt8.toInt32)).map Value.int) (.int (0 : Int32)) := (f30_3.keep Kq32 (ninS ne_tp_o29 nin0))
    have f32_4 : Exa Z T32.heap o29 "com/example/affordance/affordance/PathSegments" := Eq32
    have f32_5 : Fld Z T32.heap o29 "com/example/affordance/affordance/PathSegments" "path" "Ljava/lang/String;" (.ref sp) := Fa32
    have f32_6 : Fld Z T32.heap o29 "com/example/affordance/affordance/PathSegments" "start" "I" (.int (Int32.ofNat j32)) := Fb32
    have f32_7 : Fld Z T32.heap o29 "com/example/affordance/affordance/PathSegments" "end" "I" (.int (Int32.ofNat i32)) := Fc32
    have f32_8 : Fld Z T32.heap o29 "com/example/affordance/affordance/PathSegments" "template" "Z" (.int (own_tpl cs j32 i32)) := Fd32
    have Zs32 : n0 ≤ T32.heap.size := (Nat.le_trans Zs30 Kq32.1)
    have O32 : Old Z n0 T32.heap := O30.keep Kq32 (allS ge_o29 all0)
    have CC32 : CHr Z own_EL s.vm h0 T32.vm T32.heap := C30.trans CHq32
    refine GoH.step (fun t_ k_ => st32.trans k_) ?_
    show GoH _ _ _ _ _ _ _ _ _ _ T32 (mkF m 66 #[.val (.int p1), .val (.int p2), .val (.int p3), .val (.int p4), .val (.int p5), .val (.int nl), .val (.int kd), .val (.ref sp), .val (.ref o29), .unset, .unset, .unset] [(.int rr32)])
    refine GoH.step (fun t_ k_ => XT.pop X32.here hx rfl (hb hby at_66) rfl rfl k_) ?_
    show GoH _ _ _ _ _ _ _ _ _ _ T32 (mkF m 67 #[.val (.int p1), .val (.int p2), .val (.int p3), .val (.int p4), .val (.int p5), .val (.int nl), .val (.int kd), .val (.ref sp), .val (.ref o29), .unset, .unset, .unset] [])
    refine GoH.step (fun t_ k_ => XS.iload X32.here hx rfl (hb hby at_67) rfl k_) ?_
    show GoH _ _ _ _ _ _ _ _ _ _ T32 (mkF m 69 #[.val (.int p1), .val (.int p2), .val (.int p3), .val (.int p4), .val (.int p5), .val (.int nl), .val (.int kd), .val (.ref sp), .val (.ref o29), .unset, .unset, .unset] [(.int kd)])
    refine GoH.step (fun t_ k_ => XS.iconst X32.here hx rfl (hb hby at_69) k_) ?_
    show GoH _ _ _ _ _ _ _ _ _ _ T32 (mkF m 70 #[.val (.int p1), .val (.int p2), .val (.int p3), .val (.int p4), .val (.int p5), .val (.int nl), .val (.int kd), .val (.ref sp), .val (.ref o29), .unset, .unset, .unset] [(.int (1 : Int32)), (.int kd)])
    by_cases hb70_33 : (1 : Int32) < kd
    · refine GoH.step (fun t_ k_ => XS.icmpNo X32.here hx rfl (hb hby at_70) rfl (XT.ii_le_f hb70_33) k_) ?_
      show GoH _ _ _ _ _ _ _ _ _ _ T32 (mkF m 73 #[.val (.int p1), .val (.int p2), .val (.int p3), .val (.int p4), .val (.int p5), .val (.int nl), .val (.int kd), .val (.ref sp), .val (.ref o29), .unset, .unset, .unset] [])
      refine GoH.step (fun t_ k_ => XS.aload X32.here hx rfl (hb hby at_73) rfl rfl k_) ?_
      show GoH _ _ _ _ _ _ _ _ _ _ T32 (mkF m 75 #[.val (.int p1), .val (.int p2), .val (.int p3), .val (.int p4), .val (.int p5), .val (.int nl), .val (.int kd), .val (.ref sp), .val (.ref o29), .unset, .unset, .unset] [(.ref o29)])
      obtain ⟨cq34, kq34, qa34, qb34, qc34⟩ := isOf hZ32 rfl f32_4
      obtain ⟨_, _, ⟨T34, L34, k34, n34⟩, -, X34, hSq34, hgr34, ⟨Lc34, hQ34, l34, y34, z34, CHq34⟩, st34⟩ := X32.virtualBackS hx (y := (⟨"com/example/affordance/affordance/PathSegments", "next", "()Z"⟩ : MethodName)) (z := (⟨"com/example/affordance/affordance/PathSegments", "next", "()Z"⟩ : MethodName)) hown32 (mvT hZ32 (hw _ (List.mem_of_getElem? (i := 69) rfl))) (mvT hZ32 (hw _ (List.mem_of_getElem? (i := 70) rfl))) (notFace_of_selects (args := #[]) (mvT hZ32 (hw _ (List.mem_of_getElem? (i := 72) rfl)))) (mvT hZ32 (hw _ (List.mem_of_getElem? (i := 72) rfl))) (mvT hZ32 (hw _ (List.mem_of_getElem? (i := 71) rfl))) (by decide) (backOfSH (W := 0) (rmNxB l Z a0 hw [] o29 G1 G3 sp tp kbp cs j32 i32 T32.heap n0 Zs32 ge_o29 O32 S_COMPACT P_COMPACT S_SIOOBE r_SIOOBE f32_4 f32_5 f32_6 f32_7 f32_8 f32_0 f32_2 f32_1 f32_3 hok hlen ne_sp_o29 ne_tp_o29 hji32 hil32) hZ32 (hw _ (List.mem_of_getElem? (i := 73) rfl)) (hw _ (List.mem_of_getElem? (i := 32) rfl)) (by decide) (by decide) hEL CC32.1) qa34 qc34 (g := (mkF m 75 #[.val (.int p1), .val (.int p2), .val (.int p3), .val (.int p4), .val (.int p5), .val (.int nl), .val (.int kd), .val (.ref sp), .val (.ref o29), .unset, .unset, .unset] [(.ref o29)])) rfl (by rw [hml]; rfl) (Steps.refl _) (argsL := []) (rest := []) (lenOf pd_9 rfl) rfl (by show 2 * 0 + _ ≤ _; exact Nat.le_of_eq rfl) (hb hby at_75) (fun _ _ => ⟨rfl, rfl, (by decide : 0 + 0 + 0 + 0 + 0 + 6 + 1 + 0 + 2 + 2 ≤ _), (by decide : 0 + 0 + 0 + 0 + 0 + 12 + 4 + 0 + 8 + 8 ≤ _)⟩)
      dsimp only [Pt.U, Pt.locs, Pt.cells, Pt.slots] at X34 hSq34 hgr34 l34 y34 z34 st34 hQ34 CHq34
      subst l34 y34 z34
      have X34 : Stand p l e _ (s.setVm T34.vm) _ _ _ _ _ T34 _ _ _ := X34
      have hS34 : s.Since T34.vm T34.heap.size := State.Since.trans hS32 hSq34 (Nat.le_trans hk32 (by first | exact hgr34 | (rw [← (rfl : T32.heap = T32.heap)]; exact hgr34)))
      have hZ34 : Z.Warmed39 (s.setVm T34.vm).vm := State.Warmed39.trans (t := s.setVm T32.vm) hZ32 hSq34.1
      have hown34 : (s.setVm T34.vm).vm.findClass "com/example/affordance/affordance/PathSegmentsIsLiteralPinLaw" = some m.cls := by rw [show (s.setVm T34.vm).vm = T34.vm from rfl, hSq34.1.alike.findClass]; exact hown32
      have hk34 : T34.heap.size ≤ T34.heap.size := Nat.le_refl _
      obtain ⟨rr34, j34, i34, rfl, N34q, Kq34, Eq34, Fa34, Fb34, Fc34, Fd34, hji34, hil34⟩ := hQ34
      have N34 := Fr.app N32 N34q
      have f34_0 : Exa Z T34.heap sp "java/lang/String" := (f32_0.keep Kq34)
      have f34_1 : Fld Z T34.heap sp "java/lang/String" "coder" "B" (.int (0 : Int32)) := (f32_1.keep Kq34 (ninS ne_sp_o29 nin0))
      have f34_2 : Fld Z T34.heap sp "java/lang/String" "value" "[B" (.ref tp) := (f32_2.keep Kq34 (ninS ne_sp_o29 nin0))
      have f34_3 : Arv Z T34.heap tp kbp .byte (Int32.ofNat cs.length) ((cs.map (fun c => c.toInt8.toInt32)).map Value.int) (.int (0 : Int32)) := (f32_3.keep Kq34 (ninS ne_tp_o29 nin0))
      have f34_4 : Exa Z T34.heap o29 "com/example/affordance/affordance/PathSegments" := Eq34
      have f34_5 : Fld Z T34.heap o29 "com/example/affordance/affordance/PathSegments" "path" "Ljava/lang/String;" (.ref sp) := Fa34
      have f34_6 : Fld Z T34.heap o29 "com/example/affordance/affordance/PathSegments" "start" "I" (.int (Int32.ofNat j34)) := Fb34
      have f34_7 : Fld Z T34.heap o29 "com/example/affordance/affordance/PathSegments" "end" "I" (.int (Int32.ofNat i34)) := Fc34
      have f34_8 : Fld Z T34.heap o29 "com/example/affordance/affordance/PathSegments" "template" "Z" (.int (own_tpl cs j34 i34)) := Fd34
      have Zs34 : n0 ≤ T34.heap.size := (Nat.le_trans Zs32 Kq34.1)
      have O34 : Old Z n0 T34.heap := O32.keep Kq34 (allS ge_o29 all0)
      have CC34 : CHr Z own_EL s.vm h0 T34.vm T34.heap := CC32.trans CHq34
      refine GoH.step (fun t_ k_ => st34.trans k_) ?_
      show GoH _ _ _ _ _ _ _ _ _ _ T34 (mkF m 78 #[.val (.int p1), .val (.int p2), .val (.int p3), .val (.int p4), .val (.int p5), .val (.int nl), .val (.int kd), .val (.ref sp), .val (.ref o29), .unset, .unset, .unset] [(.int rr34)])
      refine GoH.step (fun t_ k_ => XT.pop X34.here hx rfl (hb hby at_78) rfl rfl k_) ?_
      show GoH _ _ _ _ _ _ _ _ _ _ T34 (mkF m 79 #[.val (.int p1), .val (.int p2), .val (.int p3), .val (.int p4), .val (.int p5), .val (.int nl), .val (.int kd), .val (.ref sp), .val (.ref o29), .unset, .unset, .unset] [])
      refine GoH.step (fun t_ k_ => XS.iload X34.here hx rfl (hb hby at_79) rfl k_) ?_
      show GoH _ _ _ _ _ _ _ _ _ _ T34 (mkF m 81 #[.val (.int p1), .val (.int p2), .val (.int p3), .val (.int p4), .val (.int p5), .val (.int nl), .val (.int kd), .val (.ref sp), .val (.ref o29), .unset, .unset, .unset] [(.int kd)])
      refine GoH.step (fun t_ k_ => XS.iconst X34.here hx rfl (hb hby at_81) k_) ?_
      show GoH _ _ _ _ _ _ _ _ _ _ T34 (mkF m 82 #[.val (.int p1), .val (.int p2), .val (.int p3), .val (.int p4), .val (.int p5), .val (.int nl), .val (.int kd), .val (.ref sp), .val (.ref o29), .unset, .unset, .unset] [(.int (2 : Int32)), (.int kd)])
      by_cases hb82_35 : (2 : Int32) < kd
      · refine GoH.step (fun t_ k_ => XS.icmpNo X34.here hx rfl (hb hby at_82) rfl (XT.ii_le_f hb82_35) k_) ?_
        show GoH _ _ _ _ _ _ _ _ _ _ T34 (mkF m 85 #[.val (.int p1), .val (.int p2), .val (.int p3), .val (.int p4), .val (.int p5), .val (.int nl), .val (.int kd), .val (.ref sp), .val (.ref o29), .unset, .unset, .unset] [])
        refine GoH.step (fun t_ k_ => XS.aload X34.here hx rfl (hb hby at_85) rfl rfl k_) ?_
        show GoH _ _ _ _ _ _ _ _ _ _ T34 (mkF m 87 #[.val (.int p1), .val (.int p2), .val (.int p3), .val (.int p4), .val (.int p5), .val (.int nl), .val (.int kd), .val (.ref sp), .val (.ref o29), .unset, .unset, .unset] [(.ref o29)])
        obtain ⟨cq36, kq36, qa36, qb36, qc36⟩ := isOf hZ34 rfl f34_4
        obtain ⟨_, _, ⟨T36, L36, k36, n36⟩, -, X36, hSq36, hgr36, ⟨Lc36, hQ36, l36, y36, z36, CHq36⟩, st36⟩ := X34.virtualBackS hx (y := (⟨"com/example/affordance/affordance/PathSegments", "next", "()Z"⟩ : MethodName)) (z := (⟨"com/example/affordance/affordance/PathSegments", "next", "()Z"⟩ : MethodName)) hown34 (mvT hZ34 (hw _ (List.mem_of_getElem? (i := 69) rfl))) (mvT hZ34 (hw _ (List.mem_of_getElem? (i := 70) rfl))) (notFace_of_selects (args := #[]) (mvT hZ34 (hw _ (List.mem_of_getElem? (i := 72) rfl)))) (mvT hZ34 (hw _ (List.mem_of_getElem? (i := 72) rfl))) (mvT hZ34 (hw _ (List.mem_of_getElem? (i := 71) rfl))) (by decide) (backOfSH (W := 0) (rmNxB l Z a0 hw [] o29 G1 G3 sp tp kbp cs j34 i34 T34.heap n0 Zs34 ge_o29 O34 S_COMPACT P_COMPACT S_SIOOBE r_SIOOBE f34_4 f34_5 f34_6 f34_7 f34_8 f34_0 f34_2 f34_1 f34_3 hok hlen ne_sp_o29 ne_tp_o29 hji34 hil34) hZ34 (hw _ (List.mem_of_getElem? (i := 73) rfl)) (hw _ (List.mem_of_getElem? (i := 32) rfl)) (by decide) (by decide) hEL CC34.1) qa36 qc36 (g := (mkF m 87 #[.val (.int p1), .val (.int p2), .val (.int p3), .val (.int p4), .val (.int p5), .val (.int nl), .val (.int kd), .val (.ref sp), .val (.ref o29), .unset, .unset, .unset] [(.ref o29)])) rfl (by rw [hml]; rfl) (Steps.refl _) (argsL := []) (rest := []) (lenOf pd_9 rfl) rfl (by show 2 * 0 + _ ≤ _; exact Nat.le_of_eq rfl) (hb hby at_87) (fun _ _ => ⟨rfl, rfl, (by decide : 0 + 0 + 0 + 0 + 0 + 6 + 1 + 0 + 2 + 2 + 2 ≤ _), (by decide : 0 + 0 + 0 + 0 + 0 + 12 + 4 + 0 + 8 + 8 + 8 ≤ _)⟩)
        dsimp only [Pt.U, Pt.locs, Pt.cells, Pt.slots] at X36 hSq36 hgr36 l36 y36 z36 st36 hQ36 CHq36
        subst l36 y36 z36
        have X36 : Stand p l e _ (s.setVm T36.vm) _ _ _ _ _ T36 _ _ _ := X36
        have hS36 : s.Since T36.vm T36.heap.size := State.Since.trans hS34 hSq36 (Nat.le_trans hk34 (by first | exact hgr36 | (rw [← (rfl : T34.heap = T34.heap)]; exact hgr36)))
        have hZ36 : Z.Warmed39 (s.setVm T36.vm).vm := State.Warmed39.trans (t := s.setVm T34.vm) hZ34 hSq36.1
        have hown36 : (s.setVm T36.vm).vm.findClass "com/example/affordance/affordance/PathSegmentsIsLiteralPinLaw" = some m.cls := by rw [show (s.setVm T36.vm).vm = T36.vm from rfl, hSq36.1.alike.findClass]; exact hown34
        have hk36 : T36.heap.size ≤ T36.heap.size := Nat.le_refl _
        obtain ⟨rr36, j36, i36, rfl, N36q, Kq36, Eq36, Fa36, Fb36, Fc36, Fd36, hji36, hil36⟩ := hQ36
        have N36 := Fr.app N34 N36q
        have f36_0 : Exa Z T36.heap sp "java/lang/String" := (f34_0.keep Kq36)
        have f36_1 : Fld Z T36.heap sp "java/lang/String" "coder" "B" (.int (0 : Int32)) := (f34_1.keep Kq36 (ninS ne_sp_o29 nin0))
        have f36_2 : Fld Z T36.heap sp "java/lang/String" "value" "[B" (.ref tp) := (f34_2.keep Kq36 (ninS ne_sp_o29 nin0))
        have f36_3 : Arv Z T36.heap tp kbp .byte (Int32.ofNat cs.length) ((cs.map (fun c => c.toInt8.toInt32)).map Value.int) (.int (0 : Int32)) := (f34_3.keep Kq36 (ninS ne_tp_o29 nin0))
        have f36_4 : Exa Z T36.heap o29 "com/example/affordance/affordance/PathSegments" := Eq36
        have f36_5 : Fld Z T36.heap o29 "com/example/affordance/affordance/PathSegments" "path" "Ljava/lang/String;" (.ref sp) := Fa36
        have f36_6 : Fld Z T36.heap o29 "com/example/affordance/affordance/PathSegments" "start" "I" (.int (Int32.ofNat j36)) := Fb36
        have f36_7 : Fld Z T36.heap o29 "com/example/affordance/affordance/PathSegments" "end" "I" (.int (Int32.ofNat i36)) := Fc36
        have f36_8 : Fld Z T36.heap o29 "com/example/affordance/affordance/PathSegments" "template" "Z" (.int (own_tpl cs j36 i36)) := Fd36
        have Zs36 : n0 ≤ T36.heap.size := (Nat.le_trans Zs34 Kq36.1)
        have O36 : Old Z n0 T36.heap := O34.keep Kq36 (allS ge_o29 all0)
        have CC36 : CHr Z own_EL s.vm h0 T36.vm T36.heap := CC34.trans CHq36
        refine GoH.step (fun t_ k_ => st36.trans k_) ?_
        show GoH _ _ _ _ _ _ _ _ _ _ T36 (mkF m 90 #[.val (.int p1), .val (.int p2), .val (.int p3), .val (.int p4), .val (.int p5), .val (.int nl), .val (.int kd), .val (.ref sp), .val (.ref o29), .unset, .unset, .unset] [(.int rr36)])
        refine GoH.step (fun t_ k_ => XT.pop X36.here hx rfl (hb hby at_90) rfl rfl k_) ?_
        show GoH _ _ _ _ _ _ _ _ _ _ T36 (mkF m 91 #[.val (.int p1), .val (.int p2), .val (.int p3), .val (.int p4), .val (.int p5), .val (.int nl), .val (.int kd), .val (.ref sp), .val (.ref o29), .unset, .unset, .unset] [])
        refine GoH.step (fun t_ k_ => XS.iload X36.here hx rfl (hb hby at_91) rfl k_) ?_
        show GoH _ _ _ _ _ _ _ _ _ _ T36 (mkF m 93 #[.val (.int p1), .val (.int p2), .val (.int p3), .val (.int p4), .val (.int p5), .val (.int nl), .val (.int kd), .val (.ref sp), .val (.ref o29), .unset, .unset, .unset] [(.int kd)])
        refine GoH.step (fun t_ k_ => XS.iconst X36.here hx rfl (hb hby at_93) k_) ?_
        show GoH _ _ _ _ _ _ _ _ _ _ T36 (mkF m 94 #[.val (.int p1), .val (.int p2), .val (.int p3), .val (.int p4), .val (.int p5), .val (.int nl), .val (.int kd), .val (.ref sp), .val (.ref o29), .unset, .unset, .unset] [(.int (3 : Int32)), (.int kd)])
        by_cases hb94_37 : (3 : Int32) < kd
        · refine GoH.step (fun t_ k_ => XS.icmpNo X36.here hx rfl (hb hby at_94) rfl (XT.ii_le_f hb94_37) k_) ?_
          show GoH _ _ _ _ _ _ _ _ _ _ T36 (mkF m 97 #[.val (.int p1), .val (.int p2), .val (.int p3), .val (.int p4), .val (.int p5), .val (.int nl), .val (.int kd), .val (.ref sp), .val (.ref o29), .unset, .unset, .unset] [])
          refine GoH.step (fun t_ k_ => XS.aload X36.here hx rfl (hb hby at_97) rfl rfl k_) ?_
          show GoH _ _ _ _ _ _ _ _ _ _ T36 (mkF m 99 #[.val (.int p1), .val (.int p2), .val (.int p3), .val (.int p4), .val (.int p5), .val (.int nl), .val (.int kd), .val (.ref sp), .val (.ref o29), .unset, .unset, .unset] [(.ref o29)])
          obtain ⟨cq38, kq38, qa38, qb38, qc38⟩ := isOf hZ36 rfl f36_4
          obtain ⟨_, _, ⟨T38, L38, k38, n38⟩, -, X38, hSq38, hgr38, ⟨Lc38, hQ38, l38, y38, z38, CHq38⟩, st38⟩ := X36.virtualBackS hx (y := (⟨"com/example/affordance/affordance/PathSegments", "next", "()Z"⟩ : MethodName)) (z := (⟨"com/example/affordance/affordance/PathSegments", "next", "()Z"⟩ : MethodName)) hown36 (mvT hZ36 (hw _ (List.mem_of_getElem? (i := 69) rfl))) (mvT hZ36 (hw _ (List.mem_of_getElem? (i := 70) rfl))) (notFace_of_selects (args := #[]) (mvT hZ36 (hw _ (List.mem_of_getElem? (i := 72) rfl)))) (mvT hZ36 (hw _ (List.mem_of_getElem? (i := 72) rfl))) (mvT hZ36 (hw _ (List.mem_of_getElem? (i := 71) rfl))) (by decide) (backOfSH (W := 0) (rmNxB l Z a0 hw [] o29 G1 G3 sp tp kbp cs j36 i36 T36.heap n0 Zs36 ge_o29 O36 S_COMPACT P_COMPACT S_SIOOBE r_SIOOBE f36_4 f36_5 f36_6 f36_7 f36_8 f36_0 f36_2 f36_1 f36_3 hok hlen ne_sp_o29 ne_tp_o29 hji36 hil36) hZ36 (hw _ (List.mem_of_getElem? (i := 73) rfl)) (hw _ (List.mem_of_getElem? (i := 32) rfl)) (by decide) (by decide) hEL CC36.1) qa38 qc38 (g := (mkF m 99 #[.val (.int p1), .val (.int p2), .val (.int p3), .val (.int p4), .val (.int p5), .val (.int nl), .val (.int kd), .val (.ref sp), .val (.ref o29), .unset, .unset, .unset] [(.ref o29)])) rfl (by rw [hml]; rfl) (Steps.refl _) (argsL := []) (rest := []) (lenOf pd_9 rfl) rfl (by show 2 * 0 + _ ≤ _; exact Nat.le_of_eq rfl) (hb hby at_99) (fun _ _ => ⟨rfl, rfl, (by decide : 0 + 0 + 0 + 0 + 0 + 6 + 1 + 0 + 2 + 2 + 2 + 2 ≤ _), (by decide : 0 + 0 + 0 + 0 + 0 + 12 + 4 + 0 + 8 + 8 + 8 + 8 ≤ _)⟩)
          dsimp only [Pt.U, Pt.locs, Pt.cells, Pt.slots] at X38 hSq38 hgr38 l38 y38 z38 st38 hQ38 CHq38
          subst l38 y38 z38
          have X38 : Stand p l e _ (s.setVm T38.vm) _ _ _ _ _ T38 _ _ _ := X38
          have hS38 : s.Since T38.vm T38.heap.size := State.Since.trans hS36 hSq38 (Nat.le_trans hk36 (by first | exact hgr38 | (rw [← (rfl : T36.heap = T36.heap)]; exact hgr38)))
          have hZ38 : Z.Warmed39 (s.setVm T38.vm).vm := State.Warmed39.trans (t := s.setVm T36.vm) hZ36 hSq38.1
          have hown38 : (s.setVm T38.vm).vm.findClass "com/example/affordance/affordance/PathSegmentsIsLiteralPinLaw" = some m.cls := by rw [show (s.setVm T38.vm).vm = T38.vm from rfl, hSq38.1.alike.findClass]; exact hown36
          have hk38 : T38.heap.size ≤ T38.heap.size := Nat.le_refl _
          obtain ⟨rr38, j38, i38, rfl, N38q, Kq38, Eq38, Fa38, Fb38, Fc38, Fd38, hji38, hil38⟩ := hQ38
          have N38 := Fr.app N36 N38q
          have f38_0 : Exa Z T38.heap sp "java/lang/String" := (f36_0.keep Kq38)
          have f38_1 : Fld Z T38.heap sp "java/lang/String" "coder" "B" (.int (0 : Int32)) := (f36_1.keep Kq38 (ninS ne_sp_o29 nin0))
          have f38_2 : Fld Z T38.heap sp "java/lang/String" "value" "[B" (.ref tp) := (f36_2.keep Kq38 (ninS ne_sp_o29 nin0))
          have f38_3 : Arv Z T38.heap tp kbp .byte (Int32.ofNat cs.length) ((cs.map (fun c => c.toInt8.toInt32)).map Value.int) (.int (0 : Int32)) := (f36_3.keep Kq38 (ninS ne_tp_o29 nin0))
          have f38_4 : Exa Z T38.heap o29 "com/example/affordance/affordance/PathSegments" := Eq38
          have f38_5 : Fld Z T38.heap o29 "com/example/affordance/affordance/PathSegments" "path" "Ljava/lang/String;" (.ref sp) := Fa38
          have f38_6 : Fld Z T38.heap o29 "com/example/affordance/affordance/PathSegments" "start" "I" (.int (Int32.ofNat j38)) := Fb38
          have f38_7 : Fld Z T38.heap o29 "com/example/affordance/affordance/PathSegments" "end" "I" (.int (Int32.ofNat i38)) := Fc38
          have f38_8 : Fld Z T38.heap o29 "com/example/affordance/affordance/PathSegments" "template" "Z" (.int (own_tpl cs j38 i38)) := Fd38
          have Zs38 : n0 ≤ T38.heap.size := (Nat.le_trans Zs36 Kq38.1)
          have O38 : Old Z n0 T38.heap := O36.keep Kq38 (allS ge_o29 all0)
          have CC38 : CHr Z own_EL s.vm h0 T38.vm T38.heap := CC36.trans CHq38
          refine GoH.step (fun t_ k_ => st38.trans k_) ?_
          show GoH _ _ _ _ _ _ _ _ _ _ T38 (mkF m 102 #[.val (.int p1), .val (.int p2), .val (.int p3), .val (.int p4), .val (.int p5), .val (.int nl), .val (.int kd), .val (.ref sp), .val (.ref o29), .unset, .unset, .unset] [(.int rr38)])
          refine GoH.step (fun t_ k_ => XT.pop X38.here hx rfl (hb hby at_102) rfl rfl k_) ?_
          show GoH _ _ _ _ _ _ _ _ _ _ T38 (mkF m 103 #[.val (.int p1), .val (.int p2), .val (.int p3), .val (.int p4), .val (.int p5), .val (.int nl), .val (.int kd), .val (.ref sp), .val (.ref o29), .unset, .unset, .unset] [])
          refine GoH.step (fun t_ k_ => XS.iload X38.here hx rfl (hb hby at_103) rfl k_) ?_
          show GoH _ _ _ _ _ _ _ _ _ _ T38 (mkF m 105 #[.val (.int p1), .val (.int p2), .val (.int p3), .val (.int p4), .val (.int p5), .val (.int nl), .val (.int kd), .val (.ref sp), .val (.ref o29), .unset, .unset, .unset] [(.int kd)])
          refine GoH.step (fun t_ k_ => XS.iconst X38.here hx rfl (hb hby at_105) k_) ?_
          show GoH _ _ _ _ _ _ _ _ _ _ T38 (mkF m 106 #[.val (.int p1), .val (.int p2), .val (.int p3), .val (.int p4), .val (.int p5), .val (.int nl), .val (.int kd), .val (.ref sp), .val (.ref o29), .unset, .unset, .unset] [(.int (4 : Int32)), (.int kd)])
          by_cases hb106_39 : (4 : Int32) < kd
          · refine GoH.step (fun t_ k_ => XS.icmpNo X38.here hx rfl (hb hby at_106) rfl (XT.ii_le_f hb106_39) k_) ?_
            show GoH _ _ _ _ _ _ _ _ _ _ T38 (mkF m 109 #[.val (.int p1), .val (.int p2), .val (.int p3), .val (.int p4), .val (.int p5), .val (.int nl), .val (.int kd), .val (.ref sp), .val (.ref o29), .unset, .unset, .unset] [])
            refine GoH.step (fun t_ k_ => XS.aload X38.here hx rfl (hb hby at_109) rfl rfl k_) ?_
            show GoH _ _ _ _ _ _ _ _ _ _ T38 (mkF m 111 #[.val (.int p1), .val (.int p2), .val (.int p3), .val (.int p4), .val (.int p5), .val (.int nl), .val (.int kd), .val (.ref sp), .val (.ref o29), .unset, .unset, .unset] [(.ref o29)])
            obtain ⟨cq40, kq40, qa40, qb40, qc40⟩ := isOf hZ38 rfl f38_4
            obtain ⟨_, _, ⟨T40, L40, k40, n40⟩, -, X40, hSq40, hgr40, ⟨Lc40, hQ40, l40, y40, z40, CHq40⟩, st40⟩ := X38.virtualBackS hx (y := (⟨"com/example/affordance/affordance/PathSegments", "next", "()Z"⟩ : MethodName)) (z := (⟨"com/example/affordance/affordance/PathSegments", "next", "()Z"⟩ : MethodName)) hown38 (mvT hZ38 (hw _ (List.mem_of_getElem? (i := 69) rfl))) (mvT hZ38 (hw _ (List.mem_of_getElem? (i := 70) rfl))) (notFace_of_selects (args := #[]) (mvT hZ38 (hw _ (List.mem_of_getElem? (i := 72) rfl)))) (mvT hZ38 (hw _ (List.mem_of_getElem? (i := 72) rfl))) (mvT hZ38 (hw _ (List.mem_of_getElem? (i := 71) rfl))) (by decide) (backOfSH (W := 0) (rmNxB l Z a0 hw [] o29 G1 G3 sp tp kbp cs j38 i38 T38.heap n0 Zs38 ge_o29 O38 S_COMPACT P_COMPACT S_SIOOBE r_SIOOBE f38_4 f38_5 f38_6 f38_7 f38_8 f38_0 f38_2 f38_1 f38_3 hok hlen ne_sp_o29 ne_tp_o29 hji38 hil38) hZ38 (hw _ (List.mem_of_getElem? (i := 73) rfl)) (hw _ (List.mem_of_getElem? (i := 32) rfl)) (by decide) (by decide) hEL CC38.1) qa40 qc40 (g := (mkF m 111 #[.val (.int p1), .val (.int p2), .val (.int p3), .val (.int p4), .val (.int p5), .val (.int nl), .val (.int kd), .val (.ref sp), .val (.ref o29), .unset, .unset, .unset] [(.ref o29)])) rfl (by rw [hml]; rfl) (Steps.refl _) (argsL := []) (rest := []) (lenOf pd_9 rfl) rfl (by show 2 * 0 + _ ≤ _; exact Nat.le_of_eq rfl) (hb hby at_111) (fun _ _ => ⟨rfl, rfl, (by decide : 0 + 0 + 0 + 0 + 0 + 6 + 1 + 0 + 2 + 2 + 2 + 2 + 2 ≤ _), (by decide : 0 + 0 + 0 + 0 + 0 + 12 + 4 + 0 + 8 + 8 + 8 + 8 + 8 ≤ _)⟩)
            dsimp only [Pt.U, Pt.locs, Pt.cells, Pt.slots] at X40 hSq40 hgr40 l40 y40 z40 st40 hQ40 CHq40
            subst l40 y40 z40
            have X40 : Stand p l e _ (s.setVm T40.vm) _ _ _ _ _ T40 _ _ _ := X40
            have hS40 : s.Since T40.vm T40.heap.size := State.Since.trans hS38 hSq40 (Nat.le_trans hk38 (by first | exact hgr40 | (rw [← (rfl : T38.heap = T38.heap)]; exact hgr40)))
            have hZ40 : Z.Warmed39 (s.setVm T40.vm).vm := State.Warmed39.trans (t := s.setVm T38.vm) hZ38 hSq40.1
            have hown40 : (s.setVm T40.vm).vm.findClass "com/example/affordance/affordance/PathSegmentsIsLiteralPinLaw" = some m.cls := by rw [show (s.setVm T40.vm).vm = T40.vm from rfl, hSq40.1.alike.findClass]; exact hown38
            have hk40 : T40.heap.size ≤ T40.heap.size := Nat.le_refl _
            obtain ⟨rr40, j40, i40, rfl, N40q, Kq40, Eq40, Fa40, Fb40, Fc40, Fd40, hji40, hil40⟩ := hQ40
            have N40 := Fr.app N38 N40q
            have f40_0 : Exa Z T40.heap sp "java/lang/String" := (f38_0.keep Kq40)
            have f40_1 : Fld Z T40.heap sp "java/lang/String" "coder" "B" (.int (0 : Int32)) := (f38_1.keep Kq40 (ninS ne_sp_o29 nin0))
            have f40_2 : Fld Z T40.heap sp "java/lang/String" "value" "[B" (.ref tp) := (f38_2.keep Kq40 (ninS ne_sp_o29 nin0))
            have f40_3 : Arv Z T40.heap tp kbp .byte (Int32.ofNat cs.length) ((cs.map (fun c => c.toInt8.toInt32)).map Value.int) (.int (0 : Int32)) := (f38_3.keep Kq40 (ninS ne_tp_o29 nin0))
            have f40_4 : Exa Z T40.heap o29 "com/example/affordance/affordance/PathSegments" := Eq40
            have f40_5 : Fld Z T40.heap o29 "com/example/affordance/affordance/PathSegments" "path" "Ljava/lang/String;" (.ref sp) := Fa40
            have f40_6 : Fld Z T40.heap o29 "com/example/affordance/affordance/PathSegments" "start" "I" (.int (Int32.ofNat j40)) := Fb40
            have f40_7 : Fld Z T40.heap o29 "com/example/affordance/affordance/PathSegments" "end" "I" (.int (Int32.ofNat i40)) := Fc40
            have f40_8 : Fld Z T40.heap o29 "com/example/affordance/affordance/PathSegments" "template" "Z" (.int (own_tpl cs j40 i40)) := Fd40
            have Zs40 : n0 ≤ T40.heap.size := (Nat.le_trans Zs38 Kq40.1)
            have O40 : Old Z n0 T40.heap := O38.keep Kq40 (allS ge_o29 all0)
            have CC40 : CHr Z own_EL s.vm h0 T40.vm T40.heap := CC38.trans CHq40
            refine GoH.step (fun t_ k_ => st40.trans k_) ?_
            show GoH _ _ _ _ _ _ _ _ _ _ T40 (mkF m 114 #[.val (.int p1), .val (.int p2), .val (.int p3), .val (.int p4), .val (.int p5), .val (.int nl), .val (.int kd), .val (.ref sp), .val (.ref o29), .unset, .unset, .unset] [(.int rr40)])
            refine GoH.step (fun t_ k_ => XT.pop X40.here hx rfl (hb hby at_114) rfl rfl k_) ?_
            show GoH _ _ _ _ _ _ _ _ _ _ T40 (mkF m 115 #[.val (.int p1), .val (.int p2), .val (.int p3), .val (.int p4), .val (.int p5), .val (.int nl), .val (.int kd), .val (.ref sp), .val (.ref o29), .unset, .unset, .unset] [])
            exact sgT l Z a0 hw p1 p2 p3 p4 p5 G1 G3 h0 n0 Z0 O0 S_COMPACT P_COMPACT S_SIOOBE r_SIOOBE hx hby hlk hml hret hnm nl kd sp tp kbp cs j40 i40 o29 (X40.mono (by decide) (by decide)) rfl N40 Zs40 O40 hS40 hk40 hZ40 hown40 hEL CC40 f40_4 f40_5 f40_6 f40_7 f40_8 f40_0 f40_2 f40_1 f40_3 hok hlen hji40 hil40
          · refine GoH.step (fun t_ k_ => XS.icmpYes X38.here hx rfl (pc0 := 106) (pc' := 115) rfl (hb hby at_106) rfl (XT.ii_le_t hb106_39) (by decide) (by decide) k_) ?_
            show GoH _ _ _ _ _ _ _ _ _ _ T38 (mkF m 115 #[.val (.int p1), .val (.int p2), .val (.int p3), .val (.int p4), .val (.int p5), .val (.int nl), .val (.int kd), .val (.ref sp), .val (.ref o29), .unset, .unset, .unset] [])
            exact sgT l Z a0 hw p1 p2 p3 p4 p5 G1 G3 h0 n0 Z0 O0 S_COMPACT P_COMPACT S_SIOOBE r_SIOOBE hx hby hlk hml hret hnm nl kd sp tp kbp cs j38 i38 o29 (X38.mono (by decide) (by decide)) rfl N38 Zs38 O38 hS38 hk38 hZ38 hown38 hEL CC38 f38_4 f38_5 f38_6 f38_7 f38_8 f38_0 f38_2 f38_1 f38_3 hok hlen hji38 hil38
        · refine GoH.step (fun t_ k_ => XS.icmpYes X36.here hx rfl (pc0 := 94) (pc' := 103) rfl (hb hby at_94) rfl (XT.ii_le_t hb94_37) (by decide) (by decide) k_) ?_
          show GoH _ _ _ _ _ _ _ _ _ _ T36 (mkF m 103 #[.val (.int p1), .val (.int p2), .val (.int p3), .val (.int p4), .val (.int p5), .val (.int nl), .val (.int kd), .val (.ref sp), .val (.ref o29), .unset, .unset, .unset] [])
          refine GoH.step (fun t_ k_ => XS.iload X36.here hx rfl (hb hby at_103) rfl k_) ?_
          show GoH _ _ _ _ _ _ _ _ _ _ T36 (mkF m 105 #[.val (.int p1), .val (.int p2), .val (.int p3), .val (.int p4), .val (.int p5), .val (.int nl), .val (.int kd), .val (.ref sp), .val (.ref o29), .unset, .unset, .unset] [(.int kd)])
          refine GoH.step (fun t_ k_ => XS.iconst X36.here hx rfl (hb hby at_105) k_) ?_
          show GoH _ _ _ _ _ _ _ _ _ _ T36 (mkF m 106 #[.val (.int p1), .val (.int p2), .val (.int p3), .val (.int p4), .val (.int p5), .val (.int nl), .val (.int kd), .val (.ref sp), .val (.ref o29), .unset, .unset, .unset] [(.int (4 : Int32)), (.int kd)])
          have hb106_41 : ¬ ((4 : Int32) < kd) := by exact own_tr hb94_37 (by decide)
          refine GoH.step (fun t_ k_ => XS.icmpYes X36.here hx rfl (pc0 := 106) (pc' := 115) rfl (hb hby at_106) rfl (XT.ii_le_t hb106_41) (by decide) (by decide) k_) ?_
          show GoH _ _ _ _ _ _ _ _ _ _ T36 (mkF m 115 #[.val (.int p1), .val (.int p2), .val (.int p3), .val (.int p4), .val (.int p5), .val (.int nl), .val (.int kd), .val (.ref sp), .val (.ref o29), .unset, .unset, .unset] [])
          exact sgT l Z a0 hw p1 p2 p3 p4 p5 G1 G3 h0 n0 Z0 O0 S_COMPACT P_COMPACT S_SIOOBE r_SIOOBE hx hby hlk hml hret hnm nl kd sp tp kbp cs j36 i36 o29 (X36.mono (by decide) (by decide)) rfl N36 Zs36 O36 hS36 hk36 hZ36 hown36 hEL CC36 f36_4 f36_5 f36_6 f36_7 f36_8 f36_0 f36_2 f36_1 f36_3 hok hlen hji36 hil36
      · refine GoH.step (fun t_ k_ => XS.icmpYes X34.here hx rfl (pc0 := 82) (pc' := 91) rfl (hb hby at_82) rfl (XT.ii_le_t hb82_35) (by decide) (by decide) k_) ?_
        show GoH _ _ _ _ _ _ _ _ _ _ T34 (mkF m 91 #[.val (.int p1), .val (.int p2), .val (.int p3), .val (.int p4), .val (.int p5), .val (.int nl), .val (.int kd), .val (.ref sp), .val (.ref o29), .unset, .unset, .unset] [])
        refine GoH.step (fun t_ k_ => XS.iload X34.here hx rfl (hb hby at_91) rfl k_) ?_
        show GoH _ _ _ _ _ _ _ _ _ _ T34 (mkF m 93 #[.val (.int p1), .val (.int p2), .val (.int p3), .val (.int p4), .val (.int p5), .val (.int nl), .val (.int kd), .val (.ref sp), .val (.ref o29), .unset, .unset, .unset] [(.int kd)])
        refine GoH.step (fun t_ k_ => XS.iconst X34.here hx rfl (hb hby at_93) k_) ?_
        show GoH _ _ _ _ _ _ _ _ _ _ T34 (mkF m 94 #[.val (.int p1), .val (.int p2), .val (.int p3), .val (.int p4), .val (.int p5), .val (.int nl), .val (.int kd), .val (.ref sp), .val (.ref o29), .unset, .unset, .unset] [(.int (3 : Int32)), (.int kd)])
        have hb94_42 : ¬ ((3 : Int32) < kd) := by exact own_tr hb82_35 (by decide)
        refine GoH.step (fun t_ k_ => XS.icmpYes X34.here hx rfl (pc0 := 94) (pc' := 103) rfl (hb hby at_94) rfl (XT.ii_le_t hb94_42) (by decide) (by decide) k_) ?_
        show GoH _ _ _ _ _ _ _ _ _ _ T34 (mkF m 103 #[.val (.int p1), .val (.int p2), .val (.int p3), .val (.int p4), .val (.int p5), .val (.int nl), .val (.int kd), .val (.ref sp), .val (.ref o29), .unset, .unset, .unset] [])
        refine GoH.step (fun t_ k_ => XS.iload X34.here hx rfl (hb hby at_103) rfl k_) ?_
        show GoH _ _ _ _ _ _ _ _ _ _ T34 (mkF m 105 #[.val (.int p1), .val (.int p2), .val (.int p3), .val (.int p4), .val (.int p5), .val (.int nl), .val (.int kd), .val (.ref sp), .val (.ref o29), .unset, .unset, .unset] [(.int kd)])
        refine GoH.step (fun t_ k_ => XS.iconst X34.here hx rfl (hb hby at_105) k_) ?_
        show GoH _ _ _ _ _ _ _ _ _ _ T34 (mkF m 106 #[.val (.int p1), .val (.int p2), .val (.int p3), .val (.int p4), .val (.int p5), .val (.int nl), .val (.int kd), .val (.ref sp), .val (.ref o29), .unset, .unset, .unset] [(.int (4 : Int32)), (.int kd)])
        have hb106_43 : ¬ ((4 : Int32) < kd) := by exact own_tr hb94_42 (by decide)
        refine GoH.step (fun t_ k_ => XS.icmpYes X34.here hx rfl (pc0 := 106) (pc' := 115) rfl (hb hby at_106) rfl (XT.ii_le_t hb106_43) (by decide) (by decide) k_) ?_
        show GoH _ _ _ _ _ _ _ _ _ _ T34 (mkF m 115 #[.val (.int p1), .val (.int p2), .val (.int p3), .val (.int p4), .val (.int p5), .val (.int nl), .val (.int kd), .val (.ref sp), .val (.ref o29), .unset, .unset, .unset] [])
        exact sgT l Z a0 hw p1 p2 p3 p4 p5 G1 G3 h0 n0 Z0 O0 S_COMPACT P_COMPACT S_SIOOBE r_SIOOBE hx hby hlk hml hret hnm nl kd sp tp kbp cs j34 i34 o29 (X34.mono (by decide) (by decide)) rfl N34 Zs34 O34 hS34 hk34 hZ34 hown34 hEL CC34 f34_4 f34_5 f34_6 f34_7 f34_8 f34_0 f34_2 f34_1 f34_3 hok hlen hji34 hil34
    · refine GoH.step (fun t_ k_ => XS.icmpYes X32.here hx rfl (pc0 := 70) (pc' := 79) rfl (hb hby at_70) rfl (XT.ii_le_t hb70_33) (by decide) (by decide) k_) ?_
      show GoH _ _ _ _ _ _ _ _ _ _ T32 (mkF m 79 #[.val (.int p1), .val (.int p2), .val (.int p3), .val (.int p4), .val (.int p5), .val (.int nl), .val (.int kd), .val (.ref sp), .val (.ref o29), .unset, .unset, .unset] [])
      refine GoH.step (fun t_ k_ => XS.iload X32.here hx rfl (hb hby at_79) rfl k_) ?_
      show GoH _ _ _ _ _ _ _ _ _ _ T32 (mkF m 81 #[.val (.int p1), .val (.int p2), .val (.int p3), .val (.int p4), .val (.int p5), .val (.int nl), .val (.int kd), .val (.ref sp), .val (.ref o29), .unset, .unset, .unset] [(.int kd)])
      refine GoH.step (fun t_ k_ => XS.iconst X32.here hx rfl (hb hby at_81) k_) ?_
      show GoH _ _ _ _ _ _ _ _ _ _ T32 (mkF m 82 #[.val (.int p1), .val (.int p2), .val (.int p3), .val (.int p4), .val (.int p5), .val (.int nl), .val (.int kd), .val (.ref sp), .val (.ref o29), .unset, .unset, .unset] [(.int (2 : Int32)), (.int kd)])
      have hb82_44 : ¬ ((2 : Int32) < kd) := by exact own_tr hb70_33 (by decide)
      refine GoH.step (fun t_ k_ => XS.icmpYes X32.here hx rfl (pc0 := 82) (pc' := 91) rfl (hb hby at_82) rfl (XT.ii_le_t hb82_44) (by decide) (by decide) k_) ?_
      show GoH _ _ _ _ _ _ _ _ _ _ T32 (mkF m 91 #[.val (.int p1), .val (.int p2), .val (.int p3), .val (.int p4), .val (.int p5), .val (.int nl), .val (.int kd), .val (.ref sp), .val (.ref o29), .unset, .unset, .unset] [])
      refine GoH.step (fun t_ k_ => XS.iload X32.here hx rfl (hb hby at_91) rfl k_) ?_
      show GoH _ _ _ _ _ _ _ _ _ _ T32 (mkF m 93 #[.val (.int p1), .val (.int p2), .val (.int p3), .val (.int p4), .val (.int p5), .val (.int nl), .val (.int kd), .val (.ref sp), .val (.ref o29), .unset, .unset, .unset] [(.int kd)])
      refine GoH.step (fun t_ k_ => XS.iconst X32.here hx rfl (hb hby at_93) k_) ?_
      show GoH _ _ _ _ _ _ _ _ _ _ T32 (mkF m 94 #[.val (.int p1), .val (.int p2), .val (.int p3), .val (.int p4), .val (.int p5), .val (.int nl), .val (.int kd), .val (.ref sp), .val (.ref o29), .unset, .unset, .unset] [(.int (3 : Int32)), (.int kd)])
      have hb94_45 : ¬ ((3 : Int32) < kd) := by exact own_tr hb82_44 (by decide)
      refine GoH.step (fun t_ k_ => XS.icmpYes X32.here hx rfl (pc0 := 94) (pc' := 103) rfl (hb hby at_94) rfl (XT.ii_le_t hb94_45) (by decide) (by decide) k_) ?_
      show GoH _ _ _ _ _ _ _ _ _ _ T32 (mkF m 103 #[.val (.int p1), .val (.int p2), .val (.int p3), .val (.int p4), .val (.int p5), .val (.int nl), .val (.int kd), .val (.ref sp), .val (.ref o29), .unset, .unset, .unset] [])
      refine GoH.step (fun t_ k_ => XS.iload X32.here hx rfl (hb hby at_103) rfl k_) ?_
      show GoH _ _ _ _ _ _ _ _ _ _ T32 (mkF m 105 #[.val (.int p1), .val (.int p2), .val (.int p3), .val (.int p4), .val (.int p5), .val (.int nl), .val (.int kd), .val (.ref sp), .val (.ref o29), .unset, .unset, .unset] [(.int kd)])
      refine GoH.step (fun t_ k_ => XS.iconst X32.here hx rfl (hb hby at_105) k_) ?_
      show GoH _ _ _ _ _ _ _ _ _ _ T32 (mkF m 106 #[.val (.int p1), .val (.int p2), .val (.int p3), .val (.int p4), .val (.int p5), .val (.int nl), .val (.int kd), .val (.ref sp), .val (.ref o29), .unset, .unset, .unset] [(.int (4 : Int32)), (.int kd)])
      have hb106_46 : ¬ ((4 : Int32) < kd) := by exact own_tr hb94_45 (by decide)
      refine GoH.step (fun t_ k_ => XS.icmpYes X32.here hx rfl (pc0 := 106) (pc' := 115) rfl (hb hby at_106) rfl (XT.ii_le_t hb106_46) (by decide) (by decide) k_) ?_
      show GoH _ _ _ _ _ _ _ _ _ _ T32 (mkF m 115 #[.val (.int p1), .val (.int p2), .val (.int p3), .val (.int p4), .val (.int p5), .val (.int nl), .val (.int kd), .val (.ref sp), .val (.ref o29), .unset, .unset, .unset] [])
      exact sgT l Z a0 hw p1 p2 p3 p4 p5 G1 G3 h0 n0 Z0 O0 S_COMPACT P_COMPACT S_SIOOBE r_SIOOBE hx hby hlk hml hret hnm nl kd sp tp kbp cs j32 i32 o29 (X32.mono (by decide) (by decide)) rfl N32 Zs32 O32 hS32 hk32 hZ32 hown32 hEL CC32 f32_4 f32_5 f32_6 f32_7 f32_8 f32_0 f32_2 f32_1 f32_3 hok hlen hji32 hil32
  · refine GoH.step (fun t_ k_ => XS.ifYes X30.here hx rfl (pc0 := 58) (pc' := 67) rfl (hb hby at_58) rfl (XT.i0_le_t hb58_31) (by decide) (by decide) k_) ?_
    show GoH _ _ _ _ _ _ _ _ _ _ T30 (mkF m 67 #[.val (.int p1), .val (.int p2), .val (.int p3), .val (.int p4), .val (.int p5), .val (.int nl), .val (.int kd), .val (.ref sp), .val (.ref o29), .unset, .unset, .unset] [])
    refine GoH.step (fun t_ k_ => XS.iload X30.here hx rfl (hb hby at_67) rfl k_) ?_
    show GoH _ _ _ _ _ _ _ _ _ _ T30 (mkF m 69 #[.val (.int p1), .val (.int p2), .val (.int p3), .val (.int p4), .val (.int p5), .val (.int nl), .val (.int kd), .val (.ref sp), .val (.ref o29), .unset, .unset, .unset] [(.int kd)])
    refine GoH.step (fun t_ k_ => XS.iconst X30.here hx rfl (hb hby at_69) k_) ?_
    show GoH _ _ _ _ _ _ _ _ _ _ T30 (mkF m 70 #[.val (.int p1), .val (.int p2), .val (.int p3), .val (.int p4), .val (.int p5), .val (.int nl), .val (.int kd), .val (.ref sp), .val (.ref o29), .unset, .unset, .unset] [(.int (1 : Int32)), (.int kd)])
    have hb70_47 : ¬ ((1 : Int32) < kd) := by exact own_tr hb58_31 (by decide)
    refine GoH.step (fun t_ k_ => XS.icmpYes X30.here hx rfl (pc0 := 70) (pc' := 79) rfl (hb hby at_70) rfl (XT.ii_le_t hb70_47) (by decide) (by decide) k_) ?_
    show GoH _ _ _ _ _ _ _ _ _ _ T30 (mkF m 79 #[.val (.int p1), .val (.int p2), .val (.int p3), .val (.int p4), .val (.int p5), .val (.int nl), .val (.int kd), .val (.ref sp), .val (.ref o29), .unset, .unset, .unset] [])
    refine GoH.step (fun t_ k_ => XS.iload X30.here hx rfl (hb hby at_79) rfl k_) ?_
    show GoH _ _ _ _ _ _ _ _ _ _ T30 (mkF m 81 #[.val (.int p1), .val (.int p2), .val (.int p3), .val (.int p4), .val (.int p5), .val (.int nl), .val (.int kd), .val (.ref sp), .val (.ref o29), .unset, .unset, .unset] [(.int kd)])
    refine GoH.step (fun t_ k_ => XS.iconst X30.here hx rfl (hb hby at_81) k_) ?_
    show GoH _ _ _ _ _ _ _ _ _ _ T30 (mkF m 82 #[.val (.int p1), .val (.int p2), .val (.int p3), .val (.int p4), .val (.int p5), .val (.int nl), .val (.int kd), .val (.ref sp), .val (.ref o29), .unset, .unset, .unset] [(.int (2 : Int32)), (.int kd)])
    have hb82_48 : ¬ ((2 : Int32) < kd) := by exact own_tr hb70_47 (by decide)
    refine GoH.step (fun t_ k_ => XS.icmpYes X30.here hx rfl (pc0 := 82) (pc' := 91) rfl (hb hby at_82) rfl (XT.ii_le_t hb82_48) (by decide) (by decide) k_) ?_
    show GoH _ _ _ _ _ _ _ _ _ _ T30 (mkF m 91 #[.val (.int p1), .val (.int p2), .val (.int p3), .val (.int p4), .val (.int p5), .val (.int nl), .val (.int kd), .val (.ref sp), .val (.ref o29), .unset, .unset, .unset] [])
    refine GoH.step (fun t_ k_ => XS.iload X30.here hx rfl (hb hby at_91) rfl k_) ?_
    show GoH _ _ _ _ _ _ _ _ _ _ T30 (mkF m 93 #[.val (.int p1), .val (.int p2), .val (.int p3), .val (.int p4), .val (.int p5), .val (.int nl), .val (.int kd), .val (.ref sp), .val (.ref o29), .unset, .unset, .unset] [(.int kd)])
    refine GoH.step (fun t_ k_ => XS.iconst X30.here hx rfl (hb hby at_93) k_) ?_
    show GoH _ _ _ _ _ _ _ _ _ _ T30 (mkF m 94 #[.val (.int p1), .val (.int p2), .val (.int p3), .val (.int p4), .val (.int p5), .val (.int nl), .val (.int kd), .val (.ref sp), .val (.ref o29), .unset, .unset, .unset] [(.int (3 : Int32)), (.int kd)])
    have hb94_49 : ¬ ((3 : Int32) < kd) := by exact own_tr hb82_48 (by decide)
    refine GoH.step (fun t_ k_ => XS.icmpYes X30.here hx rfl (pc0 := 94) (pc' := 103) rfl (hb hby at_94) rfl (XT.ii_le_t hb94_49) (by decide) (by decide) k_) ?_
    show GoH _ _ _ _ _ _ _ _ _ _ T30 (mkF m 103 #[.val (.int p1), .val (.int p2), .val (.int p3), .val (.int p4), .val (.int p5), .val (.int nl), .val (.int kd), .val (.ref sp), .val (.ref o29), .unset, .unset, .unset] [])
    refine GoH.step (fun t_ k_ => XS.iload X30.here hx rfl (hb hby at_103) rfl k_) ?_
    show GoH _ _ _ _ _ _ _ _ _ _ T30 (mkF m 105 #[.val (.int p1), .val (.int p2), .val (.int p3), .val (.int p4), .val (.int p5), .val (.int nl), .val (.int kd), .val (.ref sp), .val (.ref o29), .unset, .unset, .unset] [(.int kd)])
    refine GoH.step (fun t_ k_ => XS.iconst X30.here hx rfl (hb hby at_105) k_) ?_
    show GoH _ _ _ _ _ _ _ _ _ _ T30 (mkF m 106 #[.val (.int p1), .val (.int p2), .val (.int p3), .val (.int p4), .val (.int p5), .val (.int nl), .val (.int kd), .val (.ref sp), .val (.ref o29), .unset, .unset, .unset] [(.int (4 : Int32)), (.int kd)])
    have hb106_50 : ¬ ((4 : Int32) < kd) := by exact own_tr hb94_49 (by decide)
    refine GoH.step (fun t_ k_ => XS.icmpYes X30.here hx rfl (pc0 := 106) (pc' := 115) rfl (hb hby at_106) rfl (XT.ii_le_t hb106_50) (by decide) (by decide) k_) ?_
    show GoH _ _ _ _ _ _ _ _ _ _ T30 (mkF m 115 #[.val (.int p1), .val (.int p2), .val (.int p3), .val (.int p4), .val (.int p5), .val (.int nl), .val (.int kd), .val (.ref sp), .val (.ref o29), .unset, .unset, .unset] [])
    refine GoH.step (fun t_ k_ => XS.aload X30.here hx rfl (hb hby at_115) rfl rfl k_) ?_
    show GoH _ _ _ _ _ _ _ _ _ _ T30 (mkF m 117 #[.val (.int p1), .val (.int p2), .val (.int p3), .val (.int p4), .val (.int p5), .val (.int nl), .val (.int kd), .val (.ref sp), .val (.ref o29), .unset, .unset, .unset] [(.ref o29)])
    obtain ⟨cq51, kq51, qa51, qb51, qc51⟩ := isOf hZ28 rfl f30_4
    obtain ⟨_, _, ⟨T51, L51, k51, n51⟩, -, X51, ⟨Lc51, hQ51, l51, y51, z51⟩, st51⟩ := X30.virtualBack hx (y := (⟨"com/example/affordance/affordance/PathSegments", "start", "()I"⟩ : MethodName)) (z := (⟨"com/example/affordance/affordance/PathSegments", "start", "()I"⟩ : MethodName)) hown28 (mvT hZ28 (hw _ (List.mem_of_getElem? (i := 41) rfl))) (mvT hZ28 (hw _ (List.mem_of_getElem? (i := 42) rfl))) (notFace_of_selects (args := #[]) (mvT hZ28 (hw _ (List.mem_of_getElem? (i := 44) rfl)))) (mvT hZ28 (hw _ (List.mem_of_getElem? (i := 44) rfl))) (mvT hZ28 (hw _ (List.mem_of_getElem? (i := 43) rfl))) (by decide) (backOf (W := 0) (rmGs l Z a0 hw [] o29 (0 : Int32) T30.heap n0 Zs30 f30_6) hZ28 (hw _ (List.mem_of_getElem? (i := 45) rfl)) (hw _ (List.mem_of_getElem? (i := 32) rfl)) (by decide) (by decide)) qa51 qc51 (g := (mkF m 117 #[.val (.int p1), .val (.int p2), .val (.int p3), .val (.int p4), .val (.int p5), .val (.int nl), .val (.int kd), .val (.ref sp), .val (.ref o29), .unset, .unset, .unset] [(.ref o29)])) rfl (by rw [hml]; rfl) (Steps.refl _) (argsL := []) (rest := []) (lenOf pd_2 rfl) rfl (by show 2 * 0 + _ ≤ _; exact Nat.le_of_eq rfl) (hb hby at_117) (fun _ _ => ⟨rfl, rfl, (by decide : 0 + 0 + 0 + 0 + 0 + 6 + 1 + 0 + 0 ≤ _), (by decide : 0 + 0 + 0 + 0 + 0 + 12 + 4 + 0 + 0 ≤ _)⟩)
    dsimp only [Pt.U, Pt.locs, Pt.cells, Pt.slots] at X51 l51 y51 z51 st51 hQ51
    subst l51 y51 z51
    obtain ⟨rfl, N51q, e51⟩ := hQ51
    have N51 := Fr.app N30 N51q
    refine GoH.step (fun t_ k_ => st51.trans k_) ?_
    show GoH _ _ _ _ _ _ _ _ _ _ T51 (mkF m 120 #[.val (.int p1), .val (.int p2), .val (.int p3), .val (.int p4), .val (.int p5), .val (.int nl), .val (.int kd), .val (.ref sp), .val (.ref o29), .unset, .unset, .unset] [(.int (0 : Int32))])
    refine GoH.step (fun t_ k_ => XS.istore X51.here hx rfl (hb hby at_120) rfl (l' := #[.val (.int p1), .val (.int p2), .val (.int p3), .val (.int p4), .val (.int p5), .val (.int nl), .val (.int kd), .val (.ref sp), .val (.ref o29), .val (.int (0 : Int32)), .unset, .unset]) rfl k_) ?_
    show GoH _ _ _ _ _ _ _ _ _ _ T51 (mkF m 122 #[.val (.int p1), .val (.int p2), .val (.int p3), .val (.int p4), .val (.int p5), .val (.int nl), .val (.int kd), .val (.ref sp), .val (.ref o29), .val (.int (0 : Int32)), .unset, .unset] [])
    refine GoH.step (fun t_ k_ => XS.aload X51.here hx rfl (hb hby at_122) rfl rfl k_) ?_
    show GoH _ _ _ _ _ _ _ _ _ _ T51 (mkF m 124 #[.val (.int p1), .val (.int p2), .val (.int p3), .val (.int p4), .val (.int p5), .val (.int nl), .val (.int kd), .val (.ref sp), .val (.ref o29), .val (.int (0 : Int32)), .unset, .unset] [(.ref o29)])
    obtain ⟨cq52, kq52, qa52, qb52, qc52⟩ := isOf hZ28 (e51) f30_4
    obtain ⟨_, _, ⟨T52, L52, k52, n52⟩, -, X52, ⟨Lc52, hQ52, l52, y52, z52⟩, st52⟩ := X51.virtualBack hx (y := (⟨"com/example/affordance/affordance/PathSegments", "end", "()I"⟩ : MethodName)) (z := (⟨"com/example/affordance/affordance/PathSegments", "end", "()I"⟩ : MethodName)) hown28 (mvT hZ28 (hw _ (List.mem_of_getElem? (i := 48) rfl))) (mvT hZ28 (hw _ (List.mem_of_getElem? (i := 49) rfl))) (notFace_of_selects (args := #[]) (mvT hZ28 (hw _ (List.mem_of_getElem? (i := 51) rfl)))) (mvT hZ28 (hw _ (List.mem_of_getElem? (i := 51) rfl))) (mvT hZ28 (hw _ (List.mem_of_getElem? (i := 50) rfl))) (by decide) (backOf (W := 0) (rmGe l Z a0 hw [] o29 (-1 : Int32) T30.heap n0 Zs30 f30_7) hZ28 (hw _ (List.mem_of_getElem? (i := 52) rfl)) (hw _ (List.mem_of_getElem? (i := 32) rfl)) (by decide) (by decide)) qa52 qc52 (g := (mkF m 124 #[.val (.int p1), .val (.int p2), .val (.int p3), .val (.int p4), .val (.int p5), .val (.int nl), .val (.int kd), .val (.ref sp), .val (.ref o29), .val (.int (0 : Int32)), .unset, .unset] [(.ref o29)])) rfl (by rw [hml]; rfl) (Steps.refl _) (argsL := []) (rest := []) (lenOf pd_2 rfl) rfl (by show 2 * 0 + _ ≤ _; exact Nat.le_of_eq rfl) (hb hby at_124) (fun _ _ => ⟨rfl, (e51), (by decide : 0 + 0 + 0 + 0 + 0 + 6 + 1 + 0 + 0 + 0 ≤ _), (by decide : 0 + 0 + 0 + 0 + 0 + 12 + 4 + 0 + 0 + 0 ≤ _)⟩)
    dsimp only [Pt.U, Pt.locs, Pt.cells, Pt.slots] at X52 l52 y52 z52 st52 hQ52
    subst l52 y52 z52
    obtain ⟨rfl, N52q, e52⟩ := hQ52
    have N52 := Fr.app N51 N52q
    refine GoH.step (fun t_ k_ => st52.trans k_) ?_
    show GoH _ _ _ _ _ _ _ _ _ _ T52 (mkF m 127 #[.val (.int p1), .val (.int p2), .val (.int p3), .val (.int p4), .val (.int p5), .val (.int nl), .val (.int kd), .val (.ref sp), .val (.ref o29), .val (.int (0 : Int32)), .unset, .unset] [(.int (-1 : Int32))])
    refine GoH.step (fun t_ k_ => XS.istore X52.here hx rfl (hb hby at_127) rfl (l' := #[.val (.int p1), .val (.int p2), .val (.int p3), .val (.int p4), .val (.int p5), .val (.int nl), .val (.int kd), .val (.ref sp), .val (.ref o29), .val (.int (0 : Int32)), .val (.int (-1 : Int32)), .unset]) rfl k_) ?_
    show GoH _ _ _ _ _ _ _ _ _ _ T52 (mkF m 129 #[.val (.int p1), .val (.int p2), .val (.int p3), .val (.int p4), .val (.int p5), .val (.int nl), .val (.int kd), .val (.ref sp), .val (.ref o29), .val (.int (0 : Int32)), .val (.int (-1 : Int32)), .unset] [])
    refine GoH.step (fun t_ k_ => XS.iload X52.here hx rfl (hb hby at_129) rfl k_) ?_
    show GoH _ _ _ _ _ _ _ _ _ _ T52 (mkF m 131 #[.val (.int p1), .val (.int p2), .val (.int p3), .val (.int p4), .val (.int p5), .val (.int nl), .val (.int kd), .val (.ref sp), .val (.ref o29), .val (.int (0 : Int32)), .val (.int (-1 : Int32)), .unset] [(.int (-1 : Int32))])
    refine GoH.step (fun t_ k_ => XS.iload X52.here hx rfl (hb hby at_131) rfl k_) ?_
    show GoH _ _ _ _ _ _ _ _ _ _ T52 (mkF m 133 #[.val (.int p1), .val (.int p2), .val (.int p3), .val (.int p4), .val (.int p5), .val (.int nl), .val (.int kd), .val (.ref sp), .val (.ref o29), .val (.int (0 : Int32)), .val (.int (-1 : Int32)), .unset] [(.int (0 : Int32)), (.int (-1 : Int32))])
    have hb133_53 : ¬ ((0 : Int32) < (-1 : Int32)) := by decide
    refine GoH.step (fun t_ k_ => XS.icmpYes X52.here hx rfl (pc0 := 133) (pc' := 192) rfl (hb hby at_133) rfl (XT.ii_le_t hb133_53) (by decide) (by decide) k_) ?_
    show GoH _ _ _ _ _ _ _ _ _ _ T52 (mkF m 192 #[.val (.int p1), .val (.int p2), .val (.int p3), .val (.int p4), .val (.int p5), .val (.int nl), .val (.int kd), .val (.ref sp), .val (.ref o29), .val (.int (0 : Int32)), .val (.int (-1 : Int32)), .unset] [])
    refine GoH.step (fun t_ k_ => XS.iconst X52.here hx rfl (hb hby at_192) k_) ?_
    show GoH _ _ _ _ _ _ _ _ _ _ T52 (mkF m 193 #[.val (.int p1), .val (.int p2), .val (.int p3), .val (.int p4), .val (.int p5), .val (.int nl), .val (.int kd), .val (.ref sp), .val (.ref o29), .val (.int (0 : Int32)), .val (.int (-1 : Int32)), .unset] [(.int (0 : Int32))])
    refine GoH.step (fun t_ k_ => XS.istore X52.here hx rfl (hb hby at_193) rfl (l' := #[.val (.int p1), .val (.int p2), .val (.int p3), .val (.int p4), .val (.int p5), .val (.int nl), .val (.int kd), .val (.ref sp), .val (.ref o29), .val (.int (0 : Int32)), .val (.int (-1 : Int32)), .val (.int (0 : Int32))]) rfl k_) ?_
    show GoH _ _ _ _ _ _ _ _ _ _ T52 (mkF m 195 #[.val (.int p1), .val (.int p2), .val (.int p3), .val (.int p4), .val (.int p5), .val (.int nl), .val (.int kd), .val (.ref sp), .val (.ref o29), .val (.int (0 : Int32)), .val (.int (-1 : Int32)), .val (.int (0 : Int32))] [])
    refine GoH.step (fun t_ k_ => XS.aload X52.here hx rfl (hb hby at_195) rfl rfl k_) ?_
    show GoH _ _ _ _ _ _ _ _ _ _ T52 (mkF m 197 #[.val (.int p1), .val (.int p2), .val (.int p3), .val (.int p4), .val (.int p5), .val (.int nl), .val (.int kd), .val (.ref sp), .val (.ref o29), .val (.int (0 : Int32)), .val (.int (-1 : Int32)), .val (.int (0 : Int32))] [(.ref o29)])
    obtain ⟨cq54, kq54, qa54, qb54, qc54⟩ := isOf hZ28 (e52) f30_4
    obtain ⟨_, _, ⟨T54, L54, k54, n54⟩, -, X54, ⟨Lc54, hQ54, l54, y54, z54⟩, st54⟩ := X52.virtualBack hx (y := (⟨"com/example/affordance/affordance/PathSegments", "isLiteral", "()Z"⟩ : MethodName)) (z := (⟨"com/example/affordance/affordance/PathSegments", "isLiteral", "()Z"⟩ : MethodName)) hown28 (mvT hZ28 (hw _ (List.mem_of_getElem? (i := 53) rfl))) (mvT hZ28 (hw _ (List.mem_of_getElem? (i := 54) rfl))) (notFace_of_selects (args := #[]) (mvT hZ28 (hw _ (List.mem_of_getElem? (i := 56) rfl)))) (mvT hZ28 (hw _ (List.mem_of_getElem? (i := 56) rfl))) (mvT hZ28 (hw _ (List.mem_of_getElem? (i := 55) rfl))) (by decide) (backOf (W := 0) (rmIL l Z a0 hw [] o29 (0 : Int32) (-1 : Int32) (0 : Int32) T30.heap n0 Zs30 f30_6 f30_7 f30_8) hZ28 (hw _ (List.mem_of_getElem? (i := 57) rfl)) (hw _ (List.mem_of_getElem? (i := 32) rfl)) (by decide) (by decide)) qa54 qc54 (g := (mkF m 197 #[.val (.int p1), .val (.int p2), .val (.int p3), .val (.int p4), .val (.int p5), .val (.int nl), .val (.int kd), .val (.ref sp), .val (.ref o29), .val (.int (0 : Int32)), .val (.int (-1 : Int32)), .val (.int (0 : Int32))] [(.ref o29)])) rfl (by rw [hml]; rfl) (Steps.refl _) (argsL := []) (rest := []) (lenOf pd_9 rfl) rfl (by show 2 * 0 + _ ≤ _; exact Nat.le_of_eq rfl) (hb hby at_197) (fun _ _ => ⟨rfl, (e52), (by decide : 0 + 0 + 0 + 0 + 0 + 6 + 1 + 0 + 0 + 0 + 0 ≤ _), (by decide : 0 + 0 + 0 + 0 + 0 + 12 + 4 + 0 + 0 + 0 + 0 ≤ _)⟩)
    dsimp only [Pt.U, Pt.locs, Pt.cells, Pt.slots] at X54 l54 y54 z54 st54 hQ54
    subst l54 y54 z54
    obtain ⟨rfl, N54q, e54⟩ := hQ54
    have N54 := Fr.app N52 N54q
    refine GoH.step (fun t_ k_ => st54.trans k_) ?_
    show GoH _ _ _ _ _ _ _ _ _ _ T54 (mkF m 200 #[.val (.int p1), .val (.int p2), .val (.int p3), .val (.int p4), .val (.int p5), .val (.int nl), .val (.int kd), .val (.ref sp), .val (.ref o29), .val (.int (0 : Int32)), .val (.int (-1 : Int32)), .val (.int (0 : Int32))] [(.int (own_lit (0 : Int32) (-1 : Int32) (0 : Int32)))])
    refine GoH.step (fun t_ k_ => XS.iload X54.here hx rfl (hb hby at_200) rfl k_) ?_
    show GoH _ _ _ _ _ _ _ _ _ _ T54 (mkF m 202 #[.val (.int p1), .val (.int p2), .val (.int p3), .val (.int p4), .val (.int p5), .val (.int nl), .val (.int kd), .val (.ref sp), .val (.ref o29), .val (.int (0 : Int32)), .val (.int (-1 : Int32)), .val (.int (0 : Int32))] [(.int (0 : Int32)), (.int (own_lit (0 : Int32) (-1 : Int32) (0 : Int32)))])
    have hb202_55 : (own_lit (0 : Int32) (-1 : Int32) (0 : Int32)) = (0 : Int32) := by decide
    refine GoH.step (fun t_ k_ => XS.icmpNo X54.here hx rfl (hb hby at_202) rfl (XT.ii_ne_f hb202_55) k_) ?_
    show GoH _ _ _ _ _ _ _ _ _ _ T54 (mkF m 205 #[.val (.int p1), .val (.int p2), .val (.int p3), .val (.int p4), .val (.int p5), .val (.int nl), .val (.int kd), .val (.ref sp), .val (.ref o29), .val (.int (0 : Int32)), .val (.int (-1 : Int32)), .val (.int (0 : Int32))] [])
    refine GoH.step (fun t_ k_ => XS.iconst X54.here hx rfl (hb hby at_205) k_) ?_
    show GoH _ _ _ _ _ _ _ _ _ _ T54 (mkF m 206 #[.val (.int p1), .val (.int p2), .val (.int p3), .val (.int p4), .val (.int p5), .val (.int nl), .val (.int kd), .val (.ref sp), .val (.ref o29), .val (.int (0 : Int32)), .val (.int (-1 : Int32)), .val (.int (0 : Int32))] [(.int (1 : Int32))])
    refine GoH.step (fun t_ k_ => XS.goto X54.here hx rfl (pc0 := 206) (pc' := 210) rfl (hb hby at_206) (by decide) (by decide) k_) ?_
    show GoH _ _ _ _ _ _ _ _ _ _ T54 (mkF m 210 #[.val (.int p1), .val (.int p2), .val (.int p3), .val (.int p4), .val (.int p5), .val (.int nl), .val (.int kd), .val (.ref sp), .val (.ref o29), .val (.int (0 : Int32)), .val (.int (-1 : Int32)), .val (.int (0 : Int32))] [(.int (1 : Int32))])
    have hkr : T28.heap.size ≤ T54.heap.size := by rw [(e54)]; exact hk30
    have hCr : CHr Z own_EL s.vm h0 T28.vm T54.heap := by rw [(e54)]; exact C30
    refine GoH.ret X54 hx hlk hS28 hkr hZ28 hEL hCr hret rfl (Or.inl ⟨rfl, Or.inr (Or.inl rfl), _, rfl⟩) (hb hby at_210) ?_ (by decide) (by decide)
    show Q0 Z _ _ _ _ _ _ _ _ _ _ T54.heap _
    exact ⟨rfl, N54⟩
set_option maxRecDepth 65536 in
set_option maxHeartbeats 40000000 in
theorem comes_1 {Post : Tables → Env → Array Value → State → Outcome → State → Prop} (hpost : ∀ tb e args s v u, (limb_1_1.after args s (.returned v) u = true ∧ limb_1_2.after args s (.returned v) u = true ∧ True) → ReturnedEndW s (.returned v) u (Jvm.fieldLocs frame_1_writes args s ++ Jvm.arrayLocs frame_1_arrays args s ++ Jvm.staticLocs frame_1_statics s) 24 2176 → Post tb e args s (.returned v) u) :
    ArmFor flags0 classFile x code maxLocals ret World_1 tables_1 room_1 Calls_1 rest_1 Pre_1 Post := by
  intro l hfl _ _ p e ha hc hk s m args below hf hA hF happ hP
  obtain ⟨hcalls, hrest, hpre⟩ := hP
  obtain ⟨-, -, -, hnamed, -, -, -, hat⟩ := (Spec.applies_iff hf).mp happ
  obtain ⟨hg, hn⟩ := and_e (Cond.before_iff.mp (show (Jvm.Cond.and given_1 narrow_1).before args s = true from hpre))
  obtain ⟨gc, gA0⟩ := and_e hg
  obtain ⟨gi0, gA1⟩ := and_e gA0
  obtain ⟨gi1, gA2⟩ := and_e gA1
  obtain ⟨gi2, gA3⟩ := and_e gA2
  obtain ⟨gi3, gA4⟩ := and_e gA3
  obtain ⟨w0, w1, w2, w3, w4, rfl⟩ : ∃ w0 w1 w2 w3 w4 : Value, args = #[w0, w1, w2, w3, w4] := by
    have hs : args.size = 5 := by simpa [Cond.value, given_1] using gc
    obtain ⟨L⟩ := args
    match L, hs with
    | [w0, w1, w2, w3, w4], _ => exact ⟨w0, w1, w2, w3, w4, rfl⟩
  have hw := fun d (hd : d ∈ tables_1) => atoms_spec (ws := Jvm.Cond.code x code maxLocals ret :: tables_1) hat d (List.mem_cons_of_mem _ hd)
  have hfit : Fit s := fun {y c} hc i hi => by
    obtain ⟨ha, rfl⟩ := Array.getElem?_eq_some_iff.mp hc
    have q := List.all_eq_true.mp ((Array.all_eq_true_iff_forall_mem.mp hF) _ (Array.getElem_mem ha)) i (List.mem_range.mpr hi)
    simpa [Array.getElem?_eq_getElem hi] using q
  obtain ⟨i0, ei0⟩ := is_v gi0
  obtain rfl : w0 = (.int i0) := Option.some.inj ei0
  obtain ⟨i1, ei1⟩ := is_v gi1
  obtain rfl : w1 = (.int i1) := Option.some.inj ei1
  obtain ⟨i2, ei2⟩ := is_v gi2
  obtain rfl : w2 = (.int i2) := Option.some.inj ei2
  obtain ⟨i3, ei3⟩ := is_v gi3
  obtain rfl : w3 = (.int i3) := Option.some.inj ei3
  obtain ⟨i4, ei4⟩ := is_v gA4
  obtain rfl : w4 = (.int i4) := Option.some.inj ei4
  obtain ⟨hsets, hown0⟩ := atoms_of _ (rest_1_c_eq ▸ (show rest_1_c.before _ s = true from hrest))
  have nCS := not_v (Cond.before_iff.mp (hsets _ (List.mem_of_getElem? (i := 2) rfl)))
  have hcompact : Jvm.Lit.compactW.before _ s = true := hsets _ (List.mem_of_getElem? (i := 2) rfl)
  obtain ⟨iCS, eCS⟩ := is_v (Cond.before_iff.mp (hsets _ (List.mem_of_getElem? (i := 1) rfl)))
  have S_COMPACT : Sta s s.heap "java/lang/String" "COMPACT_STRINGS" "Z" (.int iCS) := Sta.start eCS (Or.inl (hsets _ (List.mem_of_getElem? (i := 0) rfl)))
  have P_COMPACT : ¬ (iCS = (0 : Int32)) := gotF (Cond.eq_ints eCS (Term.int_eval (0))) nCS
  obtain ⟨vSF, eSF, rSF⟩ := isR_v (Cond.before_iff.mp (hsets _ (List.mem_of_getElem? (i := 8) rfl)))
  have S_SIOOBE : Sta s s.heap "jdk/internal/util/Preconditions" "SIOOBE_FORMATTER" "Ljava/util/function/BiFunction;" vSF := Sta.start eSF (Or.inl (hsets _ (List.mem_of_getElem? (i := 7) rfl)))
  obtain ⟨n, o, h1, h2, h3, _, L, rfl, ⟨rfl, N⟩, -, hq⟩ := rm0 l s _ hw tables_1 i0 i1 i2 i3 i4 iCS vSF s.heap s.heap.size (Nat.le_refl _) (Old.start s) S_COMPACT P_COMPACT S_SIOOBE rSF p e ha hc hk s m _ below hf ((Spec.applies_iff_loose hf).mp happ).1 ⟨rfl, State.Warmed39.refl s, rfl, (CHv.start (own_EW hw) (fun p hp => hcalls.1 p hp) hcompact (hw _ (List.mem_of_getElem? (i := 23) rfl)) (hw _ (List.mem_of_getElem? (i := 9) rfl)))⟩ trivial
  refine ⟨n, _, h1, h2, h3, hpost _ _ _ _ _ _ ⟨Cond.after_iff.mpr rfl, Cond.after_iff.mpr (eq_i res_at (Term.int_eval (1)) rfl), trivial⟩ ⟨hq.1, hq.2.1, hq.2.2.1, (hq.2.2.2.sift fun y hy => Or.inr (N y hy)).mono (by decide) (by decide)⟩⟩
theorem main_1_1 : Claimed_1_1 := comes_1 fun _ _ _ _ _ _ h hF => ⟨h.1, hF⟩
theorem main_1_2 : Claimed_1_2 := comes_1 fun _ _ _ _ _ _ h hF => ⟨h.2.1, hF⟩
end Jvm.Pilot.@@N@@
namespace Jvm.Pilot.@@N@@
open Jvm Jvm.ClassFile Sem Op Lib Jvm.Free Jvm.Stand Jvm.Pilot.@@N@@.Jvm.D
/-! MADE BY PROGRAM (witnessworld.py) out of the Statement's table words and the real class files: 20 classes; the members and pool entries that the words name. The judged class is class 1, her method 1. -/
namespace start1
open Jvm.ClassFile
def u (s : String) : CpInfo := .utf8 (stringToUtf16 s)
/-- a pool by its gaps: so many unusable entries, then the entry; so many at the end -/
def gap : Nat → List CpInfo → List CpInfo
  | 0, r => r
  | n + 1, r => .unusable :: gap n r
def poolList (es : List (Nat × CpInfo)) (last : Nat) : List CpInfo := es.foldr (fun e r => gap e.1 (e.2 :: r)) (gap last [])
def pool (es : List (Nat × CpInfo)) (last : Nat) : Array CpInfo := ⟨poolList es last⟩
def fileOf (pool : Array CpInfo) (this : Nat) (attrs : Array Attribute := #[]) (ms : Array MethodInfo := #[]) (fl : Nat := 33) (sup : Nat := 0) (ifs : Array Nat := #[]) (fds : Array FieldInfo := #[]) : ClassFile where
  minorVersion := 0
  majorVersion := 65
  constantPool := pool
  accessFlags := fl
  thisClass := this
  superClass := sup
  interfaces := ifs
  fields := fds
  methods := ms
  attributes := attrs
def plain (name : String) (sup : Option ClassId) : Class where
  name := name
  kind := .ordinary
  loader := none
  accessFlags := 33
  super := sup
  interfaces := #[]
  cf := none
  fields := #[]
  methods := #[]
  instanceTypes := #[]
  staticTypes := #[]
  resolved := #[]
  callSites := []
  init := .initialized
  statics := none
  mirror := none

def pool0 : Array CpInfo := pool [(5, u "<init>"), (0, u "()V"), (1, .class_ 10), (1, u "java/lang/Object")] 113

def k0c0 : Code := { maxStack := 0, maxLocals := 1, code := object_method_1_code, exceptionTable := #[], attributes := #[] }
def k0m0 : Method := { name := "<init>", desc := "()V", sig := { parameters := [], returnType := none }, accessFlags := 1, code := some k0c0 }
/-- java/lang/Object -/
def k0 : Class := { plain "java/lang/Object" none with
  accessFlags := 33
  interfaces := #[]
  cf := some (fileOf pool0 8 #[] #[{ accessFlags := 1, nameIndex := 5, descriptorIndex := 6, attributes := #[] }] 33 0 #[] #[])
  fields := #[]
  methods := #[k0m0]
  instanceTypes := #[]
  staticTypes := #[]
  resolved := Array.replicate 124 none
  statics := none }

def pool1 : Array CpInfo := pool [(2, .class_ 4), (1, u "java/lang/Object"), (0, u "<init>"), (0, u "()V"), (0, .integer 2147483647), (0, .methodref 9 10), (0, .class_ 11), (0, .nameAndType 12 13), (0, u "com/example/affordance/affordance/PathSegmentsIsLiteralPinLaw"), (0, u "pick"), (0, u "(I)C"), (0, .methodref 9 15), (0, .nameAndType 16 17), (0, u "mk"), (0, u "(ICCCC)Ljava/lang/String;"), (0, .class_ 19), (0, u "com/example/affordance/affordance/PathSegments"), (0, .methodref 18 21), (0, .nameAndType 5 22), (0, u "(Ljava/lang/String;)V"), (0, .methodref 18 24), (0, .nameAndType 25 26), (0, u "next"), (0, u "()Z"), (0, .methodref 18 28), (0, .nameAndType 29 30), (0, u "start"), (0, u "()I"), (0, .methodref 18 32), (0, .nameAndType 33 30), (0, u "end"), (0, .methodref 9 35), (0, .nameAndType 36 37), (0, u "brace"), (0, u "(Ljava/lang/String;III)Z"), (0, .methodref 18 39), (0, .nameAndType 40 26), (0, u "isLiteral"), (0, .methodref 42 43), (0, .class_ 44), (0, .nameAndType 45 30), (0, u "java/lang/String"), (0, u "length"), (0, .methodref 42 47), (0, .nameAndType 48 13), (0, u "charAt"), (0, .methodref 42 50), (0, .nameAndType 5 51), (0, u "([C)V"), (2, u "law"), (0, u "(IIIII)Z")] 3

def k1m0 : Method := { name := "<init>", desc := "()V", sig := { parameters := [], returnType := none }, accessFlags := 1, code := none }
def k1c1 : Code := { maxStack := 5, maxLocals := 12, code := code, exceptionTable := #[], attributes := #[] }
def k1m1 : Method := { name := "law", desc := "(IIIII)Z", sig := { parameters := [.int, .int, .int, .int, .int], returnType := some .boolean }, accessFlags := 9, code := some k1c1 }
def k1c2 : Code := { maxStack := 2, maxLocals := 2, code := method_3_code, exceptionTable := #[], attributes := #[] }
def k1m2 : Method := { name := "pick", desc := "(I)C", sig := { parameters := [.int], returnType := some .char }, accessFlags := 10, code := some k1c2 }
def k1c3 : Code := { maxStack := 2, maxLocals := 4, code := method_4_code, exceptionTable := #[], attributes := #[] }
def k1m3 : Method := { name := "brace", desc := "(Ljava/lang/String;III)Z", sig := { parameters := [(.object "java/lang/String"), .int, .int, .int], returnType := some .boolean }, accessFlags := 10, code := some k1c3 }
def k1c4 : Code := { maxStack := 3, maxLocals := 6, code := method_5_code, exceptionTable := #[], attributes := #[] }
def k1m4 : Method := { name := "mk", desc := "(ICCCC)Ljava/lang/String;", sig := { parameters := [.int, .char, .char, .char, .char], returnType := some (.object "java/lang/String") }, accessFlags := 10, code := some k1c4 }
/-- com/example/affordance/affordance/PathSegmentsIsLiteralPinLaw -/
def k1 : Class := { plain "com/example/affordance/affordance/PathSegmentsIsLiteralPinLaw" (some 0) with
  accessFlags := 49
  interfaces := #[]
  cf := some (fileOf pool1 9 #[] #[{ accessFlags := 1, nameIndex := 5, descriptorIndex := 6, attributes := #[] }, { accessFlags := 9, nameIndex := 54, descriptorIndex := 55, attributes := #[] }, { accessFlags := 10, nameIndex := 12, descriptorIndex := 13, attributes := #[] }, { accessFlags := 10, nameIndex := 36, descriptorIndex := 37, attributes := #[] }, { accessFlags := 10, nameIndex := 16, descriptorIndex := 17, attributes := #[] }] 49 2 #[] #[])
  fields := #[]
  methods := #[k1m0, k1m1, k1m2, k1m3, k1m4]
  instanceTypes := #[]
  staticTypes := #[]
  resolved := Array.replicate 59 none
  statics := none }

def pool2 : Array CpInfo := pool [(1, .class_ 2), (0, u "java/io/Serializable"), (0, .class_ 4), (0, u "java/lang/Object")] 2

/-- java/io/Serializable -/
def k2 : Class := { plain "java/io/Serializable" (some 0) with
  accessFlags := 1537
  interfaces := #[]
  cf := some (fileOf pool2 1 #[] #[] 1537 3 #[] #[])
  fields := #[]
  methods := #[]
  instanceTypes := #[]
  staticTypes := #[]
  resolved := Array.replicate 7 none
  statics := none }

def pool3 : Array CpInfo := pool [(1, .class_ 2), (0, u "java/lang/Comparable"), (0, .class_ 4), (0, u "java/lang/Object")] 7

/-- java/lang/Comparable -/
def k3 : Class := { plain "java/lang/Comparable" (some 0) with
  accessFlags := 1537
  interfaces := #[]
  cf := some (fileOf pool3 1 #[] #[] 1537 3 #[] #[])
  fields := #[]
  methods := #[]
  instanceTypes := #[]
  staticTypes := #[]
  resolved := Array.replicate 12 none
  statics := none }

def pool4 : Array CpInfo := pool [(2, .class_ 4), (1, u "java/lang/CharSequence"), (42, .class_ 48), (0, u "java/lang/CharSequence$1CodePointIterator"), (10, .class_ 60), (0, u "java/lang/CharSequence$1CharIterator"), (5, .class_ 67), (0, u "java/lang/Object")] 63

/-- java/lang/CharSequence -/
def k4 : Class := { plain "java/lang/CharSequence" (some 0) with
  accessFlags := 1537
  interfaces := #[]
  cf := some (fileOf pool4 2 #[.nestMembers #[47, 59]] #[] 1537 66 #[] #[])
  fields := #[]
  methods := #[]
  instanceTypes := #[]
  staticTypes := #[]
  resolved := Array.replicate 131 none
  statics := none }

def pool5 : Array CpInfo := pool [(1, .class_ 2), (0, u "java/lang/constant/Constable"), (0, .class_ 4), (0, u "java/lang/Object")] 6

/-- java/lang/constant/Constable -/
def k5 : Class := { plain "java/lang/constant/Constable" (some 0) with
  accessFlags := 1537
  interfaces := #[]
  cf := some (fileOf pool5 1 #[] #[] 1537 3 #[] #[])
  fields := #[]
  methods := #[]
  instanceTypes := #[]
  staticTypes := #[]
  resolved := Array.replicate 11 none
  statics := none }

def pool6 : Array CpInfo := pool [(1, .class_ 2), (0, u "java/lang/constant/ConstantDesc"), (0, .class_ 4), (0, u "java/lang/Object")] 32

/-- java/lang/constant/ConstantDesc -/
def k6 : Class := { plain "java/lang/constant/ConstantDesc" (some 0) with
  accessFlags := 1537
  interfaces := #[]
  cf := some (fileOf pool6 1 #[] #[] 1537 3 #[] #[])
  fields := #[]
  methods := #[]
  instanceTypes := #[]
  staticTypes := #[]
  resolved := Array.replicate 37 none
  statics := none }

def pool7 : Array CpInfo := pool [(1, .methodref 2 3), (0, .class_ 4), (0, .nameAndType 5 6), (0, u "java/lang/Object"), (0, u "<init>"), (0, u "()V"), (0, .string 8), (0, u ""), (0, .fieldref 10 11), (0, .class_ 12), (0, .nameAndType 13 14), (0, u "java/lang/String"), (0, u "value"), (0, u "[B"), (0, .fieldref 10 16), (0, .nameAndType 17 18), (0, u "coder"), (0, u "B"), (2, u "hash"), (0, u "I"), (2, u "hashIsZero"), (0, u "Z"), (0, .methodref 10 28), (0, .nameAndType 5 29), (0, u "([CIILjava/lang/Void;)V"), (8, .fieldref 10 39), (0, .nameAndType 40 26), (0, u "COMPACT_STRINGS"), (1, .class_ 44), (1, u "java/lang/StringUTF16"), (0, u "compress"), (1, .methodref 42 48), (0, .nameAndType 49 50), (0, u "coderFromArrayLen"), (0, u "([BI)B"), (56, .class_ 109), (1, u "java/lang/StringLatin1"), (32, u "()Z"), (34, .methodref 42 178), (0, .nameAndType 45 179), (0, u "([CII)[B"), (154, u "()I"), (0, .methodref 10 336), (0, .nameAndType 17 337), (0, u "()B"), (25, u "([BI)C"), (12, u "([BI[BII)I"), (14, u "(II)V"), (35, u "(I)C"), (64, .methodref 10 493), (0, .nameAndType 494 142), (0, u "isLatin1"), (0, .methodref 107 496), (0, .nameAndType 497 363), (0, u "charAt"), (3, u "checkIndex"), (3, .methodref 10 506), (0, .nameAndType 507 334), (0, u "length"), (51, .class_ 561), (1, u "jdk/internal/util/ArraysSupport"), (0, u "mismatch"), (12, .class_ 576), (0, u "java/lang/CharSequence"), (22, u "CASE_INSENSITIVE_ORDER"), (0, u "Ljava/util/Comparator;"), (6, .methodref 559 608), (0, .nameAndType 562 376), (15, .methodref 10 625), (0, .nameAndType 626 627), (0, u "startsWith"), (0, u "(Ljava/lang/String;I)Z"), (382, u "([C)V"), (42, .fieldref 1054 1055), (0, .class_ 1056), (0, .nameAndType 1057 1058), (0, u "jdk/internal/util/Preconditions"), (0, u "SIOOBE_FORMATTER"), (0, u "Ljava/util/function/BiFunction;"), (0, .methodref 1054 1060), (0, .nameAndType 501 1061), (0, u "(IILjava/util/function/BiFunction;)I"), (39, u "serialPersistentFields"), (0, u "[Ljava/io/ObjectStreamField;"), (0, .class_ 1104), (0, u "java/lang/String$CaseInsensitiveComparator"), (1, .class_ 1107), (0, u "java/io/Serializable"), (0, .class_ 1109), (0, u "java/lang/Comparable"), (0, .class_ 1111), (0, u "java/lang/constant/Constable"), (0, .class_ 1113), (0, u "java/lang/constant/ConstantDesc"), (2, u "serialVersionUID"), (0, u "J"), (3, u "REPL"), (0, u "C"), (2, u "LATIN1"), (1, u "UTF16"), (129, u "(Ljava/lang/String;)Z")] 193

def k7m0 : Method := { name := "<init>", desc := "()V", sig := { parameters := [], returnType := none }, accessFlags := 1, code := none }
def k7c1 : Code := { maxStack := 5, maxLocals := 2, code := jdk_42_method_3_code, exceptionTable := #[], attributes := #[] }
def k7m1 : Method := { name := "<init>", desc := "([C)V", sig := { parameters := [(.array .char)], returnType := none }, accessFlags := 1, code := some k7c1 }
def k7c2 : Code := { maxStack := 2, maxLocals := 1, code := jdk_42_method_54_code, exceptionTable := #[], attributes := #[] }
def k7m2 : Method := { name := "length", desc := "()I", sig := { parameters := [], returnType := some .int }, accessFlags := 1, code := some k7c2 }
def k7c3 : Code := { maxStack := 2, maxLocals := 2, code := jdk_42_method_56_code, exceptionTable := #[], attributes := #[] }
def k7m3 : Method := { name := "charAt", desc := "(I)C", sig := { parameters := [.int], returnType := some .char }, accessFlags := 1, code := some k7c3 }
def k7c4 : Code := { maxStack := 5, maxLocals := 8, code := jdk_42_method_75_code, exceptionTable := #[], attributes := #[] }
def k7m4 : Method := { name := "startsWith", desc := "(Ljava/lang/String;I)Z", sig := { parameters := [(.object "java/lang/String"), .int], returnType := some .boolean }, accessFlags := 1, code := some k7c4 }
def k7c5 : Code := { maxStack := 3, maxLocals := 2, code := jdk_42_method_76_code, exceptionTable := #[], attributes := #[] }
def k7m5 : Method := { name := "startsWith", desc := "(Ljava/lang/String;)Z", sig := { parameters := [(.object "java/lang/String")], returnType := some .boolean }, accessFlags := 1, code := some k7c5 }
def k7c6 : Code := { maxStack := 4, maxLocals := 6, code := jdk_42_method_149_code, exceptionTable := #[], attributes := #[] }
def k7m6 : Method := { name := "<init>", desc := "([CIILjava/lang/Void;)V", sig := { parameters := [(.array .char), .int, .int, (.object "java/lang/Void")], returnType := none }, accessFlags := 2, code := some k7c6 }
def k7c7 : Code := { maxStack := 1, maxLocals := 1, code := jdk_42_method_152_code, exceptionTable := #[], attributes := #[] }
def k7m7 : Method := { name := "coder", desc := "()B", sig := { parameters := [], returnType := some .byte }, accessFlags := 0, code := some k7c7 }
def k7c8 : Code := { maxStack := 1, maxLocals := 1, code := jdk_42_method_154_code, exceptionTable := #[], attributes := #[] }
def k7m8 : Method := { name := "isLatin1", desc := "()Z", sig := { parameters := [], returnType := some .boolean }, accessFlags := 0, code := some k7c8 }
def k7c9 : Code := { maxStack := 3, maxLocals := 2, code := jdk_42_method_155_code, exceptionTable := #[], attributes := #[] }
def k7m9 : Method := { name := "checkIndex", desc := "(II)V", sig := { parameters := [.int, .int], returnType := none }, accessFlags := 8, code := some k7c9 }
/-- java/lang/String -/
def k7 : Class := { plain "java/lang/String" (some 0) with
  accessFlags := 49
  interfaces := #[2, 3, 4, 5, 6]
  cf := some (fileOf pool7 10 #[.nestMembers #[1103]] #[{ accessFlags := 1, nameIndex := 5, descriptorIndex := 6, attributes := #[] }, { accessFlags := 1, nameIndex := 5, descriptorIndex := 1010, attributes := #[] }, { accessFlags := 1, nameIndex := 507, descriptorIndex := 334, attributes := #[] }, { accessFlags := 1, nameIndex := 497, descriptorIndex := 427, attributes := #[] }, { accessFlags := 1, nameIndex := 626, descriptorIndex := 627, attributes := #[] }, { accessFlags := 1, nameIndex := 626, descriptorIndex := 1257, attributes := #[] }, { accessFlags := 2, nameIndex := 5, descriptorIndex := 29, attributes := #[] }, { accessFlags := 0, nameIndex := 17, descriptorIndex := 337, attributes := #[] }, { accessFlags := 0, nameIndex := 494, descriptorIndex := 142, attributes := #[] }, { accessFlags := 8, nameIndex := 501, descriptorIndex := 391, attributes := #[] }] 49 2 #[1106, 1108, 575, 1110, 1112] #[{ accessFlags := 18, nameIndex := 13, descriptorIndex := 14, attributes := #[] }, { accessFlags := 18, nameIndex := 17, descriptorIndex := 18, attributes := #[] }, { accessFlags := 2, nameIndex := 21, descriptorIndex := 22, attributes := #[] }, { accessFlags := 2, nameIndex := 25, descriptorIndex := 26, attributes := #[] }, { accessFlags := 26, nameIndex := 1116, descriptorIndex := 1117, attributes := #[] }, { accessFlags := 24, nameIndex := 40, descriptorIndex := 26, attributes := #[] }, { accessFlags := 26, nameIndex := 1101, descriptorIndex := 1102, attributes := #[] }, { accessFlags := 26, nameIndex := 1121, descriptorIndex := 1122, attributes := #[] }, { accessFlags := 25, nameIndex := 599, descriptorIndex := 600, attributes := #[] }, { accessFlags := 24, nameIndex := 1125, descriptorIndex := 18, attributes := #[] }, { accessFlags := 24, nameIndex := 1127, descriptorIndex := 18, attributes := #[] }])
  fields := #[{ name := "value", type := (.array .byte), accessFlags := 18, slot := 0, constantValue := 0 }, { name := "coder", type := .byte, accessFlags := 18, slot := 1, constantValue := 0 }, { name := "hash", type := .int, accessFlags := 2, slot := 2, constantValue := 0 }, { name := "hashIsZero", type := .boolean, accessFlags := 2, slot := 3, constantValue := 0 }, { name := "serialVersionUID", type := .long, accessFlags := 26, slot := 0, constantValue := 0 }, { name := "COMPACT_STRINGS", type := .boolean, accessFlags := 24, slot := 1, constantValue := 0 }, { name := "serialPersistentFields", type := (.array (.object "java/io/ObjectStreamField")), accessFlags := 26, slot := 2, constantValue := 0 }, { name := "REPL", type := .char, accessFlags := 26, slot := 3, constantValue := 0 }, { name := "CASE_INSENSITIVE_ORDER", type := (.object "java/util/Comparator"), accessFlags := 25, slot := 4, constantValue := 0 }, { name := "LATIN1", type := .byte, accessFlags := 24, slot := 5, constantValue := 0 }, { name := "UTF16", type := .byte, accessFlags := 24, slot := 6, constantValue := 0 }]
  methods := #[k7m0, k7m1, k7m2, k7m3, k7m4, k7m5, k7m6, k7m7, k7m8, k7m9]
  instanceTypes := #[(.array .byte), .byte, .int, .boolean]
  staticTypes := #[.long, .boolean, (.array (.object "java/io/ObjectStreamField")), .char, (.object "java/util/Comparator"), .byte, .byte]
  resolved := Array.replicate 1451 none
  statics := some 0 }

def pool8 : Array CpInfo := pool [(1, .methodref 2 3), (0, .class_ 4), (0, .nameAndType 5 6), (0, u "java/lang/Object"), (0, u "<init>"), (0, u "()V"), (0, .fieldref 8 9), (0, .class_ 10), (0, .nameAndType 11 12), (0, u "com/example/affordance/affordance/PathSegments"), (0, u "end"), (0, u "I"), (0, .fieldref 8 14), (0, .nameAndType 15 16), (0, u "path"), (0, u "Ljava/lang/String;"), (0, .methodref 18 19), (0, .class_ 20), (0, .nameAndType 21 22), (0, u "java/lang/String"), (0, u "length"), (0, u "()I"), (0, .string 24), (0, u "/"), (0, .methodref 18 26), (0, .nameAndType 27 28), (0, u "startsWith"), (0, u "(Ljava/lang/String;)Z"), (0, .fieldref 8 30), (0, .nameAndType 31 12), (0, u "start"), (0, .fieldref 8 33), (0, .nameAndType 34 35), (0, u "template"), (0, u "Z"), (0, .methodref 18 37), (0, .nameAndType 38 39), (0, u "charAt"), (0, u "(I)C"), (4, u "(Ljava/lang/String;)V"), (2, u "next"), (0, u "()Z"), (4, u "isLiteral")] 2

def k8c0 : Code := { maxStack := 2, maxLocals := 2, code := prog_44_method_1_code, exceptionTable := #[], attributes := #[] }
def k8m0 : Method := { name := "<init>", desc := "(Ljava/lang/String;)V", sig := { parameters := [(.object "java/lang/String")], returnType := none }, accessFlags := 0, code := some k8c0 }
def k8c1 : Code := { maxStack := 4, maxLocals := 1, code := prog_44_method_2_code, exceptionTable := #[], attributes := #[] }
def k8m1 : Method := { name := "next", desc := "()Z", sig := { parameters := [], returnType := some .boolean }, accessFlags := 0, code := some k8c1 }
def k8c2 : Code := { maxStack := 1, maxLocals := 1, code := prog_44_method_4_code, exceptionTable := #[], attributes := #[] }
def k8m2 : Method := { name := "start", desc := "()I", sig := { parameters := [], returnType := some .int }, accessFlags := 0, code := some k8c2 }
def k8c3 : Code := { maxStack := 1, maxLocals := 1, code := prog_44_method_5_code, exceptionTable := #[], attributes := #[] }
def k8m3 : Method := { name := "end", desc := "()I", sig := { parameters := [], returnType := some .int }, accessFlags := 0, code := some k8c3 }
def k8c4 : Code := { maxStack := 2, maxLocals := 1, code := prog_44_method_8_code, exceptionTable := #[], attributes := #[] }
def k8m4 : Method := { name := "isLiteral", desc := "()Z", sig := { parameters := [], returnType := some .boolean }, accessFlags := 0, code := some k8c4 }
/-- com/example/affordance/affordance/PathSegments -/
def k8 : Class := { plain "com/example/affordance/affordance/PathSegments" (some 0) with
  accessFlags := 48
  interfaces := #[]
  cf := some (fileOf pool8 8 #[] #[{ accessFlags := 0, nameIndex := 5, descriptorIndex := 44, attributes := #[] }, { accessFlags := 0, nameIndex := 47, descriptorIndex := 48, attributes := #[] }, { accessFlags := 0, nameIndex := 31, descriptorIndex := 22, attributes := #[] }, { accessFlags := 0, nameIndex := 11, descriptorIndex := 22, attributes := #[] }, { accessFlags := 0, nameIndex := 53, descriptorIndex := 48, attributes := #[] }] 48 2 #[] #[{ accessFlags := 18, nameIndex := 15, descriptorIndex := 16, attributes := #[] }, { accessFlags := 2, nameIndex := 31, descriptorIndex := 12, attributes := #[] }, { accessFlags := 2, nameIndex := 11, descriptorIndex := 12, attributes := #[] }, { accessFlags := 2, nameIndex := 34, descriptorIndex := 35, attributes := #[] }])
  fields := #[{ name := "path", type := (.object "java/lang/String"), accessFlags := 18, slot := 0, constantValue := 0 }, { name := "start", type := .int, accessFlags := 2, slot := 1, constantValue := 0 }, { name := "end", type := .int, accessFlags := 2, slot := 2, constantValue := 0 }, { name := "template", type := .boolean, accessFlags := 2, slot := 3, constantValue := 0 }]
  methods := #[k8m0, k8m1, k8m2, k8m3, k8m4]
  instanceTypes := #[(.object "java/lang/String"), .int, .int, .boolean]
  staticTypes := #[]
  resolved := Array.replicate 56 none
  statics := none }

def pool9 : Array CpInfo := pool [(6, .class_ 8), (1, u "java/lang/Object"), (0, u "<init>"), (0, u "()V"), (1, .class_ 14), (1, u "java/lang/StringUTF16"), (31, u "$assertionsDisabled"), (0, u "Z"), (13, u "HI_BYTE_SHIFT"), (0, u "I"), (2, u "LO_BYTE_SHIFT"), (49, .methodref 12 116), (0, .nameAndType 117 118), (0, u "compress"), (0, u "([CI[BII)I"), (3, u "([CII)[B"), (138, u "coderFromArrayLen"), (0, u "([BI)B"), (106, .class_ 371), (1, u "java/lang/StringUTF16$LinesSpliterator"), (58, u "MAX_LENGTH"), (196, .class_ 628), (0, u "java/lang/StringUTF16$CodePointsSpliterator"), (0, .class_ 630), (0, u "java/lang/StringUTF16$CharsSpliterator")] 4

def k9m0 : Method := { name := "<init>", desc := "()V", sig := { parameters := [], returnType := none }, accessFlags := 0, code := none }
def k9c1 : Code := { maxStack := 2, maxLocals := 2, code := jdk_52_method_15_code, exceptionTable := #[], attributes := #[] }
def k9m1 : Method := { name := "coderFromArrayLen", desc := "([BI)B", sig := { parameters := [(.array .byte), .int], returnType := some .byte }, accessFlags := 8, code := some k9c1 }
def k9c2 : Code := { maxStack := 5, maxLocals := 6, code := jdk_52_method_16_code, exceptionTable := #[], attributes := #[] }
def k9m2 : Method := { name := "compress", desc := "([CII)[B", sig := { parameters := [(.array .char), .int, .int], returnType := some (.array .byte) }, accessFlags := 9, code := some k9c2 }
def k9c3 : Code := { maxStack := 3, maxLocals := 7, code := jdk_52_method_21_code, exceptionTable := #[], attributes := #[] }
def k9m3 : Method := { name := "compress", desc := "([CI[BII)I", sig := { parameters := [(.array .char), .int, (.array .byte), .int, .int], returnType := some .int }, accessFlags := 9, code := some k9c3 }
/-- java/lang/StringUTF16 -/
def k9 : Class := { plain "java/lang/StringUTF16" (some 0) with
  accessFlags := 48
  interfaces := #[]
  cf := some (fileOf pool9 12 #[.nestMembers #[627, 629, 369]] #[{ accessFlags := 0, nameIndex := 9, descriptorIndex := 10, attributes := #[] }, { accessFlags := 8, nameIndex := 261, descriptorIndex := 262, attributes := #[] }, { accessFlags := 9, nameIndex := 117, descriptorIndex := 122, attributes := #[] }, { accessFlags := 9, nameIndex := 117, descriptorIndex := 118, attributes := #[] }] 48 6 #[] #[{ accessFlags := 26, nameIndex := 61, descriptorIndex := 62, attributes := #[] }, { accessFlags := 26, nameIndex := 65, descriptorIndex := 62, attributes := #[] }, { accessFlags := 24, nameIndex := 430, descriptorIndex := 62, attributes := #[] }, { accessFlags := 4120, nameIndex := 46, descriptorIndex := 47, attributes := #[] }])
  fields := #[{ name := "HI_BYTE_SHIFT", type := .int, accessFlags := 26, slot := 0, constantValue := 0 }, { name := "LO_BYTE_SHIFT", type := .int, accessFlags := 26, slot := 1, constantValue := 0 }, { name := "MAX_LENGTH", type := .int, accessFlags := 24, slot := 2, constantValue := 0 }, { name := "$assertionsDisabled", type := .boolean, accessFlags := 4120, slot := 3, constantValue := 0 }]
  methods := #[k9m0, k9m1, k9m2, k9m3]
  instanceTypes := #[]
  staticTypes := #[.int, .int, .int, .boolean]
  resolved := Array.replicate 635 none
  statics := none }

def pool10 : Array CpInfo := pool [(9, u "<init>"), (6, .class_ 18), (1, u "java/lang/Object"), (0, u "()V"), (1, .class_ 23), (1, u "jdk/internal/util/ArraysSupport"), (0, u "LOG2_ARRAY_LONG_INDEX_SCALE"), (0, u "I"), (2, u "U"), (0, u "Ljdk/internal/misc/Unsafe;"), (8, u "BIG_ENDIAN"), (0, u "Z"), (8, u "LOG2_BYTE_BIT_SIZE"), (4, u "LOG2_ARRAY_INT_INDEX_SCALE"), (54, u "JLA"), (0, u "Ljdk/internal/access/JavaLangAccess;"), (11, u "LOG2_ARRAY_BOOLEAN_INDEX_SCALE"), (9, u "LOG2_ARRAY_BYTE_INDEX_SCALE"), (5, u "LOG2_ARRAY_CHAR_INDEX_SCALE"), (5, u "LOG2_ARRAY_SHORT_INDEX_SCALE"), (5, u "mismatch"), (12, u "LOG2_ARRAY_FLOAT_INDEX_SCALE"), (24, u "LOG2_ARRAY_DOUBLE_INDEX_SCALE"), (89, u "T_BOOLEAN"), (2, u "T_CHAR"), (1, u "T_FLOAT"), (1, u "T_DOUBLE"), (1, u "T_BYTE"), (1, u "T_SHORT"), (1, u "T_INT"), (1, u "T_LONG"), (1, u "SOFT_MAX_ARRAY_LENGTH"), (42, u "([BI[BII)I")] 40

def k10m0 : Method := { name := "<init>", desc := "()V", sig := { parameters := [], returnType := none }, accessFlags := 2, code := none }
def k10c1 : Code := { maxStack := 8, maxLocals := 8, code := jdk_48_method_14_code, exceptionTable := #[], attributes := #[] }
def k10m1 : Method := { name := "mismatch", desc := "([BI[BII)I", sig := { parameters := [(.array .byte), .int, (.array .byte), .int, .int], returnType := some .int }, accessFlags := 9, code := some k10c1 }
/-- jdk/internal/util/ArraysSupport -/
def k10 : Class := { plain "jdk/internal/util/ArraysSupport" (some 0) with
  accessFlags := 33
  interfaces := #[]
  cf := some (fileOf pool10 21 #[] #[{ accessFlags := 2, nameIndex := 9, descriptorIndex := 19, attributes := #[] }, { accessFlags := 9, nameIndex := 149, descriptorIndex := 337, attributes := #[] }] 33 16 #[] #[{ accessFlags := 24, nameIndex := 28, descriptorIndex := 29, attributes := #[] }, { accessFlags := 26, nameIndex := 38, descriptorIndex := 39, attributes := #[] }, { accessFlags := 25, nameIndex := 121, descriptorIndex := 25, attributes := #[] }, { accessFlags := 25, nameIndex := 131, descriptorIndex := 25, attributes := #[] }, { accessFlags := 25, nameIndex := 137, descriptorIndex := 25, attributes := #[] }, { accessFlags := 25, nameIndex := 143, descriptorIndex := 25, attributes := #[] }, { accessFlags := 25, nameIndex := 53, descriptorIndex := 25, attributes := #[] }, { accessFlags := 25, nameIndex := 24, descriptorIndex := 25, attributes := #[] }, { accessFlags := 25, nameIndex := 162, descriptorIndex := 25, attributes := #[] }, { accessFlags := 25, nameIndex := 187, descriptorIndex := 25, attributes := #[] }, { accessFlags := 26, nameIndex := 48, descriptorIndex := 25, attributes := #[] }, { accessFlags := 25, nameIndex := 277, descriptorIndex := 25, attributes := #[] }, { accessFlags := 25, nameIndex := 280, descriptorIndex := 25, attributes := #[] }, { accessFlags := 25, nameIndex := 282, descriptorIndex := 25, attributes := #[] }, { accessFlags := 25, nameIndex := 284, descriptorIndex := 25, attributes := #[] }, { accessFlags := 25, nameIndex := 286, descriptorIndex := 25, attributes := #[] }, { accessFlags := 25, nameIndex := 288, descriptorIndex := 25, attributes := #[] }, { accessFlags := 25, nameIndex := 290, descriptorIndex := 25, attributes := #[] }, { accessFlags := 25, nameIndex := 292, descriptorIndex := 25, attributes := #[] }, { accessFlags := 26, nameIndex := 108, descriptorIndex := 109, attributes := #[] }, { accessFlags := 25, nameIndex := 294, descriptorIndex := 25, attributes := #[] }])
  fields := #[{ name := "U", type := (.object "jdk/internal/misc/Unsafe"), accessFlags := 24, slot := 0, constantValue := 0 }, { name := "BIG_ENDIAN", type := .boolean, accessFlags := 26, slot := 1, constantValue := 0 }, { name := "LOG2_ARRAY_BOOLEAN_INDEX_SCALE", type := .int, accessFlags := 25, slot := 2, constantValue := 0 }, { name := "LOG2_ARRAY_BYTE_INDEX_SCALE", type := .int, accessFlags := 25, slot := 3, constantValue := 0 }, { name := "LOG2_ARRAY_CHAR_INDEX_SCALE", type := .int, accessFlags := 25, slot := 4, constantValue := 0 }, { name := "LOG2_ARRAY_SHORT_INDEX_SCALE", type := .int, accessFlags := 25, slot := 5, constantValue := 0 }, { name := "LOG2_ARRAY_INT_INDEX_SCALE", type := .int, accessFlags := 25, slot := 6, constantValue := 0 }, { name := "LOG2_ARRAY_LONG_INDEX_SCALE", type := .int, accessFlags := 25, slot := 7, constantValue := 0 }, { name := "LOG2_ARRAY_FLOAT_INDEX_SCALE", type := .int, accessFlags := 25, slot := 8, constantValue := 0 }, { name := "LOG2_ARRAY_DOUBLE_INDEX_SCALE", type := .int, accessFlags := 25, slot := 9, constantValue := 0 }, { name := "LOG2_BYTE_BIT_SIZE", type := .int, accessFlags := 26, slot := 10, constantValue := 0 }, { name := "T_BOOLEAN", type := .int, accessFlags := 25, slot := 11, constantValue := 0 }, { name := "T_CHAR", type := .int, accessFlags := 25, slot := 12, constantValue := 0 }, { name := "T_FLOAT", type := .int, accessFlags := 25, slot := 13, constantValue := 0 }, { name := "T_DOUBLE", type := .int, accessFlags := 25, slot := 14, constantValue := 0 }, { name := "T_BYTE", type := .int, accessFlags := 25, slot := 15, constantValue := 0 }, { name := "T_SHORT", type := .int, accessFlags := 25, slot := 16, constantValue := 0 }, { name := "T_INT", type := .int, accessFlags := 25, slot := 17, constantValue := 0 }, { name := "T_LONG", type := .int, accessFlags := 25, slot := 18, constantValue := 0 }, { name := "JLA", type := (.object "jdk/internal/access/JavaLangAccess"), accessFlags := 26, slot := 19, constantValue := 0 }, { name := "SOFT_MAX_ARRAY_LENGTH", type := .int, accessFlags := 25, slot := 20, constantValue := 0 }]
  methods := #[k10m0, k10m1]
  instanceTypes := #[]
  staticTypes := #[(.object "jdk/internal/misc/Unsafe"), .boolean, .int, .int, .int, .int, .int, .int, .int, .int, .int, .int, .int, .int, .int, .int, .int, .int, .int, (.object "jdk/internal/access/JavaLangAccess"), .int]
  resolved := Array.replicate 378 none
  statics := none }

def pool11 : Array CpInfo := pool [(1, .class_ 2), (0, u "java/lang/String"), (1, .class_ 6), (1, u "java/lang/Object"), (0, u "<init>"), (0, u "()V"), (0, .methodref 1 10), (0, .nameAndType 11 12), (0, u "checkIndex"), (0, u "(II)V"), (1, .class_ 16), (1, u "java/lang/StringLatin1"), (36, u "([BI)C"), (67, u "$assertionsDisabled"), (0, u "Z"), (98, .class_ 223), (1, u "java/lang/StringLatin1$LinesSpliterator"), (28, u "charAt"), (137, .class_ 391), (0, u "java/lang/StringLatin1$CharsSpliterator")] 3

def k11m0 : Method := { name := "<init>", desc := "()V", sig := { parameters := [], returnType := none }, accessFlags := 0, code := none }
def k11c1 : Code := { maxStack := 2, maxLocals := 2, code := jdk_43_method_2_code, exceptionTable := #[], attributes := #[] }
def k11m1 : Method := { name := "charAt", desc := "([BI)C", sig := { parameters := [(.array .byte), .int], returnType := some .char }, accessFlags := 9, code := some k11c1 }
/-- java/lang/StringLatin1 -/
def k11 : Class := { plain "java/lang/StringLatin1" (some 0) with
  accessFlags := 48
  interfaces := #[]
  cf := some (fileOf pool11 14 #[.nestMembers #[390, 221]] #[{ accessFlags := 0, nameIndex := 7, descriptorIndex := 8, attributes := #[] }, { accessFlags := 9, nameIndex := 252, descriptorIndex := 53, attributes := #[] }] 48 4 #[] #[{ accessFlags := 4120, nameIndex := 121, descriptorIndex := 122, attributes := #[] }])
  fields := #[{ name := "$assertionsDisabled", type := .boolean, accessFlags := 4120, slot := 0, constantValue := 0 }]
  methods := #[k11m0, k11m1]
  instanceTypes := #[]
  staticTypes := #[.boolean]
  resolved := Array.replicate 395 none
  statics := none }

def pool12 : Array CpInfo := pool [(2, .class_ 4), (1, u "java/lang/Object"), (0, u "<init>"), (0, u "()V"), (17, .class_ 26), (1, u "jdk/internal/util/Preconditions"), (6, u "checkIndex"), (21, .class_ 56), (0, u "jdk/internal/util/Preconditions$4"), (57, .class_ 115), (0, u "jdk/internal/util/Preconditions$1"), (7, u "SIOOBE_FORMATTER"), (0, u "Ljava/util/function/BiFunction;"), (0, .class_ 126), (0, u "jdk/internal/util/Preconditions$2"), (3, u "AIOOBE_FORMATTER"), (0, .class_ 132), (0, u "jdk/internal/util/Preconditions$3"), (3, u "IOOBE_FORMATTER"), (41, u "(IILjava/util/function/BiFunction;)I")] 15

def k12m0 : Method := { name := "<init>", desc := "()V", sig := { parameters := [], returnType := none }, accessFlags := 1, code := none }
def k12c1 : Code := { maxStack := 3, maxLocals := 3, code := jdk_41_method_11_code, exceptionTable := #[], attributes := #[] }
def k12m1 : Method := { name := "checkIndex", desc := "(IILjava/util/function/BiFunction;)I", sig := { parameters := [.int, .int, (.object "java/util/function/BiFunction")], returnType := some .int }, accessFlags := 9, code := some k12c1 }
/-- jdk/internal/util/Preconditions -/
def k12 : Class := { plain "jdk/internal/util/Preconditions" (some 0) with
  accessFlags := 33
  interfaces := #[]
  cf := some (fileOf pool12 24 #[.nestMembers #[55, 131, 125, 114]] #[{ accessFlags := 1, nameIndex := 5, descriptorIndex := 6, attributes := #[] }, { accessFlags := 9, nameIndex := 33, descriptorIndex := 178, attributes := #[] }] 33 2 #[] #[{ accessFlags := 25, nameIndex := 123, descriptorIndex := 124, attributes := #[] }, { accessFlags := 25, nameIndex := 130, descriptorIndex := 124, attributes := #[] }, { accessFlags := 25, nameIndex := 136, descriptorIndex := 124, attributes := #[] }])
  fields := #[{ name := "SIOOBE_FORMATTER", type := (.object "java/util/function/BiFunction"), accessFlags := 25, slot := 0, constantValue := 0 }, { name := "AIOOBE_FORMATTER", type := (.object "java/util/function/BiFunction"), accessFlags := 25, slot := 1, constantValue := 0 }, { name := "IOOBE_FORMATTER", type := (.object "java/util/function/BiFunction"), accessFlags := 25, slot := 2, constantValue := 0 }]
  methods := #[k12m0, k12m1]
  instanceTypes := #[]
  staticTypes := #[(.object "java/util/function/BiFunction"), (.object "java/util/function/BiFunction"), (.object "java/util/function/BiFunction")]
  resolved := Array.replicate 194 none
  statics := some 1 }

def pool13 : Array CpInfo := pool [(1, u "java/lang/Cloneable"), (0, .class_ 1), (0, u "java/lang/Object"), (0, .class_ 3)] 3

/-- java/lang/Cloneable -/
def k13 : Class := { plain "java/lang/Cloneable" (some 0) with
  accessFlags := 1537
  interfaces := #[]
  cf := some (fileOf pool13 2 #[] #[] 1537 4 #[] #[])
  fields := #[]
  methods := #[]
  instanceTypes := #[]
  staticTypes := #[]
  resolved := Array.replicate 8 none
  statics := none }

/-- the primitive byte -/
def k14 : Class := { plain "byte" none with kind := .primitive 'B', accessFlags := 0x411 }
/-- [B -/
def k15 : Class := { plain "[B" (some 0) with kind := .array 14 .byte, interfaces := #[13, 2], accessFlags := 1041 }

/-- the primitive char -/
def k16 : Class := { plain "char" none with kind := .primitive 'C', accessFlags := 0x411 }
/-- [C -/
def k17 : Class := { plain "[C" (some 0) with kind := .array 16 .char, interfaces := #[13, 2], accessFlags := 1041 }

/-- the primitive int -/
def k18 : Class := { plain "int" none with kind := .primitive 'I', accessFlags := 0x411 }
/-- [I -/
def k19 : Class := { plain "[I" (some 0) with kind := .array 18 .int, interfaces := #[13, 2], accessFlags := 1041 }

def heap : Heap := #[{ cls := 7, slots := #[.long 0, .int 1, .null, .int 0, .null, .int 0, .int 0], vm := .statics 7 },
  { cls := 12, slots := #[.null, .null, .null], vm := .statics 12 }]
def classes : Array Class := #[k0, k1, k2, k3, k4, k5, k6, k7, k8, k9, k10, k11, k12, k13, k14, k15, k16, k17, k18, k19]
def interned : List (Array UInt16 × Addr) := []
def slotsUsed : Nat := 10
def theMethod : MethodId := ⟨1, 1⟩
def args0 : Array Value := #[.int 1, .int 2, .int 3, .int 4, .int 5]
def aboutOver (below : List Frame) : State where
  vm := { classes := classes, interned := interned.toArray }
  heap := heap
  slotsUsed := slotsUsed
  threads := #[{ frames := .invoking theMethod args0 :: below }]
def below0 : List Frame := [.native { method := ⟨0, 0⟩, args := #[] }]
def about1 : State := aboutOver below0
def p0 : Program := .bare "" "" ""
def e0 : Env := launch0.env 0 0 0
theorem w_frames : about1.frames = Frame.invoking theMethod args0 :: below0 := rfl
set_option maxRecDepth 65536 in
theorem w_args : argsFit about1.vm theMethod args0 = true := by decide +kernel
set_option maxRecDepth 65536 in
theorem w_heap : heapFits about1 = true := by decide +kernel
set_option maxRecDepth 65536 in
theorem w_runnable : about1.curStatus? = some .runnable := by decide +kernel
set_option maxRecDepth 65536 in
theorem w_alone : about1.alone = true := by decide +kernel
set_option maxRecDepth 65536 in
theorem w_named : about1.methodNamed? x = some theMethod := by decide +kernel
set_option maxRecDepth 65536 in
theorem w_hears : about1.hears theMethod below0 = true := by decide +kernel
set_option maxRecDepth 65536 in
theorem w_ripe : about1.ripe theMethod args0 below0 = true := by decide +kernel
theorem w_running : about1.status = .running := rfl
set_option maxRecDepth 65536 in
theorem w_room : about1.hasRoom e0.platform room_1 = true :=
  launch0.hasRoom_least _ room_1 (by decide +kernel) (by decide +kernel) (by decide +kernel) (by decide +kernel) (by decide +kernel) (by decide +kernel)
theorem allAtoms_all (ts : List Jvm.Cond) (a : Array Jvm.Value) (st : Jvm.State) : (allAtoms ts).before a st = ts.all (fun c => c.before a st) := by
  induction ts with
  | nil => rfl
  | cons c t ih =>
    show (Jvm.Cond.and c (allAtoms t)).before a st = _
    rw [Jvm.Cond.before_and, ih, List.all_cons]
def words1 : List Jvm.Cond := Jvm.Cond.code x code maxLocals ret :: tables_1
/-- a 'code' word, met by the world's own term for the bytes: nothing is compared byte by byte -/
theorem code_word {y : MethodName} {bytes : ByteArray} {mx : Nat} {rt : Option FieldType} {a : Array Value} {s : State} {m : MethodId} {meth : Method} {c : Code} (h1 : s.methodNamed? y = some m) (h2 : s.vm.method? m = some meth) (h3 : meth.code = some c) (h4 : c.code = bytes)
    (h5 : (c.maxLocals == mx && c.exceptionTable.isEmpty && decide (c.maxStack ≤ mostOperands) && decide (meth.sig.returnType = rt) && !meth.locks && decide (parseMethodDescriptor y.desc = some meth.sig)) = true) : (Jvm.Cond.code y bytes mx rt).before a s = true := by
  simp only [Bool.and_eq_true, beq_iff_eq, Bool.not_eq_true', decide_eq_true_eq] at h5
  obtain ⟨⟨⟨⟨⟨g1, g2⟩, g3⟩, g4⟩, g5⟩, g6⟩ := h5
  simp [Cond.before, Cond.holds, Cond.value, h1, h2, h3, h4, g1, g2, g3, g4, g5, g6]
def isCode : Jvm.Cond → Bool
  | .code _ _ _ _ => true
  | _ => false
theorem all_split {L : List Jvm.Cond} {P : Jvm.Cond → Bool} (h1 : L.all (fun c => isCode c || P c) = true) (h2 : ∀ c ∈ L.filter isCode, P c = true) : L.all P = true := by
  refine List.all_eq_true.mpr fun c hc => ?_
  have h := List.all_eq_true.mp h1 c hc
  rcases Bool.eq_false_or_eq_true (isCode c) with hi | hi
  · exact h2 c (List.mem_filter.mpr ⟨hc, hi⟩)
  · simpa [hi] using h
set_option maxRecDepth 65536 in
theorem w_c0 : (Jvm.Cond.code x code maxLocals ret).before args0 about1 = true := code_word (m := ⟨1, 1⟩) (meth := k1m1) (c := k1c1) (by decide +kernel) rfl rfl rfl (by decide +kernel)
set_option maxRecDepth 65536 in
theorem w_c1 : (Jvm.Cond.code ({ cls := "com/example/affordance/affordance/PathSegmentsIsLiteralPinLaw", name := "pick", desc := "(I)C" } : Jvm.MethodName) method_3_code (2 : Nat) (Option.some Jvm.ClassFile.FieldType.char)).before args0 about1 = true := code_word (m := ⟨1, 2⟩) (meth := k1m2) (c := k1c2) (by decide +kernel) rfl rfl rfl (by decide +kernel)
set_option maxRecDepth 65536 in
theorem w_c2 : (Jvm.Cond.code ({ cls := "com/example/affordance/affordance/PathSegmentsIsLiteralPinLaw", name := "mk", desc := "(ICCCC)Ljava/lang/String;" } : Jvm.MethodName) method_5_code (6 : Nat) (Option.some (Jvm.ClassFile.FieldType.object "java/lang/String"))).before args0 about1 = true := code_word (m := ⟨1, 4⟩) (meth := k1m4) (c := k1c4) (by decide +kernel) rfl rfl rfl (by decide +kernel)
set_option maxRecDepth 65536 in
theorem w_c3 : (Jvm.Cond.code ({ cls := "java/lang/String", name := "<init>", desc := "([C)V" } : Jvm.MethodName) jdk_42_method_3_code (2 : Nat) (Option.none : Option Jvm.ClassFile.FieldType)).before args0 about1 = true := code_word (m := ⟨7, 1⟩) (meth := k7m1) (c := k7c1) (by decide +kernel) rfl rfl rfl (by decide +kernel)
set_option maxRecDepth 65536 in
theorem w_c4 : (Jvm.Cond.code ({ cls := "java/lang/String", name := "<init>", desc := "([CIILjava/lang/Void;)V" } : Jvm.MethodName) jdk_42_method_149_code (6 : Nat) (Option.none : Option Jvm.ClassFile.FieldType)).before args0 about1 = true := code_word (m := ⟨7, 6⟩) (meth := k7m6) (c := k7c6) (by decide +kernel) rfl rfl rfl (by decide +kernel)
set_option maxRecDepth 65536 in
theorem w_c5 : (Jvm.Cond.code ({ cls := "java/lang/Object", name := "<init>", desc := "()V" } : Jvm.MethodName) object_method_1_code (1 : Nat) (Option.none : Option Jvm.ClassFile.FieldType)).before args0 about1 = true := code_word (m := ⟨0, 0⟩) (meth := k0m0) (c := k0c0) (by decide +kernel) rfl rfl rfl (by decide +kernel)
set_option maxRecDepth 65536 in
theorem w_c6 : (Jvm.Cond.code ({ cls := "com/example/affordance/affordance/PathSegments", name := "<init>", desc := "(Ljava/lang/String;)V" } : Jvm.MethodName) prog_44_method_1_code (2 : Nat) (Option.none : Option Jvm.ClassFile.FieldType)).before args0 about1 = true := code_word (m := ⟨8, 0⟩) (meth := k8m0) (c := k8c0) (by decide +kernel) rfl rfl rfl (by decide +kernel)
set_option maxRecDepth 65536 in
theorem w_c7 : (Jvm.Cond.code ({ cls := "com/example/affordance/affordance/PathSegments", name := "start", desc := "()I" } : Jvm.MethodName) prog_44_method_4_code (1 : Nat) (Option.some Jvm.ClassFile.FieldType.int)).before args0 about1 = true := code_word (m := ⟨8, 2⟩) (meth := k8m2) (c := k8c2) (by decide +kernel) rfl rfl rfl (by decide +kernel)
set_option maxRecDepth 65536 in
theorem w_c8 : (Jvm.Cond.code ({ cls := "com/example/affordance/affordance/PathSegments", name := "end", desc := "()I" } : Jvm.MethodName) prog_44_method_5_code (1 : Nat) (Option.some Jvm.ClassFile.FieldType.int)).before args0 about1 = true := code_word (m := ⟨8, 3⟩) (meth := k8m3) (c := k8c3) (by decide +kernel) rfl rfl rfl (by decide +kernel)
set_option maxRecDepth 65536 in
theorem w_c9 : (Jvm.Cond.code ({ cls := "com/example/affordance/affordance/PathSegments", name := "isLiteral", desc := "()Z" } : Jvm.MethodName) prog_44_method_8_code (1 : Nat) (Option.some Jvm.ClassFile.FieldType.boolean)).before args0 about1 = true := code_word (m := ⟨8, 4⟩) (meth := k8m4) (c := k8c4) (by decide +kernel) rfl rfl rfl (by decide +kernel)
set_option maxRecDepth 65536 in
theorem w_c10 : (Jvm.Cond.code ({ cls := "java/lang/StringUTF16", name := "compress", desc := "([CII)[B" } : Jvm.MethodName) jdk_52_method_16_code (6 : Nat) (Option.some (Jvm.ClassFile.FieldType.array Jvm.ClassFile.FieldType.byte))).before args0 about1 = true := code_word (m := ⟨9, 2⟩) (meth := k9m2) (c := k9c2) (by decide +kernel) rfl rfl rfl (by decide +kernel)
set_option maxRecDepth 65536 in
theorem w_c11 : (Jvm.Cond.code ({ cls := "java/lang/StringUTF16", name := "compress", desc := "([CI[BII)I" } : Jvm.MethodName) jdk_52_method_21_code (7 : Nat) (Option.some Jvm.ClassFile.FieldType.int)).before args0 about1 = true := code_word (m := ⟨9, 3⟩) (meth := k9m3) (c := k9c3) (by decide +kernel) rfl rfl rfl (by decide +kernel)
set_option maxRecDepth 65536 in
theorem w_c12 : (Jvm.Cond.code ({ cls := "java/lang/StringUTF16", name := "coderFromArrayLen", desc := "([BI)B" } : Jvm.MethodName) jdk_52_method_15_code (2 : Nat) (Option.some Jvm.ClassFile.FieldType.byte)).before args0 about1 = true := code_word (m := ⟨9, 1⟩) (meth := k9m1) (c := k9c1) (by decide +kernel) rfl rfl rfl (by decide +kernel)
set_option maxRecDepth 65536 in
theorem w_c13 : (Jvm.Cond.code ({ cls := "com/example/affordance/affordance/PathSegments", name := "next", desc := "()Z" } : Jvm.MethodName) prog_44_method_2_code (1 : Nat) (Option.some Jvm.ClassFile.FieldType.boolean)).before args0 about1 = true := code_word (m := ⟨8, 1⟩) (meth := k8m1) (c := k8c1) (by decide +kernel) rfl rfl rfl (by decide +kernel)
set_option maxRecDepth 65536 in
theorem w_c14 : (Jvm.Cond.code ({ cls := "java/lang/String", name := "length", desc := "()I" } : Jvm.MethodName) jdk_42_method_54_code (1 : Nat) (Option.some Jvm.ClassFile.FieldType.int)).before args0 about1 = true := code_word (m := ⟨7, 2⟩) (meth := k7m2) (c := k7c2) (by decide +kernel) rfl rfl rfl (by decide +kernel)
set_option maxRecDepth 65536 in
theorem w_c15 : (Jvm.Cond.code ({ cls := "java/lang/String", name := "coder", desc := "()B" } : Jvm.MethodName) jdk_42_method_152_code (1 : Nat) (Option.some Jvm.ClassFile.FieldType.byte)).before args0 about1 = true := code_word (m := ⟨7, 7⟩) (meth := k7m7) (c := k7c7) (by decide +kernel) rfl rfl rfl (by decide +kernel)
set_option maxRecDepth 65536 in
theorem w_c16 : (Jvm.Cond.code ({ cls := "java/lang/String", name := "startsWith", desc := "(Ljava/lang/String;)Z" } : Jvm.MethodName) jdk_42_method_76_code (2 : Nat) (Option.some Jvm.ClassFile.FieldType.boolean)).before args0 about1 = true := code_word (m := ⟨7, 5⟩) (meth := k7m5) (c := k7c5) (by decide +kernel) rfl rfl rfl (by decide +kernel)
set_option maxRecDepth 65536 in
theorem w_c17 : (Jvm.Cond.code ({ cls := "java/lang/String", name := "startsWith", desc := "(Ljava/lang/String;I)Z" } : Jvm.MethodName) jdk_42_method_75_code (8 : Nat) (Option.some Jvm.ClassFile.FieldType.boolean)).before args0 about1 = true := code_word (m := ⟨7, 4⟩) (meth := k7m4) (c := k7c4) (by decide +kernel) rfl rfl rfl (by decide +kernel)
set_option maxRecDepth 65536 in
theorem w_c18 : (Jvm.Cond.code ({ cls := "jdk/internal/util/ArraysSupport", name := "mismatch", desc := "([BI[BII)I" } : Jvm.MethodName) jdk_48_method_14_code (8 : Nat) (Option.some Jvm.ClassFile.FieldType.int)).before args0 about1 = true := code_word (m := ⟨10, 1⟩) (meth := k10m1) (c := k10c1) (by decide +kernel) rfl rfl rfl (by decide +kernel)
set_option maxRecDepth 65536 in
theorem w_c19 : (Jvm.Cond.code ({ cls := "java/lang/String", name := "charAt", desc := "(I)C" } : Jvm.MethodName) jdk_42_method_56_code (2 : Nat) (Option.some Jvm.ClassFile.FieldType.char)).before args0 about1 = true := code_word (m := ⟨7, 3⟩) (meth := k7m3) (c := k7c3) (by decide +kernel) rfl rfl rfl (by decide +kernel)
set_option maxRecDepth 65536 in
theorem w_c20 : (Jvm.Cond.code ({ cls := "java/lang/String", name := "isLatin1", desc := "()Z" } : Jvm.MethodName) jdk_42_method_154_code (1 : Nat) (Option.some Jvm.ClassFile.FieldType.boolean)).before args0 about1 = true := code_word (m := ⟨7, 8⟩) (meth := k7m8) (c := k7c8) (by decide +kernel) rfl rfl rfl (by decide +kernel)
set_option maxRecDepth 65536 in
theorem w_c21 : (Jvm.Cond.code ({ cls := "java/lang/StringLatin1", name := "charAt", desc := "([BI)C" } : Jvm.MethodName) jdk_43_method_2_code (2 : Nat) (Option.some Jvm.ClassFile.FieldType.char)).before args0 about1 = true := code_word (m := ⟨11, 1⟩) (meth := k11m1) (c := k11c1) (by decide +kernel) rfl rfl rfl (by decide +kernel)
set_option maxRecDepth 65536 in
theorem w_c22 : (Jvm.Cond.code ({ cls := "java/lang/String", name := "checkIndex", desc := "(II)V" } : Jvm.MethodName) jdk_42_method_155_code (2 : Nat) (Option.none : Option Jvm.ClassFile.FieldType)).before args0 about1 = true := code_word (m := ⟨7, 9⟩) (meth := k7m9) (c := k7c9) (by decide +kernel) rfl rfl rfl (by decide +kernel)
set_option maxRecDepth 65536 in
theorem w_c23 : (Jvm.Cond.code ({ cls := "jdk/internal/util/Preconditions", name := "checkIndex", desc := "(IILjava/util/function/BiFunction;)I" } : Jvm.MethodName) jdk_41_method_11_code (3 : Nat) (Option.some Jvm.ClassFile.FieldType.int)).before args0 about1 = true := code_word (m := ⟨12, 1⟩) (meth := k12m1) (c := k12c1) (by decide +kernel) rfl rfl rfl (by decide +kernel)
set_option maxRecDepth 65536 in
theorem w_c24 : (Jvm.Cond.code ({ cls := "com/example/affordance/affordance/PathSegmentsIsLiteralPinLaw", name := "brace", desc := "(Ljava/lang/String;III)Z" } : Jvm.MethodName) method_4_code (4 : Nat) (Option.some Jvm.ClassFile.FieldType.boolean)).before args0 about1 = true := code_word (m := ⟨1, 3⟩) (meth := k1m3) (c := k1c3) (by decide +kernel) rfl rfl rfl (by decide +kernel)
def codes1 : List Jvm.Cond := [Jvm.Cond.code x code maxLocals ret, Jvm.Cond.code ({ cls := "com/example/affordance/affordance/PathSegmentsIsLiteralPinLaw", name := "pick", desc := "(I)C" } : Jvm.MethodName) method_3_code (2 : Nat) (Option.some Jvm.ClassFile.FieldType.char), Jvm.Cond.code ({ cls := "com/example/affordance/affordance/PathSegmentsIsLiteralPinLaw", name := "mk", desc := "(ICCCC)Ljava/lang/String;" } : Jvm.MethodName) method_5_code (6 : Nat) (Option.some (Jvm.ClassFile.FieldType.object "java/lang/String")), Jvm.Cond.code ({ cls := "java/lang/String", name := "<init>", desc := "([C)V" } : Jvm.MethodName) jdk_42_method_3_code (2 : Nat) (Option.none : Option Jvm.ClassFile.FieldType), Jvm.Cond.code ({ cls := "java/lang/String", name := "<init>", desc := "([CIILjava/lang/Void;)V" } : Jvm.MethodName) jdk_42_method_149_code (6 : Nat) (Option.none : Option Jvm.ClassFile.FieldType), Jvm.Cond.code ({ cls := "java/lang/Object", name := "<init>", desc := "()V" } : Jvm.MethodName) object_method_1_code (1 : Nat) (Option.none : Option Jvm.ClassFile.FieldType), Jvm.Cond.code ({ cls := "com/example/affordance/affordance/PathSegments", name := "<init>", desc := "(Ljava/lang/String;)V" } : Jvm.MethodName) prog_44_method_1_code (2 : Nat) (Option.none : Option Jvm.ClassFile.FieldType), Jvm.Cond.code ({ cls := "com/example/affordance/affordance/PathSegments", name := "start", desc := "()I" } : Jvm.MethodName) prog_44_method_4_code (1 : Nat) (Option.some Jvm.ClassFile.FieldType.int), Jvm.Cond.code ({ cls := "com/example/affordance/affordance/PathSegments", name := "end", desc := "()I" } : Jvm.MethodName) prog_44_method_5_code (1 : Nat) (Option.some Jvm.ClassFile.FieldType.int), Jvm.Cond.code ({ cls := "com/example/affordance/affordance/PathSegments", name := "isLiteral", desc := "()Z" } : Jvm.MethodName) prog_44_method_8_code (1 : Nat) (Option.some Jvm.ClassFile.FieldType.boolean), Jvm.Cond.code ({ cls := "java/lang/StringUTF16", name := "compress", desc := "([CII)[B" } : Jvm.MethodName) jdk_52_method_16_code (6 : Nat) (Option.some (Jvm.ClassFile.FieldType.array Jvm.ClassFile.FieldType.byte)), Jvm.Cond.code ({ cls := "java/lang/StringUTF16", name := "compress", desc := "([CI[BII)I" } : Jvm.MethodName) jdk_52_method_21_code (7 : Nat) (Option.some Jvm.ClassFile.FieldType.int), Jvm.Cond.code ({ cls := "java/lang/StringUTF16", name := "coderFromArrayLen", desc := "([BI)B" } : Jvm.MethodName) jdk_52_method_15_code (2 : Nat) (Option.some Jvm.ClassFile.FieldType.byte), Jvm.Cond.code ({ cls := "com/example/affordance/affordance/PathSegments", name := "next", desc := "()Z" } : Jvm.MethodName) prog_44_method_2_code (1 : Nat) (Option.some Jvm.ClassFile.FieldType.boolean), Jvm.Cond.code ({ cls := "java/lang/String", name := "length", desc := "()I" } : Jvm.MethodName) jdk_42_method_54_code (1 : Nat) (Option.some Jvm.ClassFile.FieldType.int), Jvm.Cond.code ({ cls := "java/lang/String", name := "coder", desc := "()B" } : Jvm.MethodName) jdk_42_method_152_code (1 : Nat) (Option.some Jvm.ClassFile.FieldType.byte), Jvm.Cond.code ({ cls := "java/lang/String", name := "startsWith", desc := "(Ljava/lang/String;)Z" } : Jvm.MethodName) jdk_42_method_76_code (2 : Nat) (Option.some Jvm.ClassFile.FieldType.boolean), Jvm.Cond.code ({ cls := "java/lang/String", name := "startsWith", desc := "(Ljava/lang/String;I)Z" } : Jvm.MethodName) jdk_42_method_75_code (8 : Nat) (Option.some Jvm.ClassFile.FieldType.boolean), Jvm.Cond.code ({ cls := "jdk/internal/util/ArraysSupport", name := "mismatch", desc := "([BI[BII)I" } : Jvm.MethodName) jdk_48_method_14_code (8 : Nat) (Option.some Jvm.ClassFile.FieldType.int), Jvm.Cond.code ({ cls := "java/lang/String", name := "charAt", desc := "(I)C" } : Jvm.MethodName) jdk_42_method_56_code (2 : Nat) (Option.some Jvm.ClassFile.FieldType.char), Jvm.Cond.code ({ cls := "java/lang/String", name := "isLatin1", desc := "()Z" } : Jvm.MethodName) jdk_42_method_154_code (1 : Nat) (Option.some Jvm.ClassFile.FieldType.boolean), Jvm.Cond.code ({ cls := "java/lang/StringLatin1", name := "charAt", desc := "([BI)C" } : Jvm.MethodName) jdk_43_method_2_code (2 : Nat) (Option.some Jvm.ClassFile.FieldType.char), Jvm.Cond.code ({ cls := "java/lang/String", name := "checkIndex", desc := "(II)V" } : Jvm.MethodName) jdk_42_method_155_code (2 : Nat) (Option.none : Option Jvm.ClassFile.FieldType), Jvm.Cond.code ({ cls := "jdk/internal/util/Preconditions", name := "checkIndex", desc := "(IILjava/util/function/BiFunction;)I" } : Jvm.MethodName) jdk_41_method_11_code (3 : Nat) (Option.some Jvm.ClassFile.FieldType.int), Jvm.Cond.code ({ cls := "com/example/affordance/affordance/PathSegmentsIsLiteralPinLaw", name := "brace", desc := "(Ljava/lang/String;III)Z" } : Jvm.MethodName) method_4_code (4 : Nat) (Option.some Jvm.ClassFile.FieldType.boolean)]
set_option maxRecDepth 65536 in
theorem codes_eq : words1.filter isCode = codes1 := rfl
theorem w_codes : ∀ c ∈ words1.filter isCode, c.before args0 about1 = true := by
  rw [codes_eq]
  intro c hc
  simp only [codes1, List.mem_cons, List.not_mem_nil, or_false] at hc
  rcases hc with rfl | rfl | rfl | rfl | rfl | rfl | rfl | rfl | rfl | rfl | rfl | rfl | rfl | rfl | rfl | rfl | rfl | rfl | rfl | rfl | rfl | rfl | rfl | rfl | rfl
  · exact w_c0
  · exact w_c1
  · exact w_c2
  · exact w_c3
  · exact w_c4
  · exact w_c5
  · exact w_c6
  · exact w_c7
  · exact w_c8
  · exact w_c9
  · exact w_c10
  · exact w_c11
  · exact w_c12
  · exact w_c13
  · exact w_c14
  · exact w_c15
  · exact w_c16
  · exact w_c17
  · exact w_c18
  · exact w_c19
  · exact w_c20
  · exact w_c21
  · exact w_c22
  · exact w_c23
  · exact w_c24
set_option maxRecDepth 65536 in
theorem w_t1 : (words1.take 24).all (fun c => isCode c || c.before args0 about1) = true := by decide +kernel
set_option maxRecDepth 65536 in
theorem w_t2 : ((words1.drop 24).take 24).all (fun c => isCode c || c.before args0 about1) = true := by decide +kernel
set_option maxRecDepth 65536 in
theorem w_t3 : (((words1.drop 24).drop 24).take 24).all (fun c => isCode c || c.before args0 about1) = true := by decide +kernel
set_option maxRecDepth 65536 in
theorem w_t4 : ((((words1.drop 24).drop 24).drop 24).take 24).all (fun c => isCode c || c.before args0 about1) = true := by decide +kernel
set_option maxRecDepth 65536 in
theorem w_t5 : (((((words1.drop 24).drop 24).drop 24).drop 24).take 24).all (fun c => isCode c || c.before args0 about1) = true := by decide +kernel
set_option maxRecDepth 65536 in
theorem w_t6 : (((((words1.drop 24).drop 24).drop 24).drop 24).drop 24).all (fun c => isCode c || c.before args0 about1) = true := by decide +kernel
theorem w_tables : (allAtoms (Jvm.Cond.code x code maxLocals ret :: tables_1)).before args0 about1 = true := by
  rw [allAtoms_all]
  show words1.all (fun c => c.before args0 about1) = true
  refine all_split ?_ w_codes
  rw [← List.take_append_drop 24 words1, List.all_append, w_t1, ← List.take_append_drop 24 (words1.drop 24), List.all_append, w_t2, ← List.take_append_drop 24 ((words1.drop 24).drop 24), List.all_append, w_t3, ← List.take_append_drop 24 (((words1.drop 24).drop 24).drop 24), List.all_append, w_t4, ← List.take_append_drop 24 ((((words1.drop 24).drop 24).drop 24).drop 24), List.all_append, w_t5, w_t6]
  rfl
set_option maxRecDepth 65536 in
theorem w_rest : rest_1_c.before args0 about1 = true := by decide +kernel
set_option maxRecDepth 65536 in
theorem w_case : (Jvm.Cond.and given_1 narrow_1).before args0 about1 = true := by decide +kernel
set_option maxRecDepth 65536 in
theorem w_consts : constsHeld consts_1 about1 := Jvm.Lit.constsHeldB_iff.mp (by decide +kernel)
theorem w_applies : (headSpec (Jvm.Cond.code x code maxLocals ret :: tables_1) room_1).applies x e0.platform about1 = true :=
  (Spec.applies_iff w_frames).mpr ⟨w_running, w_runnable, w_alone, w_named, w_hears, w_ripe, w_room, w_tables⟩
theorem atStart : AtStart classFile x code maxLocals ret World_1 tables_1 room_1 Calls_1 rest_1 Pre_1 launch0 p0 e0 about1 theMethod args0 below0 :=
  ⟨lists_1, trivial, launch0.admits_env _ _ _, launch0.least_env, fairChoices_fair.cas, fairChoices_fair.clock, w_frames, w_args, w_heap, w_applies, ⟨w_consts, trivial⟩, w_rest, w_case⟩
end start1
theorem witness_1 : WitnessClaimed_1 := ⟨start1.p0, start1.e0, start1.about1, start1.theMethod, start1.args0, start1.below0, start1.atStart⟩
end Jvm.Pilot.@@N@@
