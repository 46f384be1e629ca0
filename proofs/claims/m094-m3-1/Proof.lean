import JvmDerived
import JvmDerived.Pilot.@@N@@Statement
import JvmDerived.Pilot.@@N@@Code
set_option linter.unusedVariables false
set_option linter.unusedSimpArgs false
/- laws to paste: Road.backV, Road.lenW, Road.chN, Road.codOf (cut by pick.py; bodies as the Statement names them) -/
namespace Jvm.Pilot.@@N@@
namespace StrChars
open Jvm Sem ClassFile Op Lib Jvm.Stand Jvm.Free.XT Jvm.Free.ALB Jvm.Free.JM Jvm.Free
open Jvm.Lib.Cold (StaticIs)
/-- a char array whose places are chars -/
def Ch (a : Addr) (A : Cell) (U : State) : Prop := Arr .char a A U ∧ Typed .char A
theorem Ch.mv {a : Addr} {A : Cell} {U U' : State} (h : Ch a A U) (hal : U.vm.Alike U'.vm) (hh : U'.heap = U.heap) : Ch a A U' := ⟨h.1.mv hal hh, h.2⟩
theorem Ch.keep {a : Addr} {A : Cell} {U U' : State} (h : Ch a A U) (hal : U.vm.Alike U'.vm) (hk : U'.heap[a]? = some A) : Ch a A U' := ⟨h.1.keep hal hk, h.2⟩
/-- what place i of a char[]'s cell holds -/
def cv (A : Cell) (i : Nat) : Int32 := match A.slots[i]? with | some (.int x) => x | _ => 0
theorem Ch.get {a : Addr} {A : Cell} {U : State} (h : Ch a A U) {i : Nat} (hi : i < A.slots.size) : A.slots[i]? = some (.int (cv A i)) := by
  have e := Array.getElem?_eq_getElem hi
  have f := h.2 i _ e
  unfold cv; rw [e]
  generalize A.slots[i] = v at f
  cases v <;> simp [fits] at f ⊢
/-- the byte that i2b leaves of a char -/
def lo8 (x : Int32) : Int32 := x.toInt8.toInt32
theorem fits_lo8 (y : Int32) : fits .byte (.int (lo8 y)) = true := by
  have h1 := y.toInt8.le_toInt
  have h2 := y.toInt8.toInt_lt
  simp only [lo8, fits, Bool.and_eq_true, decide_eq_true_eq, Int32.le_iff_toInt_le, Int8.toInt_toInt32, show (-128 : Int32).toInt = -128 from by decide, show (127 : Int32).toInt = 127 from by decide]
  omega
/-- A' is A but that each place j of lo .. hi - 1 holds f j -/
def Laid (A A' : Cell) (lo hi : Nat) (f : Nat → Value) : Prop := A'.cls = A.cls ∧ A'.vm = A.vm ∧ A'.slots.size = A.slots.size ∧ ∀ i, A'.slots[i]? = if lo ≤ i ∧ i < hi then some (f i) else A.slots[i]?
theorem Laid.zero (A : Cell) (lo : Nat) (f : Nat → Value) : Laid A A lo (lo + 0) f := ⟨rfl, rfl, rfl, fun i => by rw [if_neg (by omega)]⟩
theorem Laid.step {A Ak : Cell} {lo k : Nat} {f : Nat → Value} {v : Value} (h : Laid A Ak lo k f) (hlo : lo ≤ k) (hk : k < Ak.slots.size) (hv : v = f k) : Laid A (Ak.setSlot k v) lo (k + 1) f := by
  refine ⟨h.1, h.2.1, by simpa [Cell.setSlot] using h.2.2.1, fun i => ?_⟩
  by_cases e : k = i
  · subst e; rw [Cell.slots_setSlot_self v hk, if_pos (by omega), hv]
  · rw [Cell.slots_setSlot_ne v e, h.2.2.2 i]
    by_cases q : lo ≤ i ∧ i < k
    · rw [if_pos q, if_pos (by omega)]
    · rw [if_neg q, if_neg (by omega)]
def U16 : String := "java/lang/StringUTF16"
namespace Cmp5
def yN : MethodName := ⟨"java/lang/StringUTF16", "compress", "([CI[BII)I"⟩
abbrev yB : ByteArray := jdk_52_method_21_code
theorem d0 : decode yB 0 = .ok (.iconst 0, 1) := by decide +kernel
theorem d1 : decode yB 1 = .ok (.istore 5, 2) := by decide +kernel
theorem d3 : decode yB 3 = .ok (.iload 5, 2) := by decide +kernel
theorem d5 : decode yB 5 = .ok (.iload 4, 2) := by decide +kernel
theorem d7 : decode yB 7 = .ok (.if_icmp (.ge) 37, 3) := by decide +kernel
theorem d10 : decode yB 10 = .ok (.aload_n 0, 1) := by decide +kernel
theorem d11 : decode yB 11 = .ok (.iload_n 1, 1) := by decide +kernel
theorem d12 : decode yB 12 = .ok (.caload, 1) := by decide +kernel
theorem d13 : decode yB 13 = .ok (.istore 6, 2) := by decide +kernel
theorem d15 : decode yB 15 = .ok (.iload 6, 2) := by decide +kernel
theorem d17 : decode yB 17 = .ok (.sipush 255, 3) := by decide +kernel
theorem d20 : decode yB 20 = .ok (.if_icmp (.le) 6, 3) := by decide +kernel
theorem d26 : decode yB 26 = .ok (.aload_n 2, 1) := by decide +kernel
theorem d27 : decode yB 27 = .ok (.iload_n 3, 1) := by decide +kernel
theorem d28 : decode yB 28 = .ok (.iload 6, 2) := by decide +kernel
theorem d30 : decode yB 30 = .ok (.i2b, 1) := by decide +kernel
theorem d31 : decode yB 31 = .ok (.bastore, 1) := by decide +kernel
theorem d32 : decode yB 32 = .ok (.iinc 1 1, 3) := by decide +kernel
theorem d35 : decode yB 35 = .ok (.iinc 3 1, 3) := by decide +kernel
theorem d38 : decode yB 38 = .ok (.iinc 5 1, 3) := by decide +kernel
theorem d41 : decode yB 41 = .ok (.goto (-38), 3) := by decide +kernel
theorem d44 : decode yB 44 = .ok (.iload 4, 2) := by decide +kernel
theorem d46 : decode yB 46 = .ok (.ireturn, 1) := by decide +kernel
def site : List Cond := []
def tab : Cond := tabOf yN yB 7 (some .int) site
def P (b : Addr) (A : Cell) (d : Addr) (B : Cell) (o q len : Nat) (args : Array Value) (s : State) : Prop := args = #[.ref b, .int (Int32.ofNat o), .ref d, .int (Int32.ofNat q), .int (Int32.ofNat len)] ∧ Ch b A s ∧ Arr .byte d B s ∧ b ≠ d ∧ o + len ≤ A.slots.size ∧ q + len ≤ B.slots.size ∧ ∀ i, i < len → ¬ 255 < cv A (o + i)
def E (b : Addr) (A : Cell) (d : Addr) (B : Cell) (o q len : Nat) (r : Option Value) (s u : State) : Prop := r = some (.int (Int32.ofNat len)) ∧ ∃ B', Put d B' s u ∧ Laid B B' q (q + len) (fun j => Value.int (lo8 (cv A (o + (j - q)))))
/-- no char of the range above 255: len; the places written hold each char's low byte -/
theorem law (l : Launch) (b : Addr) (A : Cell) (d : Addr) (B : Cell) (o q len : Nat) : Law l yN 5 5 0 0 yB 7 (some .int) site (P b A d B o q len) (E b A d B o q len) (copyLocs d q len) 0 0 := by
  refine Law.of_walk (plainFor_of_name (by decide +kernel)) (by decide +kernel) (by decide +kernel) (by decide) (fun _ _ h => by rw [h.1]; rfl) (fun _ U U' hal hh h => ⟨h.1, h.2.1.mv hal hh, h.2.2.1.mv hal hh, h.2.2.2⟩) (fun r U U' V V' h1 hal h2 h => ⟨h.1, h.2.elim fun B' q => ⟨B', q.1.mv h1 h2, q.2⟩⟩) ?_
  intro p e s m args below meth c s₁ X0 hexec hbytes hml hret hlk hnm hown hh0 W hP
  obtain ⟨rfl, hA, hB, hne, l1, l2, hp⟩ := hP
  have c1 : Steps p.tables e below (s₁.setTop (entryFrame m #[.ref b, .int (Int32.ofNat o), .ref d, .int (Int32.ofNat q), .int (Int32.ofNat len)] 7)) (s₁.setTop (mkF m 0 #[.val (.ref b), .val (.int (Int32.ofNat o)), .val (.ref d), .val (.int (Int32.ofNat q)), .val (.int (Int32.ofNat len)), .unset, .unset] [])) := entry rfl
  have hA0 := hA.1.mv X0.warmed.alike hh0
  have hB0 := hB.mv X0.warmed.alike hh0
  have a31 := hA.1.2.2.2
  have c2 : Steps p.tables e below (s₁.setTop (entryFrame m #[.ref b, .int (Int32.ofNat o), .ref d, .int (Int32.ofNat q), .int (Int32.ofNat len)] 7)) (s₁.setTop (mkF m 3 #[.val (.ref b), .val (.int (Int32.ofNat o)), .val (.ref d), .val (.int (Int32.ofNat q)), .val (.int (Int32.ofNat len)), .val (.int 0), .unset] [])) := c1.trans (by
    refine iconstV X0.here hexec rfl 0 (hb hbytes d0) (by decide) ?_
    refine XS.istore X0.here hexec rfl (hb hbytes d1) rfl rfl ?_
    exact Steps.refl _)
  have loop : ∀ (r i : Nat), i + r = len → ∀ (z : Slot), (z = .unset ∨ ∃ w, z = .val w ∧ w.category = 1) → ∀ (Tl : State) (Bk : Cell), Stand p l e { frames := 0, locals := 0, cells := 0, slots := 0 } s m #[.ref b, .int (Int32.ofNat o), .ref d, .int (Int32.ofNat q), .int (Int32.ofNat len)] below meth c Tl ([] ++ copyLocs d q i) 0 0 → Put d Bk s₁ Tl → Laid B Bk q (q + i) (fun j => Value.int (lo8 (cv A (o + (j - q))))) →
      Steps p.tables e below (s₁.setTop (entryFrame m #[.ref b, .int (Int32.ofNat o), .ref d, .int (Int32.ofNat q), .int (Int32.ofNat len)] 7)) (Tl.setTop (mkF m 3 #[.val (.ref b), .val (.int (Int32.ofNat (o + i))), .val (.ref d), .val (.int (Int32.ofNat (q + i))), .val (.int (Int32.ofNat len)), .val (.int (Int32.ofNat i)), z] [])) → ∃ (T' : State) (B' : Cell) (z' : Slot), Stand p l e { frames := 0, locals := 0, cells := 0, slots := 0 } s m #[.ref b, .int (Int32.ofNat o), .ref d, .int (Int32.ofNat q), .int (Int32.ofNat len)] below meth c T' ([] ++ copyLocs d q len) 0 0 ∧ Put d B' s₁ T' ∧ Laid B B' q (q + len) (fun j => Value.int (lo8 (cv A (o + (j - q))))) ∧
      Steps p.tables e below (s₁.setTop (entryFrame m #[.ref b, .int (Int32.ofNat o), .ref d, .int (Int32.ofNat q), .int (Int32.ofNat len)] 7)) (T'.setTop (mkF m 3 #[.val (.ref b), .val (.int (Int32.ofNat (o + len))), .val (.ref d), .val (.int (Int32.ofNat (q + len))), .val (.int (Int32.ofNat len)), .val (.int (Int32.ofNat len)), z'] [])) := by
    intro r
    induction r with
    | zero =>
      intro i hi z hz Tl Bk Xl pl fl cl
      have hil : i = len := by omega
      rw [hil] at Xl fl cl
      exact ⟨Tl, Bk, z, Xl, pl, fl, cl⟩
    | succ r ih =>
      intro i hi z hz Tl Bk Xl pl fl cl
      have all := X0.warmed.alike.symm.trans Xl.warmed.alike
      have hAl := hA0.keep all (pl.other hne hA0.1)
      have hBk := hB0.like all pl.1 fl.1 fl.2.1 fl.2.2.1
      have hlt : q + i < Bk.slots.size := by rw [fl.2.2.1]; omega
      have c3 : Steps p.tables e below (s₁.setTop (entryFrame m #[.ref b, .int (Int32.ofNat o), .ref d, .int (Int32.ofNat q), .int (Int32.ofNat len)] 7)) (Tl.setTop (mkF m 12 #[.val (.ref b), .val (.int (Int32.ofNat (o + i))), .val (.ref d), .val (.int (Int32.ofNat (q + i))), .val (.int (Int32.ofNat len)), .val (.int (Int32.ofNat i)), z] [.int (Int32.ofNat (o + i)), .ref b])) := cl.trans (by
        refine XS.iload Xl.here hexec rfl (hb hbytes d3) rfl ?_
        refine XS.iload Xl.here hexec rfl (hb hbytes d5) rfl ?_
        refine XS.icmpNo Xl.here hexec rfl (hb hbytes d7) rfl (ii_ge_f (lt32 (by omega) (by omega))) ?_
        refine XS.aloadN Xl.here hexec rfl (hb hbytes d10) rfl rfl ?_
        refine XS.iloadN Xl.here hexec rfl (hb hbytes d11) rfl ?_
        exact Steps.refl _)
      have c4 : Steps p.tables e below (s₁.setTop (entryFrame m #[.ref b, .int (Int32.ofNat o), .ref d, .int (Int32.ofNat q), .int (Int32.ofNat len)] 7)) (Tl.setTop (mkF m 13 #[.val (.ref b), .val (.int (Int32.ofNat (o + i))), .val (.ref d), .val (.int (Int32.ofNat (q + i))), .val (.int (Int32.ofNat len)), .val (.int (Int32.ofNat i)), z] [.int (cv A (o + i))])) := c3.trans (by
        refine Xl.aget hexec hAl rfl (hA.get (i := o + i) (by omega)) rfl rfl (hb hbytes d12) ?_
        exact Steps.refl _)
      have c5 : Steps p.tables e below (s₁.setTop (entryFrame m #[.ref b, .int (Int32.ofNat o), .ref d, .int (Int32.ofNat q), .int (Int32.ofNat len)] 7)) (Tl.setTop (mkF m 15 #[.val (.ref b), .val (.int (Int32.ofNat (o + i))), .val (.ref d), .val (.int (Int32.ofNat (q + i))), .val (.int (Int32.ofNat len)), .val (.int (Int32.ofNat i)), .val (.int (cv A (o + i)))] [])) := c4.trans (by
        refine XS.istoreS Xl.here hexec rfl (hb hbytes d13) rfl rfl hz ?_
        exact Steps.refl _)
      have c6 : Steps p.tables e below (s₁.setTop (entryFrame m #[.ref b, .int (Int32.ofNat o), .ref d, .int (Int32.ofNat q), .int (Int32.ofNat len)] 7)) (Tl.setTop (mkF m 31 #[.val (.ref b), .val (.int (Int32.ofNat (o + i))), .val (.ref d), .val (.int (Int32.ofNat (q + i))), .val (.int (Int32.ofNat len)), .val (.int (Int32.ofNat i)), .val (.int (cv A (o + i)))] [.int (lo8 (cv A (o + i))), .int (Int32.ofNat (q + i)), .ref d])) := c5.trans (by
        refine XS.iload Xl.here hexec rfl (hb hbytes d15) rfl ?_
        refine sipushV Xl.here hexec rfl 255 (hb hbytes d17) (by decide) ?_
        refine XS.icmpYes Xl.here hexec rfl (pc0 := 20) rfl (hb hbytes d20) rfl (ii_le_t (hp i (by omega))) (by decide) rfl ?_
        refine XS.aloadN Xl.here hexec rfl (hb hbytes d26) rfl rfl ?_
        refine XS.iloadN Xl.here hexec rfl (hb hbytes d27) rfl ?_
        refine XS.iload Xl.here hexec rfl (hb hbytes d28) rfl ?_
        refine i2b Xl.here hexec rfl (hb hbytes d30) rfl ?_
        exact Steps.refl _)
      obtain ⟨T7, X7, p7, st7⟩ := Xl.aput hexec hBk rfl hlt rfl (fits_lo8 (cv A (o + i))) (g := (mkF m 31 #[.val (.ref b), .val (.int (Int32.ofNat (o + i))), .val (.ref d), .val (.int (Int32.ofNat (q + i))), .val (.int (Int32.ofNat len)), .val (.int (Int32.ofNat i)), .val (.int (cv A (o + i)))] [.int (lo8 (cv A (o + i))), .int (Int32.ofNat (q + i)), .ref d])) rfl (rest := []) rfl (hb hbytes d31)
      have c8 : Steps p.tables e below (s₁.setTop (entryFrame m #[.ref b, .int (Int32.ofNat o), .ref d, .int (Int32.ofNat q), .int (Int32.ofNat len)] 7)) (T7.setTop (mkF m 32 #[.val (.ref b), .val (.int (Int32.ofNat (o + i))), .val (.ref d), .val (.int (Int32.ofNat (q + i))), .val (.int (Int32.ofNat len)), .val (.int (Int32.ofNat i)), .val (.int (cv A (o + i)))] [])) := c6.trans (st7 _ (Steps.refl _))
      have c9 : Steps p.tables e below (s₁.setTop (entryFrame m #[.ref b, .int (Int32.ofNat o), .ref d, .int (Int32.ofNat q), .int (Int32.ofNat len)] 7)) (T7.setTop (mkF m 3 #[.val (.ref b), .val (.int (Int32.ofNat (o + i) + 1)), .val (.ref d), .val (.int (Int32.ofNat (q + i) + 1)), .val (.int (Int32.ofNat len)), .val (.int (Int32.ofNat i + 1)), .val (.int (cv A (o + i)))] [])) := c8.trans (by
        refine iincV X7.here hexec rfl 1 (hb hbytes d32) (by decide) rfl rfl ?_
        refine iincV X7.here hexec rfl 1 (hb hbytes d35) (by decide) rfl rfl ?_
        refine iincV X7.here hexec rfl 1 (hb hbytes d38) (by decide) rfl rfl ?_
        refine XS.goto X7.here hexec rfl (pc0 := 41) rfl (hb hbytes d41) (by decide) rfl ?_
        exact Steps.refl _)
      have c10 : Steps p.tables e below (s₁.setTop (entryFrame m #[.ref b, .int (Int32.ofNat o), .ref d, .int (Int32.ofNat q), .int (Int32.ofNat len)] 7)) (T7.setTop (mkF m 3 #[.val (.ref b), .val (.int (Int32.ofNat (o + (i + 1)))), .val (.ref d), .val (.int (Int32.ofNat (q + (i + 1)))), .val (.int (Int32.ofNat len)), .val (.int (Int32.ofNat (i + 1))), .val (.int (cv A (o + i)))] [])) := by
        have := c9
        rw [succ32, succ32, succ32] at this
        exact this
      exact ih (i + 1) (by omega) _ (Or.inr ⟨_, rfl, rfl⟩) T7 _ (by rw [copyLocs_step, ← List.append_assoc]; exact X7) (pl.trans p7) (fl.step (by omega) hlt (by simp)) c10
  obtain ⟨T9, B9, z9, X9, p9, f9, g9⟩ := loop len 0 (by omega) .unset (Or.inl rfl) s₁ B (by simpa [copyLocs] using X0) ⟨hB0.1, fun _ _ => rfl, rfl⟩ (Laid.zero _ _ _) c2
  have c11 : Steps p.tables e below (s₁.setTop (entryFrame m #[.ref b, .int (Int32.ofNat o), .ref d, .int (Int32.ofNat q), .int (Int32.ofNat len)] 7)) (T9.setTop (mkF m 46 #[.val (.ref b), .val (.int (Int32.ofNat (o + len))), .val (.ref d), .val (.int (Int32.ofNat (q + len))), .val (.int (Int32.ofNat len)), .val (.int (Int32.ofNat len)), z9] [.int (Int32.ofNat len)])) := g9.trans (by
    refine XS.iload X9.here hexec rfl (hb hbytes d3) rfl ?_
    refine XS.iload X9.here hexec rfl (hb hbytes d5) rfl ?_
    refine XS.icmpYes X9.here hexec rfl (pc0 := 7) rfl (hb hbytes d7) rfl (ii_ge_t (nlt32 (by omega) (Nat.le_refl _))) (by decide) rfl ?_
    refine XS.iload X9.here hexec rfl (hb hbytes d44) rfl ?_
    exact Steps.refl _)
  exact ⟨T9, some (.int (Int32.ofNat len)), _, _, _, X9, by simp, rfl, rfl, (fun h => by cases h), ⟨rfl, B9, p9.from hh0, f9⟩, fun fs hl => c11.trans (X9.ireturnOut hexec hret rfl (Or.inl rfl) (hb hbytes d46) hl)⟩
end Cmp5
namespace Cmp3
def yN : MethodName := ⟨"java/lang/StringUTF16", "compress", "([CII)[B"⟩
abbrev yB : ByteArray := jdk_52_method_16_code
theorem d0 : decode yB 0 = .ok (.iload_n 2, 1) := by decide +kernel
theorem d1 : decode yB 1 = .ok (.newarray .byte, 2) := by decide +kernel
theorem d3 : decode yB 3 = .ok (.astore_n 3, 1) := by decide +kernel
theorem d4 : decode yB 4 = .ok (.aload_n 0, 1) := by decide +kernel
theorem d5 : decode yB 5 = .ok (.iload_n 1, 1) := by decide +kernel
theorem d6 : decode yB 6 = .ok (.aload_n 3, 1) := by decide +kernel
theorem d7 : decode yB 7 = .ok (.iconst 0, 1) := by decide +kernel
theorem d8 : decode yB 8 = .ok (.iload_n 2, 1) := by decide +kernel
theorem d9 : decode yB 9 = .ok (.invokestatic 115, 3) := by decide +kernel
theorem d12 : decode yB 12 = .ok (.istore 4, 2) := by decide +kernel
theorem d14 : decode yB 14 = .ok (.iload 4, 2) := by decide +kernel
theorem d16 : decode yB 16 = .ok (.iload_n 2, 1) := by decide +kernel
theorem d17 : decode yB 17 = .ok (.if_icmp (.eq) 40, 3) := by decide +kernel
theorem d57 : decode yB 57 = .ok (.aload_n 3, 1) := by decide +kernel
theorem d58 : decode yB 58 = .ok (.areturn, 1) := by decide +kernel
def site : List Cond := [.arrayClass .byte, Cmp5.tab] ++ staticW U16 115 Cmp5.yN
def tab : Cond := tabOf yN yB 6 (some (.array .byte)) site
def P (b : Addr) (A : Cell) (o len : Nat) (args : Array Value) (s : State) : Prop := args = #[.ref b, .int (Int32.ofNat o), .int (Int32.ofNat len)] ∧ Ch b A s ∧ o + len ≤ A.slots.size ∧ len ≤ 536870912 ∧ ∀ i, i < len → ¬ 255 < cv A (o + i)
def E (b : Addr) (A : Cell) (o len : Nat) (r : Option Value) (s u : State) : Prop := NewArr .byte "[B" len (fun j => .int (lo8 (cv A (o + j)))) r s u ∧ u.heap.size = s.heap.size + 1
/-- no char of the range above 255: a new byte[] of their low bytes -/
theorem law (l : Launch) (b : Addr) (A : Cell) (o len : Nat) : Law l yN 3 3 1 18 yB 6 (some (.array .byte)) site (P b A o len) (E b A o len) [] 1 len := by
  refine Law.of_walk (plainFor_of_name (by decide +kernel)) (by decide +kernel) (by decide +kernel) (by decide) (fun _ _ h => by rw [h.1]; rfl) (fun _ U U' hal hh h => ⟨h.1, h.2.1.mv hal hh, h.2.2⟩) (fun r U U' V V' h1 hal h2 h => ⟨NewArr.mv r U U' V V' h1 hal h2 h.1, by rw [h1, h2]; exact h.2⟩) ?_
  intro p e s m args below meth c s₁ X0 hexec hbytes hml hret hlk hnm hown hh0 W hP
  obtain ⟨rfl, hA, l1, l2, hp⟩ := hP
  have a31 := hA.1.2.2.2
  have c1 : Steps p.tables e below (s₁.setTop (entryFrame m #[.ref b, .int (Int32.ofNat o), .int (Int32.ofNat len)] 6)) (s₁.setTop (mkF m 0 #[.val (.ref b), .val (.int (Int32.ofNat o)), .val (.int (Int32.ofNat len)), .unset, .unset, .unset] [])) := entry rfl
  have c2 : Steps p.tables e below (s₁.setTop (entryFrame m #[.ref b, .int (Int32.ofNat o), .int (Int32.ofNat len)] 6)) (s₁.setTop (mkF m 1 #[.val (.ref b), .val (.int (Int32.ofNat o)), .val (.int (Int32.ofNat len)), .unset, .unset, .unset] [.int (Int32.ofNat len)])) := c1.trans (by
    refine XS.iloadN X0.here hexec rfl (hb hbytes d0) rfl ?_
    exact Steps.refl _)
  obtain ⟨T3, B3, X3, ba3, bs3, bv3, bh3, bf3, st3⟩ := X0.anew hexec (atype := .byte) (wk W (.arrayClass .byte)) rfl (by show len * 1 ≤ _; omega) (by omega) (g := (mkF m 1 #[.val (.ref b), .val (.int (Int32.ofNat o)), .val (.int (Int32.ofNat len)), .unset, .unset, .unset] [.int (Int32.ofNat len)])) rfl (hb hbytes d1) (rest := []) rfl (Nat.le_refl _) (by show 0 + len ≤ len; omega)
  rw [hh0] at ba3 st3
  have kp3 : XT.Kept s T3 := (XT.Kept.of_eq hh0).push bh3
  have hA3 := hA.keep X3.warmed.alike (kp3 _ _ hA.1.1)
  have hne : b ≠ s.heap.size := hA.1.ne
  have c4 : Steps p.tables e below (s₁.setTop (entryFrame m #[.ref b, .int (Int32.ofNat o), .int (Int32.ofNat len)] 6)) (T3.setTop (mkF m 3 #[.val (.ref b), .val (.int (Int32.ofNat o)), .val (.int (Int32.ofNat len)), .unset, .unset, .unset] [.ref s.heap.size])) := c2.trans (st3 _ (Steps.refl _))
  have c5 : Steps p.tables e below (s₁.setTop (entryFrame m #[.ref b, .int (Int32.ofNat o), .int (Int32.ofNat len)] 6)) (T3.setTop (mkF m 9 #[.val (.ref b), .val (.int (Int32.ofNat o)), .val (.int (Int32.ofNat len)), .val (.ref s.heap.size), .unset, .unset] [.int (Int32.ofNat len), .int 0, .ref s.heap.size, .int (Int32.ofNat o), .ref b])) := c4.trans (by
    refine XS.astoreN X3.here hexec rfl (hb hbytes d3) rfl rfl rfl ?_
    refine XS.aloadN X3.here hexec rfl (hb hbytes d4) rfl rfl ?_
    refine XS.iloadN X3.here hexec rfl (hb hbytes d5) rfl ?_
    refine XS.aloadN X3.here hexec rfl (hb hbytes d6) rfl rfl ?_
    refine iconstV X3.here hexec rfl 0 (hb hbytes d7) (by decide) ?_
    refine XS.iloadN X3.here hexec rfl (hb hbytes d8) rfl ?_
    exact Steps.refl _)
  obtain ⟨v6, T6, X6, E6, g6⟩ := X3.callS hexec (Cmp5.law l b A s.heap.size B3 o 0 len) hown (wks W (staticW U16 115 Cmp5.yN)) (wk W Cmp5.tab) (W := 0) (Nat.le_of_ble_eq_true rfl) (Nat.le_of_ble_eq_true rfl) (Nat.le_refl _) (by show 0 + len + 0 ≤ len; omega) (g := (mkF m 9 #[.val (.ref b), .val (.int (Int32.ofNat o)), .val (.int (Int32.ofNat len)), .val (.ref s.heap.size), .unset, .unset] [.int (Int32.ofNat len), .int (Int32.ofNat 0), .ref s.heap.size, .int (Int32.ofNat o), .ref b])) rfl (by rw [hml]; rfl) c5 (argsL := [.ref b, .int (Int32.ofNat o), .ref s.heap.size, .int (Int32.ofNat 0), .int (Int32.ofNat len)]) (rest := []) rfl rfl (by show 2 * 0 + 0 ≤ _; decide) (hb hbytes d9) (⟨rfl, hA3, ba3, hne, l1, by rw [bs3]; simp, hp⟩)
  obtain ⟨rfl, B6, p6, f6⟩ := E6
  have c7 : Steps p.tables e below (s₁.setTop (entryFrame m #[.ref b, .int (Int32.ofNat o), .int (Int32.ofNat len)] 6)) (T6.setTop (mkF m 12 #[.val (.ref b), .val (.int (Int32.ofNat o)), .val (.int (Int32.ofNat len)), .val (.ref s.heap.size), .unset, .unset] [.int (Int32.ofNat len)])) := g6
  have c8 : Steps p.tables e below (s₁.setTop (entryFrame m #[.ref b, .int (Int32.ofNat o), .int (Int32.ofNat len)] 6)) (T6.setTop (mkF m 58 #[.val (.ref b), .val (.int (Int32.ofNat o)), .val (.int (Int32.ofNat len)), .val (.ref s.heap.size), .val (.int (Int32.ofNat len)), .unset] [.ref s.heap.size])) := c7.trans (by
    refine XS.istore X6.here hexec rfl (hb hbytes d12) rfl rfl ?_
    refine XS.iload X6.here hexec rfl (hb hbytes d14) rfl ?_
    refine XS.iloadN X6.here hexec rfl (hb hbytes d16) rfl ?_
    refine XS.icmpYes X6.here hexec rfl (pc0 := 17) rfl (hb hbytes d17) rfl (ii_eq_t rfl) (by decide) rfl ?_
    refine XS.aloadN X6.here hexec rfl (hb hbytes d57) rfl rfl ?_
    exact Steps.refl _)
  have X8 := X6.wide (L' := []) (cells' := 1) (slots' := len) (fun x hx hlt => by
    simp only [List.nil_append, copyLocs, List.mem_map, List.mem_range] at hx
    obtain ⟨i, -, rfl⟩ := hx
    exact absurd hlt (Nat.lt_irrefl _)) (Nat.le_refl _) (by omega)
  exact ⟨T6, some (.ref s.heap.size), _, _, _, X8, rfl, rfl, rfl, (fun h => by cases h), ⟨⟨rfl, B6, ba3.like (X3.warmed.alike.symm.trans X6.warmed.alike) p6.1 f6.1 f6.2.1 f6.2.2.1, f6.2.1.trans bv3, by rw [X6.warmed.alike.findClass, f6.1]; exact bf3, by rw [f6.2.2.1, bs3]; simp, fun j hj => by rw [f6.2.2.2 j, if_pos (by omega)]; rfl, kp3.put p6 (Nat.le_refl _)⟩, by rw [p6.2.2, bh3, hh0]; simp⟩, fun fs hl => c8.trans (X8.areturnOut hexec rfl hret rfl (hb hbytes d58) hl)⟩
end Cmp3
namespace CodL
def yN : MethodName := ⟨"java/lang/StringUTF16", "coderFromArrayLen", "([BI)B"⟩
abbrev yB : ByteArray := jdk_52_method_15_code
theorem d0 : decode yB 0 = .ok (.iload_n 1, 1) := by decide +kernel
theorem d1 : decode yB 1 = .ok (.aload_n 0, 1) := by decide +kernel
theorem d2 : decode yB 2 = .ok (.arraylength, 1) := by decide +kernel
theorem d3 : decode yB 3 = .ok (.isub, 1) := by decide +kernel
theorem d4 : decode yB 4 = .ok (.bipush 31, 2) := by decide +kernel
theorem d6 : decode yB 6 = .ok (.iushr, 1) := by decide +kernel
theorem d7 : decode yB 7 = .ok (.i2b, 1) := by decide +kernel
theorem d8 : decode yB 8 = .ok (.ireturn, 1) := by decide +kernel
def site : List Cond := []
def tab : Cond := tabOf yN yB 2 (some .byte) site
def P (d : Addr) (B : Cell) (args : Array Value) (s : State) : Prop := args = #[.ref d, .int (Int32.ofNat B.slots.size)] ∧ Arr .byte d B s
def E (r : Option Value) (s u : State) : Prop := XT.PureE (some (.int 0)) r s u
/-- an array as long as the number of chars: LATIN1 -/
theorem law (l : Launch) (d : Addr) (B : Cell) : Law l yN 2 2 0 0 yB 2 (some .byte) site (P d B) E [] 0 0 := by
  refine Law.of_walk (plainFor_of_name (by decide +kernel)) (by decide +kernel) (by decide +kernel) (by decide) (fun _ _ h => by rw [h.1]; rfl) (fun _ U U' hal hh h => ⟨h.1, h.2.mv hal hh⟩) (fun r U U' V V' h1 hal h2 h => XT.PureE.mv r U U' V V' h1 hal h2 h) ?_
  intro p e s m args below meth c s₁ X0 hexec hbytes hml hret hlk hnm hown hh0 W hP
  obtain ⟨rfl, hB⟩ := hP
  have hB0 := hB.mv X0.warmed.alike hh0
  have c1 : Steps p.tables e below (s₁.setTop (entryFrame m #[.ref d, .int (Int32.ofNat B.slots.size)] 2)) (s₁.setTop (mkF m 0 #[.val (.ref d), .val (.int (Int32.ofNat B.slots.size))] [])) := entry rfl
  have c2 : Steps p.tables e below (s₁.setTop (entryFrame m #[.ref d, .int (Int32.ofNat B.slots.size)] 2)) (s₁.setTop (mkF m 2 #[.val (.ref d), .val (.int (Int32.ofNat B.slots.size))] [.ref d, .int (Int32.ofNat B.slots.size)])) := c1.trans (by
    refine XS.iloadN X0.here hexec rfl (hb hbytes d0) rfl ?_
    refine XS.aloadN X0.here hexec rfl (hb hbytes d1) rfl rfl ?_
    exact Steps.refl _)
  have c3 : Steps p.tables e below (s₁.setTop (entryFrame m #[.ref d, .int (Int32.ofNat B.slots.size)] 2)) (s₁.setTop (mkF m 8 #[.val (.ref d), .val (.int (Int32.ofNat B.slots.size))] [.int (lo8 (ushr (Int32.ofNat B.slots.size - Int32.ofNat B.slots.size) 31))])) := c2.trans (by
    refine X0.alen hexec hB0 rfl rfl (hb hbytes d2) ?_
    refine XS.isub X0.here hexec rfl (hb hbytes d3) rfl ?_
    refine bipushV X0.here hexec rfl 31 (hb hbytes d4) (by decide) ?_
    refine iushr X0.here hexec rfl (hb hbytes d6) rfl ?_
    refine i2b X0.here hexec rfl (hb hbytes d7) rfl ?_
    exact Steps.refl _)
  have e0 : lo8 (ushr (Int32.ofNat B.slots.size - Int32.ofNat B.slots.size) 31) = 0 := by rw [Int32.sub_self]; decide
  rw [e0] at c3
  exact ⟨s₁, some (.int 0), _, _, _, X0, rfl, rfl, rfl, (fun h => by cases h), ⟨rfl, hh0⟩, fun fs hl => c3.trans (X0.ireturnOut hexec hret rfl (Or.inr (Or.inr (Or.inl rfl))) (hb hbytes d8) hl)⟩
end CodL
/-- the String at a is Latin-1 over a new byte[] (the heap's one new cell): the low bytes of the len chars of A from o on; every cell but a is kept -/
def Got (a : Addr) (D : Cell) (fV fC : Field) (A : Cell) (o len : Nat) (r : Option Value) (s u : State) : Prop := r = none ∧ ∃ D' V : Cell, Blank "java/lang/String" a D' u ∧ Same D D' [fV.slot, fC.slot] ∧ D'.slots[fV.slot]? = some (.ref s.heap.size) ∧ D'.slots[fC.slot]? = some (.int 0) ∧ Arr .byte s.heap.size V u ∧ V.vm = .none ∧ u.vm.findClass "[B" = some V.cls ∧ V.slots.size = len ∧ (∀ j, j < len → V.slots[j]? = some (.int (lo8 (cv A (o + j))))) ∧ (∀ (y : Addr) (c : Cell), y ≠ a → s.heap[y]? = some c → u.heap[y]? = some c) ∧ u.heap.size = s.heap.size + 1
theorem Got.mv {a : Addr} {D A : Cell} {fV fC : Field} {o len : Nat} : ∀ r (U U' V V' : State), U'.heap = U.heap → V.vm.Alike V'.vm → V'.heap = V.heap → Got a D fV fC A o len r U V → Got a D fV fC A o len r U' V' :=
  fun r U U' V V' h1 hal h2 ⟨e0, D', X, a1, a2, a3, a4, a5, a6, a7, a8, a9, a10, a11⟩ => ⟨e0, D', X, a1.mv hal h2, a2, by rw [h1]; exact a3, a4, by rw [h1]; exact a5.mv hal h2, a6, by rw [hal.findClass]; exact a7, a8, a9, by rw [h1, h2]; exact a10, by rw [h1, h2]; exact a11⟩
namespace New4
def yN : MethodName := ⟨"java/lang/String", "<init>", "([CIILjava/lang/Void;)V"⟩
abbrev yB : ByteArray := jdk_42_method_149_code
theorem d0 : decode yB 0 = .ok (.aload_n 0, 1) := by decide +kernel
theorem d1 : decode yB 1 = .ok (.invokespecial 1, 3) := by decide +kernel
theorem d4 : decode yB 4 = .ok (.iload_n 3, 1) := by decide +kernel
theorem d5 : decode yB 5 = .ok (.ifCond (.ne) 22, 3) := by decide +kernel
theorem d27 : decode yB 27 = .ok (.getstatic 38, 3) := by decide +kernel
theorem d30 : decode yB 30 = .ok (.ifCond (.eq) 28, 3) := by decide +kernel
theorem d33 : decode yB 33 = .ok (.aload_n 1, 1) := by decide +kernel
theorem d34 : decode yB 34 = .ok (.iload_n 2, 1) := by decide +kernel
theorem d35 : decode yB 35 = .ok (.iload_n 3, 1) := by decide +kernel
theorem d36 : decode yB 36 = .ok (.invokestatic 177, 3) := by decide +kernel
theorem d39 : decode yB 39 = .ok (.astore 5, 2) := by decide +kernel
theorem d41 : decode yB 41 = .ok (.aload_n 0, 1) := by decide +kernel
theorem d42 : decode yB 42 = .ok (.aload 5, 2) := by decide +kernel
theorem d44 : decode yB 44 = .ok (.iload_n 3, 1) := by decide +kernel
theorem d45 : decode yB 45 = .ok (.invokestatic 47, 3) := by decide +kernel
theorem d48 : decode yB 48 = .ok (.putfield 15, 3) := by decide +kernel
theorem d51 : decode yB 51 = .ok (.aload_n 0, 1) := by decide +kernel
theorem d52 : decode yB 52 = .ok (.aload 5, 2) := by decide +kernel
theorem d54 : decode yB 54 = .ok (.putfield 9, 3) := by decide +kernel
theorem d57 : decode yB 57 = .ok (.return_, 1) := by decide +kernel
def site : List Cond := [.fieldLink "java/lang/String" 38 "java/lang/String" "COMPACT_STRINGS" "Z", Cmp3.tab, CodL.tab, .laysFinal "java/lang/String" "java/lang/String" "value" "[B", .fieldLink "java/lang/String" 9 "java/lang/String" "value" "[B", .laysFinal "java/lang/String" "java/lang/String" "coder" "B", .fieldLink "java/lang/String" 15 "java/lang/String" "coder" "B"] ++ objW "java/lang/String" 1 ++ staticW "java/lang/String" 177 Cmp3.yN ++ staticW "java/lang/String" 47 CodL.yN
def tab : Cond := tabOf yN yB 6 none site
def P (a : Addr) (D : Cell) (fV fC : Field) (b : Addr) (A : Cell) (z : Int32) (o len : Nat) (args : Array Value) (s : State) : Prop := args = #[.ref a, .ref b, .int (Int32.ofNat o), .int (Int32.ofNat len), .null] ∧ Blank "java/lang/String" a D s ∧ Found "java/lang/String" "value" "[B" fV s ∧ Found "java/lang/String" "coder" "B" fC s ∧ Ch b A s ∧ StaticIs s "java/lang/String" "COMPACT_STRINGS" "Z" (.int z) ∧ ¬ z = 0 ∧ 0 < len ∧ o + len ≤ A.slots.size ∧ len ≤ 536870912 ∧ ∀ i, i < len → ¬ 255 < cv A (o + i)
def E (a : Addr) (D : Cell) (fV fC : Field) (A : Cell) (o len : Nat) (r : Option Value) (s u : State) : Prop := Got a D fV fC A o len r s u
/-- len > 0, no char of the range above 255: a Latin-1 String of their low bytes -/
theorem law (l : Launch) (a : Addr) (D : Cell) (fV fC : Field) (b : Addr) (A : Cell) (z : Int32) (o len : Nat) : Law l yN 5 4 2 35 yB 6 none site (P a D fV fC b A z o len) (E a D fV fC A o len) [⟨a, fC.slot⟩, ⟨a, fV.slot⟩] 1 len := by
  refine Law.of_walk (plainFor_of_name (by decide +kernel)) (by decide +kernel) (by decide +kernel) (by decide) (fun _ _ h => by rw [h.1]; rfl) (fun _ U U' hal hh h => ⟨h.1, h.2.1.mv hal hh, h.2.2.1.al hal, h.2.2.2.1.al hal, h.2.2.2.2.1.mv hal hh, h.2.2.2.2.2.1.there hal hh, h.2.2.2.2.2.2⟩) (fun r U U' V V' h1 hal h2 h => Got.mv r U U' V V' h1 hal h2 h) ?_
  intro p e s m args below meth c s₁ X0 hexec hbytes hml hret hlk hnm hown hh0 W hP
  obtain ⟨rfl, hB, f1, f2, hA, s1, hz, l0, l1, l2, hp⟩ := hP
  have a31 := hA.1.2.2.2
  have c1 : Steps p.tables e below (s₁.setTop (entryFrame m #[.ref a, .ref b, .int (Int32.ofNat o), .int (Int32.ofNat len), .null] 6)) (s₁.setTop (mkF m 0 #[.val (.ref a), .val (.ref b), .val (.int (Int32.ofNat o)), .val (.int (Int32.ofNat len)), .val .null, .unset] [])) := entry rfl
  have c2 : Steps p.tables e below (s₁.setTop (entryFrame m #[.ref a, .ref b, .int (Int32.ofNat o), .int (Int32.ofNat len), .null] 6)) (s₁.setTop (mkF m 1 #[.val (.ref a), .val (.ref b), .val (.int (Int32.ofNat o)), .val (.int (Int32.ofNat len)), .val .null, .unset] [.ref a])) := c1.trans (by
    refine XS.aloadN X0.here hexec rfl (hb hbytes d0) rfl rfl ?_
    exact Steps.refl _)
  obtain ⟨T3, X3, q3, st3⟩ := X0.oinit hexec hown (wks W (objW "java/lang/String" 1)) (g := (mkF m 1 #[.val (.ref a), .val (.ref b), .val (.int (Int32.ofNat o)), .val (.int (Int32.ofNat len)), .val .null, .unset] [.ref a])) rfl (by rw [hml]; rfl) (rest := []) rfl (hb hbytes d1) (W := 0) (by show 2 * 0 + 0 ≤ _; decide) (Nat.le_of_ble_eq_true rfl) (Nat.le_of_ble_eq_true rfl)
  have hh3 := q3.trans hh0
  have c4 : Steps p.tables e below (s₁.setTop (entryFrame m #[.ref a, .ref b, .int (Int32.ofNat o), .int (Int32.ofNat len), .null] 6)) (T3.setTop (mkF m 27 #[.val (.ref a), .val (.ref b), .val (.int (Int32.ofNat o)), .val (.int (Int32.ofNat len)), .val .null, .unset] [])) := (c2.trans (st3 _ (Steps.refl _))).trans (by
    refine XS.iloadN X3.here hexec rfl (hb hbytes d4) rfl ?_
    refine XS.ifYes X3.here hexec rfl (pc0 := 5) rfl (hb hbytes d5) rfl (i0_ne_t (nz32 (by omega) l0)) (by decide) rfl ?_
    exact Steps.refl _)
  obtain ⟨T5, X5, q5, st5⟩ := X3.sget hexec hown (wk W (.fieldLink "java/lang/String" 38 "java/lang/String" "COMPACT_STRINGS" "Z")) s1 (fun _ _ h => by rw [hh3]; exact h) (g := (mkF m 27 #[.val (.ref a), .val (.ref b), .val (.int (Int32.ofNat o)), .val (.int (Int32.ofNat len)), .val .null, .unset] [])) rfl (hb hbytes d27)
  have hh5 := q5.trans hh3
  have c6 : Steps p.tables e below (s₁.setTop (entryFrame m #[.ref a, .ref b, .int (Int32.ofNat o), .int (Int32.ofNat len), .null] 6)) (T5.setTop (mkF m 30 #[.val (.ref a), .val (.ref b), .val (.int (Int32.ofNat o)), .val (.int (Int32.ofNat len)), .val .null, .unset] [.int z])) := c4.trans (st5 _ (Steps.refl _))
  have c7 : Steps p.tables e below (s₁.setTop (entryFrame m #[.ref a, .ref b, .int (Int32.ofNat o), .int (Int32.ofNat len), .null] 6)) (T5.setTop (mkF m 36 #[.val (.ref a), .val (.ref b), .val (.int (Int32.ofNat o)), .val (.int (Int32.ofNat len)), .val .null, .unset] [.int (Int32.ofNat len), .int (Int32.ofNat o), .ref b])) := c6.trans (by
    refine XS.ifNo X5.here hexec rfl (hb hbytes d30) rfl (i0_eq_f hz) ?_
    refine XS.aloadN X5.here hexec rfl (hb hbytes d33) rfl rfl ?_
    refine XS.iloadN X5.here hexec rfl (hb hbytes d34) rfl ?_
    refine XS.iloadN X5.here hexec rfl (hb hbytes d35) rfl ?_
    exact Steps.refl _)
  obtain ⟨v8, T8, X8, E8, g8⟩ := X5.callS hexec (Cmp3.law l b A o len) hown (wks W (staticW "java/lang/String" 177 Cmp3.yN)) (wk W Cmp3.tab) (W := 0) (Nat.le_of_ble_eq_true rfl) (Nat.le_of_ble_eq_true rfl) (Nat.le_refl _) (by show 0 + len ≤ len; omega) (g := (mkF m 36 #[.val (.ref a), .val (.ref b), .val (.int (Int32.ofNat o)), .val (.int (Int32.ofNat len)), .val .null, .unset] [.int (Int32.ofNat len), .int (Int32.ofNat o), .ref b])) rfl (by rw [hml]; rfl) c7 (argsL := [.ref b, .int (Int32.ofNat o), .int (Int32.ofNat len)]) (rest := []) rfl rfl (by show 2 * 0 + 0 ≤ _; decide) (hb hbytes d36) (⟨rfl, hA.mv X5.warmed.alike hh5, l1, l2, hp⟩)
  obtain ⟨e8, z8⟩ := E8
  obtain ⟨rfl, N, n1, n2, n3, n4, n5, n6⟩ := NewArr.mv _ T5 s _ _ hh5.symm (Vm.Alike.refl _) rfl e8
  rw [hh5] at z8
  have hB1 := hB.keep X8.warmed.alike (n6 _ _ hB.1)
  have hne : s.heap.size ≠ a := (Nat.ne_of_lt (Array.getElem?_eq_some_iff.mp hB.1).1).symm
  have c9 : Steps p.tables e below (s₁.setTop (entryFrame m #[.ref a, .ref b, .int (Int32.ofNat o), .int (Int32.ofNat len), .null] 6)) (T8.setTop (mkF m 39 #[.val (.ref a), .val (.ref b), .val (.int (Int32.ofNat o)), .val (.int (Int32.ofNat len)), .val .null, .unset] [.ref s.heap.size])) := g8
  have c10 : Steps p.tables e below (s₁.setTop (entryFrame m #[.ref a, .ref b, .int (Int32.ofNat o), .int (Int32.ofNat len), .null] 6)) (T8.setTop (mkF m 45 #[.val (.ref a), .val (.ref b), .val (.int (Int32.ofNat o)), .val (.int (Int32.ofNat len)), .val .null, .val (.ref s.heap.size)] [.int (Int32.ofNat N.slots.size), .ref s.heap.size, .ref a])) := by
    have hc : Steps p.tables e below (s₁.setTop (entryFrame m #[.ref a, .ref b, .int (Int32.ofNat o), .int (Int32.ofNat len), .null] 6)) (T8.setTop (mkF m 45 #[.val (.ref a), .val (.ref b), .val (.int (Int32.ofNat o)), .val (.int (Int32.ofNat len)), .val .null, .val (.ref s.heap.size)] [.int (Int32.ofNat len), .ref s.heap.size, .ref a])) := c9.trans (by
      refine XS.astore X8.here hexec rfl (hb hbytes d39) rfl rfl rfl ?_
      refine XS.aloadN X8.here hexec rfl (hb hbytes d41) rfl rfl ?_
      refine XS.aload X8.here hexec rfl (hb hbytes d42) rfl rfl ?_
      refine XS.iloadN X8.here hexec rfl (hb hbytes d44) rfl ?_
      exact Steps.refl _)
    rw [n4]; exact hc
  obtain ⟨v11, T11, X11, E11, g11⟩ := X8.callS hexec (CodL.law l s.heap.size N) hown (wks W (staticW "java/lang/String" 47 CodL.yN)) (wk W CodL.tab) (W := 1) (Nat.le_of_ble_eq_true rfl) (Nat.le_of_ble_eq_true rfl) (Nat.le_refl _) (by show 0 + len + 0 ≤ len; omega) (g := (mkF m 45 #[.val (.ref a), .val (.ref b), .val (.int (Int32.ofNat o)), .val (.int (Int32.ofNat len)), .val .null, .val (.ref s.heap.size)] [.int (Int32.ofNat N.slots.size), .ref s.heap.size, .ref a])) rfl (by rw [hml]; rfl) c10 (argsL := [.ref s.heap.size, .int (Int32.ofNat N.slots.size)]) (rest := [.ref a]) rfl rfl (by show 2 * 0 + (1 + 0) ≤ _; decide) (hb hbytes d45) (⟨rfl, n1⟩)
  obtain ⟨rfl, q11⟩ := E11
  have hB11 := hB1.mv (X8.warmed.alike.symm.trans X11.warmed.alike) q11
  have c12 : Steps p.tables e below (s₁.setTop (entryFrame m #[.ref a, .ref b, .int (Int32.ofNat o), .int (Int32.ofNat len), .null] 6)) (T11.setTop (mkF m 48 #[.val (.ref a), .val (.ref b), .val (.int (Int32.ofNat o)), .val (.int (Int32.ofNat len)), .val .null, .val (.ref s.heap.size)] [.int 0, .ref a])) := g11
  obtain ⟨T13, X13, p13, bl13, sl13, st13⟩ := X11.finit hexec hown (wk W (.fieldLink "java/lang/String" 15 "java/lang/String" "coder" "B")) (Or.inr ⟨_, (wk W (.laysFinal "java/lang/String" "java/lang/String" "coder" "B"))⟩) (Or.inl ⟨rfl, hnm⟩) f2 (Or.inl rfl) hB11 (t := .byte) (by decide +kernel) rfl (g := (mkF m 48 #[.val (.ref a), .val (.ref b), .val (.int (Int32.ofNat o)), .val (.int (Int32.ofNat len)), .val .null, .val (.ref s.heap.size)] [.int 0, .ref a])) rfl (rest := []) rfl (hb hbytes d48)
  have c14 : Steps p.tables e below (s₁.setTop (entryFrame m #[.ref a, .ref b, .int (Int32.ofNat o), .int (Int32.ofNat len), .null] 6)) (T13.setTop (mkF m 54 #[.val (.ref a), .val (.ref b), .val (.int (Int32.ofNat o)), .val (.int (Int32.ofNat len)), .val .null, .val (.ref s.heap.size)] [.ref s.heap.size, .ref a])) := (c12.trans (st13 _ (Steps.refl _))).trans (by
    refine XS.aloadN X13.here hexec rfl (hb hbytes d51) rfl rfl ?_
    refine XS.aload X13.here hexec rfl (hb hbytes d52) rfl rfl ?_
    exact Steps.refl _)
  obtain ⟨T15, X15, p15, bl15, sl15, st15⟩ := X13.finit hexec hown (wk W (.fieldLink "java/lang/String" 9 "java/lang/String" "value" "[B")) (Or.inr ⟨_, (wk W (.laysFinal "java/lang/String" "java/lang/String" "value" "[B"))⟩) (Or.inl ⟨rfl, hnm⟩) f1 (Or.inl rfl) bl13 (t := (.array .byte)) (by decide +kernel) rfl (g := (mkF m 54 #[.val (.ref a), .val (.ref b), .val (.int (Int32.ofNat o)), .val (.int (Int32.ofNat len)), .val .null, .val (.ref s.heap.size)] [.ref s.heap.size, .ref a])) rfl (rest := []) rfl (hb hbytes d54)
  have c16 : Steps p.tables e below (s₁.setTop (entryFrame m #[.ref a, .ref b, .int (Int32.ofNat o), .int (Int32.ofNat len), .null] 6)) (T15.setTop (mkF m 57 #[.val (.ref a), .val (.ref b), .val (.int (Int32.ofNat o)), .val (.int (Int32.ofNat len)), .val .null, .val (.ref s.heap.size)] [])) := c14.trans (st15 _ (Steps.refl _))
  have ap := apart (Or.inr ⟨_, (wk W (.laysFinal "java/lang/String" "java/lang/String" "value" "[B"))⟩) (Or.inr ⟨_, (wk W (.laysFinal "java/lang/String" "java/lang/String" "coder" "B"))⟩) f1 f2 (t₁ := .array .byte) (t₂ := .byte) (by decide +kernel) (by decide +kernel) (by decide)
  have al := X8.warmed.alike.symm.trans X15.warmed.alike
  have n7 : T11.heap[s.heap.size]? = some N := by rw [q11]; exact n1.1
  exact ⟨T15, none, _, _, _, X15, by simp, rfl, by omega, (fun _ => rfl), ⟨rfl, _, N, bl15, ((Same.refl D _).set _ (by simp)).set _ (by simp), sl15, (Cell.slots_setSlot_ne _ ap).trans sl13, n1.keep al (p15.other hne (p13.other hne n7)), n2, by rw [al.findClass]; exact n3, n4, n5, fun y c h1 h2 => p15.other h1 (p13.other h1 (by rw [q11]; exact n6 y c h2)), by rw [p15.2.2, p13.2.2, q11]; exact z8⟩, fun fs hl => c16.trans (X15.returnOut hexec hret (hb hbytes d57) hl)⟩
end New4
namespace New1
def yN : MethodName := ⟨"java/lang/String", "<init>", "([C)V"⟩
abbrev yB : ByteArray := jdk_42_method_3_code
theorem d0 : decode yB 0 = .ok (.aload_n 0, 1) := by decide +kernel
theorem d1 : decode yB 1 = .ok (.aload_n 1, 1) := by decide +kernel
theorem d2 : decode yB 2 = .ok (.iconst 0, 1) := by decide +kernel
theorem d3 : decode yB 3 = .ok (.aload_n 1, 1) := by decide +kernel
theorem d4 : decode yB 4 = .ok (.arraylength, 1) := by decide +kernel
theorem d5 : decode yB 5 = .ok (.aconst_null, 1) := by decide +kernel
theorem d6 : decode yB 6 = .ok (.invokespecial 27, 3) := by decide +kernel
theorem d9 : decode yB 9 = .ok (.return_, 1) := by decide +kernel
def site : List Cond := [New4.tab] ++ initW "java/lang/String" 27 New4.yN
def tab : Cond := tabOf yN yB 2 none site
def P (a : Addr) (D : Cell) (fV fC : Field) (b : Addr) (A : Cell) (z : Int32) (args : Array Value) (s : State) : Prop := args = #[.ref a, .ref b] ∧ Blank "java/lang/String" a D s ∧ Found "java/lang/String" "value" "[B" fV s ∧ Found "java/lang/String" "coder" "B" fC s ∧ Ch b A s ∧ StaticIs s "java/lang/String" "COMPACT_STRINGS" "Z" (.int z) ∧ ¬ z = 0 ∧ 0 < A.slots.size ∧ A.slots.size ≤ 536870912 ∧ ∀ i, i < A.slots.size → ¬ 255 < cv A i
def E (a : Addr) (D : Cell) (fV fC : Field) (A : Cell) (r : Option Value) (s u : State) : Prop := Got a D fV fC A 0 A.slots.size r s u
/-- new String(chars), not empty, no char above 255: a Latin-1 String of their low bytes -/
theorem law (l : Launch) (a : Addr) (D : Cell) (fV fC : Field) (b : Addr) (A : Cell) (z : Int32) : Law l yN 2 1 3 52 yB 2 none site (P a D fV fC b A z) (E a D fV fC A) [⟨a, fC.slot⟩, ⟨a, fV.slot⟩] 1 A.slots.size := by
  refine Law.of_walk (plainFor_of_name (by decide +kernel)) (by decide +kernel) (by decide +kernel) (by decide) (fun _ _ h => by rw [h.1]; rfl) (fun _ U U' hal hh h => ⟨h.1, h.2.1.mv hal hh, h.2.2.1.al hal, h.2.2.2.1.al hal, h.2.2.2.2.1.mv hal hh, h.2.2.2.2.2.1.there hal hh, h.2.2.2.2.2.2⟩) (fun r U U' V V' h1 hal h2 h => Got.mv r U U' V V' h1 hal h2 h) ?_
  intro p e s m args below meth c s₁ X0 hexec hbytes hml hret hlk hnm hown hh0 W hP
  obtain ⟨rfl, hB, f1, f2, hA, s1, hz, l0, l2, hp⟩ := hP
  have c1 : Steps p.tables e below (s₁.setTop (entryFrame m #[.ref a, .ref b] 2)) (s₁.setTop (mkF m 0 #[.val (.ref a), .val (.ref b)] [])) := entry rfl
  have c2 : Steps p.tables e below (s₁.setTop (entryFrame m #[.ref a, .ref b] 2)) (s₁.setTop (mkF m 6 #[.val (.ref a), .val (.ref b)] [.null, .int (Int32.ofNat A.slots.size), .int 0, .ref b, .ref a])) := c1.trans (by
    refine XS.aloadN X0.here hexec rfl (hb hbytes d0) rfl rfl ?_
    refine XS.aloadN X0.here hexec rfl (hb hbytes d1) rfl rfl ?_
    refine iconstV X0.here hexec rfl 0 (hb hbytes d2) (by decide) ?_
    refine XS.aloadN X0.here hexec rfl (hb hbytes d3) rfl rfl ?_
    refine X0.alen hexec (hA.1.mv X0.warmed.alike hh0) rfl rfl (hb hbytes d4) ?_
    refine XS.aconstNull X0.here hexec rfl (hb hbytes d5) ?_
    exact Steps.refl _)
  obtain ⟨v3, T3, X3, E3, g3⟩ := X0.callN hexec (New4.law l a D fV fC b A z 0 A.slots.size) rfl hown (wks W (initW "java/lang/String" 27 New4.yN)) (W New4.tab (by simp only [site, List.mem_cons, List.mem_append, true_or, or_true])) (W := 0) (Nat.le_of_ble_eq_true rfl) (Nat.le_of_ble_eq_true rfl) (Nat.le_refl _) (by show 0 + A.slots.size ≤ A.slots.size; omega) (g := (mkF m 6 #[.val (.ref a), .val (.ref b)] [.null, .int (Int32.ofNat A.slots.size), .int (Int32.ofNat 0), .ref b, .ref a])) rfl (by rw [hml]; rfl) c2 (argsL := [.ref b, .int (Int32.ofNat 0), .int (Int32.ofNat A.slots.size), .null]) (rest := []) rfl rfl (by show 2 * 0 + 0 ≤ _; decide) (hb hbytes d6) (⟨rfl, hB.mv X0.warmed.alike hh0, f1.al X0.warmed.alike, f2.al X0.warmed.alike, hA.mv X0.warmed.alike hh0, s1.there X0.warmed.alike hh0, hz, l0, by omega, l2, fun i hi => by rw [Nat.zero_add]; exact hp i hi⟩)
  have e0 := Got.mv _ s₁ s _ _ hh0.symm (Vm.Alike.refl _) rfl E3
  obtain rfl := e0.1
  have c4 : Steps p.tables e below (s₁.setTop (entryFrame m #[.ref a, .ref b] 2)) (T3.setTop (mkF m 9 #[.val (.ref a), .val (.ref b)] [])) := g3
  exact ⟨T3, none, _, _, _, X3, by simp, rfl, by omega, (fun _ => rfl), e0, fun fs hl => c4.trans (X3.returnOut hexec hret (hb hbytes d9) hl)⟩
theorem pays {l : Launch} {R : Room} {p : Program} {e : Env} {below : List Frame} {s : State} {sargs : Array Value} {len W : Nat} (a : Addr) (D : Cell) (fV fC : Field) (b : Addr) (A : Cell) (z : Int32) (htab : tab.before sargs s = true) (hfr : 4 ≤ R.frames) (hlo : W + 65 ≤ R.locals) :
    Back l R p e below s sargs yN len W (fun A₁ a₁ => A₁.cells + 1 ≤ R.cells ∧ A₁.slots + A.slots.size ≤ R.slots ∧ P a D fV fC b A z a₁ A₁.U) (fun A₁ _ v₁ B₁ => E a D fV fC A v₁ A₁.U B₁.U ∧ B₁.locs = A₁.locs ++ [⟨a, fC.slot⟩, ⟨a, fV.slot⟩] ∧ B₁.cells = A₁.cells + 1 ∧ B₁.slots = A₁.slots + A.slots.size) :=
  (law l a D fV fC b A z).pays htab hfr (by omega)
end New1
/-- the byte, read back as charAt reads it, is the char -/
theorem lo8_mask {x : Int32} (h0 : ¬ x < 0) (h1 : ¬ 255 < x) : lo8 x &&& 255 = x := by
  have t : ∀ k : Fin 256, lo8 (Int32.ofNat k.val) &&& 255 = Int32.ofNat k.val := by decide +kernel
  rw [Int32.lt_iff_toInt_lt] at h0 h1
  have e0 : (0 : Int32).toInt = 0 := rfl
  have e1 : (255 : Int32).toInt = 255 := rfl
  obtain ⟨k, hk⟩ : ∃ k : Nat, x.toInt = k := ⟨x.toInt.toNat, by omega⟩
  have hx : x = Int32.ofNat k := Int32.toInt_inj.mp (by rw [hk, Int32.toInt_ofNat_small (by omega)])
  rw [hx]
  exact t ⟨k, by omega⟩
end StrChars
namespace StrChars.Road
open Jvm Sem ClassFile Op Lib Jvm.Stand Jvm.Free Jvm.Free.XT
open Jvm.Lib.Cold (StaticIs)
abbrev ST : String := "java/lang/String"
/-- every table word that New1's law asks, flat -/
abbrev words : List Jvm.Cond := [.code New1.yN New1.yB 2 none, .initialized ST, .methodLink ST 27 New4.yN, .instanceMethod New4.yN,
  .code New4.yN New4.yB 6 none, .fieldLink ST 38 ST "COMPACT_STRINGS" "Z", .laysFinal ST ST "value" "[B", .fieldLink ST 9 ST "value" "[B", .laysFinal ST ST "coder" "B", .fieldLink ST 15 ST "coder" "B",
  .methodLink ST 1 Lib.objectInit, .instanceMethod Lib.objectInit, .code Lib.objectInit ⟨#[0xb1]⟩ 1 none, .methodLink ST 177 Cmp3.yN, .static Cmp3.yN, .methodLink ST 47 CodL.yN, .static CodL.yN,
  .code Cmp3.yN Cmp3.yB 6 (some (.array .byte)), .initialized U16, .arrayClass .byte, .methodLink U16 115 Cmp5.yN, .static Cmp5.yN, .code Cmp5.yN Cmp5.yB 7 (some .int), .code CodL.yN CodL.yB 2 (some .byte)]
theorem tab_of {a : Array Value} {s : State} (h : ∀ w ∈ words, w.before a s = true) : New1.tab.before a s = true := by
  have h5 : Cmp5.tab.before a s = true := unparts (wk h (.code Cmp5.yN Cmp5.yB 7 (some .int))) (wks h (.initialized Cmp5.yN.cls :: Cmp5.site))
  have hc : CodL.tab.before a s = true := unparts (wk h (.code CodL.yN CodL.yB 2 (some .byte))) (wks h (.initialized CodL.yN.cls :: CodL.site))
  have q5 : ∀ w ∈ Cmp5.tab :: words, w.before a s = true := fun w hw => (List.mem_cons.mp hw).elim (fun e => e ▸ h5) (h w)
  have h3 : Cmp3.tab.before a s = true := unparts (wk q5 (.code Cmp3.yN Cmp3.yB 6 (some (.array .byte)))) (wks q5 (.initialized Cmp3.yN.cls :: Cmp3.site))
  have q3 : ∀ w ∈ Cmp3.tab :: CodL.tab :: words, w.before a s = true := fun w hw => (List.mem_cons.mp hw).elim (fun e => e ▸ h3) fun hw => (List.mem_cons.mp hw).elim (fun e => e ▸ hc) (h w)
  have h4 : New4.tab.before a s = true := unparts (wk q3 (.code New4.yN New4.yB 6 none)) (wks q3 (.initialized New4.yN.cls :: New4.site))
  have q4 : ∀ w ∈ New4.tab :: words, w.before a s = true := fun w hw => (List.mem_cons.mp hw).elim (fun e => e ▸ h4) (h w)
  exact unparts (wk q4 (.code New1.yN New1.yB 2 none)) (wks q4 (.initialized New1.yN.cls :: New1.site))
/-- the words ride from the start Z to the walk's own state -/
theorem moved {Z s : State} {a0 args : Array Value} (hZ : Z.Warmed39 s.vm) (hw : ∀ d ∈ words, d.before a0 Z = true) : ∀ d ∈ words, d.before args s = true := fun d hd => by
  have q := hw d hd
  have t : ∀ d ∈ words, d = .arrayClass .byte ∨ (d.onTables && d.keepsFace) = true := by decide +kernel
  rcases t d hd with rfl | t
  · exact RoadKit.mvA hZ q
  · exact RoadKit.mv hZ q t
/-- WHAT COMES BACK, over the tables of the start Z: h the heap at the call, h' behind it -/
def Q (Z : State) (x : Addr) (A : Cell) (h : Heap) (v : Option Value) (h' : Heap) (L : List Loc) : Prop := v = none ∧ (∀ y ∈ L, y.base = x) ∧ RoadKit.Keep h h' [x] ∧ h'.size = h.size + 1 ∧ RoadKit.Exa Z h' x ST ∧ RoadKit.Fld Z h' x ST "value" "[B" (.ref h.size) ∧ RoadKit.Fld Z h' x ST "coder" "B" (.int 0) ∧
  (∃ V : Cell, RoadKit.Arr Z h' h.size V .byte ∧ V.vm = .none ∧ Z.vm.findClass "[B" = some V.cls ∧ V.slots.size = A.slots.size ∧ ∀ j, j < A.slots.size → V.slots[j]? = some (.int (lo8 (cv A j)))) ∧
  ∀ (O n d : String) (w : Value), RoadKit.Fld Z h x O n d w → RoadKit.slotOf Z O n d ≠ RoadKit.slotOf Z ST "value" "[B" → RoadKit.slotOf Z O n d ≠ RoadKit.slotOf Z ST "coder" "B" → RoadKit.Fld Z h' x O n d w
/-- **new String(chars) AT A CALL, IN THE ROAD'S FORM**: for specialBack behind newO: x the fresh String, b the char[] with the cell A -/
theorem back {p : Program} {l : Launch} {e : Env} {R : Room} {s : State} {args : Array Value} {below : List Frame} {len W : Nat} {Z : State} {a0 : Array Value} {h : Heap} (hZ : Z.Warmed39 s.vm) (hw : ∀ d ∈ words, d.before a0 Z = true) {kI : Nat} (wi : (Jvm.Cond.instantiable ST kI).before a0 Z = true)
    {x b : Addr} {A : Cell} {z : Int32} {v0 c0 : Value} (E : RoadKit.Exa Z h x ST) (V : RoadKit.Fld Z h x ST "value" "[B" v0) (C : RoadKit.Fld Z h x ST "coder" "B" c0) (K : RoadKit.Arr Z h b A .char) (hty : Typed .char A) (S : RoadKit.Sta Z h ST "COMPACT_STRINGS" "Z" (.int z)) (hz : ¬ z = 0)
    (l0 : 0 < A.slots.size) (l2 : A.slots.size ≤ 536870912) (hp : ∀ i, i < A.slots.size → ¬ 255 < cv A i) (hfr : 4 ≤ R.frames) (hlo : W + 65 ≤ R.locals) :
    Back l R p e below s args New1.yN len W (fun P a => a = #[.ref x, .ref b] ∧ P.U.heap = h ∧ P.cells + 1 ≤ R.cells ∧ P.slots + A.slots.size ≤ R.slots)
      (fun P _ v B => ∃ L, Q Z x A h v B.U.heap L ∧ B.locs = P.locs ++ L ∧ B.cells = P.cells + 1 ∧ B.slots = P.slots + A.slots.size) := by
  intro m meth c P g ig mk a X hg hsize hdg hW hn hp'
  obtain ⟨rfl, rfl, r1, r2⟩ := hp'
  have al : Z.vm.Alike P.U.vm := hZ.alike.trans X.warmed.alike
  obtain ⟨D, cfV, kV, iV, fV, hD, gV, stV, knV, obV, asV, slV⟩ := id V
  obtain ⟨D', cfC, kC, iC, fC, hD', gC, stC, -, -, asC, slC⟩ := id C
  cases hD.symm.trans hD'
  obtain ⟨D2, kD, e1, e2, e3, e4, e5⟩ := id E
  cases hD.symm.trans e1
  obtain ⟨c2, k2, i1, i2, i3, -⟩ := Cond.instantiable_spec wi
  cases e2.symm.trans i1
  cases e3.symm.trans i2
  obtain ⟨kU, u1, u2⟩ := al.2.2 _ _ e3
  have hB : Blank ST x D P.U := ⟨hD, ⟨knV, fun q hq => by rw [hq] at obV; cases obV⟩, by rw [al.findClass]; exact e2, kU, u1, by rw [u2]; exact i3, by rw [u2]; exact e5 i3⟩
  have F1 : Found ST "value" "[B" fV P.U := ⟨SBG.found_only al ⟨cfV, kV, iV, gV⟩, stV⟩
  have F2 : Found ST "coder" "B" fC P.U := ⟨SBG.found_only al ⟨cfC, kC, iC, gC⟩, stC⟩
  have hA : Ch b A P.U := ⟨⟨K.1, State.isArrayOf_alike al K.2.1, K.2.2, by omega⟩, hty⟩
  have hS : StaticIs P.U ST "COMPACT_STRINGS" "Z" (.int z) := by
    obtain ⟨cfS, iS, kS, fS, st, cS, t1, t2, t3, t4, t5, t6, t7⟩ := S
    exact StaticIs.there (s := { Z with heap := P.U.heap }) ⟨cfS, iS, kS, fS, st, cS, t1, t2, t3, t4, t5, (fun q => by rw [q] at t6; cases t6), t7⟩ al rfl
  obtain ⟨v, B, X', ⟨⟨hv, E', V', q1, q2, q3, q4, q5, q6, q7, q8, q9, q10, q11⟩, hl, hc, hs⟩, st⟩ := New1.pays x D fV fC b A z (tab_of (moved hZ hw)) hfr hlo m meth c P g ig mk _ X hg hsize hdg hW hn ⟨r1, r2, rfl, hB, F1, F2, hA, hS, hz, l0, l2, hp⟩
  have al' : Z.vm.Alike B.U.vm := hZ.alike.trans X'.warmed.alike
  have hsz : E'.slots.size = D.slots.size := by
    obtain ⟨-, -, -, kB, w1, w2, w3⟩ := q1
    obtain ⟨kB', y1, y2⟩ := al'.2.2 _ _ e3
    rw [q2.2.1] at w1
    cases w1.symm.trans y1
    rw [w3, e5 i3, y2]
  refine ⟨v, B, X', ⟨_, ⟨hv, ?_, ⟨by omega, fun y cy hy hn' => q10 y cy (by simpa using hn') hy, fun y cy hy => ?_⟩, q11, ⟨E', _, q1.1, by rw [q2.2.1]; exact e2, by rw [q2.2.1]; exact e3, by rw [q2.1]; exact obV, fun _ => by rw [hsz]; exact e5 i3⟩,
    ⟨E', cfV, kV, iV, fV, q1.1, gV, stV, by rw [q2.1]; exact knV, by rw [q2.1]; exact obV, by rw [q2.2.1]; exact asV, q3⟩, ⟨E', cfC, kC, iC, fC, q1.1, gC, stC, by rw [q2.1]; exact knV, by rw [q2.1]; exact obV, by rw [q2.2.1]; exact asC, q4⟩,
    ⟨V', ⟨q5.1, State.isArrayOf_alike al'.symm q5.2.1, q5.2.2.1⟩, q6, by rw [← al'.findClass]; exact q7, q8, fun j hj => by have := q9 j hj; rwa [Nat.zero_add] at this⟩, fun O n d w F n1 n2 => ?_⟩, hl, hc, hs⟩, st⟩
  · intro y hy
    simp only [List.mem_cons, List.not_mem_nil, or_false] at hy
    rcases hy with rfl | rfl <;> rfl
  · by_cases q : y = x
    · subst q
      cases hD.symm.trans hy
      exact ⟨E', q1.1, q2.2.1, q2.1, hsz⟩
    · exact ⟨cy, q10 y cy q hy, rfl, rfl, rfl⟩
  · obtain ⟨D3, cf, k, i, f, g1, g2, g3, g4, g5, g6, g7⟩ := F
    cases hD.symm.trans g1
    simp only [RoadKit.slotOf, g2, gV, gC, Option.map_some, Option.getD_some] at n1 n2
    exact ⟨E', cf, k, i, f, q1.1, g2, g3, by rw [q2.1]; exact g4, by rw [q2.1]; exact g5, by rw [q2.2.1]; exact g6, by rw [q2.2.2 f.slot (by simp [n1, n2])]; exact g7⟩
end StrChars.Road
namespace StrChars.Road
open Jvm Sem ClassFile Op Lib Jvm.Stand Jvm.Free Jvm.Free.XT
/-- WHAT COMES BACK, the byte[] as a list of values -/
def QA (Z : State) (x : Addr) (zn : Int32) (cs : List Int32) (h : Heap) (v : Option Value) (h' : Heap) (L : List Loc) : Prop := v = none ∧ (∀ y ∈ L, y.base = x) ∧ RoadKit.Keep h h' [x] ∧ h'.size = h.size + 1 ∧ RoadKit.Exa Z h' x ST ∧ RoadKit.Fld Z h' x ST "value" "[B" (.ref h.size) ∧ RoadKit.Fld Z h' x ST "coder" "B" (.int 0) ∧
  (∃ kb, Z.vm.findClass "[B" = some kb ∧ RoadKit.Arv Z h' h.size kb .byte zn (cs.map fun c => .int (lo8 c)) (.int 0)) ∧
  ∀ (O n d : String) (w : Value), RoadKit.Fld Z h x O n d w → RoadKit.slotOf Z O n d ≠ RoadKit.slotOf Z ST "value" "[B" → RoadKit.slotOf Z O n d ≠ RoadKit.slotOf Z ST "coder" "B" → RoadKit.Fld Z h' x O n d w
/-- **new String(chars) AT A CALL, THE ARRAYS AS LISTS**: the char[] at b holds cs, not empty, no char above 255 -/
theorem backArv {p : Program} {l : Launch} {e : Env} {R : Room} {s : State} {args : Array Value} {below : List Frame} {len W : Nat} {Z : State} {a0 : Array Value} {h : Heap} (hZ : Z.Warmed39 s.vm) (hw : ∀ d ∈ words, d.before a0 Z = true) {kI : Nat} (wi : (Jvm.Cond.instantiable ST kI).before a0 Z = true)
    {x b : Addr} {k : ClassId} {zn z : Int32} {cs : List Int32} {dv v0 c0 : Value} (E : RoadKit.Exa Z h x ST) (V : RoadKit.Fld Z h x ST "value" "[B" v0) (C : RoadKit.Fld Z h x ST "coder" "B" c0) (K : RoadKit.Arv Z h b k .char zn (cs.map Value.int) dv) (S : RoadKit.Sta Z h ST "COMPACT_STRINGS" "Z" (.int z)) (hz : ¬ z = 0)
    (hlen : zn.toNatClampNeg = cs.length) (h0 : 0 < cs.length) (hbig : cs.length ≤ 536870912) (hall : ∀ c ∈ cs, ¬ 255 < c) (hfr : 4 ≤ R.frames) (hlo : W + 65 ≤ R.locals) :
    Back l R p e below s args New1.yN len W (fun P a => a = #[.ref x, .ref b] ∧ P.U.heap = h ∧ P.cells + 1 ≤ R.cells ∧ P.slots + cs.length ≤ R.slots)
      (fun P _ v B => ∃ L, QA Z x zn cs h v B.U.heap L ∧ B.locs = P.locs ++ L ∧ B.cells = P.cells + 1 ∧ B.slots = P.slots + cs.length) := by
  obtain ⟨A, K1, K2, K3, K4, K5, K6⟩ := K
  have e : A.slots.size = cs.length := K3.trans hlen
  have hat : ∀ (i : Nat) (hi : i < cs.length), A.slots[i]? = some (.int cs[i]) := fun i hi => by rw [K5 i (by omega)]; simp [List.getD_eq_getElem?_getD, hi]
  have hcv : ∀ (i : Nat) (hi : i < cs.length), cv A i = cs[i] := fun i hi => by unfold cv; rw [hat i hi]
  have hty : Typed .char A := fun i v hv => by
    have hi : i < A.slots.size := (Array.getElem?_eq_some_iff.mp hv).1
    have q := K5 i hi
    rw [hv] at q
    rw [Option.some.inj q]
    exact K6 i hi
  refine Back.mono (back hZ hw wi E V C K1 hty S hz (by omega) (by omega) (fun i hi => by rw [hcv i (by omega)]; exact hall _ (List.getElem_mem _)) hfr hlo) (fun P a hp => ⟨hp.1, hp.2.1, hp.2.2.1, by rw [e]; exact hp.2.2.2⟩) (fun P a v B hp hq => ?_)
  obtain ⟨L, ⟨q1, q2, q3, q4, q5, q6, q7, ⟨V', v1, v2, v3, v4, v5⟩, q9⟩, hl, hc, hs⟩ := hq
  refine ⟨L, ⟨q1, q2, q3, q4, q5, q6, q7, ⟨V'.cls, v3, V', v1, rfl, by rw [v4, e, hlen], K4, fun i hi => ?_, fun i hi => ?_⟩, q9⟩, hl, hc, by rw [hs, e]⟩
  · have hi' : i < cs.length := by omega
    rw [v5 i (by omega), hcv i hi']; simp [List.getD_eq_getElem?_getD, hi']
  · have hi' : i < cs.length := by omega
    simp only [List.getD_eq_getElem?_getD, List.getElem?_map, List.getElem?_eq_getElem hi', Option.map_some, Option.getD_some]
    exact fits_lo8 _
end StrChars.Road
namespace StrChars.Road
open Jvm Sem ClassFile Op Lib Jvm.Stand Jvm.Free Jvm.Free.XT
/-- WHAT COMES BACK, in the writer's own shape -/
def QV (Z : State) (x : Addr) (N : Int32) (bs : List Int32) (h : Heap) (n0 : Nat) (v : Option Value) (h' : Heap) (L : List Loc) : Prop := v = none ∧ RoadKit.Fr n0 L ∧ RoadKit.Keep h h' [x] ∧ RoadKit.Exa Z h' x ST ∧ RoadKit.Fld Z h' x ST "coder" "B" (.int 0) ∧
  ∃ (t : Addr) (kb : ClassId), n0 ≤ t ∧ h.size ≤ t ∧ ¬ t = x ∧ RoadKit.Fld Z h' x ST "value" "[B" (.ref t) ∧ RoadKit.Arv Z h' t kb .byte N (bs.map Value.int) (.int 0)
/-- **new String(chars) AT A CALL, FOR THE WRITER**: a char[] of n known ints, each 0 to 255 -/
theorem backV {p : Program} {l : Launch} {e : Env} {R : Room} {s : State} {args : Array Value} {below : List Frame} {len W : Nat} {Z : State} {a0 : Array Value} {h : Heap} (hZ : Z.Warmed39 s.vm) (hw : ∀ d ∈ words, d.before a0 Z = true) {kI : Nat} (wi : (Jvm.Cond.instantiable ST kI).before a0 Z = true)
    {x b : Addr} {kC : ClassId} {cs bs : List Int32} {d v0 c0 : Value} {z N : Int32} {n n0 : Nat} (hx0 : n0 ≤ x) (hh0 : n0 ≤ h.size) (E : RoadKit.Exa Z h x ST) (V : RoadKit.Fld Z h x ST "value" "[B" v0) (C : RoadKit.Fld Z h x ST "coder" "B" c0) (K : RoadKit.Arv Z h b kC .char N (cs.map Value.int) d) (S : RoadKit.Sta Z h ST "COMPACT_STRINGS" "Z" (.int z)) (hz : ¬ z = 0)
    (hn : cs.length = n) (hN : N = Int32.ofNat n) (l0 : 0 < n) (l2 : n ≤ 4000) (hp : ∀ c ∈ cs, ¬ c < 0 ∧ ¬ (255 : Int32) < c) (hb : bs = cs.map (fun c => c.toInt8.toInt32)) (hfr : 4 ≤ R.frames) (hlo : W + 65 ≤ R.locals) :
    Back l R p e below s args (⟨"java/lang/String", "<init>", "([C)V"⟩ : MethodName) len W (fun P a => a = #[.ref x, .ref b] ∧ P.U.heap = h ∧ P.cells + 1 ≤ R.cells ∧ P.slots + n ≤ R.slots)
      (fun P _ v B => ∃ L, QV Z x N bs h n0 v B.U.heap L ∧ B.locs = P.locs ++ L ∧ B.cells = P.cells + 1 ∧ B.slots = P.slots + n) := by
  subst hn hN hb
  refine Back.mono (backArv hZ hw wi E V C K S hz (n32 (by omega)) l0 (by omega) (fun c hc => (hp c hc).2) hfr hlo) (fun P a hp => hp) (fun P a v B hp hq => ?_)
  obtain ⟨L, ⟨q1, q2, q3, q4, q5, q6, q7, ⟨kb, v1, v2⟩, q9⟩, hl, hc, hs⟩ := hq
  exact ⟨L, ⟨q1, fun y hy => by rw [q2 y hy]; exact hx0, q3, q5, q7, h.size, kb, hh0, Nat.le_refl _, Nat.ne_of_gt E.lt, q6, by rw [List.map_map]; exact v2⟩, hl, hc, hs⟩
end StrChars.Road
namespace StrChars
open Jvm Sem ClassFile Op Lib Jvm.Stand Jvm.Free.XT Jvm.Free.ALB Jvm.Free.JM Jvm.Free
open Jvm.Lib.Cold (StaticIs)
def hi8 (x : Int32) : Int32 := lo8 (x >>> ((8 : Int32) &&& 31))
/-- what StringUTF16.getChar makes of two bytes -/
def pairCh (u v : Int32) : Int32 := (((u &&& 255) <<< ((0 : Int32) &&& 31)) ||| ((v &&& 255) <<< ((8 : Int32) &&& 31))).toUInt32.toUInt16.toUInt32.toInt32
theorem shr0 (c : Int32) : c >>> ((0 : Int32) &&& 31) = c := by
  have e : ((0 : Int32) &&& 31) = 0 := by decide
  rw [e]
  apply Int32.toBitVec_inj.mp
  rw [Int32.toBitVec_shiftRight]
  have e1 : ((0 : Int32).toBitVec.smod 32) = 0#32 := by decide
  rw [e1, BitVec.sshiftRight_eq']
  exact BitVec.sshiftRight_zero
theorem lo8_and (x : Int32) : (lo8 x &&& 255).toBitVec.toNat = x.toBitVec.toNat % 256 := by
  have h : (lo8 x).toBitVec = (x.toBitVec.signExtend 8).signExtend 32 := by rw [lo8, Int8.toBitVec_toInt32, Int32.toBitVec_toInt8]
  rw [Int32.toBitVec_and, BitVec.toNat_and, h]
  have e : ((x.toBitVec.signExtend 8).signExtend 32).toNat % 256 = x.toBitVec.toNat % 256 := by
    rw [BitVec.toNat_signExtend]
    have hlt := x.toBitVec.isLt
    simp only [BitVec.toNat_setWidth, BitVec.toNat_signExtend]
    split <;> split <;> omega
  rw [← e]
  exact Nat.and_two_pow_sub_one_eq_mod _ 8
theorem pair_says {c : Int32} (h0 : ¬ c < 0) (h1 : ¬ 65535 < c) : pairCh (lo8 c) (hi8 c) = c := by
  rw [Int32.lt_iff_toInt_lt] at h0 h1
  have e0 : (0 : Int32).toInt = 0 := rfl
  have e1 : (65535 : Int32).toInt = 65535 := rfl
  have hc : c.toInt = c.toBitVec.toNat := by
    have := c.toBitVec.isLt
    have e : c.toInt = c.toBitVec.toInt := rfl
    rw [e] at h0 h1
    rw [e]
    rw [BitVec.toInt_eq_toNat_cond] at h0 h1 ⊢
    split at h0 <;> split <;> omega
  have hn : c.toBitVec.toNat < 65536 := by omega
  have a1 := lo8_and c
  have a2 : (hi8 c &&& 255).toBitVec.toNat = c.toBitVec.toNat / 256 := by
    rw [hi8, lo8_and]
    have e : ((8 : Int32) &&& 31) = 8 := by decide
    rw [e, Int32.toBitVec_shiftRight]
    have e2 : ((8 : Int32).toBitVec.smod 32) = 8#32 := by decide
    rw [e2, BitVec.sshiftRight_eq', BitVec.toNat_sshiftRight_of_msb_false (by rw [BitVec.msb_eq_false_iff_two_mul_lt]; omega)]
    show c.toBitVec.toNat >>> 8 % 256 = _
    rw [Nat.shiftRight_eq_div_pow]
    omega
  unfold pairCh
  apply Int32.toBitVec_inj.mp
  apply BitVec.eq_of_toNat_eq
  have f0 : ((0 : Int32) &&& 31) = 0 := by decide
  have f8 : ((8 : Int32) &&& 31) = 8 := by decide
  rw [f0, f8]
  have g : (((lo8 c &&& 255) <<< (0 : Int32)) ||| ((hi8 c &&& 255) <<< (8 : Int32))).toBitVec.toNat = c.toBitVec.toNat := by
    rw [Int32.toBitVec_or, Int32.toBitVec_shiftLeft, Int32.toBitVec_shiftLeft]
    have s0 : ((0 : Int32).toBitVec.smod 32) = 0#32 := by decide
    have s8 : ((8 : Int32).toBitVec.smod 32) = 8#32 := by decide
    rw [s0, s8, BitVec.toNat_or]
    simp only [BitVec.shiftLeft_eq', BitVec.toNat_shiftLeft, a1, a2]
    show (c.toBitVec.toNat % 256) <<< 0 % 2 ^ 32 ||| (c.toBitVec.toNat / 256) <<< 8 % 2 ^ 32 = _
    rw [Nat.shiftLeft_zero, Nat.mod_eq_of_lt (show c.toBitVec.toNat % 256 < 2 ^ 32 by omega), Nat.mod_eq_of_lt (show (c.toBitVec.toNat / 256) <<< 8 < 2 ^ 32 by rw [Nat.shiftLeft_eq]; omega), Nat.or_comm, ← Nat.shiftLeft_add_eq_or_of_lt (by omega), Nat.shiftLeft_eq]
    omega
  show BitVec.toNat (((((lo8 c &&& 255) <<< (0 : Int32)) ||| ((hi8 c &&& 255) <<< (8 : Int32))).toBitVec.setWidth 16).setWidth 32) = _
  rw [BitVec.toNat_setWidth, BitVec.toNat_setWidth, g]
  omega
end StrChars
namespace StrChars
open Jvm Sem ClassFile Op Lib Jvm.Stand Jvm.Free.XT Jvm.Free.ALB Jvm.Free.JM Jvm.Free
open Jvm.Lib.Cold (StaticIs)
theorem shr1 {n : Nat} (h : 2 * n < 2 ^ 31) : Int32.ofNat (2 * n) >>> ((1 : Int32) &&& 31) = Int32.ofNat n := by
  have e : ((1 : Int32) &&& 31) = 1 := by decide
  rw [e]
  apply Int32.toBitVec_inj.mp
  rw [Int32.toBitVec_shiftRight]
  have e1 : ((1 : Int32).toBitVec.smod 32) = 1#32 := by decide
  have hm : (BitVec.ofNat 32 (2 * n)).toNat = 2 * n := by rw [BitVec.toNat_ofNat, Nat.mod_eq_of_lt (by omega)]
  rw [e1, BitVec.sshiftRight_eq']
  apply BitVec.eq_of_toNat_eq
  show ((BitVec.ofNat 32 (2 * n)).sshiftRight 1).toNat = (BitVec.ofNat 32 n).toNat
  rw [BitVec.toNat_sshiftRight_of_msb_false (by rw [BitVec.msb_eq_false_iff_two_mul_lt, hm]; omega), hm, BitVec.toNat_ofNat, Nat.shiftRight_eq_div_pow]
  omega
/-- charAt's cast of a byte read back -/
def chr8 (u : Int32) : Int32 := (u &&& 255).toUInt32.toUInt16.toUInt32.toInt32
theorem chr8_lo8 {c : Int32} (h0 : ¬ c < 0) (h1 : ¬ 255 < c) : chr8 (lo8 c) = c := by
  have t : ∀ k : Fin 256, (Int32.ofNat k.val).toUInt32.toUInt16.toUInt32.toInt32 = Int32.ofNat k.val := by decide +kernel
  unfold chr8
  rw [lo8_mask h0 h1]
  rw [Int32.lt_iff_toInt_lt] at h0 h1
  have e0 : (0 : Int32).toInt = 0 := rfl
  have e1 : (255 : Int32).toInt = 255 := rfl
  obtain ⟨k, hk⟩ : ∃ k : Nat, c.toInt = k := ⟨c.toInt.toNat, by omega⟩
  have hx : c = Int32.ofNat k := Int32.toInt_inj.mp (by rw [hk, Int32.toInt_ofNat_small (by omega)])
  rw [hx]
  exact t ⟨k, by omega⟩
theorem narrow_ch {c : Int32} (h0 : ¬ c < 0) (h1 : ¬ 65535 < c) : narrow .char (.int c) = .int c := by
  have q : narrow .char (.int (pairCh (lo8 c) (hi8 c))) = .int (pairCh (lo8 c) (hi8 c)) := narrow_c _
  rwa [pair_says h0 h1] at q
/-- the array's cell V codes the n chars f 0 .. f (n - 1) by the coder cd, as the JDK does: coder 1 just where some char is above 255 -/
def Cod (cd : Int32) (n : Nat) (f : Nat → Int32) (V : Cell) : Prop := (cd = 0 ∧ V.slots.size = n ∧ ∀ j, j < n → V.slots[j]? = some (.int (lo8 (f j))) ∧ ¬ 255 < f j) ∨ (cd = 1 ∧ V.slots.size = 2 * n ∧ (∀ j, j < n → V.slots[2 * j]? = some (.int (lo8 (f j))) ∧ V.slots[2 * j + 1]? = some (.int (hi8 (f j)))) ∧ ∃ j, j < n ∧ 255 < f j)
theorem Cod.cd {cd : Int32} {n : Nat} {f : Nat → Int32} {V : Cell} (h : Cod cd n f V) : cd = 0 ∨ cd = 1 := h.imp (fun q => q.1) fun q => q.1
theorem Cod.len {cd : Int32} {n : Nat} {f : Nat → Int32} {V : Cell} (h : Cod cd n f V) (hs : V.slots.size < 2 ^ 31) : Int32.ofNat V.slots.size >>> (cd &&& 31) = Int32.ofNat n := by
  rcases h with ⟨rfl, h, -⟩ | ⟨rfl, h, -⟩
  · rw [shr0, h]
  · rw [h, shr1 (by omega)]
/-- **x is a String of the n chars f 0 .. f (n - 1)**, Latin-1 or UTF-16; its array at t has the cell V -/
def Txt (x t : Addr) (V : Cell) (cd : Int32) (n : Nat) (f : Nat → Int32) (U : State) : Prop := Exact "java/lang/String" x U ∧ Has x "java/lang/String" "value" "[B" (.ref t) U ∧ Has x "java/lang/String" "coder" "B" (.int cd) U ∧ XT.Arr .byte t V U ∧ Cod cd n f V ∧ ∀ j, j < n → ¬ f j < 0 ∧ ¬ 65535 < f j
theorem Txt.mv {x t : Addr} {V : Cell} {cd : Int32} {n : Nat} {f : Nat → Int32} {U U' : State} (h : Txt x t V cd n f U) (hal : U.vm.Alike U'.vm) (hh : U'.heap = U.heap) : Txt x t V cd n f U' := ⟨h.1.mv hal hh, h.2.1.mv hal hh, h.2.2.1.mv hal hh, h.2.2.2.1.mv hal hh, h.2.2.2.2⟩
namespace Cdr
def yN : MethodName := ⟨"java/lang/String", "coder", "()B"⟩
abbrev yB : ByteArray := jdk_42_method_152_code
theorem d0 : decode yB 0 = .ok (.getstatic 38, 3) := by decide +kernel
theorem d3 : decode yB 3 = .ok (.ifCond (.eq) 10, 3) := by decide +kernel
theorem d6 : decode yB 6 = .ok (.aload_n 0, 1) := by decide +kernel
theorem d7 : decode yB 7 = .ok (.getfield 15, 3) := by decide +kernel
theorem d10 : decode yB 10 = .ok (.goto 4, 3) := by decide +kernel
theorem d14 : decode yB 14 = .ok (.ireturn, 1) := by decide +kernel
def site : List Cond := [.fieldLink "java/lang/String" 38 "java/lang/String" "COMPACT_STRINGS" "Z", .fieldLink "java/lang/String" 15 "java/lang/String" "coder" "B"]
def tab : Cond := tabOf yN yB 1 (some .byte) site
def P (x : Addr) (cd z : Int32) (args : Array Value) (s : State) : Prop := args = #[.ref x] ∧ Has x "java/lang/String" "coder" "B" (.int cd) s ∧ (cd = 0 ∨ cd = 1) ∧ StaticIs s "java/lang/String" "COMPACT_STRINGS" "Z" (.int z) ∧ ¬ z = 0
def E (cd : Int32) (r : Option Value) (s u : State) : Prop := XT.PureE (some (.int cd)) r s u
theorem law (l : Launch) (x : Addr) (cd z : Int32) : Law l yN 1 0 0 0 yB 1 (some .byte) site (P x cd z) (E cd) [] 0 0 := by
  refine Law.of_walk (plainFor_of_name (by decide +kernel)) (by decide +kernel) (by decide +kernel) (by decide) (fun _ _ h => by rw [h.1]; rfl) (fun _ U U' hal hh h => ⟨h.1, h.2.1.mv hal hh, h.2.2.1, h.2.2.2.1.there hal hh, h.2.2.2.2⟩) (fun r U U' V V' h1 hal h2 h => XT.PureE.mv r U U' V V' h1 hal h2 h) ?_
  intro p e s m args below meth c s₁ X0 hexec hbytes hml hret hlk hnm hown hh0 W hP
  obtain ⟨rfl, hx, hc, s1, hz⟩ := hP
  have c1 : Steps p.tables e below (s₁.setTop (entryFrame m #[.ref x] 1)) (s₁.setTop (mkF m 0 #[.val (.ref x)] [])) := entry rfl
  obtain ⟨T2, X2, q2, st2⟩ := X0.sget hexec hown (wk W (.fieldLink "java/lang/String" 38 "java/lang/String" "COMPACT_STRINGS" "Z")) s1 (fun _ _ h => by rw [hh0]; exact h) (g := (mkF m 0 #[.val (.ref x)] [])) rfl (hb hbytes d0)
  have hh2 := q2.trans hh0
  have c3 : Steps p.tables e below (s₁.setTop (entryFrame m #[.ref x] 1)) (T2.setTop (mkF m 7 #[.val (.ref x)] [.ref x])) := (c1.trans (st2 _ (Steps.refl _))).trans (by
    refine XS.ifNo X2.here hexec rfl (hb hbytes d3) rfl (i0_eq_f hz) ?_
    refine XS.aloadN X2.here hexec rfl (hb hbytes d6) rfl rfl ?_
    exact Steps.refl _)
  obtain ⟨T4, X4, q4, st4⟩ := X2.hget hexec hown (wk W (.fieldLink "java/lang/String" 15 "java/lang/String" "coder" "B")) (hx.mv X2.warmed.alike hh2) (g := (mkF m 7 #[.val (.ref x)] [.ref x])) rfl (rest := []) rfl (hb hbytes d7)
  have c5 : Steps p.tables e below (s₁.setTop (entryFrame m #[.ref x] 1)) (T4.setTop (mkF m 14 #[.val (.ref x)] [.int cd])) := (c3.trans (st4 _ (Steps.refl _))).trans (by
    refine XS.goto X4.here hexec rfl (pc0 := 10) rfl (hb hbytes d10) (by decide) rfl ?_
    exact Steps.refl _)
  exact ⟨T4, some (.int cd), _, _, _, X4, rfl, rfl, rfl, (fun h => by cases h), ⟨rfl, q4.trans hh2⟩, fun fs hl => c5.trans (X4.ireturnOut hexec hret (by rcases hc with rfl | rfl <;> rfl) (Or.inr (Or.inr (Or.inl rfl))) (hb hbytes d14) hl)⟩
end Cdr
namespace Len
def yN : MethodName := ⟨"java/lang/String", "length", "()I"⟩
abbrev yB : ByteArray := jdk_42_method_54_code
theorem d0 : decode yB 0 = .ok (.aload_n 0, 1) := by decide +kernel
theorem d1 : decode yB 1 = .ok (.getfield 9, 3) := by decide +kernel
theorem d4 : decode yB 4 = .ok (.arraylength, 1) := by decide +kernel
theorem d5 : decode yB 5 = .ok (.aload_n 0, 1) := by decide +kernel
theorem d6 : decode yB 6 = .ok (.invokevirtual 335, 3) := by decide +kernel
theorem d9 : decode yB 9 = .ok (.ishr, 1) := by decide +kernel
theorem d10 : decode yB 10 = .ok (.ireturn, 1) := by decide +kernel
def site : List Cond := [.fieldLink "java/lang/String" 9 "java/lang/String" "value" "[B", Cdr.tab] ++ virtW "java/lang/String" 335 "java/lang/String" Cdr.yN Cdr.yN
def tab : Cond := tabOf yN yB 1 (some .int) site
def P (x t : Addr) (V : Cell) (cd : Int32) (n : Nat) (f : Nat → Int32) (z : Int32) (args : Array Value) (s : State) : Prop := args = #[.ref x] ∧ Txt x t V cd n f s ∧ StaticIs s "java/lang/String" "COMPACT_STRINGS" "Z" (.int z) ∧ ¬ z = 0
def E (n : Nat) (r : Option Value) (s u : State) : Prop := XT.PureE (some (.int (Int32.ofNat n))) r s u
/-- length() of a String of n chars, in either coding -/
theorem law (l : Launch) (x t : Addr) (V : Cell) (cd : Int32) (n : Nat) (f : Nat → Int32) (z : Int32) : Law l yN 1 0 1 13 yB 1 (some .int) site (P x t V cd n f z) (E n) [] 0 0 := by
  refine Law.of_walk (plainFor_of_name (by decide +kernel)) (by decide +kernel) (by decide +kernel) (by decide) (fun _ _ h => by rw [h.1]; rfl) (fun _ U U' hal hh h => ⟨h.1, h.2.1.mv hal hh, h.2.2.1.there hal hh, h.2.2.2⟩) (fun r U U' V V' h1 hal h2 h => XT.PureE.mv r U U' V V' h1 hal h2 h) ?_
  intro p e s m args below meth c s₁ X0 hexec hbytes hml hret hlk hnm hown hh0 W hP
  obtain ⟨rfl, hx, s1, hz⟩ := hP
  have v31 := hx.2.2.2.1.2.2.2
  have c1 : Steps p.tables e below (s₁.setTop (entryFrame m #[.ref x] 1)) (s₁.setTop (mkF m 1 #[.val (.ref x)] [.ref x])) := Steps.trans (entry rfl) (by
    show Steps p.tables e below (s₁.setTop (mkF m 0 #[.val (.ref x)] [])) _
    refine XS.aloadN X0.here hexec rfl (hb hbytes d0) rfl rfl ?_
    exact Steps.refl _)
  obtain ⟨T2, X2, q2, st2⟩ := X0.hget hexec hown (wk W (.fieldLink "java/lang/String" 9 "java/lang/String" "value" "[B")) (hx.mv X0.warmed.alike hh0).2.1 (g := (mkF m 1 #[.val (.ref x)] [.ref x])) rfl (rest := []) rfl (hb hbytes d1)
  have hh2 := q2.trans hh0
  have hx2 := hx.mv X2.warmed.alike hh2
  have c3 : Steps p.tables e below (s₁.setTop (entryFrame m #[.ref x] 1)) (T2.setTop (mkF m 6 #[.val (.ref x)] [.ref x, .int (Int32.ofNat V.slots.size)])) := (c1.trans (st2 _ (Steps.refl _))).trans (by
    refine X2.alen hexec hx2.2.2.2.1 rfl rfl (hb hbytes d4) ?_
    refine XS.aloadN X2.here hexec rfl (hb hbytes d5) rfl rfl ?_
    exact Steps.refl _)
  obtain ⟨v4, T4, X4, E4, g4⟩ := X2.callV hexec (Cdr.law l x cd z) hown (wks W (virtW "java/lang/String" 335 "java/lang/String" Cdr.yN Cdr.yN)) rfl (by decide) (wk W Cdr.tab) (W := 1) (Nat.le_of_ble_eq_true rfl) (Nat.le_of_ble_eq_true rfl) (Nat.le_refl _) (Nat.le_refl _) (hx2.1.fc X2.warmed.alike) hx2.1.is (g := (mkF m 6 #[.val (.ref x)] [.ref x, .int (Int32.ofNat V.slots.size)])) rfl (by rw [hml]; rfl) c3 (argsL := []) (rest := [.int (Int32.ofNat V.slots.size)]) rfl rfl (by show 2 * 0 + (1 + 0) ≤ _; decide) (hb hbytes d6) (⟨rfl, hx2.2.2.1, hx.2.2.2.2.1.cd, s1.there X2.warmed.alike hh2, hz⟩)
  obtain ⟨rfl, q4⟩ := E4
  have c5 : Steps p.tables e below (s₁.setTop (entryFrame m #[.ref x] 1)) (T4.setTop (mkF m 10 #[.val (.ref x)] [.int (Int32.ofNat V.slots.size >>> (cd &&& 31))])) := Steps.trans g4 (by
    refine ishr X4.here hexec rfl (hb hbytes d9) rfl ?_
    exact Steps.refl _)
  rw [hx.2.2.2.2.1.len v31] at c5
  exact ⟨T4, some (.int (Int32.ofNat n)), _, _, _, X4, rfl, rfl, rfl, (fun h => by cases h), ⟨rfl, q4.trans hh2⟩, fun fs hl => c5.trans (X4.ireturnOut hexec hret rfl (Or.inl rfl) (hb hbytes d10) hl)⟩
theorem pays {l : Launch} {R : Room} {p : Program} {e : Env} {below : List Frame} {s : State} {sargs : Array Value} {len W : Nat} (x t : Addr) (V : Cell) (cd : Int32) (n : Nat) (f : Nat → Int32) (z : Int32) (htab : tab.before sargs s = true) (hfr : 2 ≤ R.frames) (hlo : W + 25 ≤ R.locals) :
    Back l R p e below s sargs yN len W (fun A₁ a₁ => A₁.cells + 0 ≤ R.cells ∧ A₁.slots + 0 ≤ R.slots ∧ P x t V cd n f z a₁ A₁.U) (fun A₁ _ v₁ B₁ => E n v₁ A₁.U B₁.U ∧ B₁.locs = A₁.locs ++ [] ∧ B₁.cells = A₁.cells + 0 ∧ B₁.slots = A₁.slots + 0) :=
  (law l x t V cd n f z).pays htab hfr (by omega)
end Len
namespace IsL
def yN : MethodName := ⟨"java/lang/String", "isLatin1", "()Z"⟩
abbrev yB : ByteArray := jdk_42_method_154_code
theorem d0 : decode yB 0 = .ok (.getstatic 38, 3) := by decide +kernel
theorem d3 : decode yB 3 = .ok (.ifCond (.eq) 14, 3) := by decide +kernel
theorem d6 : decode yB 6 = .ok (.aload_n 0, 1) := by decide +kernel
theorem d7 : decode yB 7 = .ok (.getfield 15, 3) := by decide +kernel
theorem d10 : decode yB 10 = .ok (.ifCond (.ne) 7, 3) := by decide +kernel
theorem d13 : decode yB 13 = .ok (.iconst 1, 1) := by decide +kernel
theorem d14 : decode yB 14 = .ok (.goto 4, 3) := by decide +kernel
theorem d17 : decode yB 17 = .ok (.iconst 0, 1) := by decide +kernel
theorem d18 : decode yB 18 = .ok (.ireturn, 1) := by decide +kernel
def site : List Cond := [.fieldLink "java/lang/String" 38 "java/lang/String" "COMPACT_STRINGS" "Z", .fieldLink "java/lang/String" 15 "java/lang/String" "coder" "B"]
def tab : Cond := tabOf yN yB 1 (some .boolean) site
def P (x : Addr) (cd z : Int32) (args : Array Value) (s : State) : Prop := args = #[.ref x] ∧ Has x "java/lang/String" "coder" "B" (.int cd) s ∧ (cd = 0 ∨ cd = 1) ∧ StaticIs s "java/lang/String" "COMPACT_STRINGS" "Z" (.int z) ∧ ¬ z = 0
def E (cd : Int32) (r : Option Value) (s u : State) : Prop := XT.PureE (some (.int (1 - cd))) r s u
theorem law (l : Launch) (x : Addr) (cd z : Int32) : Law l yN 1 0 0 0 yB 1 (some .boolean) site (P x cd z) (E cd) [] 0 0 := by
  refine Law.of_walk (plainFor_of_name (by decide +kernel)) (by decide +kernel) (by decide +kernel) (by decide) (fun _ _ h => by rw [h.1]; rfl) (fun _ U U' hal hh h => ⟨h.1, h.2.1.mv hal hh, h.2.2.1, h.2.2.2.1.there hal hh, h.2.2.2.2⟩) (fun r U U' V V' h1 hal h2 h => XT.PureE.mv r U U' V V' h1 hal h2 h) ?_
  intro p e s m args below meth c s₁ X0 hexec hbytes hml hret hlk hnm hown hh0 W hP
  obtain ⟨rfl, hx, hc, s1, hz⟩ := hP
  have c1 : Steps p.tables e below (s₁.setTop (entryFrame m #[.ref x] 1)) (s₁.setTop (mkF m 0 #[.val (.ref x)] [])) := entry rfl
  obtain ⟨T2, X2, q2, st2⟩ := X0.sget hexec hown (wk W (.fieldLink "java/lang/String" 38 "java/lang/String" "COMPACT_STRINGS" "Z")) s1 (fun _ _ h => by rw [hh0]; exact h) (g := (mkF m 0 #[.val (.ref x)] [])) rfl (hb hbytes d0)
  have hh2 := q2.trans hh0
  have c3 : Steps p.tables e below (s₁.setTop (entryFrame m #[.ref x] 1)) (T2.setTop (mkF m 7 #[.val (.ref x)] [.ref x])) := (c1.trans (st2 _ (Steps.refl _))).trans (by
    refine XS.ifNo X2.here hexec rfl (hb hbytes d3) rfl (i0_eq_f hz) ?_
    refine XS.aloadN X2.here hexec rfl (hb hbytes d6) rfl rfl ?_
    exact Steps.refl _)
  obtain ⟨T4, X4, q4, st4⟩ := X2.hget hexec hown (wk W (.fieldLink "java/lang/String" 15 "java/lang/String" "coder" "B")) (hx.mv X2.warmed.alike hh2) (g := (mkF m 7 #[.val (.ref x)] [.ref x])) rfl (rest := []) rfl (hb hbytes d7)
  have c5 : Steps p.tables e below (s₁.setTop (entryFrame m #[.ref x] 1)) (T4.setTop (mkF m 10 #[.val (.ref x)] [.int cd])) := c3.trans (st4 _ (Steps.refl _))
  have c6 : Steps p.tables e below (s₁.setTop (entryFrame m #[.ref x] 1)) (T4.setTop (mkF m 18 #[.val (.ref x)] [.int (1 - cd)])) := by
    rcases hc with rfl | rfl
    · exact c5.trans (by
        refine XS.ifNo X4.here hexec rfl (hb hbytes d10) rfl (i0_ne_f rfl) ?_
        refine iconstV X4.here hexec rfl 1 (hb hbytes d13) (by decide) ?_
        refine XS.goto X4.here hexec rfl (pc0 := 14) rfl (hb hbytes d14) (by decide) rfl ?_
        exact Steps.refl _)
    · exact c5.trans (by
        refine XS.ifYes X4.here hexec rfl (pc0 := 10) rfl (hb hbytes d10) rfl (i0_ne_t (by decide)) (by decide) rfl ?_
        refine iconstV X4.here hexec rfl 0 (hb hbytes d17) (by decide) ?_
        exact Steps.refl _)
  exact ⟨T4, some (.int (1 - cd)), _, _, _, X4, rfl, rfl, rfl, (fun h => by cases h), ⟨rfl, q4.trans hh2⟩, fun fs hl => c6.trans (X4.ireturnOut hexec hret (by rcases hc with rfl | rfl <;> rfl) (Or.inr (Or.inl rfl)) (hb hbytes d18) hl)⟩
end IsL
namespace LChA
def yN : MethodName := ⟨"java/lang/StringLatin1", "charAt", "([BI)C"⟩
abbrev yB : ByteArray := jdk_43_method_2_code
theorem d0 : decode yB 0 = .ok (.iload_n 1, 1) := by decide +kernel
theorem d1 : decode yB 1 = .ok (.aload_n 0, 1) := by decide +kernel
theorem d2 : decode yB 2 = .ok (.arraylength, 1) := by decide +kernel
theorem d3 : decode yB 3 = .ok (.invokestatic 9, 3) := by decide +kernel
theorem d6 : decode yB 6 = .ok (.aload_n 0, 1) := by decide +kernel
theorem d7 : decode yB 7 = .ok (.iload_n 1, 1) := by decide +kernel
theorem d8 : decode yB 8 = .ok (.baload, 1) := by decide +kernel
theorem d9 : decode yB 9 = .ok (.sipush 255, 3) := by decide +kernel
theorem d12 : decode yB 12 = .ok (.iand, 1) := by decide +kernel
theorem d13 : decode yB 13 = .ok (.i2c, 1) := by decide +kernel
theorem d14 : decode yB 14 = .ok (.ireturn, 1) := by decide +kernel
def site : List Cond := [JO.Str_checkIndex.tab] ++ staticW "java/lang/StringLatin1" 9 JO.Str_checkIndex.yN
def tab : Cond := tabOf yN yB 2 (some .char) site
def P (t : Addr) (V : Cell) (i : Nat) (u : Int32) (fm : Value) (args : Array Value) (s : State) : Prop := args = #[.ref t, .int (Int32.ofNat i)] ∧ XT.Arr .byte t V s ∧ V.slots[i]? = some (.int u) ∧ (StaticIs s "jdk/internal/util/Preconditions" "SIOOBE_FORMATTER" "Ljava/util/function/BiFunction;" fm ∧ fm.isRef = true)
def E (u : Int32) (r : Option Value) (s w : State) : Prop := XT.PureE (some (.int (chr8 u))) r s w
theorem law (l : Launch) (t : Addr) (V : Cell) (i : Nat) (u : Int32) (fm : Value) : Law l yN 2 2 2 27 yB 2 (some .char) site (P t V i u fm) (E u) [] 0 0 := by
  refine Law.of_walk (plainFor_of_name (by decide +kernel)) (by decide +kernel) (by decide +kernel) (by decide) (fun _ _ h => by rw [h.1]; rfl) (fun _ U U' hal hh h => ⟨h.1, h.2.1.mv hal hh, h.2.2.1, h.2.2.2.1.there hal hh, h.2.2.2.2⟩) (fun r U U' V V' h1 hal h2 h => XT.PureE.mv r U U' V V' h1 hal h2 h) ?_
  intro p e s m args below meth c s₁ X0 hexec hbytes hml hret hlk hnm hown hh0 W hP
  obtain ⟨rfl, hV, hu, s1, rf⟩ := hP
  have v31 := hV.2.2.2
  have hi : i < V.slots.size := (Array.getElem?_eq_some_iff.mp hu).1
  have c1 : Steps p.tables e below (s₁.setTop (entryFrame m #[.ref t, .int (Int32.ofNat i)] 2)) (s₁.setTop (mkF m 0 #[.val (.ref t), .val (.int (Int32.ofNat i))] [])) := entry rfl
  have c2 : Steps p.tables e below (s₁.setTop (entryFrame m #[.ref t, .int (Int32.ofNat i)] 2)) (s₁.setTop (mkF m 3 #[.val (.ref t), .val (.int (Int32.ofNat i))] [.int (Int32.ofNat V.slots.size), .int (Int32.ofNat i)])) := c1.trans (by
    refine XS.iloadN X0.here hexec rfl (hb hbytes d0) rfl ?_
    refine XS.aloadN X0.here hexec rfl (hb hbytes d1) rfl rfl ?_
    refine X0.alen hexec (hV.mv X0.warmed.alike hh0) rfl rfl (hb hbytes d2) ?_
    exact Steps.refl _)
  obtain ⟨v3, T3, X3, E3, g3⟩ := X0.callS hexec (JO.Str_checkIndex.law l (Int32.ofNat i) (Int32.ofNat V.slots.size) fm) hown (wks W (staticW "java/lang/StringLatin1" 9 JO.Str_checkIndex.yN)) (wk W JO.Str_checkIndex.tab) (W := 0) (Nat.le_of_ble_eq_true rfl) (Nat.le_of_ble_eq_true rfl) (Nat.le_refl _) (Nat.le_refl _) (g := (mkF m 3 #[.val (.ref t), .val (.int (Int32.ofNat i))] [.int (Int32.ofNat V.slots.size), .int (Int32.ofNat i)])) rfl (by rw [hml]; rfl) c2 (argsL := [.int (Int32.ofNat i), .int (Int32.ofNat V.slots.size)]) (rest := []) rfl rfl (by show 2 * 0 + 0 ≤ _; decide) (hb hbytes d3) (⟨rfl, rf, s1.there X0.warmed.alike hh0, Int32.ofNat_not_neg (by omega), lt32 v31 hi⟩)
  obtain ⟨rfl, q3⟩ := E3
  have hh3 := q3.trans hh0
  have c4 : Steps p.tables e below (s₁.setTop (entryFrame m #[.ref t, .int (Int32.ofNat i)] 2)) (T3.setTop (mkF m 14 #[.val (.ref t), .val (.int (Int32.ofNat i))] [.int (chr8 u)])) := Steps.trans g3 (by
    refine XS.aloadN X3.here hexec rfl (hb hbytes d6) rfl rfl ?_
    refine XS.iloadN X3.here hexec rfl (hb hbytes d7) rfl ?_
    refine X3.aget hexec (hV.mv X3.warmed.alike hh3) rfl hu rfl rfl (hb hbytes d8) ?_
    refine sipushV X3.here hexec rfl 255 (hb hbytes d9) (by decide) ?_
    refine XS.iand X3.here hexec rfl (hb hbytes d12) rfl ?_
    refine i2c X3.here hexec rfl (hb hbytes d13) rfl ?_
    exact Steps.refl _)
  exact ⟨T3, some (.int (chr8 u)), _, _, _, X3, rfl, rfl, rfl, (fun h => by cases h), ⟨rfl, hh3⟩, fun fs hl => c4.trans (X3.ireturnOut hexec hret (narrow_c _) (Or.inr (Or.inr (Or.inr (Or.inl rfl)))) (hb hbytes d14) hl)⟩
end LChA
end StrChars
namespace StrChars.Road
open Jvm Sem ClassFile Op Lib Jvm.Stand Jvm.Free Jvm.Free.XT
open Jvm.Lib.Cold (StaticIs)
theorem consq {a : Array Value} {s : State} {c : Jvm.Cond} {L : List Jvm.Cond} (h0 : c.before a s = true) (h : ∀ w ∈ L, w.before a s = true) : ∀ w ∈ c :: L, w.before a s = true := fun w hw => (List.mem_cons.mp hw).elim (fun e => e ▸ h0) (h w)
/-- the words of String.length(), either coding -/
abbrev wordsLen : List Jvm.Cond := [.code Len.yN Len.yB 1 (some .int), .initialized ST, .fieldLink ST 9 ST "value" "[B", .fieldLink ST 38 ST "COMPACT_STRINGS" "Z", .fieldLink ST 15 ST "coder" "B", .code Cdr.yN Cdr.yB 1 (some .byte), .methodLink ST 335 Cdr.yN, .declares Cdr.yN, .selects ST Cdr.yN Cdr.yN, .instanceMethod Cdr.yN]
theorem tabLen_of {a : Array Value} {s : State} (h : ∀ w ∈ wordsLen, w.before a s = true) : Len.tab.before a s = true := by
  have hc : Cdr.tab.before a s = true := unparts (wk h (.code Cdr.yN Cdr.yB 1 (some .byte))) (wks h (.initialized Cdr.yN.cls :: Cdr.site))
  have q := consq hc h
  exact unparts (wk q (.code Len.yN Len.yB 1 (some .int))) (wks q (.initialized Len.yN.cls :: Len.site))
theorem movedLen {Z s : State} {a0 args : Array Value} (hZ : Z.Warmed39 s.vm) (hw : ∀ d ∈ wordsLen, d.before a0 Z = true) : ∀ d ∈ wordsLen, d.before args s = true := fun d hd => by
  have q := hw d hd
  have t : ∀ d ∈ wordsLen, d = .arrayClass .byte ∨ (d.onTables && d.keepsFace) = true := by decide +kernel
  rcases t d hd with rfl | t
  · exact RoadKit.mvA hZ q
  · exact RoadKit.mv hZ q t
/-- the bytes of the chars cs, low before high -/
def wideBytes : List Int32 → List Value
  | [] => []
  | c :: cs => .int (lo8 c) :: .int (hi8 c) :: wideBytes cs
theorem wide_lo (d : Value) : ∀ (cs : List Int32) (j : Nat), j < cs.length → (wideBytes cs).getD (2 * j) d = .int (lo8 (cs.getD j 0))
  | [], j, h => absurd h (Nat.not_lt_zero j)
  | c :: cs, 0, _ => rfl
  | c :: cs, j + 1, h => by
    have q := wide_lo d cs j (by simpa using h)
    rw [show 2 * (j + 1) = 2 * j + 1 + 1 from by omega]
    simpa [wideBytes] using q
theorem wide_hi (d : Value) : ∀ (cs : List Int32) (j : Nat), j < cs.length → (wideBytes cs).getD (2 * j + 1) d = .int (hi8 (cs.getD j 0))
  | [], j, h => absurd h (Nat.not_lt_zero j)
  | c :: cs, 0, _ => rfl
  | c :: cs, j + 1, h => by
    have q := wide_hi d cs j (by simpa using h)
    rw [show 2 * (j + 1) + 1 = 2 * j + 1 + 1 + 1 from by omega]
    simpa [wideBytes] using q
theorem low_at (d : Value) (cs : List Int32) (j : Nat) (h : j < cs.length) : (cs.map fun c => Value.int (lo8 c)).getD j d = .int (lo8 (cs.getD j 0)) := by
  simp [List.getD_eq_getElem?_getD, h]
/-- an array of N2 bytes vs codes the chars cs by the coder cd -/
def CodA (cs : List Int32) (cd N2 : Int32) (vs : List Value) : Prop := (cd = 0 ∧ N2 = Int32.ofNat cs.length ∧ vs = (cs.map fun c => Value.int (lo8 c)) ∧ ∀ c ∈ cs, ¬ 255 < c) ∨ (cd = 1 ∧ N2 = Int32.ofNat (2 * cs.length) ∧ vs = wideBytes cs ∧ ∃ c ∈ cs, 255 < c)
theorem CodA.cod {cs : List Int32} {cd N2 : Int32} {vs : List Value} {V : Cell} (h : CodA cs cd N2 vs) (hn : 2 * cs.length < 2 ^ 31) (hs : V.slots.size = N2.toNatClampNeg) (hv : RoadKit.Has V vs (.int 0)) : Cod cd cs.length (fun j => cs.getD j 0) V := by
  rcases h with ⟨rfl, rfl, rfl, h⟩ | ⟨rfl, rfl, rfl, c, hc, hw⟩
  · rw [n32 (by omega)] at hs
    exact Or.inl ⟨rfl, hs, fun j hj => ⟨by rw [hv j (by omega), low_at _ _ _ hj], by
      have e : cs.getD j 0 = cs[j] := by simp [List.getD_eq_getElem?_getD, hj]
      show ¬ 255 < cs.getD j 0
      rw [e]; exact h _ (List.getElem_mem _)⟩⟩
  · rw [n32 (by omega)] at hs
    obtain ⟨j, hj, rfl⟩ := List.getElem_of_mem hc
    exact Or.inr ⟨rfl, hs, fun j hj => ⟨by rw [hv _ (by omega), wide_lo _ _ _ hj], by rw [hv _ (by omega), wide_hi _ _ _ hj]⟩, j, hj, by
      have e : cs.getD j 0 = cs[j] := by simp [List.getD_eq_getElem?_getD, hj]
      show 255 < cs.getD j 0
      rw [e]; exact hw⟩
/-- an object of exactly java/lang/String, its two fields found: as the laws ask it -/
theorem strObj {Z U : State} {a0 : Array Value} {kI : Nat} (wi : (Jvm.Cond.instantiable ST kI).before a0 Z = true) (al : Z.vm.Alike U.vm) {x : Addr} {v0 c0 : Value} (E : RoadKit.Exa Z U.heap x ST) (V : RoadKit.Fld Z U.heap x ST "value" "[B" v0) (C : RoadKit.Fld Z U.heap x ST "coder" "B" c0) :
    ∃ (D : Cell) (fV fC : Field), Blank ST x D U ∧ Found ST "value" "[B" fV U ∧ Found ST "coder" "B" fC U ∧ D.slots[fV.slot]? = some v0 ∧ D.slots[fC.slot]? = some c0 ∧ RoadKit.slotOf Z ST "value" "[B" = fV.slot ∧ RoadKit.slotOf Z ST "coder" "B" = fC.slot := by
  obtain ⟨D, cfV, kV, iV, fV, hD, gV, stV, knV, obV, asV, slV⟩ := V
  obtain ⟨D', cfC, kC, iC, fC, hD', gC, stC, -, -, asC, slC⟩ := C
  cases hD.symm.trans hD'
  obtain ⟨D2, kD, e1, e2, e3, e4, e5⟩ := E
  cases hD.symm.trans e1
  obtain ⟨c2, k2, i1, i2, i3, -⟩ := Cond.instantiable_spec wi
  cases e2.symm.trans i1
  cases e3.symm.trans i2
  obtain ⟨kU, u1, u2⟩ := al.2.2 _ _ e3
  exact ⟨D, fV, fC, ⟨hD, ⟨knV, fun q hq => by rw [hq] at obV; cases obV⟩, by rw [al.findClass]; exact e2, kU, u1, by rw [u2]; exact i3, by rw [u2]; exact e5 i3⟩, ⟨SBG.found_only al ⟨cfV, kV, iV, gV⟩, stV⟩, ⟨SBG.found_only al ⟨cfC, kC, iC, gC⟩, stC⟩, slV, slC, by simp [RoadKit.slotOf, gV], by simp [RoadKit.slotOf, gC]⟩
theorem sta_is {Z U : State} (al : Z.vm.Alike U.vm) {C n d : String} {v : Value} (S : RoadKit.Sta Z U.heap C n d v) : StaticIs U C n d v := by
  obtain ⟨cfS, iS, kS, fS, st, cS, t1, t2, t3, t4, t5, t6, t7⟩ := S
  exact StaticIs.there (s := { Z with heap := U.heap }) ⟨cfS, iS, kS, fS, st, cS, t1, t2, t3, t4, t5, (fun q => by rw [q] at t6; cases t6), t7⟩ al rfl
/-- **length() OF SUCH A STRING** -/
theorem lenW {p : Program} {l : Launch} {e : Env} {R : Room} {s : State} {args : Array Value} {below : List Frame} {len W : Nat} {Z : State} {a0 : Array Value} {h : Heap} (hZ : Z.Warmed39 s.vm) (hw : ∀ d ∈ wordsLen, d.before a0 Z = true) {kI : Nat} (wi : (Jvm.Cond.instantiable ST kI).before a0 Z = true)
    {x t : Addr} {kb : ClassId} {cs : List Int32} {cd N2 z : Int32} {vs : List Value} (E : RoadKit.Exa Z h x ST) (V : RoadKit.Fld Z h x ST "value" "[B" (.ref t)) (C : RoadKit.Fld Z h x ST "coder" "B" (.int cd)) (K : RoadKit.Arv Z h t kb .byte N2 vs (.int 0)) (hc : CodA cs cd N2 vs) (hb : ∀ c ∈ cs, ¬ c < 0 ∧ ¬ (65535 : Int32) < c)
    (S : RoadKit.Sta Z h ST "COMPACT_STRINGS" "Z" (.int z)) (hz : ¬ z = 0) (l2 : cs.length ≤ 4000) (hfr : 2 ≤ R.frames) (hlo : W + 25 ≤ R.locals) :
    Back l R p e below s args (⟨"java/lang/String", "length", "()I"⟩ : MethodName) len W (fun P a => a = #[.ref x] ∧ P.U.heap = h ∧ P.cells + 0 ≤ R.cells ∧ P.slots + 0 ≤ R.slots)
      (fun P _ v B => ∃ L, (v = some (.int (Int32.ofNat cs.length)) ∧ L = [] ∧ B.U.heap = h) ∧ B.locs = P.locs ++ L ∧ B.cells = P.cells + 0 ∧ B.slots = P.slots + 0) := by
  obtain ⟨A, K1, K2, K3, K4, K5, K6⟩ := K
  have hcod := hc.cod (by omega) K3 K5
  intro m meth c P g ig mk a X hg hsize hdg hW hn hp'
  obtain ⟨rfl, rfl, r1, r2⟩ := hp'
  have al : Z.vm.Alike P.U.vm := hZ.alike.trans X.warmed.alike
  obtain ⟨D, fV, fC, hB, F1, F2, g1, g2, -, -⟩ := strObj wi al E V C
  have hx : Txt x t A cd cs.length (fun j => cs.getD j 0) P.U := ⟨⟨_, hB.2.2.1, D, hB.1, rfl, by cases q : D.vm <;> first | rfl | exact absurd q (hB.2.1.2 _)⟩, Has.of hB F1 g1, Has.of hB F2 g2, ⟨K1.1, State.isArrayOf_alike al K1.2.1, K1.2.2, by rcases hcod with ⟨-, q, -⟩ | ⟨-, q, -⟩ <;> omega⟩, hcod, fun j hj => by
    have e : cs.getD j 0 = cs[j] := by simp [List.getD_eq_getElem?_getD, hj]
    show ¬ cs.getD j 0 < 0 ∧ ¬ 65535 < cs.getD j 0
    rw [e]; exact hb _ (List.getElem_mem _)⟩
  obtain ⟨v, B, X', ⟨⟨hv, hh⟩, hl, hk, hs⟩, st⟩ := Len.pays x t A cd cs.length (fun j => cs.getD j 0) z (tabLen_of (movedLen hZ hw)) hfr hlo m meth c P g ig mk _ X hg hsize hdg hW hn ⟨r1, r2, rfl, hx, sta_is al S, hz⟩
  exact ⟨v, B, X', ⟨[], ⟨hv, rfl, hh⟩, hl, hk, hs⟩, st⟩
end StrChars.Road
namespace StrChars.Road
open Jvm Sem ClassFile Op Lib Jvm.Stand Jvm.Free Jvm.Free.XT
open Jvm.Lib.Cold (StaticIs)
/-- the road's facts of a String, as the laws ask it -/
theorem txt_of {Z U : State} {a0 : Array Value} {kI : Nat} (wi : (Jvm.Cond.instantiable ST kI).before a0 Z = true) (al : Z.vm.Alike U.vm) {x t : Addr} {kb : ClassId} {cs : List Int32} {cd N2 : Int32} {vs : List Value} (E : RoadKit.Exa Z U.heap x ST) (V : RoadKit.Fld Z U.heap x ST "value" "[B" (.ref t)) (C : RoadKit.Fld Z U.heap x ST "coder" "B" (.int cd)) (K : RoadKit.Arv Z U.heap t kb .byte N2 vs (.int 0)) (hc : CodA cs cd N2 vs) (hb : ∀ c ∈ cs, ¬ c < 0 ∧ ¬ (65535 : Int32) < c) (l2 : cs.length ≤ 4000) :
    ∃ A, Txt x t A cd cs.length (fun j => cs.getD j 0) U := by
  obtain ⟨A, K1, K2, K3, K4, K5, K6⟩ := K
  have hcod := hc.cod (by omega) K3 K5
  obtain ⟨D, fV, fC, hB, F1, F2, g1, g2, -, -⟩ := strObj wi al E V C
  exact ⟨A, ⟨_, hB.2.2.1, D, hB.1, rfl, by cases q : D.vm <;> first | rfl | exact absurd q (hB.2.1.2 _)⟩, Has.of hB F1 g1, Has.of hB F2 g2, ⟨K1.1, State.isArrayOf_alike al K1.2.1, K1.2.2, by rcases hcod with ⟨-, q, -⟩ | ⟨-, q, -⟩ <;> omega⟩, hcod, fun j hj => by
    have e : cs.getD j 0 = cs[j] := by simp [List.getD_eq_getElem?_getD, hj]
    show ¬ cs.getD j 0 < 0 ∧ ¬ 65535 < cs.getD j 0
    rw [e]; exact hb _ (List.getElem_mem _)⟩
end StrChars.Road
namespace StrChars
open Jvm Sem ClassFile Op Lib Jvm.Stand Jvm.Free.XT Jvm.Free.ALB Jvm.Free.JM Jvm.Free
open Jvm.Lib.Cold (StaticIs)
namespace ChN
def yN : MethodName := ⟨"java/lang/String", "charAt", "(I)C"⟩
abbrev yB : ByteArray := jdk_42_method_56_code
theorem d0 : decode yB 0 = .ok (.aload_n 0, 1) := by decide +kernel
theorem d1 : decode yB 1 = .ok (.invokevirtual 492, 3) := by decide +kernel
theorem d4 : decode yB 4 = .ok (.ifCond (.eq) 12, 3) := by decide +kernel
theorem d7 : decode yB 7 = .ok (.aload_n 0, 1) := by decide +kernel
theorem d8 : decode yB 8 = .ok (.getfield 9, 3) := by decide +kernel
theorem d11 : decode yB 11 = .ok (.iload_n 1, 1) := by decide +kernel
theorem d12 : decode yB 12 = .ok (.invokestatic 495, 3) := by decide +kernel
theorem d15 : decode yB 15 = .ok (.ireturn, 1) := by decide +kernel
def site : List Cond := [.fieldLink "java/lang/String" 9 "java/lang/String" "value" "[B", IsL.tab, LChA.tab] ++ virtW "java/lang/String" 492 "java/lang/String" IsL.yN IsL.yN ++ staticW "java/lang/String" 495 LChA.yN
def tab : Cond := tabOf yN yB 2 (some .char) site
def P (x t : Addr) (V : Cell) (n : Nat) (f : Nat → Int32) (z : Int32) (fm : Value) (i : Nat) (args : Array Value) (s : State) : Prop := args = #[.ref x, .int (Int32.ofNat i)] ∧ Txt x t V 0 n f s ∧ i < n ∧ StaticIs s "java/lang/String" "COMPACT_STRINGS" "Z" (.int z) ∧ ¬ z = 0 ∧ StaticIs s "jdk/internal/util/Preconditions" "SIOOBE_FORMATTER" "Ljava/util/function/BiFunction;" fm ∧ fm.isRef = true
def E (f : Nat → Int32) (i : Nat) (r : Option Value) (s u : State) : Prop := XT.PureE (some (.int (f i))) r s u
/-- charAt(i) of a Latin-1 String of n chars, i < n: f i -/
theorem law (l : Launch) (x t : Addr) (V : Cell) (n : Nat) (f : Nat → Int32) (z : Int32) (fm : Value) (i : Nat) : Law l yN 2 1 3 40 yB 2 (some .char) site (P x t V n f z fm i) (E f i) [] 0 0 := by
  refine Law.of_walk (plainFor_of_name (by decide +kernel)) (by decide +kernel) (by decide +kernel) (by decide) (fun _ _ h => by rw [h.1]; rfl) (fun _ U U' hal hh h => ⟨h.1, h.2.1.mv hal hh, h.2.2.1, h.2.2.2.1.there hal hh, h.2.2.2.2.1, h.2.2.2.2.2.1.there hal hh, h.2.2.2.2.2.2⟩) (fun r U U' V V' h1 hal h2 h => XT.PureE.mv r U U' V V' h1 hal h2 h) ?_
  intro p e s m args below meth c s₁ X0 hexec hbytes hml hret hlk hnm hown hh0 W hP
  obtain ⟨rfl, hx, hi, s1, hz, s3, rf⟩ := hP
  have v31 := hx.2.2.2.1.2.2.2
  have hr := hx.2.2.2.2.2 i hi
  have hx0 := hx.mv X0.warmed.alike hh0
  have c1 : Steps p.tables e below (s₁.setTop (entryFrame m #[.ref x, .int (Int32.ofNat i)] 2)) (s₁.setTop (mkF m 1 #[.val (.ref x), .val (.int (Int32.ofNat i))] [.ref x])) := Steps.trans (entry rfl) (by
    show Steps p.tables e below (s₁.setTop (mkF m 0 #[.val (.ref x), .val (.int (Int32.ofNat i))] [])) _
    refine XS.aloadN X0.here hexec rfl (hb hbytes d0) rfl rfl ?_
    exact Steps.refl _)
  obtain ⟨v2, T2, X2, E2, g2⟩ := X0.callV hexec (IsL.law l x 0 z) hown (wks W (virtW "java/lang/String" 492 "java/lang/String" IsL.yN IsL.yN)) rfl (by decide) (wk W IsL.tab) (W := 0) (Nat.le_of_ble_eq_true rfl) (Nat.le_of_ble_eq_true rfl) (Nat.le_refl _) (Nat.le_refl _) (hx0.1.fc X0.warmed.alike) hx0.1.is (g := (mkF m 1 #[.val (.ref x), .val (.int (Int32.ofNat i))] [.ref x])) rfl (by rw [hml]; rfl) c1 (argsL := []) (rest := []) rfl rfl (by show 2 * 0 + 0 ≤ _; decide) (hb hbytes d1) (⟨rfl, hx0.2.2.1, hx.2.2.2.2.1.cd, s1.there X0.warmed.alike hh0, hz⟩)
  obtain ⟨rfl, q2⟩ := E2
  have hh2 := q2.trans hh0
  have hx2 := hx.mv X2.warmed.alike hh2
  obtain ⟨-, k1, k2⟩ | ⟨k0, -⟩ := hx.2.2.2.2.1
  · have c3 : Steps p.tables e below (s₁.setTop (entryFrame m #[.ref x, .int (Int32.ofNat i)] 2)) (T2.setTop (mkF m 8 #[.val (.ref x), .val (.int (Int32.ofNat i))] [.ref x])) := Steps.trans g2 (by
      refine XS.ifNo X2.here hexec rfl (hb hbytes d4) rfl (i0_eq_f (by decide)) ?_
      refine XS.aloadN X2.here hexec rfl (hb hbytes d7) rfl rfl ?_
      exact Steps.refl _)
    obtain ⟨T4, X4, q4, st4⟩ := X2.hget hexec hown (wk W (.fieldLink "java/lang/String" 9 "java/lang/String" "value" "[B")) hx2.2.1 (g := (mkF m 8 #[.val (.ref x), .val (.int (Int32.ofNat i))] [.ref x])) rfl (rest := []) rfl (hb hbytes d8)
    have hh4 := q4.trans hh2
    have c5 : Steps p.tables e below (s₁.setTop (entryFrame m #[.ref x, .int (Int32.ofNat i)] 2)) (T4.setTop (mkF m 12 #[.val (.ref x), .val (.int (Int32.ofNat i))] [.int (Int32.ofNat i), .ref t])) := (c3.trans (st4 _ (Steps.refl _))).trans (by
      refine XS.iloadN X4.here hexec rfl (hb hbytes d11) rfl ?_
      exact Steps.refl _)
    obtain ⟨v6, T6, X6, E6, g6⟩ := X4.callS hexec (LChA.law l t V i (lo8 (f i)) fm) hown (wks W (staticW "java/lang/String" 495 LChA.yN)) (wk W LChA.tab) (W := 0) (Nat.le_of_ble_eq_true rfl) (Nat.le_of_ble_eq_true rfl) (Nat.le_refl _) (Nat.le_refl _) (g := (mkF m 12 #[.val (.ref x), .val (.int (Int32.ofNat i))] [.int (Int32.ofNat i), .ref t])) rfl (by rw [hml]; rfl) c5 (argsL := [.ref t, .int (Int32.ofNat i)]) (rest := []) rfl rfl (by show 2 * 0 + 0 ≤ _; decide) (hb hbytes d12) (⟨rfl, hx.2.2.2.1.mv X4.warmed.alike hh4, (k2 i hi).1, s3.there X4.warmed.alike hh4, rf⟩)
    obtain ⟨rfl, q6⟩ := E6
    rw [chr8_lo8 hr.1 (k2 i hi).2] at g6
    exact ⟨T6, some (.int (f i)), _, _, _, X6, rfl, rfl, rfl, (fun h => by cases h), ⟨rfl, q6.trans hh4⟩, fun fs hl => Steps.trans g6 (X6.ireturnOut hexec hret (narrow_ch hr.1 hr.2) (Or.inr (Or.inr (Or.inr (Or.inl rfl)))) (hb hbytes d15) hl)⟩
  · exact absurd k0 (by decide)
theorem pays {l : Launch} {R : Room} {p : Program} {e : Env} {below : List Frame} {s : State} {sargs : Array Value} {len W : Nat} (x t : Addr) (V : Cell) (n : Nat) (f : Nat → Int32) (z : Int32) (fm : Value) (i : Nat) (htab : tab.before sargs s = true) (hfr : 4 ≤ R.frames) (hlo : W + 53 ≤ R.locals) :
    Back l R p e below s sargs yN len W (fun A₁ a₁ => A₁.cells + 0 ≤ R.cells ∧ A₁.slots + 0 ≤ R.slots ∧ P x t V n f z fm i a₁ A₁.U) (fun A₁ _ v₁ B₁ => E f i v₁ A₁.U B₁.U ∧ B₁.locs = A₁.locs ++ [] ∧ B₁.cells = A₁.cells + 0 ∧ B₁.slots = A₁.slots + 0) :=
  (law l x t V n f z fm i).pays htab hfr (by omega)
end ChN
end StrChars
namespace StrChars.Road
open Jvm Sem ClassFile Op Lib Jvm.Stand Jvm.Free Jvm.Free.XT
open Jvm.Lib.Cold (StaticIs)
/-- the words of String.charAt(int), the Latin-1 road alone -/
abbrev wordsChN : List Jvm.Cond := [.code ChN.yN ChN.yB 2 (some .char), .initialized ST, .fieldLink ST 9 ST "value" "[B", .fieldLink ST 38 ST "COMPACT_STRINGS" "Z", .fieldLink ST 15 ST "coder" "B", .code IsL.yN IsL.yB 1 (some .boolean), .methodLink ST 492 IsL.yN, .declares IsL.yN, .selects ST IsL.yN IsL.yN, .instanceMethod IsL.yN,
  .methodLink ST 495 LChA.yN, .static LChA.yN, .code LChA.yN LChA.yB 2 (some .char), .initialized "java/lang/StringLatin1", .methodLink "java/lang/StringLatin1" 9 JO.Str_checkIndex.yN, .static JO.Str_checkIndex.yN, .code JO.Str_checkIndex.yN JO.Str_checkIndex.yB 2 none,
  .fieldLink ST 1053 "jdk/internal/util/Preconditions" "SIOOBE_FORMATTER" "Ljava/util/function/BiFunction;", .methodLink ST 1059 JC.PreCheck.yN, .static JC.PreCheck.yN, .code JC.PreCheck.yN JC.PreCheck.yB 3 (some .int), .initialized "jdk/internal/util/Preconditions"]
theorem tabChN_of {a : Array Value} {s : State} (h : ∀ w ∈ wordsChN, w.before a s = true) : ChN.tab.before a s = true := by
  have hp : JC.PreCheck.tab.before a s = true := unparts (wk h (.code JC.PreCheck.yN JC.PreCheck.yB 3 (some .int))) (wks h (.initialized JC.PreCheck.yN.cls :: JC.PreCheck.site))
  have qk := consq hp h
  have hk : JO.Str_checkIndex.tab.before a s = true := unparts (wk qk (.code JO.Str_checkIndex.yN JO.Str_checkIndex.yB 2 none)) (wks qk (.initialized JO.Str_checkIndex.yN.cls :: JO.Str_checkIndex.site))
  have ql := consq hk h
  have hl : LChA.tab.before a s = true := unparts (wk ql (.code LChA.yN LChA.yB 2 (some .char))) (wks ql (.initialized LChA.yN.cls :: LChA.site))
  have hi : IsL.tab.before a s = true := unparts (wk h (.code IsL.yN IsL.yB 1 (some .boolean))) (wks h (.initialized IsL.yN.cls :: IsL.site))
  have q := consq hi (consq hl h)
  exact unparts (wk q (.code ChN.yN ChN.yB 2 (some .char))) (wks q (.initialized ChN.yN.cls :: ChN.site))
theorem movedChN {Z s : State} {a0 args : Array Value} (hZ : Z.Warmed39 s.vm) (hw : ∀ d ∈ wordsChN, d.before a0 Z = true) : ∀ d ∈ wordsChN, d.before args s = true := fun d hd => by
  have t : ∀ d ∈ wordsChN, (d.onTables && d.keepsFace) = true := by decide +kernel
  exact RoadKit.mv hZ (hw d hd) (t d hd)
/-- **charAt(i) OF A LATIN-1 STRING**, i < n: the char -/
theorem chN {p : Program} {l : Launch} {e : Env} {R : Room} {s : State} {args : Array Value} {below : List Frame} {len W : Nat} {Z : State} {a0 : Array Value} {h : Heap} (hZ : Z.Warmed39 s.vm) (hw : ∀ d ∈ wordsChN, d.before a0 Z = true) {kI : Nat} (wi : (Jvm.Cond.instantiable ST kI).before a0 Z = true)
    {x t : Addr} {kb : ClassId} {cs : List Int32} {N2 z : Int32} {vs : List Value} {fm : Value} {i : Nat} {j : Int32} (E : RoadKit.Exa Z h x ST) (V : RoadKit.Fld Z h x ST "value" "[B" (.ref t)) (C : RoadKit.Fld Z h x ST "coder" "B" (.int 0)) (K : RoadKit.Arv Z h t kb .byte N2 vs (.int 0)) (hc : CodA cs 0 N2 vs) (hb : ∀ c ∈ cs, ¬ c < 0 ∧ ¬ (65535 : Int32) < c)
    (S : RoadKit.Sta Z h ST "COMPACT_STRINGS" "Z" (.int z)) (hz : ¬ z = 0) (F : RoadKit.Sta Z h "jdk/internal/util/Preconditions" "SIOOBE_FORMATTER" "Ljava/util/function/BiFunction;" fm) (rf : fm.isRef = true) (l2 : cs.length ≤ 4000) (hi : i < cs.length) (hj : j = Int32.ofNat i) (hfr : 4 ≤ R.frames) (hlo : W + 53 ≤ R.locals) :
    Back l R p e below s args (⟨"java/lang/String", "charAt", "(I)C"⟩ : MethodName) len W (fun P a => a = #[.ref x, .int j] ∧ P.U.heap = h ∧ P.cells + 0 ≤ R.cells ∧ P.slots + 0 ≤ R.slots)
      (fun P _ v B => ∃ L, (v = some (.int (cs.getD i 0)) ∧ L = [] ∧ B.U.heap = h) ∧ B.locs = P.locs ++ L ∧ B.cells = P.cells + 0 ∧ B.slots = P.slots + 0) := by
  subst hj
  intro m meth c P g ig mk a X hg hsize hdg hW hn hp'
  obtain ⟨rfl, rfl, r1, r2⟩ := hp'
  have al : Z.vm.Alike P.U.vm := hZ.alike.trans X.warmed.alike
  obtain ⟨A, hx⟩ := txt_of wi al E V C K hc hb l2
  obtain ⟨v, B, X', ⟨⟨hv, hh⟩, hl, hk, hs⟩, st⟩ := ChN.pays x t A cs.length (fun j => cs.getD j 0) z fm i (tabChN_of (movedChN hZ hw)) hfr hlo m meth c P g ig mk _ X hg hsize hdg hW hn ⟨r1, r2, rfl, hx, hi, sta_is al S, hz, sta_is al F, rf⟩
  exact ⟨v, B, X', ⟨[], ⟨hv, rfl, hh⟩, hl, hk, hs⟩, st⟩
/-- what backV says of its String, as the contracts of this text ask it: cs's low bytes, coder 0 -/
theorem codOf {cs : List Int32} {n : Nat} (hn : cs.length = n) (hb : ∀ c ∈ cs, ¬ 255 < c) : CodA cs 0 (Int32.ofNat n) ((cs.map lo8).map Value.int) := Or.inl ⟨rfl, by rw [hn], by simp [List.map_map, Function.comp_def], hb⟩
end StrChars.Road
end Jvm.Pilot.@@N@@
namespace Jvm.OwnWp
open Sem ClassFile Op Lib Jvm.Stand Jvm.Free Jvm.LawKit Jvm.RoadKit
section Own
variable {p : Program} {l : Launch} {e : Env} {R : Room} {s : State} {m : MethodId} {args : Array Value} {below : List Frame} {meth : Method} {c : Code} {T T' : State} {locs : List Loc} {cells slots : Nat} {kc ks : Nat} {Q : Option Value → Heap → List Loc → Prop} {g g' : JFrame}
/-- from T with the frame g on top the invocation returns, and Q holds of what it leaves -/
def Go (p : Program) (e : Env) (below : List Frame) (s : State) (kc ks : Nat) (Q : Option Value → Heap → List Loc → Prop) (T : State) (g : JFrame) : Prop :=
  ∃ s₂ o, Steps p.tables e below (T.setTop g) s₂ ∧ s₂.status = .running ∧ Ended s₂ below o ∧ ∃ v L, o = .returned v ∧ Q v s₂.heap L ∧ FrameEnd s o s₂ L kc ks
theorem Go.step (st : ∀ t, Steps p.tables e below (T'.setTop g') t → Steps p.tables e below (T.setTop g) t) (k : Go p e below s kc ks Q T' g') : Go p e below s kc ks Q T g := by
  obtain ⟨s₂, o, h, r⟩ := k
  exact ⟨s₂, o, st _ h, r⟩
theorem Go.cast (q : g = g') (k : Go p e below s kc ks Q T g') : Go p e below s kc ks Q T g := q ▸ k
theorem Go.weak {Q' : Option Value → Heap → List Loc → Prop} (k : Go p e below s kc ks Q' T g) (h : ∀ v hp L, Q' v hp L → Q v hp L) : Go p e below s kc ks Q T g := by
  obtain ⟨s₂, o, a, b, c, v, L, d, q, f⟩ := k
  exact ⟨s₂, o, a, b, c, v, L, d, h _ _ _ q, f⟩
theorem Go.ret (X : Stand p l e R s m args below meth c T locs cells slots) (hx : p.tables.exec = Jvm.exec) (hlk : meth.locks = false) {pc : Nat} {Ls : Array Slot} {w : Value} {t : FieldType} {i : Instr} {rest : List Value} (hret : meth.sig.returnType = some t) (hn : narrow t w = w)
    (hi : (i = .ireturn ∧ (t = .int ∨ t = .boolean ∨ t = .byte ∨ t = .char ∨ t = .short) ∧ ∃ z, w = .int z) ∨ (i = .lreturn ∧ t = .long ∧ ∃ z, w = .long z) ∨ (i = .dreturn ∧ t = .double ∧ ∃ z, w = .double z) ∨ (i = .freturn ∧ t = .float ∧ ∃ z, w = .float z) ∨ (i = .areturn ∧ t.isReference = true ∧ w.isRef = true))
    (hd : decode c.code pc = .ok (i, 1)) (hq : Q (some w) T.heap locs) (hc : cells ≤ kc) (hs : slots ≤ ks) : Go p e below s kc ks Q T (mkF m pc Ls (w :: rest)) := by
  obtain ⟨fs, hr, hrun, hended, hW, hsame⟩ := X.leave (v := some w) (fun h => by rw [hret] at h; cases h) hlk
  exact ⟨_, _, retOut X hx hret hn hi hd hr, hrun, hended, _, _, rfl, hq, ⟨_, rfl⟩, hW, hsame.mono hc hs⟩
theorem Go.retV (X : Stand p l e R s m args below meth c T locs cells slots) (hx : p.tables.exec = Jvm.exec) (hlk : meth.locks = false) {pc : Nat} {Ls : Array Slot} (hret : meth.sig.returnType = none)
    (hd : decode c.code pc = .ok (.return_, 1)) (hq : Q none T.heap locs) (hc : cells ≤ kc) (hs : slots ≤ ks) : Go p e below s kc ks Q T (mkF m pc Ls []) := by
  obtain ⟨fs, hr, hrun, hended, hW, hsame⟩ := X.leave (v := none) (fun _ => rfl) hlk
  exact ⟨_, _, X.returnOut hx hret hd hr, hrun, hended, _, _, rfl, hq, ⟨_, rfl⟩, hW, hsame.mono hc hs⟩
/-- the wide end: a String constant may have been resolved or interned; the booked constants of EL stand -/
def GoH (p : Program) (e : Env) (below : List Frame) (s : State) (kc ks : Nat) (Z : State) (EL : List (String × Nat)) (h0 : Heap) (Q : Option Value → Heap → List Loc → Prop) (T : State) (g : JFrame) : Prop :=
  ∃ s₂ o, Steps p.tables e below (T.setTop g) s₂ ∧ s₂.status = .running ∧ Ended s₂ below o ∧ ∃ v L, o = .returned v ∧ Q v s₂.heap L ∧ CHr Z EL s.vm h0 s₂.vm s₂.heap ∧ ReturnedEndW s o s₂ L kc ks
variable {Z : State} {EL : List (String × Nat)} {h0 : Heap} {a0 : Array Value} {vm0 : Vm} {k0 : Nat}
theorem GoH.step (st : ∀ t, Steps p.tables e below (T'.setTop g') t → Steps p.tables e below (T.setTop g) t) (k : GoH p e below s kc ks Z EL h0 Q T' g') : GoH p e below s kc ks Z EL h0 Q T g := by
  obtain ⟨s₂, o, h, r⟩ := k
  exact ⟨s₂, o, st _ h, r⟩
theorem GoH.cast (q : g = g') (k : GoH p e below s kc ks Z EL h0 Q T g') : GoH p e below s kc ks Z EL h0 Q T g := q ▸ k
theorem retEndW_mono {t : State} {o : Outcome} {L : List Loc} {k n k' n' : Nat} (h : ReturnedEndW s o t L k n) (h1 : k ≤ k') (h2 : n ≤ n') : ReturnedEndW s o t L k' n' := ⟨h.1, h.2.1, h.2.2.1, h.2.2.2.mono h1 h2⟩
theorem GoH.ret (X : Stand p l e R (s.setVm vm0) m args below meth c T locs cells slots) (hx : p.tables.exec = Jvm.exec) (hlk : meth.locks = false) (hS : s.Since vm0 k0) (hk : k0 ≤ T.heap.size) (hZ : Z.Warmed39 vm0) (hEL : EW Z a0 EL) (hC : CHr Z EL s.vm h0 vm0 T.heap)
    {pc : Nat} {Ls : Array Slot} {w : Value} {t : FieldType} {i : Instr} {rest : List Value} (hret : meth.sig.returnType = some t) (hn : narrow t w = w)
    (hi : (i = .ireturn ∧ (t = .int ∨ t = .boolean ∨ t = .byte ∨ t = .char ∨ t = .short) ∧ ∃ z, w = .int z) ∨ (i = .lreturn ∧ t = .long ∧ ∃ z, w = .long z) ∨ (i = .dreturn ∧ t = .double ∧ ∃ z, w = .double z) ∨ (i = .freturn ∧ t = .float ∧ ∃ z, w = .float z) ∨ (i = .areturn ∧ t.isReference = true ∧ w.isRef = true))
    (hd : decode c.code pc = .ok (i, 1)) (hq : Q (some w) T.heap locs) (hc : cells ≤ kc) (hs : slots ≤ ks) : GoH p e below s kc ks Z EL h0 Q T (mkF m pc Ls (w :: rest)) := by
  have hC' : CHr Z EL s.vm h0 T.vm T.heap := hC.trans (CHv.at X hZ hEL hC.1)
  obtain ⟨fs, hr, hrun, hended, hW⟩ := X.leaveW hS hk (v := some w) (fun h => by rw [hret] at h; cases h) hlk
  exact ⟨_, _, retOut X hx hret hn hi hd hr, hrun, hended, _, _, rfl, hq, hC', retEndW_mono hW hc hs⟩
theorem GoH.retV (X : Stand p l e R (s.setVm vm0) m args below meth c T locs cells slots) (hx : p.tables.exec = Jvm.exec) (hlk : meth.locks = false) (hS : s.Since vm0 k0) (hk : k0 ≤ T.heap.size) (hZ : Z.Warmed39 vm0) (hEL : EW Z a0 EL) (hC : CHr Z EL s.vm h0 vm0 T.heap)
    {pc : Nat} {Ls : Array Slot} (hret : meth.sig.returnType = none) (hd : decode c.code pc = .ok (.return_, 1)) (hq : Q none T.heap locs) (hc : cells ≤ kc) (hs : slots ≤ ks) : GoH p e below s kc ks Z EL h0 Q T (mkF m pc Ls []) := by
  have hC' : CHr Z EL s.vm h0 T.vm T.heap := hC.trans (CHv.at X hZ hEL hC.1)
  obtain ⟨fs, hr, hrun, hended, hW⟩ := X.leaveW hS hk (v := none) (fun _ => rfl) hlk
  exact ⟨_, _, X.returnOut hx hret hd hr, hrun, hended, _, _, rfl, hq, hC', retEndW_mono hW hc hs⟩
theorem nEW : EW Z a0 [] := EW.nil
theorem nCH : CHv Z [] vm0 h0 := fun p hp => nomatch hp
theorem own_ne_arv {Z : State} {h : Heap} {a b : Addr} {C : String} {a0 : Array Value} {k : Nat} {kk : ClassId} {ty : FieldType} {z : Int32} {vs : List Value} {d : Value} (E : Exa Z h a C) (wi : (Cond.instantiable C k).before a0 Z = true) (V : Arv Z h b kk ty z vs d) : a ≠ b := by
  obtain ⟨c, A, -⟩ := V
  exact ne_arr E wi A
theorem nar01 {x : Int32} (h : x = 0 ∨ x = 1) : narrow .boolean (.int x) = .int x := by rcases h with rfl | rfl <;> rfl
end Own
end Jvm.OwnWp
namespace Jvm.Pilot.@@N@@
open Jvm Jvm.ClassFile Sem Op Lib Jvm.Free Jvm.Stand Jvm.LawKit Jvm.RoadKit Jvm.OwnWp Bundle Jvm.Pilot.@@N@@.Jvm.D
theorem own_c255 (x : Int32) : (¬ ((x &&& (255 : Int32)).toUInt32.toUInt16.toUInt32.toInt32) < 0 ∧ ¬ (255 : Int32) < ((x &&& (255 : Int32)).toUInt32.toUInt16.toUInt32.toInt32)) ∧ nar .char ((x &&& (255 : Int32)).toUInt32.toUInt16.toUInt32.toInt32) = ((x &&& (255 : Int32)).toUInt32.toUInt16.toUInt32.toInt32) := by
  have t : ∀ k : Fin 256, (¬ ((Int32.ofNat k.val).toUInt32.toUInt16.toUInt32.toInt32) < 0 ∧ ¬ (255 : Int32) < ((Int32.ofNat k.val).toUInt32.toUInt16.toUInt32.toInt32)) ∧ nar .char ((Int32.ofNat k.val).toUInt32.toUInt16.toUInt32.toInt32) = ((Int32.ofNat k.val).toUInt32.toUInt16.toUInt32.toInt32) := by decide +kernel
  have h : (x &&& 255).toBitVec.toNat < 256 := by
    simp only [Int32.toBitVec_and, BitVec.toNat_and]
    exact Nat.lt_succ_of_le Nat.and_le_right
  have e : (x &&& 255) = Int32.ofNat (x &&& 255).toBitVec.toNat := by
    apply Int32.toBitVec_inj.mp
    show _ = BitVec.ofNat 32 _
    rw [BitVec.ofNat_toNat]; simp
  rw [e]
  exact t ⟨_, h⟩
theorem own_up (cs : List Int32) (h : ∀ c ∈ cs, ¬ c < 0 ∧ ¬ (255 : Int32) < c) : ∀ c ∈ cs, ¬ c < 0 ∧ ¬ (65535 : Int32) < c := fun c hc => ⟨(h c hc).1, fun q => (h c hc).2 (by rw [Int32.lt_iff_toInt_lt] at q ⊢; have e1 : (65535 : Int32).toInt = 65535 := rfl; have e2 : (255 : Int32).toInt = 255 := rfl; omega)⟩
theorem own_SA {Z : State} {a0 : Array Value} (hw : ∀ d ∈ tables_1, d.before a0 Z = true) : ∀ d ∈ Bundle.stringAtoms, d.before a0 Z = true := fun d hd => hw d ((by decide +kernel : ∀ d ∈ Bundle.stringAtoms, d ∈ tables_1) d hd)
abbrev own_EL : List (String × Nat) := []
theorem own_EW {Z : State} {a0 : Array Value} (hw : ∀ d ∈ tables_1, d.before a0 Z = true) : EW Z a0 own_EL := EW.nil
theorem own_words {Z : State} {a0 : Array Value} (hw : ∀ d ∈ tables_1, d.before a0 Z = true) : ∀ d ∈ StrChars.Road.words, d.before a0 Z = true := fun d hd => hw d ((by decide +kernel : ∀ d ∈ StrChars.Road.words, d ∈ tables_1) d hd)
theorem own_wordsLen {Z : State} {a0 : Array Value} (hw : ∀ d ∈ tables_1, d.before a0 Z = true) : ∀ d ∈ StrChars.Road.wordsLen, d.before a0 Z = true := fun d hd => hw d ((by decide +kernel : ∀ d ∈ StrChars.Road.wordsLen, d ∈ tables_1) d hd)
theorem own_wordsChN {Z : State} {a0 : Array Value} (hw : ∀ d ∈ tables_1, d.before a0 Z = true) : ∀ d ∈ StrChars.Road.wordsChN, d.before a0 Z = true := fun d hd => hw d ((by decide +kernel : ∀ d ∈ StrChars.Road.wordsChN, d ∈ tables_1) d hd)
theorem own_eqint {args : Array Value} {first s : State} {o : Option Outcome} {idx : List Nat} {t : Term} {k : Int32} (h : (Jvm.Cond.eq t (.int k)).value args first o s idx = some true) : t.eval args first o idx s = some (.int k) := by
  simp only [Cond.value, Term.eval] at h
  cases ht : t.eval args first o idx s with
  | none => simp [ht] at h
  | some x => cases x <;> simp [ht] at h ⊢; exact h
theorem own_n3 (b n : Int32) (hn : (1 : Int32) + (b &&& (2147483647 : Int32)) % (3 : Int32) = n) (h1 : ¬ n = 1) (h2 : ¬ n = 2) : n = 3 := by
  have h := c_and b 2147483647 (by decide)
  have e := (c_irem (b &&& (2147483647 : Int32)) 3 3 (by decide)).1 h.1
  have k1 : (1 : Int32).toInt = 1 := by decide
  have g : ((1 : Int32) + (b &&& (2147483647 : Int32)) % (3 : Int32)).toInt = 1 + (b &&& (2147483647 : Int32)).toInt % 3 := by
    rw [XT.add32 (by unfold XT.fits32; rw [e, k1]; omega), e, k1]
  rw [hn] at g
  have t : ∀ z : Int, z = n.toInt → (z = 1 ∨ z = 2 ∨ z = 3) → n = 3 := fun z hz hc => by
    rcases hc with rfl | rfl | rfl
    · exact absurd (Int32.toInt_inj.mp (by rw [← hz]; decide)) h1
    · exact absurd (Int32.toInt_inj.mp (by rw [← hz]; decide)) h2
    · exact Int32.toInt_inj.mp (by rw [← hz]; decide)
  exact t _ rfl (by omega)
theorem own_port (b : Int32) : ¬ ((1 : Int32) + (b &&& (2147483647 : Int32)) % (65535 : Int32)) < 1 ∧ ¬ (65535 : Int32) < ((1 : Int32) + (b &&& (2147483647 : Int32)) % (65535 : Int32)) := by
  have h := c_and b 2147483647 (by decide)
  have e := (c_irem (b &&& (2147483647 : Int32)) 65535 65535 (by decide)).1 h.1
  have k1 : (1 : Int32).toInt = 1 := by decide
  have k2 : (65535 : Int32).toInt = 65535 := by decide
  have g : ((1 : Int32) + (b &&& (2147483647 : Int32)) % (65535 : Int32)).toInt = 1 + (b &&& (2147483647 : Int32)).toInt % 65535 := by
    rw [XT.add32 (by unfold XT.fits32; rw [e, k1]; omega), e, k1]
  rw [Int32.lt_iff_toInt_lt, Int32.lt_iff_toInt_lt, g, k1, k2]
  omega
theorem own_arr0 {args : Array Value} {s : State} {t : Term} {a : Addr} {ty : FieldType} (hf : Fit s) (ev : t.eval args s none [] s = some (.ref a)) (hx : (Cond.arrayOf t ty).value args s none s [] = some true) (hl : (Term.length t).eval args s none [] s = some (.int 0)) : ∃ k : ClassId, Arv s s.heap a k ty (0 : Int32) [] .null := by
  obtain ⟨c, A⟩ := Arr.start ev hx
  obtain ⟨a', cell, e1, e2, e3⟩ := Term.length_spec hl
  cases ev.symm.trans e1
  cases (A.fin (Vm.Alike.refl _)).symm.trans e2
  have q : c.slots.size < 2 ^ 31 := SBG.length_lt ev e2 hl
  have e : c.slots.size.toInt32 = 0 := by injection e3 with e3; exact e3.symm
  exact ⟨c.cls, Arv.start hf A q e (by decide) rfl trivial⟩
theorem pn_0 : plainName "java/util/Objects" = true := by first | (simp [plainName, overriddenIn]; done) | decide +kernel
theorem ef_rmRN (m : MethodId) (a1 : Addr) (a2 : Addr) : entryFrame m #[(.ref a1), (.ref a2)] 2 = mkF m 0 #[.val (.ref a1), .val (.ref a2)] [] := by first | (simp [entryFrame, mkF, argsToLocals, Value.category]; done) | rfl
def QRN (Z : State) (a1 : Addr) (a2 : Addr) (h0 : Heap) (n0 : Nat) (v : Option Value) (h : Heap) (L : List Loc) : Prop := v = some (.ref a1) ∧ Fr n0 L ∧ h = h0
theorem d8_0 : decode jdk_31_method_11_code 0 = .ok (.aload_n 0, 1) := by decide +kernel
theorem d8_1 : decode jdk_31_method_11_code 1 = .ok (.ifnonnull 12, 3) := by decide +kernel
theorem d8_13 : decode jdk_31_method_11_code 13 = .ok (.aload_n 0, 1) := by decide +kernel
theorem d8_14 : decode jdk_31_method_11_code 14 = .ok (.areturn, 1) := by decide +kernel
set_option maxRecDepth 65536 in
set_option maxHeartbeats 40000000 in
theorem rmRN (l : Launch) (Z : State) (a0 : Array Value) (hw : ∀ d ∈ tables_1, d.before a0 Z = true) (ws : List Jvm.Cond) (a1 : Addr) (a2 : Addr) (h0 : Heap) (n0 : Nat) (Z0 : n0 ≤ h0.size) :
    MetFree l (⟨"java/util/Objects", "requireNonNull", "(Ljava/lang/Object;Ljava/lang/String;)Ljava/lang/Object;"⟩ : MethodName) (head1 (Jvm.Cond.code (⟨"java/util/Objects", "requireNonNull", "(Ljava/lang/Object;Ljava/lang/String;)Ljava/lang/Object;"⟩ : MethodName) jdk_31_method_11_code 2 (some (.object "java/lang/Object")) :: ws) ({ frames := 0, cells := 0, slots := 0, locals := 0 } : Room)) (fun a U => a = #[(.ref a1), (.ref a2)] ∧ Z.Warmed39 U.vm ∧ U.heap = h0) (fun _ _ _ _ _ => True) (fun _ U o U' => ∃ v L, o = .returned v ∧ QRN Z a1 a2  h0 n0 v U'.heap L ∧ FrameEnd U o U' L ({ frames := 0, cells := 0, slots := 0, locals := 0 } : Room).cells ({ frames := 0, cells := 0, slots := 0, locals := 0 } : Room).slots) := by
  refine MetFree.of_bodySF (plainFor_of_name pn_0) hisR ?_
  intro p e s m args below meth c s₁ Bd hml0 hP hK
  obtain ⟨rfl, hZ, hh⟩ := hP
  have hx := Bd.exec
  have hby := Bd.bytes
  have hlk := BodyLoose.notSynchronized Bd
  have hml : c.maxLocals = 2 := hml0
  have hret := Bd.returns
  have hown : s.vm.findClass "java/util/Objects" = some m.cls := findClass_of_methodNamed Bd.named
  have hnm := (name_of_methodNamed Bd.named Bd.method).1
  have X0 : Stand p l e ({ frames := 0, cells := 0, slots := 0, locals := 0 } : Room) s m #[(.ref a1), (.ref a2)] below meth c s₁ [] 0 0 := Stand.of_body Bd
  have e0 : s₁.heap = h0 := by rw [← hh, Bd.state]; rfl
  have N0 := Fr.nil n0
  show Go p e below s ({ frames := 0, cells := 0, slots := 0, locals := 0 } : Room).cells ({ frames := 0, cells := 0, slots := 0, locals := 0 } : Room).slots (QRN Z a1 a2  h0 n0) s₁ (entryFrame m #[(.ref a1), (.ref a2)] 2)
  refine Go.cast (ef_rmRN m a1 a2) ?_
  show Go _ _ _ _ _ _ _ s₁ (mkF m 0 #[.val (.ref a1), .val (.ref a2)] [])
  refine Go.step (fun t_ k_ => XS.aloadN X0.here hx rfl (hb hby d8_0) rfl rfl k_) ?_
  show Go _ _ _ _ _ _ _ s₁ (mkF m 1 #[.val (.ref a1), .val (.ref a2)] [(.ref a1)])
  refine Go.step (fun t_ k_ => XT.ifnonnullYes X0.here hx rfl (pc0 := 1) (pc' := 13) rfl (hb hby d8_1) rfl (by decide) (by decide) k_) ?_
  show Go _ _ _ _ _ _ _ s₁ (mkF m 13 #[.val (.ref a1), .val (.ref a2)] [])
  refine Go.step (fun t_ k_ => XS.aloadN X0.here hx rfl (hb hby d8_13) rfl rfl k_) ?_
  show Go _ _ _ _ _ _ _ s₁ (mkF m 14 #[.val (.ref a1), .val (.ref a2)] [(.ref a1)])
  refine Go.ret X0 hx hlk hret rfl (Or.inr (Or.inr (Or.inr (Or.inr ⟨rfl, rfl, rfl⟩)))) (hb hby d8_14) ?_ (by decide) (by decide)
  show QRN Z _ _ _ _ _ s₁.heap _
  exact ⟨rfl, N0, e0⟩
theorem pn_1 : plainName "java/lang/String" = true := by first | (simp [plainName, overriddenIn]; done) | decide +kernel
theorem ef_rmEm (m : MethodId) (a1 : Addr) : entryFrame m #[(.ref a1)] 1 = mkF m 0 #[.val (.ref a1)] [] := by first | (simp [entryFrame, mkF, argsToLocals, Value.category]; done) | rfl
def QEm (Z : State) (a1 : Addr) (t : Addr) (kb : ClassId) (N : Int32) (vs : List Value) (h0 : Heap) (n0 : Nat) (v : Option Value) (h : Heap) (L : List Loc) : Prop := v = some (.int (0 : Int32)) ∧ Fr n0 L ∧ h = h0
theorem d9_0 : decode jdk_42_method_55_code 0 = .ok (.aload_n 0, 1) := by decide +kernel
theorem d9_1 : decode jdk_42_method_55_code 1 = .ok (.getfield 9, 3) := by decide +kernel
theorem d9_4 : decode jdk_42_method_55_code 4 = .ok (.arraylength, 1) := by decide +kernel
theorem d9_5 : decode jdk_42_method_55_code 5 = .ok (.ifCond .ne 7, 3) := by decide +kernel
theorem d9_12 : decode jdk_42_method_55_code 12 = .ok (.iconst 0, 1) := by decide +kernel
theorem d9_13 : decode jdk_42_method_55_code 13 = .ok (.ireturn, 1) := by decide +kernel
set_option maxRecDepth 65536 in
set_option maxHeartbeats 40000000 in
theorem rmEm (l : Launch) (Z : State) (a0 : Array Value) (hw : ∀ d ∈ tables_1, d.before a0 Z = true) (ws : List Jvm.Cond) (a1 : Addr) (t : Addr) (kb : ClassId) (N : Int32) (vs : List Value) (h0 : Heap) (n0 : Nat) (Z0 : n0 ≤ h0.size) (PF1 : Fld Z h0 a1 "java/lang/String" "value" "[B" (.ref t)) (PA1 : Arv Z h0 t kb .byte N vs (.int 0)) (hN : ¬ N = (0 : Int32)) :
    MetFree l (⟨"java/lang/String", "isEmpty", "()Z"⟩ : MethodName) (head1 (Jvm.Cond.code (⟨"java/lang/String", "isEmpty", "()Z"⟩ : MethodName) jdk_42_method_55_code 1 (some .boolean) :: ws) ({ frames := 0, cells := 0, slots := 0, locals := 0 } : Room)) (fun a U => a = #[(.ref a1)] ∧ Z.Warmed39 U.vm ∧ U.heap = h0) (fun _ _ _ _ _ => True) (fun _ U o U' => ∃ v L, o = .returned v ∧ QEm Z a1 t kb N vs h0 n0 v U'.heap L ∧ FrameEnd U o U' L ({ frames := 0, cells := 0, slots := 0, locals := 0 } : Room).cells ({ frames := 0, cells := 0, slots := 0, locals := 0 } : Room).slots) := by
  refine MetFree.of_bodySF (plainFor_of_name pn_1) hisR ?_
  intro p e s m args below meth c s₁ Bd hml0 hP hK
  obtain ⟨rfl, hZ, hh⟩ := hP
  have hx := Bd.exec
  have hby := Bd.bytes
  have hlk := BodyLoose.notSynchronized Bd
  have hml : c.maxLocals = 1 := hml0
  have hret := Bd.returns
  have hown : s.vm.findClass "java/lang/String" = some m.cls := findClass_of_methodNamed Bd.named
  have hnm := (name_of_methodNamed Bd.named Bd.method).1
  have X0 : Stand p l e ({ frames := 0, cells := 0, slots := 0, locals := 0 } : Room) s m #[(.ref a1)] below meth c s₁ [] 0 0 := Stand.of_body Bd
  have e0 : s₁.heap = h0 := by rw [← hh, Bd.state]; rfl
  have N0 := Fr.nil n0
  show Go p e below s ({ frames := 0, cells := 0, slots := 0, locals := 0 } : Room).cells ({ frames := 0, cells := 0, slots := 0, locals := 0 } : Room).slots (QEm Z a1 t kb N vs h0 n0) s₁ (entryFrame m #[(.ref a1)] 1)
  refine Go.cast (ef_rmEm m a1) ?_
  show Go _ _ _ _ _ _ _ s₁ (mkF m 0 #[.val (.ref a1)] [])
  refine Go.step (fun t_ k_ => XS.aloadN X0.here hx rfl (hb hby d9_0) rfl rfl k_) ?_
  show Go _ _ _ _ _ _ _ s₁ (mkF m 1 #[.val (.ref a1)] [(.ref a1)])
  obtain ⟨T1, X1, e1, st1⟩ := getF X0 hx hZ hown (host := "") (Or.inl (hw _ (List.mem_of_getElem? (i := 29) rfl))) Via.refl e0 PF1 (g := (mkF m 1 #[.val (.ref a1)] [(.ref a1)])) rfl rfl (hb hby d9_1)
  refine Go.step st1 ?_
  show Go _ _ _ _ _ _ _ T1 (mkF m 4 #[.val (.ref a1)] [(.ref t)])
  obtain ⟨c2, Ar2, q2, S2, M2, H2, U2⟩ := id PA1
  refine Go.step (fun t_ k_ => X1.arraylength hx (by rw [e1]; exact Ar2.1) (State.isArrayOf_alike hZ.alike Ar2.2.1) (g := (mkF m 4 #[.val (.ref a1)] [(.ref t)])) rfl rfl (hb hby d9_4) _ k_) ?_
  rw [len_of S2 M2]
  show Go _ _ _ _ _ _ _ T1 (mkF m 5 #[.val (.ref a1)] [(.int N)])
  have hb5_3 : ¬ (N = (0 : Int32)) := by exact hN
  refine Go.step (fun t_ k_ => XS.ifYes X1.here hx rfl (pc0 := 5) (pc' := 12) rfl (hb hby d9_5) rfl (XT.i0_ne_t hb5_3) (by decide) (by decide) k_) ?_
  show Go _ _ _ _ _ _ _ T1 (mkF m 12 #[.val (.ref a1)] [])
  refine Go.step (fun t_ k_ => XS.iconst X1.here hx rfl (hb hby d9_12) k_) ?_
  show Go _ _ _ _ _ _ _ T1 (mkF m 13 #[.val (.ref a1)] [(.int (0 : Int32))])
  refine Go.ret X1 hx hlk hret rfl (Or.inl ⟨rfl, Or.inr (Or.inl rfl), _, rfl⟩) (hb hby d9_13) ?_ (by decide) (by decide)
  show QEm Z _ _ _ _ _ _ _ _ T1.heap _
  exact ⟨rfl, N0, e1⟩
theorem pn_2 : plainName "com/example/majority_lease/majoritylease/redis/RedisNode" = true := by first | (simp [plainName, overriddenIn]; done) | decide +kernel
theorem ef_rmNI (m : MethodId) (a1 : Addr) (a2 : Addr) (p3 : Int32) : entryFrame m #[(.ref a1), (.ref a2), (.int p3), .null, .null, .null] 6 = mkF m 0 #[.val (.ref a1), .val (.ref a2), .val (.int p3), .val .null, .val .null, .val .null] [] := by first | (simp [entryFrame, mkF, argsToLocals, Value.category]; done) | rfl
def QNI (Z : State) (a1 : Addr) (a2 : Addr) (p3 : Int32) (h0 : Heap) (n0 : Nat) (v : Option Value) (h : Heap) (L : List Loc) : Prop := v = none ∧ Fr n0 L ∧ Keep h0 h [a1] ∧ Exa Z h a1 "com/example/majority_lease/majoritylease/redis/RedisNode" ∧ Fld Z h a1 "com/example/majority_lease/majoritylease/redis/RedisNode" "host" "Ljava/lang/String;" (.ref a2) ∧ Fld Z h a1 "com/example/majority_lease/majoritylease/redis/RedisNode" "port" "I" (.int p3) ∧ Fld Z h a1 "com/example/majority_lease/majoritylease/redis/RedisNode" "password" "Ljava/lang/String;" .null ∧ Fld Z h a1 "com/example/majority_lease/majoritylease/redis/RedisNode" "tls" "Ljavax/net/ssl/SSLContext;" .null
theorem d10_0 : decode prog_9_method_1_code 0 = .ok (.aload_n 0, 1) := by decide +kernel
theorem d10_1 : decode prog_9_method_1_code 1 = .ok (.invokespecial 1, 3) := by decide +kernel
theorem d10_4 : decode prog_9_method_1_code 4 = .ok (.aload_n 0, 1) := by decide +kernel
theorem d10_5 : decode prog_9_method_1_code 5 = .ok (.aload_n 1, 1) := by decide +kernel
theorem d10_6 : decode prog_9_method_1_code 6 = .ok (.putfield 7, 3) := by decide +kernel
theorem d10_9 : decode prog_9_method_1_code 9 = .ok (.aload_n 0, 1) := by decide +kernel
theorem d10_10 : decode prog_9_method_1_code 10 = .ok (.iload_n 2, 1) := by decide +kernel
theorem d10_11 : decode prog_9_method_1_code 11 = .ok (.putfield 13, 3) := by decide +kernel
theorem d10_14 : decode prog_9_method_1_code 14 = .ok (.aload_n 0, 1) := by decide +kernel
theorem d10_15 : decode prog_9_method_1_code 15 = .ok (.aload_n 3, 1) := by decide +kernel
theorem d10_16 : decode prog_9_method_1_code 16 = .ok (.putfield 17, 3) := by decide +kernel
theorem d10_19 : decode prog_9_method_1_code 19 = .ok (.aload_n 0, 1) := by decide +kernel
theorem d10_20 : decode prog_9_method_1_code 20 = .ok (.aload 4, 2) := by decide +kernel
theorem d10_22 : decode prog_9_method_1_code 22 = .ok (.putfield 20, 3) := by decide +kernel
theorem d10_25 : decode prog_9_method_1_code 25 = .ok (.aload_n 0, 1) := by decide +kernel
theorem d10_26 : decode prog_9_method_1_code 26 = .ok (.aload 5, 2) := by decide +kernel
theorem d10_28 : decode prog_9_method_1_code 28 = .ok (.putfield 23, 3) := by decide +kernel
theorem d10_31 : decode prog_9_method_1_code 31 = .ok (.return_, 1) := by decide +kernel
set_option maxRecDepth 65536 in
set_option maxHeartbeats 40000000 in
theorem rmNI (l : Launch) (Z : State) (a0 : Array Value) (hw : ∀ d ∈ tables_1, d.before a0 Z = true) (ws : List Jvm.Cond) (a1 : Addr) (a2 : Addr) (p3 : Int32) (h0 : Heap) (n0 : Nat) (Z0 : n0 ≤ h0.size) (g1 : n0 ≤ a1) (PE1 : Exa Z h0 a1 "com/example/majority_lease/majoritylease/redis/RedisNode") (F_host : Fld Z h0 a1 "com/example/majority_lease/majoritylease/redis/RedisNode" "host" "Ljava/lang/String;" .null) (F_port : Fld Z h0 a1 "com/example/majority_lease/majoritylease/redis/RedisNode" "port" "I" (.int (0 : Int32))) (F_user : Fld Z h0 a1 "com/example/majority_lease/majoritylease/redis/RedisNode" "user" "Ljava/lang/String;" .null) (F_password : Fld Z h0 a1 "com/example/majority_lease/majoritylease/redis/RedisNode" "password" "Ljava/lang/String;" .null) (F_tls : Fld Z h0 a1 "com/example/majority_lease/majoritylease/redis/RedisNode" "tls" "Ljavax/net/ssl/SSLContext;" .null) :
    MetFree l (⟨"com/example/majority_lease/majoritylease/redis/RedisNode", "<init>", "(Ljava/lang/String;ILjava/lang/String;Ljava/lang/String;Ljavax/net/ssl/SSLContext;)V"⟩ : MethodName) (head1 (Jvm.Cond.code (⟨"com/example/majority_lease/majoritylease/redis/RedisNode", "<init>", "(Ljava/lang/String;ILjava/lang/String;Ljava/lang/String;Ljavax/net/ssl/SSLContext;)V"⟩ : MethodName) prog_9_method_1_code 6 none :: ws) ({ frames := 1, cells := 0, slots := 0, locals := 12 } : Room)) (fun a U => a = #[(.ref a1), (.ref a2), (.int p3), .null, .null, .null] ∧ Z.Warmed39 U.vm ∧ U.heap = h0) (fun _ _ _ _ _ => True) (fun _ U o U' => ∃ v L, o = .returned v ∧ QNI Z a1 a2 p3  h0 n0 v U'.heap L ∧ FrameEnd U o U' L ({ frames := 1, cells := 0, slots := 0, locals := 12 } : Room).cells ({ frames := 1, cells := 0, slots := 0, locals := 12 } : Room).slots) := by
  refine MetFree.of_bodySF (plainFor_of_name pn_2) hisR ?_
  intro p e s m args below meth c s₁ Bd hml0 hP hK
  obtain ⟨rfl, hZ, hh⟩ := hP
  have hx := Bd.exec
  have hby := Bd.bytes
  have hlk := BodyLoose.notSynchronized Bd
  have hml : c.maxLocals = 6 := hml0
  have hret := Bd.returns
  have hown : s.vm.findClass "com/example/majority_lease/majoritylease/redis/RedisNode" = some m.cls := findClass_of_methodNamed Bd.named
  have hnm := (name_of_methodNamed Bd.named Bd.method).1
  have X0 : Stand p l e ({ frames := 1, cells := 0, slots := 0, locals := 12 } : Room) s m #[(.ref a1), (.ref a2), (.int p3), .null, .null, .null] below meth c s₁ [] 0 0 := Stand.of_body Bd
  have e0 : s₁.heap = h0 := by rw [← hh, Bd.state]; rfl
  have N0 := Fr.nil n0
  show Go p e below s ({ frames := 1, cells := 0, slots := 0, locals := 12 } : Room).cells ({ frames := 1, cells := 0, slots := 0, locals := 12 } : Room).slots (QNI Z a1 a2 p3  h0 n0) s₁ (entryFrame m #[(.ref a1), (.ref a2), (.int p3), .null, .null, .null] 6)
  refine Go.cast (ef_rmNI m a1 a2 p3) ?_
  have K0 : Keep h0 h0 [a1] := Keep.refl _ _
  show Go _ _ _ _ _ _ _ s₁ (mkF m 0 #[.val (.ref a1), .val (.ref a2), .val (.int p3), .val .null, .val .null, .val .null] [])
  refine Go.step (fun t_ k_ => XS.aloadN X0.here hx rfl (hb hby d10_0) rfl rfl k_) ?_
  show Go _ _ _ _ _ _ _ s₁ (mkF m 1 #[.val (.ref a1), .val (.ref a2), .val (.int p3), .val .null, .val .null, .val .null] [(.ref a1)])
  obtain ⟨T1, X1, e1, st1⟩ := initO X0 hx hZ hown (hw _ (List.mem_of_getElem? (i := 54) rfl)) (hw _ (List.mem_of_getElem? (i := 13) rfl)) (hw _ (List.mem_of_getElem? (i := 14) rfl)) e0 (g := (mkF m 1 #[.val (.ref a1), .val (.ref a2), .val (.int p3), .val .null, .val .null, .val .null] [(.ref a1)])) rfl (by rw [hml]; rfl) rfl (hb hby d10_1) (by decide) (W := 0) (by show 2 * 0 + _ ≤ _; exact Nat.le_of_eq rfl) (by decide)
  refine Go.step st1 ?_
  show Go _ _ _ _ _ _ _ T1 (mkF m 4 #[.val (.ref a1), .val (.ref a2), .val (.int p3), .val .null, .val .null, .val .null] [])
  refine Go.step (fun t_ k_ => XS.aloadN X1.here hx rfl (hb hby d10_4) rfl rfl k_) ?_
  show Go _ _ _ _ _ _ _ T1 (mkF m 5 #[.val (.ref a1), .val (.ref a2), .val (.int p3), .val .null, .val .null, .val .null] [(.ref a1)])
  refine Go.step (fun t_ k_ => XS.aloadN X1.here hx rfl (hb hby d10_5) rfl rfl k_) ?_
  show Go _ _ _ _ _ _ _ T1 (mkF m 6 #[.val (.ref a1), .val (.ref a2), .val (.int p3), .val .null, .val .null, .val .null] [(.ref a2), (.ref a1)])
  obtain ⟨T2, h2, X2, e2, W2, st2⟩ := putF X1 hx hZ hown (host := "") (Or.inl (hw _ (List.mem_of_getElem? (i := 55) rfl))) Via.refl e1 F_host PE1 (Or.inr ⟨(hw _ (List.mem_of_getElem? (i := 56) rfl)), rfl, hnm⟩) (hw _ (List.mem_of_getElem? (i := 50) rfl)) (ty := (.object "java/lang/String")) (by decide) rfl rfl (g := (mkF m 6 #[.val (.ref a1), .val (.ref a2), .val (.int p3), .val .null, .val .null, .val .null] [(.ref a2), (.ref a1)])) rfl rfl (hb hby d10_6)
  have N2 := Fr.snoc X2 N0 g1
  refine Go.step st2 ?_
  have f2_0 : Exa Z h2 a1 "com/example/majority_lease/majoritylease/redis/RedisNode" := (PE1.wr W2)
  have f2_1 : Fld Z h2 a1 "com/example/majority_lease/majoritylease/redis/RedisNode" "host" "Ljava/lang/String;" (.ref a2) := (F_host.same W2)
  have f2_2 : Fld Z h2 a1 "com/example/majority_lease/majoritylease/redis/RedisNode" "port" "I" (.int (0 : Int32)) := (F_port.other W2 (Or.inr (slot_ne (Or.inr (hw _ (List.mem_of_getElem? (i := 58) rfl))) (Or.inr (hw _ (List.mem_of_getElem? (i := 56) rfl))) (by decide) (t := .int) (t' := (.object "java/lang/String")) (by decide) (by decide))))
  have f2_3 : Fld Z h2 a1 "com/example/majority_lease/majoritylease/redis/RedisNode" "user" "Ljava/lang/String;" .null := (F_user.other W2 (Or.inr (slot_ne (Or.inr (hw _ (List.mem_of_getElem? (i := 60) rfl))) (Or.inr (hw _ (List.mem_of_getElem? (i := 56) rfl))) (by decide) (t := (.object "java/lang/String")) (t' := (.object "java/lang/String")) (by decide) (by decide))))
  have f2_4 : Fld Z h2 a1 "com/example/majority_lease/majoritylease/redis/RedisNode" "password" "Ljava/lang/String;" .null := (F_password.other W2 (Or.inr (slot_ne (Or.inr (hw _ (List.mem_of_getElem? (i := 62) rfl))) (Or.inr (hw _ (List.mem_of_getElem? (i := 56) rfl))) (by decide) (t := (.object "java/lang/String")) (t' := (.object "java/lang/String")) (by decide) (by decide))))
  have f2_5 : Fld Z h2 a1 "com/example/majority_lease/majoritylease/redis/RedisNode" "tls" "Ljavax/net/ssl/SSLContext;" .null := (F_tls.other W2 (Or.inr (slot_ne (Or.inr (hw _ (List.mem_of_getElem? (i := 64) rfl))) (Or.inr (hw _ (List.mem_of_getElem? (i := 56) rfl))) (by decide) (t := (.object "javax/net/ssl/SSLContext")) (t' := (.object "java/lang/String")) (by decide) (by decide))))
  have Zs2 : n0 ≤ h2.size := (Nat.le_trans Z0 (Keep.of_wr W2).1)
  have K2 : Keep h0 h2 [a1] := K0.wr W2 (Or.inl (List.mem_of_getElem? (i := 0) rfl))
  show Go _ _ _ _ _ _ _ T2 (mkF m 9 #[.val (.ref a1), .val (.ref a2), .val (.int p3), .val .null, .val .null, .val .null] [])
  refine Go.step (fun t_ k_ => XS.aloadN X2.here hx rfl (hb hby d10_9) rfl rfl k_) ?_
  show Go _ _ _ _ _ _ _ T2 (mkF m 10 #[.val (.ref a1), .val (.ref a2), .val (.int p3), .val .null, .val .null, .val .null] [(.ref a1)])
  refine Go.step (fun t_ k_ => XS.iloadN X2.here hx rfl (hb hby d10_10) rfl k_) ?_
  show Go _ _ _ _ _ _ _ T2 (mkF m 11 #[.val (.ref a1), .val (.ref a2), .val (.int p3), .val .null, .val .null, .val .null] [(.int p3), (.ref a1)])
  obtain ⟨T3, h3, X3, e3, W3, st3⟩ := putF X2 hx hZ hown (host := "") (Or.inl (hw _ (List.mem_of_getElem? (i := 57) rfl))) Via.refl e2 f2_2 f2_0 (Or.inr ⟨(hw _ (List.mem_of_getElem? (i := 58) rfl)), rfl, hnm⟩) (hw _ (List.mem_of_getElem? (i := 50) rfl)) (ty := .int) (by decide) rfl rfl (g := (mkF m 11 #[.val (.ref a1), .val (.ref a2), .val (.int p3), .val .null, .val .null, .val .null] [(.int p3), (.ref a1)])) rfl rfl (hb hby d10_11)
  have N3 := Fr.snoc X3 N2 g1
  refine Go.step st3 ?_
  have f3_0 : Exa Z h3 a1 "com/example/majority_lease/majoritylease/redis/RedisNode" := (f2_0.wr W3)
  have f3_1 : Fld Z h3 a1 "com/example/majority_lease/majoritylease/redis/RedisNode" "host" "Ljava/lang/String;" (.ref a2) := (f2_1.other W3 (Or.inr (slot_ne (Or.inr (hw _ (List.mem_of_getElem? (i := 56) rfl))) (Or.inr (hw _ (List.mem_of_getElem? (i := 58) rfl))) (by decide) (t := (.object "java/lang/String")) (t' := .int) (by decide) (by decide))))
  have f3_2 : Fld Z h3 a1 "com/example/majority_lease/majoritylease/redis/RedisNode" "port" "I" (.int p3) := (f2_2.same W3)
  have f3_3 : Fld Z h3 a1 "com/example/majority_lease/majoritylease/redis/RedisNode" "user" "Ljava/lang/String;" .null := (f2_3.other W3 (Or.inr (slot_ne (Or.inr (hw _ (List.mem_of_getElem? (i := 60) rfl))) (Or.inr (hw _ (List.mem_of_getElem? (i := 58) rfl))) (by decide) (t := (.object "java/lang/String")) (t' := .int) (by decide) (by decide))))
  have f3_4 : Fld Z h3 a1 "com/example/majority_lease/majoritylease/redis/RedisNode" "password" "Ljava/lang/String;" .null := (f2_4.other W3 (Or.inr (slot_ne (Or.inr (hw _ (List.mem_of_getElem? (i := 62) rfl))) (Or.inr (hw _ (List.mem_of_getElem? (i := 58) rfl))) (by decide) (t := (.object "java/lang/String")) (t' := .int) (by decide) (by decide))))
  have f3_5 : Fld Z h3 a1 "com/example/majority_lease/majoritylease/redis/RedisNode" "tls" "Ljavax/net/ssl/SSLContext;" .null := (f2_5.other W3 (Or.inr (slot_ne (Or.inr (hw _ (List.mem_of_getElem? (i := 64) rfl))) (Or.inr (hw _ (List.mem_of_getElem? (i := 58) rfl))) (by decide) (t := (.object "javax/net/ssl/SSLContext")) (t' := .int) (by decide) (by decide))))
  have Zs3 : n0 ≤ h3.size := (Nat.le_trans Zs2 (Keep.of_wr W3).1)
  have K3 : Keep h0 h3 [a1] := K2.wr W3 (Or.inl (List.mem_of_getElem? (i := 0) rfl))
  show Go _ _ _ _ _ _ _ T3 (mkF m 14 #[.val (.ref a1), .val (.ref a2), .val (.int p3), .val .null, .val .null, .val .null] [])
  refine Go.step (fun t_ k_ => XS.aloadN X3.here hx rfl (hb hby d10_14) rfl rfl k_) ?_
  show Go _ _ _ _ _ _ _ T3 (mkF m 15 #[.val (.ref a1), .val (.ref a2), .val (.int p3), .val .null, .val .null, .val .null] [(.ref a1)])
  refine Go.step (fun t_ k_ => XS.aloadN X3.here hx rfl (hb hby d10_15) rfl rfl k_) ?_
  show Go _ _ _ _ _ _ _ T3 (mkF m 16 #[.val (.ref a1), .val (.ref a2), .val (.int p3), .val .null, .val .null, .val .null] [.null, (.ref a1)])
  obtain ⟨T4, h4, X4, e4, W4, st4⟩ := putF X3 hx hZ hown (host := "") (Or.inl (hw _ (List.mem_of_getElem? (i := 59) rfl))) Via.refl e3 f3_3 f3_0 (Or.inr ⟨(hw _ (List.mem_of_getElem? (i := 60) rfl)), rfl, hnm⟩) (hw _ (List.mem_of_getElem? (i := 50) rfl)) (ty := (.object "java/lang/String")) (by decide) rfl rfl (g := (mkF m 16 #[.val (.ref a1), .val (.ref a2), .val (.int p3), .val .null, .val .null, .val .null] [.null, (.ref a1)])) rfl rfl (hb hby d10_16)
  have N4 := Fr.snoc X4 N3 g1
  refine Go.step st4 ?_
  have f4_0 : Exa Z h4 a1 "com/example/majority_lease/majoritylease/redis/RedisNode" := (f3_0.wr W4)
  have f4_1 : Fld Z h4 a1 "com/example/majority_lease/majoritylease/redis/RedisNode" "host" "Ljava/lang/String;" (.ref a2) := (f3_1.other W4 (Or.inr (slot_ne (Or.inr (hw _ (List.mem_of_getElem? (i := 56) rfl))) (Or.inr (hw _ (List.mem_of_getElem? (i := 60) rfl))) (by decide) (t := (.object "java/lang/String")) (t' := (.object "java/lang/String")) (by decide) (by decide))))
  have f4_2 : Fld Z h4 a1 "com/example/majority_lease/majoritylease/redis/RedisNode" "port" "I" (.int p3) := (f3_2.other W4 (Or.inr (slot_ne (Or.inr (hw _ (List.mem_of_getElem? (i := 58) rfl))) (Or.inr (hw _ (List.mem_of_getElem? (i := 60) rfl))) (by decide) (t := .int) (t' := (.object "java/lang/String")) (by decide) (by decide))))
  have f4_3 : Fld Z h4 a1 "com/example/majority_lease/majoritylease/redis/RedisNode" "user" "Ljava/lang/String;" .null := (f3_3.same W4)
  have f4_4 : Fld Z h4 a1 "com/example/majority_lease/majoritylease/redis/RedisNode" "password" "Ljava/lang/String;" .null := (f3_4.other W4 (Or.inr (slot_ne (Or.inr (hw _ (List.mem_of_getElem? (i := 62) rfl))) (Or.inr (hw _ (List.mem_of_getElem? (i := 60) rfl))) (by decide) (t := (.object "java/lang/String")) (t' := (.object "java/lang/String")) (by decide) (by decide))))
  have f4_5 : Fld Z h4 a1 "com/example/majority_lease/majoritylease/redis/RedisNode" "tls" "Ljavax/net/ssl/SSLContext;" .null := (f3_5.other W4 (Or.inr (slot_ne (Or.inr (hw _ (List.mem_of_getElem? (i := 64) rfl))) (Or.inr (hw _ (List.mem_of_getElem? (i := 60) rfl))) (by decide) (t := (.object "javax/net/ssl/SSLContext")) (t' := (.object "java/lang/String")) (by decide) (by decide))))
  have Zs4 : n0 ≤ h4.size := (Nat.le_trans Zs3 (Keep.of_wr W4).1)
  have K4 : Keep h0 h4 [a1] := K3.wr W4 (Or.inl (List.mem_of_getElem? (i := 0) rfl))
  show Go _ _ _ _ _ _ _ T4 (mkF m 19 #[.val (.ref a1), .val (.ref a2), .val (.int p3), .val .null, .val .null, .val .null] [])
  refine Go.step (fun t_ k_ => XS.aloadN X4.here hx rfl (hb hby d10_19) rfl rfl k_) ?_
  show Go _ _ _ _ _ _ _ T4 (mkF m 20 #[.val (.ref a1), .val (.ref a2), .val (.int p3), .val .null, .val .null, .val .null] [(.ref a1)])
  refine Go.step (fun t_ k_ => XS.aload X4.here hx rfl (hb hby d10_20) rfl rfl k_) ?_
  show Go _ _ _ _ _ _ _ T4 (mkF m 22 #[.val (.ref a1), .val (.ref a2), .val (.int p3), .val .null, .val .null, .val .null] [.null, (.ref a1)])
  obtain ⟨T5, h5, X5, e5, W5, st5⟩ := putF X4 hx hZ hown (host := "") (Or.inl (hw _ (List.mem_of_getElem? (i := 61) rfl))) Via.refl e4 f4_4 f4_0 (Or.inr ⟨(hw _ (List.mem_of_getElem? (i := 62) rfl)), rfl, hnm⟩) (hw _ (List.mem_of_getElem? (i := 50) rfl)) (ty := (.object "java/lang/String")) (by decide) rfl rfl (g := (mkF m 22 #[.val (.ref a1), .val (.ref a2), .val (.int p3), .val .null, .val .null, .val .null] [.null, (.ref a1)])) rfl rfl (hb hby d10_22)
  have N5 := Fr.snoc X5 N4 g1
  refine Go.step st5 ?_
  have f5_0 : Exa Z h5 a1 "com/example/majority_lease/majoritylease/redis/RedisNode" := (f4_0.wr W5)
  have f5_1 : Fld Z h5 a1 "com/example/majority_lease/majoritylease/redis/RedisNode" "host" "Ljava/lang/String;" (.ref a2) := (f4_1.other W5 (Or.inr (slot_ne (Or.inr (hw _ (List.mem_of_getElem? (i := 56) rfl))) (Or.inr (hw _ (List.mem_of_getElem? (i := 62) rfl))) (by decide) (t := (.object "java/lang/String")) (t' := (.object "java/lang/String")) (by decide) (by decide))))
  have f5_2 : Fld Z h5 a1 "com/example/majority_lease/majoritylease/redis/RedisNode" "port" "I" (.int p3) := (f4_2.other W5 (Or.inr (slot_ne (Or.inr (hw _ (List.mem_of_getElem? (i := 58) rfl))) (Or.inr (hw _ (List.mem_of_getElem? (i := 62) rfl))) (by decide) (t := .int) (t' := (.object "java/lang/String")) (by decide) (by decide))))
  have f5_3 : Fld Z h5 a1 "com/example/majority_lease/majoritylease/redis/RedisNode" "user" "Ljava/lang/String;" .null := (f4_3.other W5 (Or.inr (slot_ne (Or.inr (hw _ (List.mem_of_getElem? (i := 60) rfl))) (Or.inr (hw _ (List.mem_of_getElem? (i := 62) rfl))) (by decide) (t := (.object "java/lang/String")) (t' := (.object "java/lang/String")) (by decide) (by decide))))
  have f5_4 : Fld Z h5 a1 "com/example/majority_lease/majoritylease/redis/RedisNode" "password" "Ljava/lang/String;" .null := (f4_4.same W5)
  have f5_5 : Fld Z h5 a1 "com/example/majority_lease/majoritylease/redis/RedisNode" "tls" "Ljavax/net/ssl/SSLContext;" .null := (f4_5.other W5 (Or.inr (slot_ne (Or.inr (hw _ (List.mem_of_getElem? (i := 64) rfl))) (Or.inr (hw _ (List.mem_of_getElem? (i := 62) rfl))) (by decide) (t := (.object "javax/net/ssl/SSLContext")) (t' := (.object "java/lang/String")) (by decide) (by decide))))
  have Zs5 : n0 ≤ h5.size := (Nat.le_trans Zs4 (Keep.of_wr W5).1)
  have K5 : Keep h0 h5 [a1] := K4.wr W5 (Or.inl (List.mem_of_getElem? (i := 0) rfl))
  show Go _ _ _ _ _ _ _ T5 (mkF m 25 #[.val (.ref a1), .val (.ref a2), .val (.int p3), .val .null, .val .null, .val .null] [])
  refine Go.step (fun t_ k_ => XS.aloadN X5.here hx rfl (hb hby d10_25) rfl rfl k_) ?_
  show Go _ _ _ _ _ _ _ T5 (mkF m 26 #[.val (.ref a1), .val (.ref a2), .val (.int p3), .val .null, .val .null, .val .null] [(.ref a1)])
  refine Go.step (fun t_ k_ => XS.aload X5.here hx rfl (hb hby d10_26) rfl rfl k_) ?_
  show Go _ _ _ _ _ _ _ T5 (mkF m 28 #[.val (.ref a1), .val (.ref a2), .val (.int p3), .val .null, .val .null, .val .null] [.null, (.ref a1)])
  obtain ⟨T6, h6, X6, e6, W6, st6⟩ := putF X5 hx hZ hown (host := "") (Or.inl (hw _ (List.mem_of_getElem? (i := 63) rfl))) Via.refl e5 f5_5 f5_0 (Or.inr ⟨(hw _ (List.mem_of_getElem? (i := 64) rfl)), rfl, hnm⟩) (hw _ (List.mem_of_getElem? (i := 50) rfl)) (ty := (.object "javax/net/ssl/SSLContext")) (by decide) rfl rfl (g := (mkF m 28 #[.val (.ref a1), .val (.ref a2), .val (.int p3), .val .null, .val .null, .val .null] [.null, (.ref a1)])) rfl rfl (hb hby d10_28)
  have N6 := Fr.snoc X6 N5 g1
  refine Go.step st6 ?_
  have f6_0 : Exa Z h6 a1 "com/example/majority_lease/majoritylease/redis/RedisNode" := (f5_0.wr W6)
  have f6_1 : Fld Z h6 a1 "com/example/majority_lease/majoritylease/redis/RedisNode" "host" "Ljava/lang/String;" (.ref a2) := (f5_1.other W6 (Or.inr (slot_ne (Or.inr (hw _ (List.mem_of_getElem? (i := 56) rfl))) (Or.inr (hw _ (List.mem_of_getElem? (i := 64) rfl))) (by decide) (t := (.object "java/lang/String")) (t' := (.object "javax/net/ssl/SSLContext")) (by decide) (by decide))))
  have f6_2 : Fld Z h6 a1 "com/example/majority_lease/majoritylease/redis/RedisNode" "port" "I" (.int p3) := (f5_2.other W6 (Or.inr (slot_ne (Or.inr (hw _ (List.mem_of_getElem? (i := 58) rfl))) (Or.inr (hw _ (List.mem_of_getElem? (i := 64) rfl))) (by decide) (t := .int) (t' := (.object "javax/net/ssl/SSLContext")) (by decide) (by decide))))
  have f6_3 : Fld Z h6 a1 "com/example/majority_lease/majoritylease/redis/RedisNode" "user" "Ljava/lang/String;" .null := (f5_3.other W6 (Or.inr (slot_ne (Or.inr (hw _ (List.mem_of_getElem? (i := 60) rfl))) (Or.inr (hw _ (List.mem_of_getElem? (i := 64) rfl))) (by decide) (t := (.object "java/lang/String")) (t' := (.object "javax/net/ssl/SSLContext")) (by decide) (by decide))))
  have f6_4 : Fld Z h6 a1 "com/example/majority_lease/majoritylease/redis/RedisNode" "password" "Ljava/lang/String;" .null := (f5_4.other W6 (Or.inr (slot_ne (Or.inr (hw _ (List.mem_of_getElem? (i := 62) rfl))) (Or.inr (hw _ (List.mem_of_getElem? (i := 64) rfl))) (by decide) (t := (.object "java/lang/String")) (t' := (.object "javax/net/ssl/SSLContext")) (by decide) (by decide))))
  have f6_5 : Fld Z h6 a1 "com/example/majority_lease/majoritylease/redis/RedisNode" "tls" "Ljavax/net/ssl/SSLContext;" .null := (f5_5.same W6)
  have Zs6 : n0 ≤ h6.size := (Nat.le_trans Zs5 (Keep.of_wr W6).1)
  have K6 : Keep h0 h6 [a1] := K5.wr W6 (Or.inl (List.mem_of_getElem? (i := 0) rfl))
  show Go _ _ _ _ _ _ _ T6 (mkF m 31 #[.val (.ref a1), .val (.ref a2), .val (.int p3), .val .null, .val .null, .val .null] [])
  refine Go.retV X6 hx hlk hret (hb hby d10_31) ?_ (by decide) (by decide)
  show QNI Z _ _ _ _ _ _ T6.heap _
  rw [e6]
  exact ⟨rfl, N6, K6, f6_0, f6_1, f6_2, f6_4, f6_5⟩
theorem ef_rmAt (m : MethodId) (a1 : Addr) (p2 : Int32) : entryFrame m #[(.ref a1), (.int p2)] 2 = mkF m 0 #[.val (.ref a1), .val (.int p2)] [] := by first | (simp [entryFrame, mkF, argsToLocals, Value.category]; done) | rfl
def QAt (Z : State) (a1 : Addr) (p2 : Int32) (t : Addr) (kb : ClassId) (N : Int32) (vs : List Value) (h0 : Heap) (n0 : Nat) (v : Option Value) (h : Heap) (L : List Loc) : Prop := ∃ a : Addr, v = some (.ref a) ∧ Fr n0 L ∧ Keep h0 h [] ∧ h0.size ≤ a ∧ Exa Z h a "com/example/majority_lease/majoritylease/redis/RedisNode" ∧ Fld Z h a "com/example/majority_lease/majoritylease/redis/RedisNode" "host" "Ljava/lang/String;" (.ref a1) ∧ Fld Z h a "com/example/majority_lease/majoritylease/redis/RedisNode" "port" "I" (.int p2) ∧ Fld Z h a "com/example/majority_lease/majoritylease/redis/RedisNode" "password" "Ljava/lang/String;" .null ∧ Fld Z h a "com/example/majority_lease/majoritylease/redis/RedisNode" "tls" "Ljavax/net/ssl/SSLContext;" .null
theorem d7_0 : decode prog_9_method_2_code 0 = .ok (.aload_n 0, 1) := by decide +kernel
theorem d7_1 : decode prog_9_method_2_code 1 = .ok (.ldc 27, 2) := by decide +kernel
theorem pd_0 : parseMethodDescriptor "(Ljava/lang/Object;Ljava/lang/String;)Ljava/lang/Object;" = some ⟨[(.object "java/lang/Object"), (.object "java/lang/String")], some (.object "java/lang/Object")⟩ := by decide +kernel
theorem d7_3 : decode prog_9_method_2_code 3 = .ok (.invokestatic 28, 3) := by decide +kernel
theorem d7_6 : decode prog_9_method_2_code 6 = .ok (.pop, 1) := by decide +kernel
theorem d7_7 : decode prog_9_method_2_code 7 = .ok (.aload_n 0, 1) := by decide +kernel
theorem pd_1 : parseMethodDescriptor "()Z" = some ⟨[], some .boolean⟩ := by decide +kernel
theorem d7_8 : decode prog_9_method_2_code 8 = .ok (.invokevirtual 34, 3) := by decide +kernel
theorem d7_11 : decode prog_9_method_2_code 11 = .ok (.ifCond .eq 13, 3) := by decide +kernel
theorem d7_24 : decode prog_9_method_2_code 24 = .ok (.iload_n 1, 1) := by decide +kernel
theorem d7_25 : decode prog_9_method_2_code 25 = .ok (.iconst 1, 1) := by decide +kernel
theorem d7_26 : decode prog_9_method_2_code 26 = .ok (.if_icmp .lt 9, 3) := by decide +kernel
theorem d7_29 : decode prog_9_method_2_code 29 = .ok (.iload_n 1, 1) := by decide +kernel
theorem d7_30 : decode prog_9_method_2_code 30 = .ok (.ldc 47, 2) := by decide +kernel
theorem d7_32 : decode prog_9_method_2_code 32 = .ok (.if_icmp .le 17, 3) := by decide +kernel
theorem d7_49 : decode prog_9_method_2_code 49 = .ok (.new 8, 3) := by decide +kernel
theorem d7_52 : decode prog_9_method_2_code 52 = .ok (.dup, 1) := by decide +kernel
theorem d7_53 : decode prog_9_method_2_code 53 = .ok (.aload_n 0, 1) := by decide +kernel
theorem d7_54 : decode prog_9_method_2_code 54 = .ok (.iload_n 1, 1) := by decide +kernel
theorem d7_55 : decode prog_9_method_2_code 55 = .ok (.aconst_null, 1) := by decide +kernel
theorem d7_56 : decode prog_9_method_2_code 56 = .ok (.aconst_null, 1) := by decide +kernel
theorem d7_57 : decode prog_9_method_2_code 57 = .ok (.aconst_null, 1) := by decide +kernel
theorem pd_2 : parseMethodDescriptor "(Ljava/lang/String;ILjava/lang/String;Ljava/lang/String;Ljavax/net/ssl/SSLContext;)V" = some ⟨[(.object "java/lang/String"), .int, (.object "java/lang/String"), (.object "java/lang/String"), (.object "javax/net/ssl/SSLContext")], none⟩ := by decide +kernel
theorem d7_58 : decode prog_9_method_2_code 58 = .ok (.invokespecial 52, 3) := by decide +kernel
theorem d7_61 : decode prog_9_method_2_code 61 = .ok (.areturn, 1) := by decide +kernel
set_option maxRecDepth 65536 in
set_option maxHeartbeats 40000000 in
theorem rmAt (l : Launch) (Z : State) (a0 : Array Value) (hw : ∀ d ∈ tables_1, d.before a0 Z = true) (ws : List Jvm.Cond) (a1 : Addr) (p2 : Int32) (t : Addr) (kb : ClassId) (N : Int32) (vs : List Value) (h0 : Heap) (n0 : Nat) (Z0 : n0 ≤ h0.size) (PE1 : Exa Z h0 a1 "java/lang/String") (PF1 : Fld Z h0 a1 "java/lang/String" "value" "[B" (.ref t)) (PA1 : Arv Z h0 t kb .byte N vs (.int 0)) (hN : ¬ N = (0 : Int32)) (hp1 : ¬ p2 < (1 : Int32)) (hp2 : ¬ (65535 : Int32) < p2) :
    MetFree l (⟨"com/example/majority_lease/majoritylease/redis/RedisNode", "at", "(Ljava/lang/String;I)Lcom/example/majority_lease/majoritylease/redis/RedisNode;"⟩ : MethodName) (head1 (Jvm.Cond.code (⟨"com/example/majority_lease/majoritylease/redis/RedisNode", "at", "(Ljava/lang/String;I)Lcom/example/majority_lease/majoritylease/redis/RedisNode;"⟩ : MethodName) prog_9_method_2_code 2 (some (.object "com/example/majority_lease/majoritylease/redis/RedisNode")) :: ws) ({ frames := 2, cells := 3, slots := 25, locals := 30 } : Room)) (fun a U => a = #[(.ref a1), (.int p2)] ∧ Z.Warmed39 U.vm ∧ U.heap = h0 ∧ CHv Z own_EL U.vm h0) (fun _ _ _ _ _ => True) (fun _ U o U' => ∃ v L, o = .returned v ∧ QAt Z a1 p2 t kb N vs h0 n0 v U'.heap L ∧ CHr Z own_EL U.vm U.heap U'.vm U'.heap ∧ ReturnedEndW U o U' L ({ frames := 2, cells := 3, slots := 25, locals := 30 } : Room).cells ({ frames := 2, cells := 3, slots := 25, locals := 30 } : Room).slots) := by
  refine MetFree.of_bodySF (plainFor_of_name pn_2) hisR ?_
  intro p e s m args below meth c s₁ Bd hml0 hP hK
  obtain ⟨rfl, hZ0, hh, hCH⟩ := hP
  have hx := Bd.exec
  have hby := Bd.bytes
  have hlk := BodyLoose.notSynchronized Bd
  have hml : c.maxLocals = 2 := hml0
  have hret := Bd.returns
  have hown0 : (s.setVm s.vm).vm.findClass "com/example/majority_lease/majoritylease/redis/RedisNode" = some m.cls := findClass_of_methodNamed Bd.named
  have hnm := (name_of_methodNamed Bd.named Bd.method).1
  have X0 : Stand p l e ({ frames := 2, cells := 3, slots := 25, locals := 30 } : Room) (s.setVm s.vm) m #[(.ref a1), (.int p2)] below meth c s₁ [] 0 0 := Stand.of_body Bd
  have hZ0 : Z.Warmed39 (s.setVm s.vm).vm := hZ0
  have hEL : EW Z a0 own_EL := own_EW hw
  have hS0 : s.Since s.vm h0.size := (State.WarmedH.refl s).since _
  have hk0 : h0.size ≤ h0.size := Nat.le_refl _
  have C0 : CHr Z own_EL s.vm h0 s.vm h0 := CHr.refl hCH
  have e0 : s₁.heap = h0 := by rw [← hh, Bd.state]; rfl
  have N0 := Fr.nil n0
  show GoH p e below s ({ frames := 2, cells := 3, slots := 25, locals := 30 } : Room).cells ({ frames := 2, cells := 3, slots := 25, locals := 30 } : Room).slots Z own_EL s.heap (QAt Z a1 p2 t kb N vs h0 n0) s₁ (entryFrame m #[(.ref a1), (.int p2)] 2)
  rw [hh]
  refine GoH.cast (ef_rmAt m a1 p2) ?_
  have K0 : Keep h0 h0 [] := Keep.refl _ _
  show GoH _ _ _ _ _ _ _ _ _ _ s₁ (mkF m 0 #[.val (.ref a1), .val (.int p2)] [])
  refine GoH.step (fun t_ k_ => XS.aloadN X0.here hx rfl (hb hby d7_0) rfl rfl k_) ?_
  show GoH _ _ _ _ _ _ _ _ _ _ s₁ (mkF m 1 #[.val (.ref a1), .val (.int p2)] [(.ref a1)])
  obtain ⟨lt1, T1, h1, kk1, X1, e1, E1, hS1, hk1, hZ1, hown1, CHq1, -, st1⟩ := ldcOH X0 hx hZ0 hown0 (hw _ (List.mem_of_getElem? (i := 36) rfl)) (own_SA hw) e0 hS0 hk0 hEL C0.1 (g := (mkF m 1 #[.val (.ref a1), .val (.int p2)] [(.ref a1)])) rfl (hb hby d7_1) (n := 16) (by decide) (by decide) (by decide) (by decide)
  have f1_0 : Fld Z h1 a1 "java/lang/String" "value" "[B" (.ref t) := (PF1.ext E1)
  have f1_1 : Arv Z h1 t kb .byte N vs (.int 0) := (PA1.ext E1)
  have f1_2 : Exa Z h1 a1 "java/lang/String" := (PE1.ext E1)
  have CC1 : CHr Z own_EL s.vm h0 T1.vm h1 := C0.trans CHq1
  have Zs1 : n0 ≤ h1.size := (Nat.le_trans Z0 E1.1)
  have K1 : Keep h0 h1 [] := K0.ext E1
  refine GoH.step st1 ?_
  show GoH _ _ _ _ _ _ _ _ _ _ T1 (mkF m 3 #[.val (.ref a1), .val (.int p2)] [(.ref lt1), (.ref a1)])
  obtain ⟨_, _, ⟨T2, L2, k2, n2⟩, -, X2, ⟨Lc2, hQ2, l2, y2, z2⟩, st2⟩ := Jvm.LawKit.callS X1 hx (y := (⟨"java/util/Objects", "requireNonNull", "(Ljava/lang/Object;Ljava/lang/String;)Ljava/lang/Object;"⟩ : MethodName)) hown1 (mvT hZ1 (hw _ (List.mem_of_getElem? (i := 39) rfl))) (mvT hZ1 (hw _ (List.mem_of_getElem? (i := 40) rfl))) (mvT hZ1 (hw _ (List.mem_of_getElem? (i := 41) rfl))) (mvT hZ1 (hw _ (List.mem_of_getElem? (i := 42) rfl))) (by decide) (backOf (W := 0) (rmRN l Z a0 hw [] a1 lt1 h1 n0 Zs1 ) hZ1 (hw _ (List.mem_of_getElem? (i := 42) rfl)) (hw _ (List.mem_of_getElem? (i := 41) rfl)) (by decide) (by decide)) (g := (mkF m 3 #[.val (.ref a1), .val (.int p2)] [(.ref lt1), (.ref a1)])) rfl (by rw [hml]; rfl) (argsL := [(.ref a1), (.ref lt1)]) (rest := []) (lenOf pd_0 rfl) rfl (by show 2 * 0 + _ ≤ _; exact Nat.le_of_eq rfl) (hb hby d7_3) (fun _ _ => ⟨rfl, e1, (by decide : 0 + 2 + 0 ≤ _), (by decide : 0 + (16 + 4) + 0 ≤ _)⟩)
  dsimp only [Pt.U, Pt.locs, Pt.cells, Pt.slots] at X2 l2 y2 z2 st2 hQ2
  subst l2 y2 z2
  obtain ⟨rfl, N2q, e2⟩ := hQ2
  have N2 := Fr.app N0 N2q
  refine GoH.step st2 ?_
  show GoH _ _ _ _ _ _ _ _ _ _ T2 (mkF m 6 #[.val (.ref a1), .val (.int p2)] [(.ref a1)])
  refine GoH.step (fun t_ k_ => XT.pop X2.here hx rfl (hb hby d7_6) rfl rfl k_) ?_
  show GoH _ _ _ _ _ _ _ _ _ _ T2 (mkF m 7 #[.val (.ref a1), .val (.int p2)] [])
  refine GoH.step (fun t_ k_ => XS.aloadN X2.here hx rfl (hb hby d7_7) rfl rfl k_) ?_
  show GoH _ _ _ _ _ _ _ _ _ _ T2 (mkF m 8 #[.val (.ref a1), .val (.int p2)] [(.ref a1)])
  obtain ⟨cq3, kq3, qa3, qb3, qc3⟩ := isOf hZ1 (e2) f1_2
  obtain ⟨_, _, ⟨T3, L3, k3, n3⟩, -, X3, ⟨Lc3, hQ3, l3, y3, z3⟩, st3⟩ := X2.virtualBack hx (y := (⟨"java/lang/String", "isEmpty", "()Z"⟩ : MethodName)) (z := (⟨"java/lang/String", "isEmpty", "()Z"⟩ : MethodName)) hown1 (mvT hZ1 (hw _ (List.mem_of_getElem? (i := 43) rfl))) (mvT hZ1 (hw _ (List.mem_of_getElem? (i := 44) rfl))) (notFace_of_selects (args := #[]) (mvT hZ1 (hw _ (List.mem_of_getElem? (i := 46) rfl)))) (mvT hZ1 (hw _ (List.mem_of_getElem? (i := 46) rfl))) (mvT hZ1 (hw _ (List.mem_of_getElem? (i := 45) rfl))) (by decide) (backOf (W := 0) (rmEm l Z a0 hw [] a1 t kb N vs h1 n0 Zs1 f1_0 f1_1 hN) hZ1 (hw _ (List.mem_of_getElem? (i := 47) rfl)) (hw _ (List.mem_of_getElem? (i := 4) rfl)) (by decide) (by decide)) qa3 qc3 (g := (mkF m 8 #[.val (.ref a1), .val (.int p2)] [(.ref a1)])) rfl (by rw [hml]; rfl) (Steps.refl _) (argsL := []) (rest := []) (lenOf pd_1 rfl) rfl (by show 2 * 0 + _ ≤ _; exact Nat.le_of_eq rfl) (hb hby d7_8) (fun _ _ => ⟨rfl, (e2), (by decide : 0 + 2 + 0 + 0 ≤ _), (by decide : 0 + (16 + 4) + 0 + 0 ≤ _)⟩)
  dsimp only [Pt.U, Pt.locs, Pt.cells, Pt.slots] at X3 l3 y3 z3 st3 hQ3
  subst l3 y3 z3
  obtain ⟨rfl, N3q, e3⟩ := hQ3
  have N3 := Fr.app N2 N3q
  refine GoH.step (fun t_ k_ => st3.trans k_) ?_
  show GoH _ _ _ _ _ _ _ _ _ _ T3 (mkF m 11 #[.val (.ref a1), .val (.int p2)] [(.int (0 : Int32))])
  have hb11_4 : (0 : Int32) = (0 : Int32) := by decide
  refine GoH.step (fun t_ k_ => XS.ifYes X3.here hx rfl (pc0 := 11) (pc' := 24) rfl (hb hby d7_11) rfl (XT.i0_eq_t hb11_4) (by decide) (by decide) k_) ?_
  show GoH _ _ _ _ _ _ _ _ _ _ T3 (mkF m 24 #[.val (.ref a1), .val (.int p2)] [])
  refine GoH.step (fun t_ k_ => XS.iloadN X3.here hx rfl (hb hby d7_24) rfl k_) ?_
  show GoH _ _ _ _ _ _ _ _ _ _ T3 (mkF m 25 #[.val (.ref a1), .val (.int p2)] [(.int p2)])
  refine GoH.step (fun t_ k_ => XS.iconst X3.here hx rfl (hb hby d7_25) k_) ?_
  show GoH _ _ _ _ _ _ _ _ _ _ T3 (mkF m 26 #[.val (.ref a1), .val (.int p2)] [(.int (1 : Int32)), (.int p2)])
  have hb26_5 : ¬ (p2 < (1 : Int32)) := by exact hp1
  refine GoH.step (fun t_ k_ => XS.icmpNo X3.here hx rfl (hb hby d7_26) rfl (XT.ii_lt_f hb26_5) k_) ?_
  show GoH _ _ _ _ _ _ _ _ _ _ T3 (mkF m 29 #[.val (.ref a1), .val (.int p2)] [])
  refine GoH.step (fun t_ k_ => XS.iloadN X3.here hx rfl (hb hby d7_29) rfl k_) ?_
  show GoH _ _ _ _ _ _ _ _ _ _ T3 (mkF m 30 #[.val (.ref a1), .val (.int p2)] [(.int p2)])
  refine GoH.step (fun t_ k_ => X3.ldcI hx hown1 (mvT hZ1 (hw _ (List.mem_of_getElem? (i := 48) rfl))) rfl (hb hby d7_30) k_) ?_
  show GoH _ _ _ _ _ _ _ _ _ _ T3 (mkF m 32 #[.val (.ref a1), .val (.int p2)] [(.int (65535 : Int32)), (.int p2)])
  have hb32_6 : ¬ ((65535 : Int32) < p2) := by exact hp2
  refine GoH.step (fun t_ k_ => XS.icmpYes X3.here hx rfl (pc0 := 32) (pc' := 49) rfl (hb hby d7_32) rfl (XT.ii_le_t hb32_6) (by decide) (by decide) k_) ?_
  show GoH _ _ _ _ _ _ _ _ _ _ T3 (mkF m 49 #[.val (.ref a1), .val (.int p2)] [])
  obtain ⟨T7, h7, X7, e7, E7, A7, D7, -, st7⟩ := newO X3 hx hZ1 hown1 (hw _ (List.mem_of_getElem? (i := 49) rfl)) (hw _ (List.mem_of_getElem? (i := 50) rfl)) (hw _ (List.mem_of_getElem? (i := 34) rfl)) (e3) (g := (mkF m 49 #[.val (.ref a1), .val (.int p2)] [])) rfl (hb hby d7_49) (by decide) (by decide)
  obtain ⟨o7, g7⟩ : ∃ z, z = h1.size := ⟨_, rfl⟩
  rw [← g7] at A7 D7 st7
  have ne_a1_o7 : a1 ≠ o7 := Nat.ne_of_lt (Nat.lt_of_lt_of_le f1_0.lt (Nat.le_of_eq g7.symm))
  have ne_t_o7 : t ≠ o7 := Nat.ne_of_lt (Nat.lt_of_lt_of_le f1_1.lt (Nat.le_of_eq g7.symm))
  have ge_o7 : n0 ≤ o7 := Nat.le_trans Zs1 (Nat.le_of_eq g7.symm)
  have geh_o7 : h0.size ≤ o7 := Nat.le_trans K1.1 (Nat.le_of_eq g7.symm)
  have f7_0 : Fld Z h7 a1 "java/lang/String" "value" "[B" (.ref t) := (f1_0.ext E7)
  have f7_1 : Arv Z h7 t kb .byte N vs (.int 0) := (f1_1.ext E7)
  have f7_2 : Exa Z h7 a1 "java/lang/String" := (f1_2.ext E7)
  have f7_3 : Exa Z h7 o7 "com/example/majority_lease/majoritylease/redis/RedisNode" := A7
  have f7_4 : Fld Z h7 o7 "com/example/majority_lease/majoritylease/redis/RedisNode" "host" "Ljava/lang/String;" .null := (D7 (Or.inr (hw _ (List.mem_of_getElem? (i := 56) rfl))) (ty := (.object "java/lang/String")) (by decide))
  have f7_5 : Fld Z h7 o7 "com/example/majority_lease/majoritylease/redis/RedisNode" "port" "I" (.int (0 : Int32)) := (D7 (Or.inr (hw _ (List.mem_of_getElem? (i := 58) rfl))) (ty := .int) (by decide))
  have f7_6 : Fld Z h7 o7 "com/example/majority_lease/majoritylease/redis/RedisNode" "user" "Ljava/lang/String;" .null := (D7 (Or.inr (hw _ (List.mem_of_getElem? (i := 60) rfl))) (ty := (.object "java/lang/String")) (by decide))
  have f7_7 : Fld Z h7 o7 "com/example/majority_lease/majoritylease/redis/RedisNode" "password" "Ljava/lang/String;" .null := (D7 (Or.inr (hw _ (List.mem_of_getElem? (i := 62) rfl))) (ty := (.object "java/lang/String")) (by decide))
  have f7_8 : Fld Z h7 o7 "com/example/majority_lease/majoritylease/redis/RedisNode" "tls" "Ljavax/net/ssl/SSLContext;" .null := (D7 (Or.inr (hw _ (List.mem_of_getElem? (i := 64) rfl))) (ty := (.object "javax/net/ssl/SSLContext")) (by decide))
  have hk7 : _ ≤ h7.size := Nat.le_trans hk1 E7.1
  have C7 : CHr Z own_EL s.vm h0 T1.vm h7 := CC1.trans (CHr.ext E7 CC1.1)
  have Zs7 : n0 ≤ h7.size := (Nat.le_trans Zs1 E7.1)
  have K7 : Keep h0 h7 [] := K1.ext E7
  refine GoH.step st7 ?_
  show GoH _ _ _ _ _ _ _ _ _ _ T7 (mkF m 52 #[.val (.ref a1), .val (.int p2)] [(.ref o7)])
  refine GoH.step (fun t_ k_ => XS.dup X7.here hx rfl (hb hby d7_52) rfl rfl k_) ?_
  show GoH _ _ _ _ _ _ _ _ _ _ T7 (mkF m 53 #[.val (.ref a1), .val (.int p2)] [(.ref o7), (.ref o7)])
  refine GoH.step (fun t_ k_ => XS.aloadN X7.here hx rfl (hb hby d7_53) rfl rfl k_) ?_
  show GoH _ _ _ _ _ _ _ _ _ _ T7 (mkF m 54 #[.val (.ref a1), .val (.int p2)] [(.ref a1), (.ref o7), (.ref o7)])
  refine GoH.step (fun t_ k_ => XS.iloadN X7.here hx rfl (hb hby d7_54) rfl k_) ?_
  show GoH _ _ _ _ _ _ _ _ _ _ T7 (mkF m 55 #[.val (.ref a1), .val (.int p2)] [(.int p2), (.ref a1), (.ref o7), (.ref o7)])
  refine GoH.step (fun t_ k_ => XS.aconstNull X7.here hx rfl (hb hby d7_55) k_) ?_
  show GoH _ _ _ _ _ _ _ _ _ _ T7 (mkF m 56 #[.val (.ref a1), .val (.int p2)] [.null, (.int p2), (.ref a1), (.ref o7), (.ref o7)])
  refine GoH.step (fun t_ k_ => XS.aconstNull X7.here hx rfl (hb hby d7_56) k_) ?_
  show GoH _ _ _ _ _ _ _ _ _ _ T7 (mkF m 57 #[.val (.ref a1), .val (.int p2)] [.null, .null, (.int p2), (.ref a1), (.ref o7), (.ref o7)])
  refine GoH.step (fun t_ k_ => XS.aconstNull X7.here hx rfl (hb hby d7_57) k_) ?_
  show GoH _ _ _ _ _ _ _ _ _ _ T7 (mkF m 58 #[.val (.ref a1), .val (.int p2)] [.null, .null, .null, (.int p2), (.ref a1), (.ref o7), (.ref o7)])
  obtain ⟨_, _, ⟨T8, L8, k8, n8⟩, -, X8, ⟨Lc8, hQ8, l8, y8, z8⟩, st8⟩ := X7.specialBack hx (y := (⟨"com/example/majority_lease/majoritylease/redis/RedisNode", "<init>", "(Ljava/lang/String;ILjava/lang/String;Ljava/lang/String;Ljavax/net/ssl/SSLContext;)V"⟩ : MethodName)) rfl hown1 (mvT hZ1 (hw _ (List.mem_of_getElem? (i := 51) rfl))) (mvT hZ1 (hw _ (List.mem_of_getElem? (i := 52) rfl))) (mvT hZ1 (hw _ (List.mem_of_getElem? (i := 53) rfl))) (by decide) (backOf (W := 1) (rmNI l Z a0 hw [] o7 a1 p2 h7 n0 Zs7 ge_o7 f7_3 f7_4 f7_5 f7_6 f7_7 f7_8) hZ1 (hw _ (List.mem_of_getElem? (i := 53) rfl)) (hw _ (List.mem_of_getElem? (i := 34) rfl)) (by decide) (by decide)) (g := (mkF m 58 #[.val (.ref a1), .val (.int p2)] [.null, .null, .null, (.int p2), (.ref a1), (.ref o7), (.ref o7)])) rfl (by rw [hml]; rfl) (Steps.refl _) (a := o7) (argsL := [(.ref a1), (.int p2), .null, .null, .null]) (rest := [(.ref o7)]) (lenOf pd_2 rfl) rfl (by show 2 * 0 + _ ≤ _; exact Nat.le_of_eq rfl) (hb hby d7_58) (fun _ _ => ⟨rfl, e7, (by decide : 0 + 2 + 0 + 0 + 1 + 0 ≤ _), (by decide : 0 + (16 + 4) + 0 + 0 + 5 + 0 ≤ _)⟩)
  dsimp only [Pt.U, Pt.locs, Pt.cells, Pt.slots] at X8 l8 y8 z8 st8 hQ8
  subst l8 y8 z8
  obtain ⟨rfl, N8q, Kq8, Eq8, Fh8, Fp8, Fw8, Ft8⟩ := hQ8
  have N8 := Fr.app N3 N8q
  have f8_0 : Fld Z T8.heap a1 "java/lang/String" "value" "[B" (.ref t) := (f7_0.keep Kq8 (ninS ne_a1_o7 nin0))
  have f8_1 : Arv Z T8.heap t kb .byte N vs (.int 0) := (f7_1.keep Kq8 (ninS ne_t_o7 nin0))
  have f8_2 : Exa Z T8.heap a1 "java/lang/String" := (f7_2.keep Kq8)
  have f8_3 : Exa Z T8.heap o7 "com/example/majority_lease/majoritylease/redis/RedisNode" := Eq8
  have f8_4 : Fld Z T8.heap o7 "com/example/majority_lease/majoritylease/redis/RedisNode" "host" "Ljava/lang/String;" (.ref a1) := Fh8
  have f8_5 : Fld Z T8.heap o7 "com/example/majority_lease/majoritylease/redis/RedisNode" "port" "I" (.int p2) := Fp8
  have f8_6 : Fld Z T8.heap o7 "com/example/majority_lease/majoritylease/redis/RedisNode" "password" "Ljava/lang/String;" .null := Fw8
  have f8_7 : Fld Z T8.heap o7 "com/example/majority_lease/majoritylease/redis/RedisNode" "tls" "Ljavax/net/ssl/SSLContext;" .null := Ft8
  have sfk8 : ∀ x ∈ ([o7] : List Addr), Safe Z own_EL T1.vm h7 x := (sfS (Safe.exa hZ1.alike f7_3 (by decide) (by decide)) sf0)
  have hk8 : _ ≤ T8.heap.size := Nat.le_trans hk7 Kq8.1
  have C8 : CHr Z own_EL s.vm h0 T1.vm T8.heap := C7.trans (CHr.keep Kq8 sfk8 C7.1)
  have Zs8 : n0 ≤ T8.heap.size := (Nat.le_trans Zs7 Kq8.1)
  have K8 : Keep h0 T8.heap [] := K7.trans Kq8 (allS (Or.inr geh_o7) all0)
  refine GoH.step (fun t_ k_ => st8.trans k_) ?_
  show GoH _ _ _ _ _ _ _ _ _ _ T8 (mkF m 61 #[.val (.ref a1), .val (.int p2)] [(.ref o7)])
  have hkr := hk8
  have hCr := C8
  refine GoH.ret X8 hx hlk hS1 hkr hZ1 hEL hCr hret rfl (Or.inr (Or.inr (Or.inr (Or.inr ⟨rfl, rfl, rfl⟩)))) (hb hby d7_61) ?_ (by decide) (by decide)
  show QAt Z _ _ _ _ _ _ _ _ _ T8.heap _
  exact ⟨o7, rfl, N8, K8, geh_o7, f8_3, f8_4, f8_5, f8_6, f8_7⟩
theorem ef_rmHo (m : MethodId) (a1 : Addr) : entryFrame m #[(.ref a1)] 1 = mkF m 0 #[.val (.ref a1)] [] := by first | (simp [entryFrame, mkF, argsToLocals, Value.category]; done) | rfl
def QHo (Z : State) (a1 : Addr) (r : Addr) (h0 : Heap) (n0 : Nat) (v : Option Value) (h : Heap) (L : List Loc) : Prop := v = some (.ref r) ∧ Fr n0 L ∧ h = h0
theorem d11_0 : decode prog_9_method_11_code 0 = .ok (.aload_n 0, 1) := by decide +kernel
theorem d11_1 : decode prog_9_method_11_code 1 = .ok (.getfield 7, 3) := by decide +kernel
theorem d11_4 : decode prog_9_method_11_code 4 = .ok (.areturn, 1) := by decide +kernel
set_option maxRecDepth 65536 in
set_option maxHeartbeats 40000000 in
theorem rmHo (l : Launch) (Z : State) (a0 : Array Value) (hw : ∀ d ∈ tables_1, d.before a0 Z = true) (ws : List Jvm.Cond) (a1 : Addr) (r : Addr) (h0 : Heap) (n0 : Nat) (Z0 : n0 ≤ h0.size) (PF1 : Fld Z h0 a1 "com/example/majority_lease/majoritylease/redis/RedisNode" "host" "Ljava/lang/String;" (.ref r)) :
    MetFree l (⟨"com/example/majority_lease/majoritylease/redis/RedisNode", "host", "()Ljava/lang/String;"⟩ : MethodName) (head1 (Jvm.Cond.code (⟨"com/example/majority_lease/majoritylease/redis/RedisNode", "host", "()Ljava/lang/String;"⟩ : MethodName) prog_9_method_11_code 1 (some (.object "java/lang/String")) :: ws) ({ frames := 0, cells := 0, slots := 0, locals := 0 } : Room)) (fun a U => a = #[(.ref a1)] ∧ Z.Warmed39 U.vm ∧ U.heap = h0) (fun _ _ _ _ _ => True) (fun _ U o U' => ∃ v L, o = .returned v ∧ QHo Z a1 r h0 n0 v U'.heap L ∧ FrameEnd U o U' L ({ frames := 0, cells := 0, slots := 0, locals := 0 } : Room).cells ({ frames := 0, cells := 0, slots := 0, locals := 0 } : Room).slots) := by
  refine MetFree.of_bodySF (plainFor_of_name pn_2) hisR ?_
  intro p e s m args below meth c s₁ Bd hml0 hP hK
  obtain ⟨rfl, hZ, hh⟩ := hP
  have hx := Bd.exec
  have hby := Bd.bytes
  have hlk := BodyLoose.notSynchronized Bd
  have hml : c.maxLocals = 1 := hml0
  have hret := Bd.returns
  have hown : s.vm.findClass "com/example/majority_lease/majoritylease/redis/RedisNode" = some m.cls := findClass_of_methodNamed Bd.named
  have hnm := (name_of_methodNamed Bd.named Bd.method).1
  have X0 : Stand p l e ({ frames := 0, cells := 0, slots := 0, locals := 0 } : Room) s m #[(.ref a1)] below meth c s₁ [] 0 0 := Stand.of_body Bd
  have e0 : s₁.heap = h0 := by rw [← hh, Bd.state]; rfl
  have N0 := Fr.nil n0
  show Go p e below s ({ frames := 0, cells := 0, slots := 0, locals := 0 } : Room).cells ({ frames := 0, cells := 0, slots := 0, locals := 0 } : Room).slots (QHo Z a1 r h0 n0) s₁ (entryFrame m #[(.ref a1)] 1)
  refine Go.cast (ef_rmHo m a1) ?_
  show Go _ _ _ _ _ _ _ s₁ (mkF m 0 #[.val (.ref a1)] [])
  refine Go.step (fun t_ k_ => XS.aloadN X0.here hx rfl (hb hby d11_0) rfl rfl k_) ?_
  show Go _ _ _ _ _ _ _ s₁ (mkF m 1 #[.val (.ref a1)] [(.ref a1)])
  obtain ⟨T1, X1, e1, st1⟩ := getF X0 hx hZ hown (host := "") (Or.inl (hw _ (List.mem_of_getElem? (i := 55) rfl))) Via.refl e0 PF1 (g := (mkF m 1 #[.val (.ref a1)] [(.ref a1)])) rfl rfl (hb hby d11_1)
  refine Go.step st1 ?_
  show Go _ _ _ _ _ _ _ T1 (mkF m 4 #[.val (.ref a1)] [(.ref r)])
  refine Go.ret X1 hx hlk hret rfl (Or.inr (Or.inr (Or.inr (Or.inr ⟨rfl, rfl, rfl⟩)))) (hb hby d11_4) ?_ (by decide) (by decide)
  show QHo Z _ _ _ _ _ T1.heap _
  exact ⟨rfl, N0, e1⟩
theorem ef_rmPo (m : MethodId) (a1 : Addr) : entryFrame m #[(.ref a1)] 1 = mkF m 0 #[.val (.ref a1)] [] := by first | (simp [entryFrame, mkF, argsToLocals, Value.category]; done) | rfl
def QPo (Z : State) (a1 : Addr) (r : Int32) (h0 : Heap) (n0 : Nat) (v : Option Value) (h : Heap) (L : List Loc) : Prop := v = some (.int r) ∧ Fr n0 L ∧ h = h0
theorem d19_0 : decode prog_9_method_12_code 0 = .ok (.aload_n 0, 1) := by decide +kernel
theorem d19_1 : decode prog_9_method_12_code 1 = .ok (.getfield 13, 3) := by decide +kernel
theorem d19_4 : decode prog_9_method_12_code 4 = .ok (.ireturn, 1) := by decide +kernel
set_option maxRecDepth 65536 in
set_option maxHeartbeats 40000000 in
theorem rmPo (l : Launch) (Z : State) (a0 : Array Value) (hw : ∀ d ∈ tables_1, d.before a0 Z = true) (ws : List Jvm.Cond) (a1 : Addr) (r : Int32) (h0 : Heap) (n0 : Nat) (Z0 : n0 ≤ h0.size) (PF1 : Fld Z h0 a1 "com/example/majority_lease/majoritylease/redis/RedisNode" "port" "I" (.int r)) :
    MetFree l (⟨"com/example/majority_lease/majoritylease/redis/RedisNode", "port", "()I"⟩ : MethodName) (head1 (Jvm.Cond.code (⟨"com/example/majority_lease/majoritylease/redis/RedisNode", "port", "()I"⟩ : MethodName) prog_9_method_12_code 1 (some .int) :: ws) ({ frames := 0, cells := 0, slots := 0, locals := 0 } : Room)) (fun a U => a = #[(.ref a1)] ∧ Z.Warmed39 U.vm ∧ U.heap = h0) (fun _ _ _ _ _ => True) (fun _ U o U' => ∃ v L, o = .returned v ∧ QPo Z a1 r h0 n0 v U'.heap L ∧ FrameEnd U o U' L ({ frames := 0, cells := 0, slots := 0, locals := 0 } : Room).cells ({ frames := 0, cells := 0, slots := 0, locals := 0 } : Room).slots) := by
  refine MetFree.of_bodySF (plainFor_of_name pn_2) hisR ?_
  intro p e s m args below meth c s₁ Bd hml0 hP hK
  obtain ⟨rfl, hZ, hh⟩ := hP
  have hx := Bd.exec
  have hby := Bd.bytes
  have hlk := BodyLoose.notSynchronized Bd
  have hml : c.maxLocals = 1 := hml0
  have hret := Bd.returns
  have hown : s.vm.findClass "com/example/majority_lease/majoritylease/redis/RedisNode" = some m.cls := findClass_of_methodNamed Bd.named
  have hnm := (name_of_methodNamed Bd.named Bd.method).1
  have X0 : Stand p l e ({ frames := 0, cells := 0, slots := 0, locals := 0 } : Room) s m #[(.ref a1)] below meth c s₁ [] 0 0 := Stand.of_body Bd
  have e0 : s₁.heap = h0 := by rw [← hh, Bd.state]; rfl
  have N0 := Fr.nil n0
  show Go p e below s ({ frames := 0, cells := 0, slots := 0, locals := 0 } : Room).cells ({ frames := 0, cells := 0, slots := 0, locals := 0 } : Room).slots (QPo Z a1 r h0 n0) s₁ (entryFrame m #[(.ref a1)] 1)
  refine Go.cast (ef_rmPo m a1) ?_
  show Go _ _ _ _ _ _ _ s₁ (mkF m 0 #[.val (.ref a1)] [])
  refine Go.step (fun t_ k_ => XS.aloadN X0.here hx rfl (hb hby d19_0) rfl rfl k_) ?_
  show Go _ _ _ _ _ _ _ s₁ (mkF m 1 #[.val (.ref a1)] [(.ref a1)])
  obtain ⟨T1, X1, e1, st1⟩ := getF X0 hx hZ hown (host := "") (Or.inl (hw _ (List.mem_of_getElem? (i := 57) rfl))) Via.refl e0 PF1 (g := (mkF m 1 #[.val (.ref a1)] [(.ref a1)])) rfl rfl (hb hby d19_1)
  refine Go.step st1 ?_
  show Go _ _ _ _ _ _ _ T1 (mkF m 4 #[.val (.ref a1)] [(.int r)])
  refine Go.ret X1 hx hlk hret rfl (Or.inl ⟨rfl, Or.inl rfl, _, rfl⟩) (hb hby d19_4) ?_ (by decide) (by decide)
  show QPo Z _ _ _ _ _ T1.heap _
  exact ⟨rfl, N0, e1⟩
theorem ef_rmTl (m : MethodId) (a1 : Addr) : entryFrame m #[(.ref a1)] 1 = mkF m 0 #[.val (.ref a1)] [] := by first | (simp [entryFrame, mkF, argsToLocals, Value.category]; done) | rfl
def QTl (Z : State) (a1 : Addr) (h0 : Heap) (n0 : Nat) (v : Option Value) (h : Heap) (L : List Loc) : Prop := v = some .null ∧ Fr n0 L ∧ h = h0
theorem d20_0 : decode prog_9_method_13_code 0 = .ok (.aload_n 0, 1) := by decide +kernel
theorem d20_1 : decode prog_9_method_13_code 1 = .ok (.getfield 23, 3) := by decide +kernel
theorem d20_4 : decode prog_9_method_13_code 4 = .ok (.areturn, 1) := by decide +kernel
set_option maxRecDepth 65536 in
set_option maxHeartbeats 40000000 in
theorem rmTl (l : Launch) (Z : State) (a0 : Array Value) (hw : ∀ d ∈ tables_1, d.before a0 Z = true) (ws : List Jvm.Cond) (a1 : Addr) (h0 : Heap) (n0 : Nat) (Z0 : n0 ≤ h0.size) (PF1 : Fld Z h0 a1 "com/example/majority_lease/majoritylease/redis/RedisNode" "tls" "Ljavax/net/ssl/SSLContext;" .null) :
    MetFree l (⟨"com/example/majority_lease/majoritylease/redis/RedisNode", "tls", "()Ljavax/net/ssl/SSLContext;"⟩ : MethodName) (head1 (Jvm.Cond.code (⟨"com/example/majority_lease/majoritylease/redis/RedisNode", "tls", "()Ljavax/net/ssl/SSLContext;"⟩ : MethodName) prog_9_method_13_code 1 (some (.object "javax/net/ssl/SSLContext")) :: ws) ({ frames := 0, cells := 0, slots := 0, locals := 0 } : Room)) (fun a U => a = #[(.ref a1)] ∧ Z.Warmed39 U.vm ∧ U.heap = h0) (fun _ _ _ _ _ => True) (fun _ U o U' => ∃ v L, o = .returned v ∧ QTl Z a1  h0 n0 v U'.heap L ∧ FrameEnd U o U' L ({ frames := 0, cells := 0, slots := 0, locals := 0 } : Room).cells ({ frames := 0, cells := 0, slots := 0, locals := 0 } : Room).slots) := by
  refine MetFree.of_bodySF (plainFor_of_name pn_2) hisR ?_
  intro p e s m args below meth c s₁ Bd hml0 hP hK
  obtain ⟨rfl, hZ, hh⟩ := hP
  have hx := Bd.exec
  have hby := Bd.bytes
  have hlk := BodyLoose.notSynchronized Bd
  have hml : c.maxLocals = 1 := hml0
  have hret := Bd.returns
  have hown : s.vm.findClass "com/example/majority_lease/majoritylease/redis/RedisNode" = some m.cls := findClass_of_methodNamed Bd.named
  have hnm := (name_of_methodNamed Bd.named Bd.method).1
  have X0 : Stand p l e ({ frames := 0, cells := 0, slots := 0, locals := 0 } : Room) s m #[(.ref a1)] below meth c s₁ [] 0 0 := Stand.of_body Bd
  have e0 : s₁.heap = h0 := by rw [← hh, Bd.state]; rfl
  have N0 := Fr.nil n0
  show Go p e below s ({ frames := 0, cells := 0, slots := 0, locals := 0 } : Room).cells ({ frames := 0, cells := 0, slots := 0, locals := 0 } : Room).slots (QTl Z a1  h0 n0) s₁ (entryFrame m #[(.ref a1)] 1)
  refine Go.cast (ef_rmTl m a1) ?_
  show Go _ _ _ _ _ _ _ s₁ (mkF m 0 #[.val (.ref a1)] [])
  refine Go.step (fun t_ k_ => XS.aloadN X0.here hx rfl (hb hby d20_0) rfl rfl k_) ?_
  show Go _ _ _ _ _ _ _ s₁ (mkF m 1 #[.val (.ref a1)] [(.ref a1)])
  obtain ⟨T1, X1, e1, st1⟩ := getF X0 hx hZ hown (host := "") (Or.inl (hw _ (List.mem_of_getElem? (i := 63) rfl))) Via.refl e0 PF1 (g := (mkF m 1 #[.val (.ref a1)] [(.ref a1)])) rfl rfl (hb hby d20_1)
  refine Go.step st1 ?_
  show Go _ _ _ _ _ _ _ T1 (mkF m 4 #[.val (.ref a1)] [.null])
  refine Go.ret X1 hx hlk hret rfl (Or.inr (Or.inr (Or.inr (Or.inr ⟨rfl, rfl, rfl⟩)))) (hb hby d20_4) ?_ (by decide) (by decide)
  show QTl Z _ _ _ _ T1.heap _
  exact ⟨rfl, N0, e1⟩
theorem pn_3 : plainName "java/util/List" = true := by first | (simp [plainName, overriddenIn]; done) | decide +kernel
theorem ef_rmLo (m : MethodId)  : entryFrame m #[] 0 = mkF m 0 #[] [] := by first | (simp [entryFrame, mkF, argsToLocals, Value.category]; done) | rfl
def QLo (Z : State)  (wl : Addr) (h0 : Heap) (n0 : Nat) (v : Option Value) (h : Heap) (L : List Loc) : Prop := v = some (.ref wl) ∧ Fr n0 L ∧ h = h0
theorem d22_0 : decode jdk_40_method_36_code 0 = .ok (.getstatic 90, 3) := by decide +kernel
theorem d22_3 : decode jdk_40_method_36_code 3 = .ok (.areturn, 1) := by decide +kernel
set_option maxRecDepth 65536 in
set_option maxHeartbeats 40000000 in
theorem rmLo (l : Launch) (Z : State) (a0 : Array Value) (hw : ∀ d ∈ tables_1, d.before a0 Z = true) (ws : List Jvm.Cond)  (wl : Addr) (h0 : Heap) (n0 : Nat) (Z0 : n0 ≤ h0.size) (O0 : Old Z n0 h0) (S_EMPTY : Sta Z Z.heap "java/util/ImmutableCollections" "EMPTY_LIST" "Ljava/util/ImmutableCollections$ListN;" (.ref wl)) :
    MetFree l (⟨"java/util/List", "of", "()Ljava/util/List;"⟩ : MethodName) (head1 (Jvm.Cond.code (⟨"java/util/List", "of", "()Ljava/util/List;"⟩ : MethodName) jdk_40_method_36_code 0 (some (.object "java/util/List")) :: ws) ({ frames := 0, cells := 0, slots := 0, locals := 0 } : Room)) (fun a U => a = #[] ∧ Z.Warmed39 U.vm ∧ U.heap = h0) (fun _ _ _ _ _ => True) (fun _ U o U' => ∃ v L, o = .returned v ∧ QLo Z  wl h0 n0 v U'.heap L ∧ FrameEnd U o U' L ({ frames := 0, cells := 0, slots := 0, locals := 0 } : Room).cells ({ frames := 0, cells := 0, slots := 0, locals := 0 } : Room).slots) := by
  refine MetFree.of_bodySF (plainFor_of_name pn_3) hisR ?_
  intro p e s m args below meth c s₁ Bd hml0 hP hK
  obtain ⟨rfl, hZ, hh⟩ := hP
  have hx := Bd.exec
  have hby := Bd.bytes
  have hlk := BodyLoose.notSynchronized Bd
  have hml : c.maxLocals = 0 := hml0
  have hret := Bd.returns
  have hown : s.vm.findClass "java/util/List" = some m.cls := findClass_of_methodNamed Bd.named
  have hnm := (name_of_methodNamed Bd.named Bd.method).1
  have X0 : Stand p l e ({ frames := 0, cells := 0, slots := 0, locals := 0 } : Room) s m #[] below meth c s₁ [] 0 0 := Stand.of_body Bd
  have e0 : s₁.heap = h0 := by rw [← hh, Bd.state]; rfl
  have N0 := Fr.nil n0
  show Go p e below s ({ frames := 0, cells := 0, slots := 0, locals := 0 } : Room).cells ({ frames := 0, cells := 0, slots := 0, locals := 0 } : Room).slots (QLo Z  wl h0 n0) s₁ (entryFrame m #[] 0)
  refine Go.cast (ef_rmLo m ) ?_
  show Go _ _ _ _ _ _ _ s₁ (mkF m 0 #[] [])
  obtain ⟨T1, X1, e1, st1⟩ := getS2 X0 hx hZ hown (host := "") (Or.inl (hw _ (List.mem_of_getElem? (i := 121) rfl))) Via.refl e0 (S_EMPTY.ext O0.2) (g := (mkF m 0 #[] [])) rfl (hb hby d22_0)
  refine Go.step st1 ?_
  show Go _ _ _ _ _ _ _ T1 (mkF m 3 #[] [(.ref wl)])
  refine Go.ret X1 hx hlk hret rfl (Or.inr (Or.inr (Or.inr (Or.inr ⟨rfl, rfl, rfl⟩)))) (hb hby d22_3) ?_ (by decide) (by decide)
  show QLo Z _ _ _ _ T1.heap _
  exact ⟨rfl, N0, e1⟩
theorem ef_rmCr (m : MethodId) (a1 : Addr) : entryFrame m #[(.ref a1)] 1 = mkF m 0 #[.val (.ref a1)] [] := by first | (simp [entryFrame, mkF, argsToLocals, Value.category]; done) | rfl
def QCr (Z : State) (a1 : Addr) (wl : Addr) (h0 : Heap) (n0 : Nat) (v : Option Value) (h : Heap) (L : List Loc) : Prop := v = some (.ref wl) ∧ Fr n0 L ∧ h = h0
theorem d21_0 : decode prog_9_method_14_code 0 = .ok (.aload_n 0, 1) := by decide +kernel
theorem d21_1 : decode prog_9_method_14_code 1 = .ok (.getfield 20, 3) := by decide +kernel
theorem d21_4 : decode prog_9_method_14_code 4 = .ok (.ifnonnull 7, 3) := by decide +kernel
theorem pd_3 : parseMethodDescriptor "()Ljava/util/List;" = some ⟨[], some (.object "java/util/List")⟩ := by decide +kernel
theorem d21_7 : decode prog_9_method_14_code 7 = .ok (.invokestatic 106, 3) := by decide +kernel
theorem d21_10 : decode prog_9_method_14_code 10 = .ok (.areturn, 1) := by decide +kernel
set_option maxRecDepth 65536 in
set_option maxHeartbeats 40000000 in
theorem rmCr (l : Launch) (Z : State) (a0 : Array Value) (hw : ∀ d ∈ tables_1, d.before a0 Z = true) (ws : List Jvm.Cond) (a1 : Addr) (wl : Addr) (h0 : Heap) (n0 : Nat) (Z0 : n0 ≤ h0.size) (O0 : Old Z n0 h0) (S_EMPTY : Sta Z Z.heap "java/util/ImmutableCollections" "EMPTY_LIST" "Ljava/util/ImmutableCollections$ListN;" (.ref wl)) (PF1 : Fld Z h0 a1 "com/example/majority_lease/majoritylease/redis/RedisNode" "password" "Ljava/lang/String;" .null) :
    MetFree l (⟨"com/example/majority_lease/majoritylease/redis/RedisNode", "credentials", "()Ljava/util/List;"⟩ : MethodName) (head1 (Jvm.Cond.code (⟨"com/example/majority_lease/majoritylease/redis/RedisNode", "credentials", "()Ljava/util/List;"⟩ : MethodName) prog_9_method_14_code 1 (some (.object "java/util/List")) :: ws) ({ frames := 1, cells := 0, slots := 0, locals := 11 } : Room)) (fun a U => a = #[(.ref a1)] ∧ Z.Warmed39 U.vm ∧ U.heap = h0) (fun _ _ _ _ _ => True) (fun _ U o U' => ∃ v L, o = .returned v ∧ QCr Z a1 wl h0 n0 v U'.heap L ∧ FrameEnd U o U' L ({ frames := 1, cells := 0, slots := 0, locals := 11 } : Room).cells ({ frames := 1, cells := 0, slots := 0, locals := 11 } : Room).slots) := by
  refine MetFree.of_bodySF (plainFor_of_name pn_2) hisR ?_
  intro p e s m args below meth c s₁ Bd hml0 hP hK
  obtain ⟨rfl, hZ, hh⟩ := hP
  have hx := Bd.exec
  have hby := Bd.bytes
  have hlk := BodyLoose.notSynchronized Bd
  have hml : c.maxLocals = 1 := hml0
  have hret := Bd.returns
  have hown : s.vm.findClass "com/example/majority_lease/majoritylease/redis/RedisNode" = some m.cls := findClass_of_methodNamed Bd.named
  have hnm := (name_of_methodNamed Bd.named Bd.method).1
  have X0 : Stand p l e ({ frames := 1, cells := 0, slots := 0, locals := 11 } : Room) s m #[(.ref a1)] below meth c s₁ [] 0 0 := Stand.of_body Bd
  have e0 : s₁.heap = h0 := by rw [← hh, Bd.state]; rfl
  have N0 := Fr.nil n0
  show Go p e below s ({ frames := 1, cells := 0, slots := 0, locals := 11 } : Room).cells ({ frames := 1, cells := 0, slots := 0, locals := 11 } : Room).slots (QCr Z a1 wl h0 n0) s₁ (entryFrame m #[(.ref a1)] 1)
  refine Go.cast (ef_rmCr m a1) ?_
  show Go _ _ _ _ _ _ _ s₁ (mkF m 0 #[.val (.ref a1)] [])
  refine Go.step (fun t_ k_ => XS.aloadN X0.here hx rfl (hb hby d21_0) rfl rfl k_) ?_
  show Go _ _ _ _ _ _ _ s₁ (mkF m 1 #[.val (.ref a1)] [(.ref a1)])
  obtain ⟨T1, X1, e1, st1⟩ := getF X0 hx hZ hown (host := "") (Or.inl (hw _ (List.mem_of_getElem? (i := 61) rfl))) Via.refl e0 PF1 (g := (mkF m 1 #[.val (.ref a1)] [(.ref a1)])) rfl rfl (hb hby d21_1)
  refine Go.step st1 ?_
  show Go _ _ _ _ _ _ _ T1 (mkF m 4 #[.val (.ref a1)] [.null])
  refine Go.step (fun t_ k_ => XT.ifnonnullNo X1.here hx rfl (hb hby d21_4) rfl k_) ?_
  show Go _ _ _ _ _ _ _ T1 (mkF m 7 #[.val (.ref a1)] [])
  obtain ⟨_, _, ⟨T2, L2, k2, n2⟩, -, X2, ⟨Lc2, hQ2, l2, y2, z2⟩, st2⟩ := Jvm.LawKit.callS X1 hx (y := (⟨"java/util/List", "of", "()Ljava/util/List;"⟩ : MethodName)) hown (mvT hZ (hw _ (List.mem_of_getElem? (i := 117) rfl))) (mvT hZ (hw _ (List.mem_of_getElem? (i := 118) rfl))) (mvT hZ (hw _ (List.mem_of_getElem? (i := 119) rfl))) (mvT hZ (hw _ (List.mem_of_getElem? (i := 120) rfl))) (by decide) (backOf (W := 0) (rmLo l Z a0 hw [] wl h0 n0 Z0 O0 S_EMPTY) hZ (hw _ (List.mem_of_getElem? (i := 120) rfl)) (hw _ (List.mem_of_getElem? (i := 119) rfl)) (by decide) (by decide)) (g := (mkF m 7 #[.val (.ref a1)] [])) rfl (by rw [hml]; rfl) (argsL := []) (rest := []) (lenOf pd_3 rfl) rfl (by show 2 * 0 + _ ≤ _; exact Nat.le_of_eq rfl) (hb hby d21_7) (fun _ _ => ⟨rfl, e1, (by decide : 0 + 0 ≤ _), (by decide : 0 + 0 ≤ _)⟩)
  dsimp only [Pt.U, Pt.locs, Pt.cells, Pt.slots] at X2 l2 y2 z2 st2 hQ2
  subst l2 y2 z2
  obtain ⟨rfl, N2q, e2⟩ := hQ2
  have N2 := Fr.app N0 N2q
  refine Go.step st2 ?_
  show Go _ _ _ _ _ _ _ T2 (mkF m 10 #[.val (.ref a1)] [(.ref wl)])
  refine Go.ret X2 hx hlk hret rfl (Or.inr (Or.inr (Or.inr (Or.inr ⟨rfl, rfl, rfl⟩)))) (hb hby d21_10) ?_ (by decide) (by decide)
  show QCr Z _ _ _ _ _ T2.heap _
  exact ⟨rfl, N2, (e2)⟩
theorem pn_4 : plainName "java/util/ImmutableCollections$ListN" = true := by first | (simp [plainName, overriddenIn]; done) | decide +kernel
theorem ef_rmSz (m : MethodId) (a1 : Addr) : entryFrame m #[(.ref a1)] 1 = mkF m 0 #[.val (.ref a1)] [] := by first | (simp [entryFrame, mkF, argsToLocals, Value.category]; done) | rfl
def QSz (Z : State) (a1 : Addr) (t : Addr) (kb : ClassId) (h0 : Heap) (n0 : Nat) (v : Option Value) (h : Heap) (L : List Loc) : Prop := v = some (.int (0 : Int32)) ∧ Fr n0 L ∧ h = h0
theorem d23_0 : decode jdk_45_method_3_code 0 = .ok (.aload_n 0, 1) := by decide +kernel
theorem d23_1 : decode jdk_45_method_3_code 1 = .ok (.getfield 7, 3) := by decide +kernel
theorem d23_4 : decode jdk_45_method_3_code 4 = .ok (.arraylength, 1) := by decide +kernel
theorem d23_5 : decode jdk_45_method_3_code 5 = .ok (.ireturn, 1) := by decide +kernel
set_option maxRecDepth 65536 in
set_option maxHeartbeats 40000000 in
theorem rmSz (l : Launch) (Z : State) (a0 : Array Value) (hw : ∀ d ∈ tables_1, d.before a0 Z = true) (ws : List Jvm.Cond) (a1 : Addr) (t : Addr) (kb : ClassId) (h0 : Heap) (n0 : Nat) (Z0 : n0 ≤ h0.size) (PF1 : Fld Z h0 a1 "java/util/ImmutableCollections$ListN" "elements" "[Ljava/lang/Object;" (.ref t)) (PA1 : Arv Z h0 t kb (.object "java/lang/Object") (0 : Int32) [] .null) :
    MetFree l (⟨"java/util/ImmutableCollections$ListN", "size", "()I"⟩ : MethodName) (head1 (Jvm.Cond.code (⟨"java/util/ImmutableCollections$ListN", "size", "()I"⟩ : MethodName) jdk_45_method_3_code 1 (some .int) :: ws) ({ frames := 0, cells := 0, slots := 0, locals := 0 } : Room)) (fun a U => a = #[(.ref a1)] ∧ Z.Warmed39 U.vm ∧ U.heap = h0) (fun _ _ _ _ _ => True) (fun _ U o U' => ∃ v L, o = .returned v ∧ QSz Z a1 t kb h0 n0 v U'.heap L ∧ FrameEnd U o U' L ({ frames := 0, cells := 0, slots := 0, locals := 0 } : Room).cells ({ frames := 0, cells := 0, slots := 0, locals := 0 } : Room).slots) := by
  refine MetFree.of_bodySF (plainFor_of_name pn_4) hisR ?_
  intro p e s m args below meth c s₁ Bd hml0 hP hK
  obtain ⟨rfl, hZ, hh⟩ := hP
  have hx := Bd.exec
  have hby := Bd.bytes
  have hlk := BodyLoose.notSynchronized Bd
  have hml : c.maxLocals = 1 := hml0
  have hret := Bd.returns
  have hown : s.vm.findClass "java/util/ImmutableCollections$ListN" = some m.cls := findClass_of_methodNamed Bd.named
  have hnm := (name_of_methodNamed Bd.named Bd.method).1
  have X0 : Stand p l e ({ frames := 0, cells := 0, slots := 0, locals := 0 } : Room) s m #[(.ref a1)] below meth c s₁ [] 0 0 := Stand.of_body Bd
  have e0 : s₁.heap = h0 := by rw [← hh, Bd.state]; rfl
  have N0 := Fr.nil n0
  show Go p e below s ({ frames := 0, cells := 0, slots := 0, locals := 0 } : Room).cells ({ frames := 0, cells := 0, slots := 0, locals := 0 } : Room).slots (QSz Z a1 t kb h0 n0) s₁ (entryFrame m #[(.ref a1)] 1)
  refine Go.cast (ef_rmSz m a1) ?_
  show Go _ _ _ _ _ _ _ s₁ (mkF m 0 #[.val (.ref a1)] [])
  refine Go.step (fun t_ k_ => XS.aloadN X0.here hx rfl (hb hby d23_0) rfl rfl k_) ?_
  show Go _ _ _ _ _ _ _ s₁ (mkF m 1 #[.val (.ref a1)] [(.ref a1)])
  obtain ⟨T1, X1, e1, st1⟩ := getF X0 hx hZ hown (host := "") (Or.inl (hw _ (List.mem_of_getElem? (i := 133) rfl))) Via.refl e0 PF1 (g := (mkF m 1 #[.val (.ref a1)] [(.ref a1)])) rfl rfl (hb hby d23_1)
  refine Go.step st1 ?_
  show Go _ _ _ _ _ _ _ T1 (mkF m 4 #[.val (.ref a1)] [(.ref t)])
  obtain ⟨c2, Ar2, q2, S2, M2, H2, U2⟩ := id PA1
  refine Go.step (fun t_ k_ => X1.arraylength hx (by rw [e1]; exact Ar2.1) (State.isArrayOf_alike hZ.alike Ar2.2.1) (g := (mkF m 4 #[.val (.ref a1)] [(.ref t)])) rfl rfl (hb hby d23_4) _ k_) ?_
  rw [len_of S2 M2]
  show Go _ _ _ _ _ _ _ T1 (mkF m 5 #[.val (.ref a1)] [(.int (0 : Int32))])
  refine Go.ret X1 hx hlk hret rfl (Or.inl ⟨rfl, Or.inl rfl, _, rfl⟩) (hb hby d23_5) ?_ (by decide) (by decide)
  show QSz Z _ _ _ _ _ _ T1.heap _
  exact ⟨rfl, N0, e1⟩
theorem pn_5 : plainName "com/example/majority_lease/majoritylease/redis/RedisNodeAtPinLaw" = true := by first | (simp [plainName, overriddenIn]; done) | decide +kernel
theorem ef_rm0 (m : MethodId) (p1 : Int32) (p2 : Int32) (p3 : Int32) (p4 : Int32) (p5 : Int32) : entryFrame m #[(.int p1), (.int p2), (.int p3), (.int p4), (.int p5)] maxLocals = mkF m 0 #[.val (.int p1), .val (.int p2), .val (.int p3), .val (.int p4), .val (.int p5), .unset, .unset, .unset, .unset, .unset, .unset, .unset, .unset, .unset] [] := by first | (simp [entryFrame, mkF, argsToLocals, Value.category, maxLocals]; done) | rfl
def Q0 (Z : State) (p1 : Int32) (p2 : Int32) (p3 : Int32) (p4 : Int32) (p5 : Int32) (G1 : Int32) (G3 : Value) (wl : Addr) (we : Addr) (ke : ClassId) (h0 : Heap) (n0 : Nat) (v : Option Value) (h : Heap) (L : List Loc) : Prop := v = some (.int (1 : Int32)) ∧ Fr n0 L
theorem pd_4 : parseMethodDescriptor "([C)V" = some ⟨[(.array .char)], none⟩ := by decide +kernel
theorem pd_5 : parseMethodDescriptor "(Ljava/lang/String;I)Lcom/example/majority_lease/majoritylease/redis/RedisNode;" = some ⟨[(.object "java/lang/String"), .int], some (.object "com/example/majority_lease/majoritylease/redis/RedisNode")⟩ := by decide +kernel
theorem pd_6 : parseMethodDescriptor "()Ljava/lang/String;" = some ⟨[], some (.object "java/lang/String")⟩ := by decide +kernel
theorem pd_7 : parseMethodDescriptor "()I" = some ⟨[], some .int⟩ := by decide +kernel
theorem pd_8 : parseMethodDescriptor "(I)C" = some ⟨[.int], some .char⟩ := by decide +kernel
theorem pd_9 : parseMethodDescriptor "()Ljavax/net/ssl/SSLContext;" = some ⟨[], some (.object "javax/net/ssl/SSLContext")⟩ := by decide +kernel
set_option maxRecDepth 65536 in
set_option maxHeartbeats 40000000 in
theorem rm0 (l : Launch) (Z : State) (a0 : Array Value) (hw : ∀ d ∈ tables_1, d.before a0 Z = true) (ws : List Jvm.Cond) (p1 : Int32) (p2 : Int32) (p3 : Int32) (p4 : Int32) (p5 : Int32) (G1 : Int32) (G3 : Value) (wl : Addr) (we : Addr) (ke : ClassId) (h0 : Heap) (n0 : Nat) (Z0 : n0 ≤ h0.size) (O0 : Old Z n0 h0) (S_COMPACT : Sta Z Z.heap "java/lang/String" "COMPACT_STRINGS" "Z" (.int G1)) (P_COMPACT : ¬ (G1 = (0 : Int32))) (S_SIOOBE : Sta Z Z.heap "jdk/internal/util/Preconditions" "SIOOBE_FORMATTER" "Ljava/util/function/BiFunction;" G3) (r_SIOOBE : G3.isRef = true) (S_EMPTY : Sta Z Z.heap "java/util/ImmutableCollections" "EMPTY_LIST" "Ljava/util/ImmutableCollections$ListN;" (.ref wl)) (E_EL : Exa Z Z.heap wl "java/util/ImmutableCollections$ListN") (F_EL : Fld Z Z.heap wl "java/util/ImmutableCollections$ListN" "elements" "[Ljava/lang/Object;" (.ref we)) (A_EL : Arv Z Z.heap we ke (.object "java/lang/Object") (0 : Int32) [] .null) :
    MetFree l x (head1 (Jvm.Cond.code x code maxLocals ret :: ws) room_1) (fun a U => a = #[(.int p1), (.int p2), (.int p3), (.int p4), (.int p5)] ∧ Z.Warmed39 U.vm ∧ U.heap = h0 ∧ CHv Z own_EL U.vm h0) (fun _ _ _ _ _ => True) (fun _ U o U' => ∃ v L, o = .returned v ∧ Q0 Z p1 p2 p3 p4 p5 G1 G3 wl we ke h0 n0 v U'.heap L ∧ CHr Z own_EL U.vm U.heap U'.vm U'.heap ∧ ReturnedEndW U o U' L room_1.cells room_1.slots) := by
  refine MetFree.of_bodySF (plainFor_of_name pn_5) hisR ?_
  intro p e s m args below meth c s₁ Bd hml0 hP hK
  obtain ⟨rfl, hZ0, hh, hCH⟩ := hP
  have hx := Bd.exec
  have hby := Bd.bytes
  have hlk := BodyLoose.notSynchronized Bd
  have hml : c.maxLocals = 14 := hml0
  have hret := Bd.returns
  have hown0 : (s.setVm s.vm).vm.findClass "com/example/majority_lease/majoritylease/redis/RedisNodeAtPinLaw" = some m.cls := findClass_of_methodNamed Bd.named
  have hnm := (name_of_methodNamed Bd.named Bd.method).1
  have X0 : Stand p l e room_1 (s.setVm s.vm) m #[(.int p1), (.int p2), (.int p3), (.int p4), (.int p5)] below meth c s₁ [] 0 0 := Stand.of_body Bd
  have hZ0 : Z.Warmed39 (s.setVm s.vm).vm := hZ0
  have hEL : EW Z a0 own_EL := own_EW hw
  have hS0 : s.Since s.vm h0.size := (State.WarmedH.refl s).since _
  have hk0 : h0.size ≤ h0.size := Nat.le_refl _
  have C0 : CHr Z own_EL s.vm h0 s.vm h0 := CHr.refl hCH
  have e0 : s₁.heap = h0 := by rw [← hh, Bd.state]; rfl
  have N0 := Fr.nil n0
  show GoH p e below s room_1.cells room_1.slots Z own_EL s.heap (Q0 Z p1 p2 p3 p4 p5 G1 G3 wl we ke h0 n0) s₁ (entryFrame m #[(.int p1), (.int p2), (.int p3), (.int p4), (.int p5)] maxLocals)
  rw [hh]
  refine GoH.cast (ef_rm0 m p1 p2 p3 p4 p5) ?_
  show GoH _ _ _ _ _ _ _ _ _ _ s₁ (mkF m 0 #[.val (.int p1), .val (.int p2), .val (.int p3), .val (.int p4), .val (.int p5), .unset, .unset, .unset, .unset, .unset, .unset, .unset, .unset, .unset] [])
  refine GoH.step (fun t_ k_ => XS.iloadN X0.here hx rfl (hb hby at_0) rfl k_) ?_
  show GoH _ _ _ _ _ _ _ _ _ _ s₁ (mkF m 1 #[.val (.int p1), .val (.int p2), .val (.int p3), .val (.int p4), .val (.int p5), .unset, .unset, .unset, .unset, .unset, .unset, .unset, .unset, .unset] [(.int p1)])
  refine GoH.step (fun t_ k_ => XS.sipush X0.here hx rfl (hb hby at_1) k_) ?_
  show GoH _ _ _ _ _ _ _ _ _ _ s₁ (mkF m 4 #[.val (.int p1), .val (.int p2), .val (.int p3), .val (.int p4), .val (.int p5), .unset, .unset, .unset, .unset, .unset, .unset, .unset, .unset, .unset] [(.int (255 : Int32)), (.int p1)])
  refine GoH.step (fun t_ k_ => XS.iand X0.here hx rfl (hb hby at_4) rfl k_) ?_
  show GoH _ _ _ _ _ _ _ _ _ _ s₁ (mkF m 5 #[.val (.int p1), .val (.int p2), .val (.int p3), .val (.int p4), .val (.int p5), .unset, .unset, .unset, .unset, .unset, .unset, .unset, .unset, .unset] [(.int (p1 &&& (255 : Int32)))])
  refine GoH.step (fun t_ k_ => XT.i2c X0.here hx rfl (hb hby at_5) rfl k_) ?_
  show GoH _ _ _ _ _ _ _ _ _ _ s₁ (mkF m 6 #[.val (.int p1), .val (.int p2), .val (.int p3), .val (.int p4), .val (.int p5), .unset, .unset, .unset, .unset, .unset, .unset, .unset, .unset, .unset] [(.int ((p1 &&& (255 : Int32)).toUInt32.toUInt16.toUInt32.toInt32))])
  generalize hc0 : ((p1 &&& (255 : Int32)).toUInt32.toUInt16.toUInt32.toInt32) = c0
  show GoH _ _ _ _ _ _ _ _ _ _ s₁ (mkF m 6 #[.val (.int p1), .val (.int p2), .val (.int p3), .val (.int p4), .val (.int p5), .unset, .unset, .unset, .unset, .unset, .unset, .unset, .unset, .unset] [(.int c0)])
  have hc0r : (¬ c0 < 0 ∧ ¬ (255 : Int32) < c0) ∧ nar .char c0 = c0 := by rw [← hc0]; exact own_c255 _
  refine GoH.step (fun t_ k_ => XS.istore X0.here hx rfl (hb hby at_6) rfl (l' := #[.val (.int p1), .val (.int p2), .val (.int p3), .val (.int p4), .val (.int p5), .val (.int c0), .unset, .unset, .unset, .unset, .unset, .unset, .unset, .unset]) rfl k_) ?_
  show GoH _ _ _ _ _ _ _ _ _ _ s₁ (mkF m 8 #[.val (.int p1), .val (.int p2), .val (.int p3), .val (.int p4), .val (.int p5), .val (.int c0), .unset, .unset, .unset, .unset, .unset, .unset, .unset, .unset] [])
  refine GoH.step (fun t_ k_ => XS.iloadN X0.here hx rfl (hb hby at_8) rfl k_) ?_
  show GoH _ _ _ _ _ _ _ _ _ _ s₁ (mkF m 9 #[.val (.int p1), .val (.int p2), .val (.int p3), .val (.int p4), .val (.int p5), .val (.int c0), .unset, .unset, .unset, .unset, .unset, .unset, .unset, .unset] [(.int p2)])
  refine GoH.step (fun t_ k_ => XS.sipush X0.here hx rfl (hb hby at_9) k_) ?_
  show GoH _ _ _ _ _ _ _ _ _ _ s₁ (mkF m 12 #[.val (.int p1), .val (.int p2), .val (.int p3), .val (.int p4), .val (.int p5), .val (.int c0), .unset, .unset, .unset, .unset, .unset, .unset, .unset, .unset] [(.int (255 : Int32)), (.int p2)])
  refine GoH.step (fun t_ k_ => XS.iand X0.here hx rfl (hb hby at_12) rfl k_) ?_
  show GoH _ _ _ _ _ _ _ _ _ _ s₁ (mkF m 13 #[.val (.int p1), .val (.int p2), .val (.int p3), .val (.int p4), .val (.int p5), .val (.int c0), .unset, .unset, .unset, .unset, .unset, .unset, .unset, .unset] [(.int (p2 &&& (255 : Int32)))])
  refine GoH.step (fun t_ k_ => XT.i2c X0.here hx rfl (hb hby at_13) rfl k_) ?_
  show GoH _ _ _ _ _ _ _ _ _ _ s₁ (mkF m 14 #[.val (.int p1), .val (.int p2), .val (.int p3), .val (.int p4), .val (.int p5), .val (.int c0), .unset, .unset, .unset, .unset, .unset, .unset, .unset, .unset] [(.int ((p2 &&& (255 : Int32)).toUInt32.toUInt16.toUInt32.toInt32))])
  generalize hc1 : ((p2 &&& (255 : Int32)).toUInt32.toUInt16.toUInt32.toInt32) = c1
  show GoH _ _ _ _ _ _ _ _ _ _ s₁ (mkF m 14 #[.val (.int p1), .val (.int p2), .val (.int p3), .val (.int p4), .val (.int p5), .val (.int c0), .unset, .unset, .unset, .unset, .unset, .unset, .unset, .unset] [(.int c1)])
  have hc1r : (¬ c1 < 0 ∧ ¬ (255 : Int32) < c1) ∧ nar .char c1 = c1 := by rw [← hc1]; exact own_c255 _
  refine GoH.step (fun t_ k_ => XS.istore X0.here hx rfl (hb hby at_14) rfl (l' := #[.val (.int p1), .val (.int p2), .val (.int p3), .val (.int p4), .val (.int p5), .val (.int c0), .val (.int c1), .unset, .unset, .unset, .unset, .unset, .unset, .unset]) rfl k_) ?_
  show GoH _ _ _ _ _ _ _ _ _ _ s₁ (mkF m 16 #[.val (.int p1), .val (.int p2), .val (.int p3), .val (.int p4), .val (.int p5), .val (.int c0), .val (.int c1), .unset, .unset, .unset, .unset, .unset, .unset, .unset] [])
  refine GoH.step (fun t_ k_ => XS.iloadN X0.here hx rfl (hb hby at_16) rfl k_) ?_
  show GoH _ _ _ _ _ _ _ _ _ _ s₁ (mkF m 17 #[.val (.int p1), .val (.int p2), .val (.int p3), .val (.int p4), .val (.int p5), .val (.int c0), .val (.int c1), .unset, .unset, .unset, .unset, .unset, .unset, .unset] [(.int p3)])
  refine GoH.step (fun t_ k_ => XS.sipush X0.here hx rfl (hb hby at_17) k_) ?_
  show GoH _ _ _ _ _ _ _ _ _ _ s₁ (mkF m 20 #[.val (.int p1), .val (.int p2), .val (.int p3), .val (.int p4), .val (.int p5), .val (.int c0), .val (.int c1), .unset, .unset, .unset, .unset, .unset, .unset, .unset] [(.int (255 : Int32)), (.int p3)])
  refine GoH.step (fun t_ k_ => XS.iand X0.here hx rfl (hb hby at_20) rfl k_) ?_
  show GoH _ _ _ _ _ _ _ _ _ _ s₁ (mkF m 21 #[.val (.int p1), .val (.int p2), .val (.int p3), .val (.int p4), .val (.int p5), .val (.int c0), .val (.int c1), .unset, .unset, .unset, .unset, .unset, .unset, .unset] [(.int (p3 &&& (255 : Int32)))])
  refine GoH.step (fun t_ k_ => XT.i2c X0.here hx rfl (hb hby at_21) rfl k_) ?_
  show GoH _ _ _ _ _ _ _ _ _ _ s₁ (mkF m 22 #[.val (.int p1), .val (.int p2), .val (.int p3), .val (.int p4), .val (.int p5), .val (.int c0), .val (.int c1), .unset, .unset, .unset, .unset, .unset, .unset, .unset] [(.int ((p3 &&& (255 : Int32)).toUInt32.toUInt16.toUInt32.toInt32))])
  generalize hc2 : ((p3 &&& (255 : Int32)).toUInt32.toUInt16.toUInt32.toInt32) = c2
  show GoH _ _ _ _ _ _ _ _ _ _ s₁ (mkF m 22 #[.val (.int p1), .val (.int p2), .val (.int p3), .val (.int p4), .val (.int p5), .val (.int c0), .val (.int c1), .unset, .unset, .unset, .unset, .unset, .unset, .unset] [(.int c2)])
  have hc2r : (¬ c2 < 0 ∧ ¬ (255 : Int32) < c2) ∧ nar .char c2 = c2 := by rw [← hc2]; exact own_c255 _
  refine GoH.step (fun t_ k_ => XS.istore X0.here hx rfl (hb hby at_22) rfl (l' := #[.val (.int p1), .val (.int p2), .val (.int p3), .val (.int p4), .val (.int p5), .val (.int c0), .val (.int c1), .val (.int c2), .unset, .unset, .unset, .unset, .unset, .unset]) rfl k_) ?_
  show GoH _ _ _ _ _ _ _ _ _ _ s₁ (mkF m 24 #[.val (.int p1), .val (.int p2), .val (.int p3), .val (.int p4), .val (.int p5), .val (.int c0), .val (.int c1), .val (.int c2), .unset, .unset, .unset, .unset, .unset, .unset] [])
  refine GoH.step (fun t_ k_ => XS.iconst X0.here hx rfl (hb hby at_24) k_) ?_
  show GoH _ _ _ _ _ _ _ _ _ _ s₁ (mkF m 25 #[.val (.int p1), .val (.int p2), .val (.int p3), .val (.int p4), .val (.int p5), .val (.int c0), .val (.int c1), .val (.int c2), .unset, .unset, .unset, .unset, .unset, .unset] [(.int (1 : Int32))])
  refine GoH.step (fun t_ k_ => XS.iloadN X0.here hx rfl (hb hby at_25) rfl k_) ?_
  show GoH _ _ _ _ _ _ _ _ _ _ s₁ (mkF m 26 #[.val (.int p1), .val (.int p2), .val (.int p3), .val (.int p4), .val (.int p5), .val (.int c0), .val (.int c1), .val (.int c2), .unset, .unset, .unset, .unset, .unset, .unset] [(.int p4), (.int (1 : Int32))])
  refine GoH.step (fun t_ k_ => X0.ldcI hx hown0 (mvT hZ0 (hw _ (List.mem_of_getElem? (i := 0) rfl))) rfl (hb hby at_26) k_) ?_
  show GoH _ _ _ _ _ _ _ _ _ _ s₁ (mkF m 28 #[.val (.int p1), .val (.int p2), .val (.int p3), .val (.int p4), .val (.int p5), .val (.int c0), .val (.int c1), .val (.int c2), .unset, .unset, .unset, .unset, .unset, .unset] [(.int (2147483647 : Int32)), (.int p4), (.int (1 : Int32))])
  refine GoH.step (fun t_ k_ => XS.iand X0.here hx rfl (hb hby at_28) rfl k_) ?_
  show GoH _ _ _ _ _ _ _ _ _ _ s₁ (mkF m 29 #[.val (.int p1), .val (.int p2), .val (.int p3), .val (.int p4), .val (.int p5), .val (.int c0), .val (.int c1), .val (.int c2), .unset, .unset, .unset, .unset, .unset, .unset] [(.int (p4 &&& (2147483647 : Int32))), (.int (1 : Int32))])
  refine GoH.step (fun t_ k_ => XS.iconst X0.here hx rfl (hb hby at_29) k_) ?_
  show GoH _ _ _ _ _ _ _ _ _ _ s₁ (mkF m 30 #[.val (.int p1), .val (.int p2), .val (.int p3), .val (.int p4), .val (.int p5), .val (.int c0), .val (.int c1), .val (.int c2), .unset, .unset, .unset, .unset, .unset, .unset] [(.int (3 : Int32)), (.int (p4 &&& (2147483647 : Int32))), (.int (1 : Int32))])
  refine GoH.step (fun t_ k_ => iremM X0 hx rfl (hb hby at_30) rfl (by decide) k_) ?_
  show GoH _ _ _ _ _ _ _ _ _ _ s₁ (mkF m 31 #[.val (.int p1), .val (.int p2), .val (.int p3), .val (.int p4), .val (.int p5), .val (.int c0), .val (.int c1), .val (.int c2), .unset, .unset, .unset, .unset, .unset, .unset] [(.int ((p4 &&& (2147483647 : Int32)) % (3 : Int32))), (.int (1 : Int32))])
  refine GoH.step (fun t_ k_ => XS.iadd X0.here hx rfl (hb hby at_31) rfl k_) ?_
  show GoH _ _ _ _ _ _ _ _ _ _ s₁ (mkF m 32 #[.val (.int p1), .val (.int p2), .val (.int p3), .val (.int p4), .val (.int p5), .val (.int c0), .val (.int c1), .val (.int c2), .unset, .unset, .unset, .unset, .unset, .unset] [(.int ((1 : Int32) + ((p4 &&& (2147483647 : Int32)) % (3 : Int32))))])
  generalize hn1 : ((1 : Int32) + ((p4 &&& (2147483647 : Int32)) % (3 : Int32))) = n1
  show GoH _ _ _ _ _ _ _ _ _ _ s₁ (mkF m 32 #[.val (.int p1), .val (.int p2), .val (.int p3), .val (.int p4), .val (.int p5), .val (.int c0), .val (.int c1), .val (.int c2), .unset, .unset, .unset, .unset, .unset, .unset] [(.int n1)])
  refine GoH.step (fun t_ k_ => XS.istore X0.here hx rfl (hb hby at_32) rfl (l' := #[.val (.int p1), .val (.int p2), .val (.int p3), .val (.int p4), .val (.int p5), .val (.int c0), .val (.int c1), .val (.int c2), .val (.int n1), .unset, .unset, .unset, .unset, .unset]) rfl k_) ?_
  show GoH _ _ _ _ _ _ _ _ _ _ s₁ (mkF m 34 #[.val (.int p1), .val (.int p2), .val (.int p3), .val (.int p4), .val (.int p5), .val (.int c0), .val (.int c1), .val (.int c2), .val (.int n1), .unset, .unset, .unset, .unset, .unset] [])
  refine GoH.step (fun t_ k_ => XS.iload X0.here hx rfl (hb hby at_34) rfl k_) ?_
  show GoH _ _ _ _ _ _ _ _ _ _ s₁ (mkF m 36 #[.val (.int p1), .val (.int p2), .val (.int p3), .val (.int p4), .val (.int p5), .val (.int c0), .val (.int c1), .val (.int c2), .val (.int n1), .unset, .unset, .unset, .unset, .unset] [(.int n1)])
  refine GoH.step (fun t_ k_ => XS.iconst X0.here hx rfl (hb hby at_36) k_) ?_
  show GoH _ _ _ _ _ _ _ _ _ _ s₁ (mkF m 37 #[.val (.int p1), .val (.int p2), .val (.int p3), .val (.int p4), .val (.int p5), .val (.int c0), .val (.int c1), .val (.int c2), .val (.int n1), .unset, .unset, .unset, .unset, .unset] [(.int (1 : Int32)), (.int n1)])
  by_cases hb37_1 : n1 = (1 : Int32)
  · refine GoH.step (fun t_ k_ => XS.icmpNo X0.here hx rfl (hb hby at_37) rfl (XT.ii_ne_f hb37_1) k_) ?_
    show GoH _ _ _ _ _ _ _ _ _ _ s₁ (mkF m 40 #[.val (.int p1), .val (.int p2), .val (.int p3), .val (.int p4), .val (.int p5), .val (.int c0), .val (.int c1), .val (.int c2), .val (.int n1), .unset, .unset, .unset, .unset, .unset] [])
    refine GoH.step (fun t_ k_ => XS.iconst X0.here hx rfl (hb hby at_40) k_) ?_
    show GoH _ _ _ _ _ _ _ _ _ _ s₁ (mkF m 41 #[.val (.int p1), .val (.int p2), .val (.int p3), .val (.int p4), .val (.int p5), .val (.int c0), .val (.int c1), .val (.int c2), .val (.int n1), .unset, .unset, .unset, .unset, .unset] [(.int (1 : Int32))])
    obtain ⟨T2, h2, k2, X2, e2, E2, A2, st2⟩ := newP X0 hx hZ0 (hw _ (List.mem_of_getElem? (i := 1) rfl)) e0 (g := (mkF m 41 #[.val (.int p1), .val (.int p2), .val (.int p3), .val (.int p4), .val (.int p5), .val (.int c0), .val (.int c1), .val (.int c2), .val (.int n1), .unset, .unset, .unset, .unset, .unset] [(.int (1 : Int32))])) rfl (hb hby at_41) rfl (by decide) (cap := 1) (by decide) (by decide) (by decide) (by decide)
    obtain ⟨r2, g2⟩ : ∃ z, z = h0.size := ⟨_, rfl⟩
    rw [← g2] at A2 st2
    have ge_r2 : n0 ≤ r2 := Nat.le_trans Z0 (Nat.le_of_eq g2.symm)
    have f2_0 : Arv Z h2 r2 k2 .char (1 : Int32) [(.int (0 : Int32))] (.int (0 : Int32)) := ((Arv.new A2 (by decide)).pad (pad_rep [] (.int (0 : Int32)) 1))
    have hk2 : _ ≤ h2.size := Nat.le_trans hk0 E2.1
    have C2 : CHr Z own_EL s.vm h0 s.vm h2 := C0.trans (CHr.ext E2 C0.1)
    have Zs2 : n0 ≤ h2.size := (Nat.le_trans Z0 E2.1)
    have O2 : Old Z n0 h2 := O0.ext E2
    refine GoH.step st2 ?_
    show GoH _ _ _ _ _ _ _ _ _ _ T2 (mkF m 43 #[.val (.int p1), .val (.int p2), .val (.int p3), .val (.int p4), .val (.int p5), .val (.int c0), .val (.int c1), .val (.int c2), .val (.int n1), .unset, .unset, .unset, .unset, .unset] [(.ref r2)])
    refine GoH.step (fun t_ k_ => XS.dup X2.here hx rfl (hb hby at_43) rfl rfl k_) ?_
    show GoH _ _ _ _ _ _ _ _ _ _ T2 (mkF m 44 #[.val (.int p1), .val (.int p2), .val (.int p3), .val (.int p4), .val (.int p5), .val (.int c0), .val (.int c1), .val (.int c2), .val (.int n1), .unset, .unset, .unset, .unset, .unset] [(.ref r2), (.ref r2)])
    refine GoH.step (fun t_ k_ => XS.iconst X2.here hx rfl (hb hby at_44) k_) ?_
    show GoH _ _ _ _ _ _ _ _ _ _ T2 (mkF m 45 #[.val (.int p1), .val (.int p2), .val (.int p3), .val (.int p4), .val (.int p5), .val (.int c0), .val (.int c1), .val (.int c2), .val (.int n1), .unset, .unset, .unset, .unset, .unset] [(.int (0 : Int32)), (.ref r2), (.ref r2)])
    refine GoH.step (fun t_ k_ => XS.iload X2.here hx rfl (hb hby at_45) rfl k_) ?_
    show GoH _ _ _ _ _ _ _ _ _ _ T2 (mkF m 47 #[.val (.int p1), .val (.int p2), .val (.int p3), .val (.int p4), .val (.int p5), .val (.int c0), .val (.int c1), .val (.int c2), .val (.int n1), .unset, .unset, .unset, .unset, .unset] [(.int c0), (.int (0 : Int32)), (.ref r2), (.ref r2)])
    obtain ⟨c3, Ar3, q3, S3, M3, H3, U3⟩ := id f2_0
    obtain ⟨T3, h3, X3, e3, W3, st3⟩ := stC X2 hx hZ0 e2 Ar3 (j := (0 : Int32)) (inb_of S3 ⟨(by decide), (by decide)⟩) (g := (mkF m 47 #[.val (.int p1), .val (.int p2), .val (.int p3), .val (.int p4), .val (.int p5), .val (.int c0), .val (.int c1), .val (.int c2), .val (.int n1), .unset, .unset, .unset, .unset, .unset] [(.int c0), (.int (0 : Int32)), (.ref r2), (.ref r2)])) rfl rfl (hb hby at_47)
    have N3 := Fr.snoc X3 N0 ge_r2
    refine GoH.step st3 ?_
    have sfw3 : Safe Z own_EL s.vm _ r2 := (Safe.arv hZ0.alike f2_0 (by decide))
    have hk3 : _ ≤ h3.size := Nat.le_trans hk2 (Keep.of_wr W3).1
    have C3 : CHr Z own_EL s.vm h0 s.vm h3 := C2.trans (CHr.wr W3 sfw3 C2.1)
    have Zs3 : n0 ≤ h3.size := (Nat.le_trans Zs2 (Keep.of_wr W3).1)
    have O3 : Old Z n0 h3 := O2.wr W3 ge_r2
    have fA3 : Arv Z h3 r2 k2 .char (1 : Int32) [(.int c0)] (.int (0 : Int32)) := by have q := (Arv.set Ar3 q3 S3 M3 H3 U3 (fits_nar_char _) W3 0 rfl (Nat.le_of_ble_eq_true rfl)); rw [hc0r.2] at q; exact q
    show GoH _ _ _ _ _ _ _ _ _ _ T3 (mkF m 48 #[.val (.int p1), .val (.int p2), .val (.int p3), .val (.int p4), .val (.int p5), .val (.int c0), .val (.int c1), .val (.int c2), .val (.int n1), .unset, .unset, .unset, .unset, .unset] [(.ref r2)])
    refine GoH.step (fun t_ k_ => XS.astore X3.here hx rfl (hb hby at_48) rfl rfl (l' := #[.val (.int p1), .val (.int p2), .val (.int p3), .val (.int p4), .val (.int p5), .val (.int c0), .val (.int c1), .val (.int c2), .val (.int n1), .val (.ref r2), .unset, .unset, .unset, .unset]) rfl k_) ?_
    show GoH _ _ _ _ _ _ _ _ _ _ T3 (mkF m 50 #[.val (.int p1), .val (.int p2), .val (.int p3), .val (.int p4), .val (.int p5), .val (.int c0), .val (.int c1), .val (.int c2), .val (.int n1), .val (.ref r2), .unset, .unset, .unset, .unset] [])
    refine GoH.step (fun t_ k_ => XS.goto X3.here hx rfl (pc0 := 50) (pc' := 97) rfl (hb hby at_50) (by decide) (by decide) k_) ?_
    show GoH _ _ _ _ _ _ _ _ _ _ T3 (mkF m 97 #[.val (.int p1), .val (.int p2), .val (.int p3), .val (.int p4), .val (.int p5), .val (.int c0), .val (.int c1), .val (.int c2), .val (.int n1), .val (.ref r2), .unset, .unset, .unset, .unset] [])
    have hnn : n1 = (1 : Int32) := hb37_1
    obtain ⟨T4, h4, X4, e4, E4, A4, D4, -, st4⟩ := newO X3 hx hZ0 hown0 (hw _ (List.mem_of_getElem? (i := 2) rfl)) (hw _ (List.mem_of_getElem? (i := 3) rfl)) (hw _ (List.mem_of_getElem? (i := 4) rfl)) e3 (g := (mkF m 97 #[.val (.int p1), .val (.int p2), .val (.int p3), .val (.int p4), .val (.int p5), .val (.int c0), .val (.int c1), .val (.int c2), .val (.int n1), .val (.ref r2), .unset, .unset, .unset, .unset] [])) rfl (hb hby at_97) (by decide) (by decide)
    obtain ⟨o4, g4⟩ : ∃ z, z = h3.size := ⟨_, rfl⟩
    rw [← g4] at A4 D4 st4
    have ne_r2_o4 : r2 ≠ o4 := Nat.ne_of_lt (Nat.lt_of_lt_of_le fA3.lt (Nat.le_of_eq g4.symm))
    have ge_o4 : n0 ≤ o4 := Nat.le_trans Zs3 (Nat.le_of_eq g4.symm)
    have f4_0 : Arv Z h4 r2 k2 .char (1 : Int32) [(.int c0)] (.int (0 : Int32)) := (fA3.ext E4)
    have f4_1 : Exa Z h4 o4 "java/lang/String" := A4
    have f4_2 : Fld Z h4 o4 "java/lang/String" "coder" "B" (.int (0 : Int32)) := (D4 (Or.inr (hw _ (List.mem_of_getElem? (i := 28) rfl))) (ty := .byte) (by decide))
    have f4_3 : Fld Z h4 o4 "java/lang/String" "value" "[B" .null := (D4 (Or.inr (hw _ (List.mem_of_getElem? (i := 30) rfl))) (ty := (.array .byte)) (by decide))
    have sf4_o4 : Safe Z own_EL s.vm h4 o4 := Safe.ext E4 C3.1 (Safe.new (Nat.le_of_eq g4.symm))
    have hk4 : _ ≤ h4.size := Nat.le_trans hk3 E4.1
    have C4 : CHr Z own_EL s.vm h0 s.vm h4 := C3.trans (CHr.ext E4 C3.1)
    have Zs4 : n0 ≤ h4.size := (Nat.le_trans Zs3 E4.1)
    have O4 : Old Z n0 h4 := O3.ext E4
    refine GoH.step st4 ?_
    show GoH _ _ _ _ _ _ _ _ _ _ T4 (mkF m 100 #[.val (.int p1), .val (.int p2), .val (.int p3), .val (.int p4), .val (.int p5), .val (.int c0), .val (.int c1), .val (.int c2), .val (.int n1), .val (.ref r2), .unset, .unset, .unset, .unset] [(.ref o4)])
    refine GoH.step (fun t_ k_ => XS.dup X4.here hx rfl (hb hby at_100) rfl rfl k_) ?_
    show GoH _ _ _ _ _ _ _ _ _ _ T4 (mkF m 101 #[.val (.int p1), .val (.int p2), .val (.int p3), .val (.int p4), .val (.int p5), .val (.int c0), .val (.int c1), .val (.int c2), .val (.int n1), .val (.ref r2), .unset, .unset, .unset, .unset] [(.ref o4), (.ref o4)])
    refine GoH.step (fun t_ k_ => XS.aload X4.here hx rfl (hb hby at_101) rfl rfl k_) ?_
    show GoH _ _ _ _ _ _ _ _ _ _ T4 (mkF m 103 #[.val (.int p1), .val (.int p2), .val (.int p3), .val (.int p4), .val (.int p5), .val (.int c0), .val (.int c1), .val (.int c2), .val (.int n1), .val (.ref r2), .unset, .unset, .unset, .unset] [(.ref r2), (.ref o4), (.ref o4)])
    have hp5 : ∀ c ∈ ([c0] : List Int32), ¬ c < 0 ∧ ¬ (255 : Int32) < c := by
      intro c hc
      simp only [List.mem_cons, List.not_mem_nil, or_false] at hc
      rcases hc with rfl
      · exact hc0r.1
    obtain ⟨_, _, ⟨T5, L5, k5, n5⟩, -, X5, ⟨Lc5, hQ5, l5, y5, z5⟩, st5⟩ := X4.specialBack hx (y := (⟨"java/lang/String", "<init>", "([C)V"⟩ : MethodName)) rfl hown0 (mvT hZ0 (hw _ (List.mem_of_getElem? (i := 5) rfl))) (mvT hZ0 (hw _ (List.mem_of_getElem? (i := 6) rfl))) (mvT hZ0 (hw _ (List.mem_of_getElem? (i := 7) rfl))) (by decide) (StrChars.Road.backV (W := 1) hZ0 (own_words hw) (kI := 4) (hw _ (List.mem_of_getElem? (i := 3) rfl)) (cs := ([c0] : List Int32)) (bs := ([c0] : List Int32).map (fun c => c.toInt8.toInt32)) (n := 1) ge_o4 Zs4 f4_1 f4_3 f4_2 f4_0 (S_COMPACT.ext O4.2) P_COMPACT rfl rfl (by decide) (by decide) hp5 rfl (by decide) (by decide)) (g := (mkF m 103 #[.val (.int p1), .val (.int p2), .val (.int p3), .val (.int p4), .val (.int p5), .val (.int c0), .val (.int c1), .val (.int c2), .val (.int n1), .val (.ref r2), .unset, .unset, .unset, .unset] [(.ref r2), (.ref o4), (.ref o4)])) rfl (by rw [hml]; rfl) (Steps.refl _) (a := o4) (argsL := [(.ref r2)]) (rest := [(.ref o4)]) (lenOf pd_4 rfl) rfl (by show 2 * 0 + _ ≤ _; exact Nat.le_of_eq rfl) (hb hby at_103) (fun _ _ => ⟨rfl, e4, (by decide : 0 + 1 + 1 + 1 ≤ _), (by decide : 0 + 1 + 4 + 1 ≤ _)⟩)
    dsimp only [Pt.U, Pt.locs, Pt.cells, Pt.slots] at X5 l5 y5 z5 st5 hQ5
    subst l5 y5 z5
    obtain ⟨rfl, N5q, Kq5, Eq5, Cq5, tb5, kb5, u5, v5, w5, Vq5, Aq5⟩ := hQ5
    have N5 := Fr.app N3 N5q
    have ne_r2_tb5 : r2 ≠ tb5 := Nat.ne_of_lt (Nat.lt_of_lt_of_le f4_0.lt v5)
    have ne_o4_tb5 : o4 ≠ tb5 := Nat.ne_of_lt (Nat.lt_of_lt_of_le f4_1.lt v5)
    have f5_0 : Arv Z T5.heap r2 k2 .char (1 : Int32) [(.int c0)] (.int (0 : Int32)) := (f4_0.keep Kq5 (ninS ne_r2_o4 nin0))
    have f5_1 : Exa Z T5.heap o4 "java/lang/String" := Eq5
    have f5_2 : Fld Z T5.heap o4 "java/lang/String" "coder" "B" (.int (0 : Int32)) := Cq5
    have f5_3 : Fld Z T5.heap o4 "java/lang/String" "value" "[B" (.ref tb5) := Vq5
    have f5_4 : Arv Z T5.heap tb5 kb5 .byte (1 : Int32) ((([c0] : List Int32).map (fun c => c.toInt8.toInt32)).map Value.int) (.int (0 : Int32)) := Aq5
    have sfk5 : ∀ x ∈ ([o4] : List Addr), Safe Z own_EL s.vm h4 x := (sfS sf4_o4 sf0)
    have sf5_o4 : Safe Z own_EL s.vm T5.heap o4 := Safe.keep Kq5 sfk5 C4.1 sf4_o4
    have hk5 : _ ≤ T5.heap.size := Nat.le_trans hk4 Kq5.1
    have C5 : CHr Z own_EL s.vm h0 s.vm T5.heap := C4.trans (CHr.keep Kq5 sfk5 C4.1)
    have Zs5 : n0 ≤ T5.heap.size := (Nat.le_trans Zs4 Kq5.1)
    have O5 : Old Z n0 T5.heap := O4.keep Kq5 (allS ge_o4 all0)
    refine GoH.step (fun t_ k_ => st5.trans k_) ?_
    show GoH _ _ _ _ _ _ _ _ _ _ T5 (mkF m 106 #[.val (.int p1), .val (.int p2), .val (.int p3), .val (.int p4), .val (.int p5), .val (.int c0), .val (.int c1), .val (.int c2), .val (.int n1), .val (.ref r2), .unset, .unset, .unset, .unset] [(.ref o4)])
    refine GoH.step (fun t_ k_ => XS.astore X5.here hx rfl (hb hby at_106) rfl rfl (l' := #[.val (.int p1), .val (.int p2), .val (.int p3), .val (.int p4), .val (.int p5), .val (.int c0), .val (.int c1), .val (.int c2), .val (.int n1), .val (.ref r2), .val (.ref o4), .unset, .unset, .unset]) rfl k_) ?_
    show GoH _ _ _ _ _ _ _ _ _ _ T5 (mkF m 108 #[.val (.int p1), .val (.int p2), .val (.int p3), .val (.int p4), .val (.int p5), .val (.int c0), .val (.int c1), .val (.int c2), .val (.int n1), .val (.ref r2), .val (.ref o4), .unset, .unset, .unset] [])
    refine GoH.step (fun t_ k_ => XS.iconst X5.here hx rfl (hb hby at_108) k_) ?_
    show GoH _ _ _ _ _ _ _ _ _ _ T5 (mkF m 109 #[.val (.int p1), .val (.int p2), .val (.int p3), .val (.int p4), .val (.int p5), .val (.int c0), .val (.int c1), .val (.int c2), .val (.int n1), .val (.ref r2), .val (.ref o4), .unset, .unset, .unset] [(.int (1 : Int32))])
    refine GoH.step (fun t_ k_ => XS.iload X5.here hx rfl (hb hby at_109) rfl k_) ?_
    show GoH _ _ _ _ _ _ _ _ _ _ T5 (mkF m 111 #[.val (.int p1), .val (.int p2), .val (.int p3), .val (.int p4), .val (.int p5), .val (.int c0), .val (.int c1), .val (.int c2), .val (.int n1), .val (.ref r2), .val (.ref o4), .unset, .unset, .unset] [(.int p5), (.int (1 : Int32))])
    refine GoH.step (fun t_ k_ => X5.ldcI hx hown0 (mvT hZ0 (hw _ (List.mem_of_getElem? (i := 0) rfl))) rfl (hb hby at_111) k_) ?_
    show GoH _ _ _ _ _ _ _ _ _ _ T5 (mkF m 113 #[.val (.int p1), .val (.int p2), .val (.int p3), .val (.int p4), .val (.int p5), .val (.int c0), .val (.int c1), .val (.int c2), .val (.int n1), .val (.ref r2), .val (.ref o4), .unset, .unset, .unset] [(.int (2147483647 : Int32)), (.int p5), (.int (1 : Int32))])
    refine GoH.step (fun t_ k_ => XS.iand X5.here hx rfl (hb hby at_113) rfl k_) ?_
    show GoH _ _ _ _ _ _ _ _ _ _ T5 (mkF m 114 #[.val (.int p1), .val (.int p2), .val (.int p3), .val (.int p4), .val (.int p5), .val (.int c0), .val (.int c1), .val (.int c2), .val (.int n1), .val (.ref r2), .val (.ref o4), .unset, .unset, .unset] [(.int (p5 &&& (2147483647 : Int32))), (.int (1 : Int32))])
    refine GoH.step (fun t_ k_ => X5.ldcI hx hown0 (mvT hZ0 (hw _ (List.mem_of_getElem? (i := 31) rfl))) rfl (hb hby at_114) k_) ?_
    show GoH _ _ _ _ _ _ _ _ _ _ T5 (mkF m 116 #[.val (.int p1), .val (.int p2), .val (.int p3), .val (.int p4), .val (.int p5), .val (.int c0), .val (.int c1), .val (.int c2), .val (.int n1), .val (.ref r2), .val (.ref o4), .unset, .unset, .unset] [(.int (65535 : Int32)), (.int (p5 &&& (2147483647 : Int32))), (.int (1 : Int32))])
    refine GoH.step (fun t_ k_ => iremM X5 hx rfl (hb hby at_116) rfl (by decide) k_) ?_
    show GoH _ _ _ _ _ _ _ _ _ _ T5 (mkF m 117 #[.val (.int p1), .val (.int p2), .val (.int p3), .val (.int p4), .val (.int p5), .val (.int c0), .val (.int c1), .val (.int c2), .val (.int n1), .val (.ref r2), .val (.ref o4), .unset, .unset, .unset] [(.int ((p5 &&& (2147483647 : Int32)) % (65535 : Int32))), (.int (1 : Int32))])
    refine GoH.step (fun t_ k_ => XS.iadd X5.here hx rfl (hb hby at_117) rfl k_) ?_
    show GoH _ _ _ _ _ _ _ _ _ _ T5 (mkF m 118 #[.val (.int p1), .val (.int p2), .val (.int p3), .val (.int p4), .val (.int p5), .val (.int c0), .val (.int c1), .val (.int c2), .val (.int n1), .val (.ref r2), .val (.ref o4), .unset, .unset, .unset] [(.int ((1 : Int32) + ((p5 &&& (2147483647 : Int32)) % (65535 : Int32))))])
    generalize hpt1 : ((1 : Int32) + ((p5 &&& (2147483647 : Int32)) % (65535 : Int32))) = pt1
    show GoH _ _ _ _ _ _ _ _ _ _ T5 (mkF m 118 #[.val (.int p1), .val (.int p2), .val (.int p3), .val (.int p4), .val (.int p5), .val (.int c0), .val (.int c1), .val (.int c2), .val (.int n1), .val (.ref r2), .val (.ref o4), .unset, .unset, .unset] [(.int pt1)])
    refine GoH.step (fun t_ k_ => XS.istore X5.here hx rfl (hb hby at_118) rfl (l' := #[.val (.int p1), .val (.int p2), .val (.int p3), .val (.int p4), .val (.int p5), .val (.int c0), .val (.int c1), .val (.int c2), .val (.int n1), .val (.ref r2), .val (.ref o4), .val (.int pt1), .unset, .unset]) rfl k_) ?_
    show GoH _ _ _ _ _ _ _ _ _ _ T5 (mkF m 120 #[.val (.int p1), .val (.int p2), .val (.int p3), .val (.int p4), .val (.int p5), .val (.int c0), .val (.int c1), .val (.int c2), .val (.int n1), .val (.ref r2), .val (.ref o4), .val (.int pt1), .unset, .unset] [])
    have hpt1r := own_port p5
    rw [hpt1] at hpt1r
    refine GoH.step (fun t_ k_ => XS.aload X5.here hx rfl (hb hby at_120) rfl rfl k_) ?_
    show GoH _ _ _ _ _ _ _ _ _ _ T5 (mkF m 122 #[.val (.int p1), .val (.int p2), .val (.int p3), .val (.int p4), .val (.int p5), .val (.int c0), .val (.int c1), .val (.int c2), .val (.int n1), .val (.ref r2), .val (.ref o4), .val (.int pt1), .unset, .unset] [(.ref o4)])
    refine GoH.step (fun t_ k_ => XS.iload X5.here hx rfl (hb hby at_122) rfl k_) ?_
    show GoH _ _ _ _ _ _ _ _ _ _ T5 (mkF m 124 #[.val (.int p1), .val (.int p2), .val (.int p3), .val (.int p4), .val (.int p5), .val (.int c0), .val (.int c1), .val (.int c2), .val (.int n1), .val (.ref r2), .val (.ref o4), .val (.int pt1), .unset, .unset] [(.int pt1), (.ref o4)])
    obtain ⟨_, _, ⟨T6, L6, k6, n6⟩, -, X6, hSq6, hgr6, ⟨Lc6, hQ6, l6, y6, z6, CHq6⟩, st6⟩ := callSS X5 hx (y := (⟨"com/example/majority_lease/majoritylease/redis/RedisNode", "at", "(Ljava/lang/String;I)Lcom/example/majority_lease/majoritylease/redis/RedisNode;"⟩ : MethodName)) hown0 (mvT hZ0 (hw _ (List.mem_of_getElem? (i := 32) rfl))) (mvT hZ0 (hw _ (List.mem_of_getElem? (i := 33) rfl))) (mvT hZ0 (hw _ (List.mem_of_getElem? (i := 34) rfl))) (mvT hZ0 (hw _ (List.mem_of_getElem? (i := 35) rfl))) (by decide) (backOfSH (W := 0) (rmAt l Z a0 hw [] o4 pt1 tb5 kb5 (1 : Int32) ((([c0] : List Int32).map (fun c => c.toInt8.toInt32)).map Value.int) T5.heap n0 Zs5 f5_1 f5_3 f5_4 (by decide) hpt1r.1 hpt1r.2) hZ0 (hw _ (List.mem_of_getElem? (i := 35) rfl)) (hw _ (List.mem_of_getElem? (i := 34) rfl)) (by decide) (by decide) hEL C5.1) (g := (mkF m 124 #[.val (.int p1), .val (.int p2), .val (.int p3), .val (.int p4), .val (.int p5), .val (.int c0), .val (.int c1), .val (.int c2), .val (.int n1), .val (.ref r2), .val (.ref o4), .val (.int pt1), .unset, .unset] [(.int pt1), (.ref o4)])) rfl (by rw [hml]; rfl) (argsL := [(.ref o4), (.int pt1)]) (rest := []) (lenOf pd_5 rfl) rfl (by show 2 * 0 + _ ≤ _; exact Nat.le_of_eq rfl) (hb hby at_124) (fun _ _ => ⟨rfl, rfl, (by decide : 0 + 1 + 1 + 1 + 3 ≤ _), (by decide : 0 + 1 + 4 + 1 + 25 ≤ _)⟩)
    dsimp only [Pt.U, Pt.locs, Pt.cells, Pt.slots] at X6 hSq6 hgr6 l6 y6 z6 st6 hQ6 CHq6
    subst l6 y6 z6
    have X6 : Stand p l e _ (s.setVm T6.vm) _ _ _ _ _ T6 _ _ _ := X6
    have hS6 : s.Since T6.vm T6.heap.size := State.Since.trans hS0 hSq6 (Nat.le_trans hk5 (by first | exact hgr6 | (rw [← (rfl : T5.heap = T5.heap)]; exact hgr6)))
    have hZ6 : Z.Warmed39 (s.setVm T6.vm).vm := State.Warmed39.trans (t := s.setVm s.vm) hZ0 hSq6.1
    have hown6 : (s.setVm T6.vm).vm.findClass "com/example/majority_lease/majoritylease/redis/RedisNodeAtPinLaw" = some m.cls := by rw [show (s.setVm T6.vm).vm = T6.vm from rfl, hSq6.1.alike.findClass]; exact hown0
    have hk6 : T6.heap.size ≤ T6.heap.size := Nat.le_refl _
    obtain ⟨nd6, rfl, N6q, Kq6, gq6, Eq6, Fh6, Fp6, Fw6, Ft6⟩ := hQ6
    have N6 := Fr.app N5 N6q
    have f6_0 : Arv Z T6.heap r2 k2 .char (1 : Int32) [(.int c0)] (.int (0 : Int32)) := (f5_0.keep Kq6 nin0)
    have f6_1 : Exa Z T6.heap o4 "java/lang/String" := (f5_1.keep Kq6)
    have f6_2 : Fld Z T6.heap o4 "java/lang/String" "coder" "B" (.int (0 : Int32)) := (f5_2.keep Kq6 nin0)
    have f6_3 : Fld Z T6.heap o4 "java/lang/String" "value" "[B" (.ref tb5) := (f5_3.keep Kq6 nin0)
    have f6_4 : Arv Z T6.heap tb5 kb5 .byte (1 : Int32) ((([c0] : List Int32).map (fun c => c.toInt8.toInt32)).map Value.int) (.int (0 : Int32)) := (f5_4.keep Kq6 nin0)
    have f6_5 : Exa Z T6.heap nd6 "com/example/majority_lease/majoritylease/redis/RedisNode" := Eq6
    have f6_6 : Fld Z T6.heap nd6 "com/example/majority_lease/majoritylease/redis/RedisNode" "host" "Ljava/lang/String;" (.ref o4) := Fh6
    have f6_7 : Fld Z T6.heap nd6 "com/example/majority_lease/majoritylease/redis/RedisNode" "port" "I" (.int pt1) := Fp6
    have f6_8 : Fld Z T6.heap nd6 "com/example/majority_lease/majoritylease/redis/RedisNode" "password" "Ljava/lang/String;" .null := Fw6
    have f6_9 : Fld Z T6.heap nd6 "com/example/majority_lease/majoritylease/redis/RedisNode" "tls" "Ljavax/net/ssl/SSLContext;" .null := Ft6
    have Zs6 : n0 ≤ T6.heap.size := (Nat.le_trans Zs5 Kq6.1)
    have O6 : Old Z n0 T6.heap := O5.keep Kq6 all0
    have sf6_o4 : Safe Z own_EL T6.vm T6.heap o4 := CHr.safe CHq6 f5_1.lt sf5_o4
    have CC6 : CHr Z own_EL s.vm h0 T6.vm T6.heap := C5.trans CHq6
    refine GoH.step (fun t_ k_ => st6.trans k_) ?_
    show GoH _ _ _ _ _ _ _ _ _ _ T6 (mkF m 127 #[.val (.int p1), .val (.int p2), .val (.int p3), .val (.int p4), .val (.int p5), .val (.int c0), .val (.int c1), .val (.int c2), .val (.int n1), .val (.ref r2), .val (.ref o4), .val (.int pt1), .unset, .unset] [(.ref nd6)])
    refine GoH.step (fun t_ k_ => XS.astore X6.here hx rfl (hb hby at_127) rfl rfl (l' := #[.val (.int p1), .val (.int p2), .val (.int p3), .val (.int p4), .val (.int p5), .val (.int c0), .val (.int c1), .val (.int c2), .val (.int n1), .val (.ref r2), .val (.ref o4), .val (.int pt1), .val (.ref nd6), .unset]) rfl k_) ?_
    show GoH _ _ _ _ _ _ _ _ _ _ T6 (mkF m 129 #[.val (.int p1), .val (.int p2), .val (.int p3), .val (.int p4), .val (.int p5), .val (.int c0), .val (.int c1), .val (.int c2), .val (.int n1), .val (.ref r2), .val (.ref o4), .val (.int pt1), .val (.ref nd6), .unset] [])
    refine GoH.step (fun t_ k_ => XS.aload X6.here hx rfl (hb hby at_129) rfl rfl k_) ?_
    show GoH _ _ _ _ _ _ _ _ _ _ T6 (mkF m 131 #[.val (.int p1), .val (.int p2), .val (.int p3), .val (.int p4), .val (.int p5), .val (.int c0), .val (.int c1), .val (.int c2), .val (.int n1), .val (.ref r2), .val (.ref o4), .val (.int pt1), .val (.ref nd6), .unset] [(.ref nd6)])
    obtain ⟨cq7, kq7, qa7, qb7, qc7⟩ := isOf hZ6 rfl f6_5
    obtain ⟨_, _, ⟨T7, L7, k7, n7⟩, -, X7, ⟨Lc7, hQ7, l7, y7, z7⟩, st7⟩ := X6.virtualBack hx (y := (⟨"com/example/majority_lease/majoritylease/redis/RedisNode", "host", "()Ljava/lang/String;"⟩ : MethodName)) (z := (⟨"com/example/majority_lease/majoritylease/redis/RedisNode", "host", "()Ljava/lang/String;"⟩ : MethodName)) hown6 (mvT hZ6 (hw _ (List.mem_of_getElem? (i := 65) rfl))) (mvT hZ6 (hw _ (List.mem_of_getElem? (i := 66) rfl))) (notFace_of_selects (args := #[]) (mvT hZ6 (hw _ (List.mem_of_getElem? (i := 68) rfl)))) (mvT hZ6 (hw _ (List.mem_of_getElem? (i := 68) rfl))) (mvT hZ6 (hw _ (List.mem_of_getElem? (i := 67) rfl))) (by decide) (backOf (W := 0) (rmHo l Z a0 hw [] nd6 o4 T6.heap n0 Zs6 f6_6) hZ6 (hw _ (List.mem_of_getElem? (i := 69) rfl)) (hw _ (List.mem_of_getElem? (i := 34) rfl)) (by decide) (by decide)) qa7 qc7 (g := (mkF m 131 #[.val (.int p1), .val (.int p2), .val (.int p3), .val (.int p4), .val (.int p5), .val (.int c0), .val (.int c1), .val (.int c2), .val (.int n1), .val (.ref r2), .val (.ref o4), .val (.int pt1), .val (.ref nd6), .unset] [(.ref nd6)])) rfl (by rw [hml]; rfl) (Steps.refl _) (argsL := []) (rest := []) (lenOf pd_6 rfl) rfl (by show 2 * 0 + _ ≤ _; exact Nat.le_of_eq rfl) (hb hby at_131) (fun _ _ => ⟨rfl, rfl, (by decide : 0 + 1 + 1 + 1 + 3 + 0 ≤ _), (by decide : 0 + 1 + 4 + 1 + 25 + 0 ≤ _)⟩)
    dsimp only [Pt.U, Pt.locs, Pt.cells, Pt.slots] at X7 l7 y7 z7 st7 hQ7
    subst l7 y7 z7
    obtain ⟨rfl, N7q, e7⟩ := hQ7
    have N7 := Fr.app N6 N7q
    refine GoH.step (fun t_ k_ => st7.trans k_) ?_
    show GoH _ _ _ _ _ _ _ _ _ _ T7 (mkF m 134 #[.val (.int p1), .val (.int p2), .val (.int p3), .val (.int p4), .val (.int p5), .val (.int c0), .val (.int c1), .val (.int c2), .val (.int n1), .val (.ref r2), .val (.ref o4), .val (.int pt1), .val (.ref nd6), .unset] [(.ref o4)])
    refine GoH.step (fun t_ k_ => XS.astore X7.here hx rfl (hb hby at_134) rfl rfl (l' := #[.val (.int p1), .val (.int p2), .val (.int p3), .val (.int p4), .val (.int p5), .val (.int c0), .val (.int c1), .val (.int c2), .val (.int n1), .val (.ref r2), .val (.ref o4), .val (.int pt1), .val (.ref nd6), .val (.ref o4)]) rfl k_) ?_
    show GoH _ _ _ _ _ _ _ _ _ _ T7 (mkF m 136 #[.val (.int p1), .val (.int p2), .val (.int p3), .val (.int p4), .val (.int p5), .val (.int c0), .val (.int c1), .val (.int c2), .val (.int n1), .val (.ref r2), .val (.ref o4), .val (.int pt1), .val (.ref nd6), .val (.ref o4)] [])
    refine GoH.step (fun t_ k_ => XS.aload X7.here hx rfl (hb hby at_136) rfl rfl k_) ?_
    show GoH _ _ _ _ _ _ _ _ _ _ T7 (mkF m 138 #[.val (.int p1), .val (.int p2), .val (.int p3), .val (.int p4), .val (.int p5), .val (.int c0), .val (.int c1), .val (.int c2), .val (.int n1), .val (.ref r2), .val (.ref o4), .val (.int pt1), .val (.ref nd6), .val (.ref o4)] [(.ref o4)])
    refine GoH.step (fun t_ k_ => XS.ifnullNo X7.here hx rfl (hb hby at_138) rfl k_) ?_
    show GoH _ _ _ _ _ _ _ _ _ _ T7 (mkF m 141 #[.val (.int p1), .val (.int p2), .val (.int p3), .val (.int p4), .val (.int p5), .val (.int c0), .val (.int c1), .val (.int c2), .val (.int n1), .val (.ref r2), .val (.ref o4), .val (.int pt1), .val (.ref nd6), .val (.ref o4)] [])
    refine GoH.step (fun t_ k_ => XS.aload X7.here hx rfl (hb hby at_141) rfl rfl k_) ?_
    show GoH _ _ _ _ _ _ _ _ _ _ T7 (mkF m 143 #[.val (.int p1), .val (.int p2), .val (.int p3), .val (.int p4), .val (.int p5), .val (.int c0), .val (.int c1), .val (.int c2), .val (.int n1), .val (.ref r2), .val (.ref o4), .val (.int pt1), .val (.ref nd6), .val (.ref o4)] [(.ref o4)])
    have hcd8 : StrChars.Road.CodA ([c0] : List Int32) 0 (1 : Int32) ((([c0] : List Int32).map (fun c => c.toInt8.toInt32)).map Value.int) := StrChars.Road.codOf (n := 1) rfl (fun c hc => (hp5 c hc).2)
    have hbd8 : ∀ c ∈ ([c0] : List Int32), ¬ c < 0 ∧ ¬ (65535 : Int32) < c := own_up _ hp5
    obtain ⟨cq8, kq8, qa8, qb8, qc8⟩ := isOf hZ6 (e7) f6_1
    obtain ⟨vv8, _, ⟨T8, L8, k8, n8⟩, -, X8, ⟨Lc8, hQ8, l8, y8, z8⟩, st8⟩ := X7.virtualBack hx (y := (⟨"java/lang/String", "length", "()I"⟩ : MethodName)) (z := (⟨"java/lang/String", "length", "()I"⟩ : MethodName)) hown6 (mvT hZ6 (hw _ (List.mem_of_getElem? (i := 70) rfl))) (mvT hZ6 (hw _ (List.mem_of_getElem? (i := 71) rfl))) (notFace_of_selects (args := #[]) (mvT hZ6 (hw _ (List.mem_of_getElem? (i := 73) rfl)))) (mvT hZ6 (hw _ (List.mem_of_getElem? (i := 73) rfl))) (mvT hZ6 (hw _ (List.mem_of_getElem? (i := 72) rfl))) (by decide) (StrChars.Road.lenW (W := 0) hZ6 (own_wordsLen hw) (kI := 4) (hw _ (List.mem_of_getElem? (i := 3) rfl)) f6_1 f6_3 f6_2 f6_4 hcd8 hbd8 (S_COMPACT.ext O6.2) P_COMPACT (Nat.le_of_ble_eq_true rfl) (by decide) (by decide)) qa8 qc8 (g := (mkF m 143 #[.val (.int p1), .val (.int p2), .val (.int p3), .val (.int p4), .val (.int p5), .val (.int c0), .val (.int c1), .val (.int c2), .val (.int n1), .val (.ref r2), .val (.ref o4), .val (.int pt1), .val (.ref nd6), .val (.ref o4)] [(.ref o4)])) rfl (by rw [hml]; rfl) (Steps.refl _) (argsL := []) (rest := []) (lenOf pd_7 rfl) rfl (by show 2 * 0 + _ ≤ _; exact Nat.le_of_eq rfl) (hb hby at_143) (fun _ _ => ⟨rfl, (e7), (by decide : 0 + 1 + 1 + 1 + 3 + 0 + 0 ≤ _), (by decide : 0 + 1 + 4 + 1 + 25 + 0 + 0 ≤ _)⟩)
    dsimp only [Pt.U, Pt.locs, Pt.cells, Pt.slots] at X8 l8 y8 z8 st8 hQ8
    subst l8 y8 z8
    obtain ⟨rfl, rfl, e8⟩ := hQ8
    have N8 := Fr.app N7 (Fr.nil n0)
    refine GoH.step (fun t_ k_ => st8.trans k_) ?_
    show GoH _ _ _ _ _ _ _ _ _ _ T8 (mkF m 146 #[.val (.int p1), .val (.int p2), .val (.int p3), .val (.int p4), .val (.int p5), .val (.int c0), .val (.int c1), .val (.int c2), .val (.int n1), .val (.ref r2), .val (.ref o4), .val (.int pt1), .val (.ref nd6), .val (.ref o4)] [(.int (1 : Int32))])
    refine GoH.step (fun t_ k_ => XS.iload X8.here hx rfl (hb hby at_146) rfl k_) ?_
    show GoH _ _ _ _ _ _ _ _ _ _ T8 (mkF m 148 #[.val (.int p1), .val (.int p2), .val (.int p3), .val (.int p4), .val (.int p5), .val (.int c0), .val (.int c1), .val (.int c2), .val (.int n1), .val (.ref r2), .val (.ref o4), .val (.int pt1), .val (.ref nd6), .val (.ref o4)] [(.int n1), (.int (1 : Int32))])
    have hb148_9 : (1 : Int32) = n1 := by rw [hnn]
    refine GoH.step (fun t_ k_ => XS.icmpYes X8.here hx rfl (pc0 := 148) (pc' := 153) rfl (hb hby at_148) rfl (XT.ii_eq_t hb148_9) (by decide) (by decide) k_) ?_
    show GoH _ _ _ _ _ _ _ _ _ _ T8 (mkF m 153 #[.val (.int p1), .val (.int p2), .val (.int p3), .val (.int p4), .val (.int p5), .val (.int c0), .val (.int c1), .val (.int c2), .val (.int n1), .val (.ref r2), .val (.ref o4), .val (.int pt1), .val (.ref nd6), .val (.ref o4)] [])
    refine GoH.step (fun t_ k_ => XS.aload X8.here hx rfl (hb hby at_153) rfl rfl k_) ?_
    show GoH _ _ _ _ _ _ _ _ _ _ T8 (mkF m 155 #[.val (.int p1), .val (.int p2), .val (.int p3), .val (.int p4), .val (.int p5), .val (.int c0), .val (.int c1), .val (.int c2), .val (.int n1), .val (.ref r2), .val (.ref o4), .val (.int pt1), .val (.ref nd6), .val (.ref o4)] [(.ref o4)])
    refine GoH.step (fun t_ k_ => XS.iconst X8.here hx rfl (hb hby at_155) k_) ?_
    show GoH _ _ _ _ _ _ _ _ _ _ T8 (mkF m 156 #[.val (.int p1), .val (.int p2), .val (.int p3), .val (.int p4), .val (.int p5), .val (.int c0), .val (.int c1), .val (.int c2), .val (.int n1), .val (.ref r2), .val (.ref o4), .val (.int pt1), .val (.ref nd6), .val (.ref o4)] [(.int (0 : Int32)), (.ref o4)])
    have hcd10 : StrChars.Road.CodA ([c0] : List Int32) 0 (1 : Int32) ((([c0] : List Int32).map (fun c => c.toInt8.toInt32)).map Value.int) := StrChars.Road.codOf (n := 1) rfl (fun c hc => (hp5 c hc).2)
    have hbd10 : ∀ c ∈ ([c0] : List Int32), ¬ c < 0 ∧ ¬ (65535 : Int32) < c := own_up _ hp5
    obtain ⟨cq10, kq10, qa10, qb10, qc10⟩ := isOf hZ6 e8 f6_1
    obtain ⟨vv10, _, ⟨T10, L10, k10, n10⟩, -, X10, ⟨Lc10, hQ10, l10, y10, z10⟩, st10⟩ := X8.virtualBack hx (y := (⟨"java/lang/String", "charAt", "(I)C"⟩ : MethodName)) (z := (⟨"java/lang/String", "charAt", "(I)C"⟩ : MethodName)) hown6 (mvT hZ6 (hw _ (List.mem_of_getElem? (i := 80) rfl))) (mvT hZ6 (hw _ (List.mem_of_getElem? (i := 81) rfl))) (notFace_of_selects (args := #[]) (mvT hZ6 (hw _ (List.mem_of_getElem? (i := 83) rfl)))) (mvT hZ6 (hw _ (List.mem_of_getElem? (i := 83) rfl))) (mvT hZ6 (hw _ (List.mem_of_getElem? (i := 82) rfl))) (by decide) (StrChars.Road.chN (W := 0) hZ6 (own_wordsChN hw) (kI := 4) (hw _ (List.mem_of_getElem? (i := 3) rfl)) f6_1 f6_3 f6_2 f6_4 hcd10 hbd10 (S_COMPACT.ext O6.2) P_COMPACT (S_SIOOBE.ext O6.2) r_SIOOBE (Nat.le_of_ble_eq_true rfl) (i := 0) (Nat.le_of_ble_eq_true rfl) (j := (0 : Int32)) rfl (by decide) (by decide)) qa10 qc10 (g := (mkF m 156 #[.val (.int p1), .val (.int p2), .val (.int p3), .val (.int p4), .val (.int p5), .val (.int c0), .val (.int c1), .val (.int c2), .val (.int n1), .val (.ref r2), .val (.ref o4), .val (.int pt1), .val (.ref nd6), .val (.ref o4)] [(.int (0 : Int32)), (.ref o4)])) rfl (by rw [hml]; rfl) (Steps.refl _) (argsL := [(.int (0 : Int32))]) (rest := []) (lenOf pd_8 rfl) rfl (by show 2 * 0 + _ ≤ _; exact Nat.le_of_eq rfl) (hb hby at_156) (fun _ _ => ⟨rfl, e8, (by decide : 0 + 1 + 1 + 1 + 3 + 0 + 0 ≤ _), (by decide : 0 + 1 + 4 + 1 + 25 + 0 + 0 ≤ _)⟩)
    dsimp only [Pt.U, Pt.locs, Pt.cells, Pt.slots] at X10 l10 y10 z10 st10 hQ10
    subst l10 y10 z10
    obtain ⟨rfl, rfl, e10⟩ := hQ10
    have N10 := Fr.app N8 (Fr.nil n0)
    refine GoH.step (fun t_ k_ => st10.trans k_) ?_
    show GoH _ _ _ _ _ _ _ _ _ _ T10 (mkF m 159 #[.val (.int p1), .val (.int p2), .val (.int p3), .val (.int p4), .val (.int p5), .val (.int c0), .val (.int c1), .val (.int c2), .val (.int n1), .val (.ref r2), .val (.ref o4), .val (.int pt1), .val (.ref nd6), .val (.ref o4)] [(.int c0)])
    refine GoH.step (fun t_ k_ => XS.iload X10.here hx rfl (hb hby at_159) rfl k_) ?_
    show GoH _ _ _ _ _ _ _ _ _ _ T10 (mkF m 161 #[.val (.int p1), .val (.int p2), .val (.int p3), .val (.int p4), .val (.int p5), .val (.int c0), .val (.int c1), .val (.int c2), .val (.int n1), .val (.ref r2), .val (.ref o4), .val (.int pt1), .val (.ref nd6), .val (.ref o4)] [(.int c0), (.int c0)])
    have hb161_11 : c0 = c0 := by rfl
    refine GoH.step (fun t_ k_ => XS.icmpYes X10.here hx rfl (pc0 := 161) (pc' := 166) rfl (hb hby at_161) rfl (XT.ii_eq_t hb161_11) (by decide) (by decide) k_) ?_
    show GoH _ _ _ _ _ _ _ _ _ _ T10 (mkF m 166 #[.val (.int p1), .val (.int p2), .val (.int p3), .val (.int p4), .val (.int p5), .val (.int c0), .val (.int c1), .val (.int c2), .val (.int n1), .val (.ref r2), .val (.ref o4), .val (.int pt1), .val (.ref nd6), .val (.ref o4)] [])
    refine GoH.step (fun t_ k_ => XS.iload X10.here hx rfl (hb hby at_166) rfl k_) ?_
    show GoH _ _ _ _ _ _ _ _ _ _ T10 (mkF m 168 #[.val (.int p1), .val (.int p2), .val (.int p3), .val (.int p4), .val (.int p5), .val (.int c0), .val (.int c1), .val (.int c2), .val (.int n1), .val (.ref r2), .val (.ref o4), .val (.int pt1), .val (.ref nd6), .val (.ref o4)] [(.int n1)])
    refine GoH.step (fun t_ k_ => XS.iconst X10.here hx rfl (hb hby at_168) k_) ?_
    show GoH _ _ _ _ _ _ _ _ _ _ T10 (mkF m 169 #[.val (.int p1), .val (.int p2), .val (.int p3), .val (.int p4), .val (.int p5), .val (.int c0), .val (.int c1), .val (.int c2), .val (.int n1), .val (.ref r2), .val (.ref o4), .val (.int pt1), .val (.ref nd6), .val (.ref o4)] [(.int (2 : Int32)), (.int n1)])
    have hb169_12 : n1 < (2 : Int32) := by rw [hnn]; decide
    refine GoH.step (fun t_ k_ => XS.icmpYes X10.here hx rfl (pc0 := 169) (pc' := 185) rfl (hb hby at_169) rfl (XT.ii_lt_t hb169_12) (by decide) (by decide) k_) ?_
    show GoH _ _ _ _ _ _ _ _ _ _ T10 (mkF m 185 #[.val (.int p1), .val (.int p2), .val (.int p3), .val (.int p4), .val (.int p5), .val (.int c0), .val (.int c1), .val (.int c2), .val (.int n1), .val (.ref r2), .val (.ref o4), .val (.int pt1), .val (.ref nd6), .val (.ref o4)] [])
    refine GoH.step (fun t_ k_ => XS.iload X10.here hx rfl (hb hby at_185) rfl k_) ?_
    show GoH _ _ _ _ _ _ _ _ _ _ T10 (mkF m 187 #[.val (.int p1), .val (.int p2), .val (.int p3), .val (.int p4), .val (.int p5), .val (.int c0), .val (.int c1), .val (.int c2), .val (.int n1), .val (.ref r2), .val (.ref o4), .val (.int pt1), .val (.ref nd6), .val (.ref o4)] [(.int n1)])
    refine GoH.step (fun t_ k_ => XS.iconst X10.here hx rfl (hb hby at_187) k_) ?_
    show GoH _ _ _ _ _ _ _ _ _ _ T10 (mkF m 188 #[.val (.int p1), .val (.int p2), .val (.int p3), .val (.int p4), .val (.int p5), .val (.int c0), .val (.int c1), .val (.int c2), .val (.int n1), .val (.ref r2), .val (.ref o4), .val (.int pt1), .val (.ref nd6), .val (.ref o4)] [(.int (3 : Int32)), (.int n1)])
    have hb188_13 : n1 < (3 : Int32) := by rw [hnn]; decide
    refine GoH.step (fun t_ k_ => XS.icmpYes X10.here hx rfl (pc0 := 188) (pc' := 204) rfl (hb hby at_188) rfl (XT.ii_lt_t hb188_13) (by decide) (by decide) k_) ?_
    show GoH _ _ _ _ _ _ _ _ _ _ T10 (mkF m 204 #[.val (.int p1), .val (.int p2), .val (.int p3), .val (.int p4), .val (.int p5), .val (.int c0), .val (.int c1), .val (.int c2), .val (.int n1), .val (.ref r2), .val (.ref o4), .val (.int pt1), .val (.ref nd6), .val (.ref o4)] [])
    refine GoH.step (fun t_ k_ => XS.aload X10.here hx rfl (hb hby at_204) rfl rfl k_) ?_
    show GoH _ _ _ _ _ _ _ _ _ _ T10 (mkF m 206 #[.val (.int p1), .val (.int p2), .val (.int p3), .val (.int p4), .val (.int p5), .val (.int c0), .val (.int c1), .val (.int c2), .val (.int n1), .val (.ref r2), .val (.ref o4), .val (.int pt1), .val (.ref nd6), .val (.ref o4)] [(.ref nd6)])
    obtain ⟨cq14, kq14, qa14, qb14, qc14⟩ := isOf hZ6 e10 f6_5
    obtain ⟨_, _, ⟨T14, L14, k14, n14⟩, -, X14, ⟨Lc14, hQ14, l14, y14, z14⟩, st14⟩ := X10.virtualBack hx (y := (⟨"com/example/majority_lease/majoritylease/redis/RedisNode", "port", "()I"⟩ : MethodName)) (z := (⟨"com/example/majority_lease/majoritylease/redis/RedisNode", "port", "()I"⟩ : MethodName)) hown6 (mvT hZ6 (hw _ (List.mem_of_getElem? (i := 102) rfl))) (mvT hZ6 (hw _ (List.mem_of_getElem? (i := 103) rfl))) (notFace_of_selects (args := #[]) (mvT hZ6 (hw _ (List.mem_of_getElem? (i := 105) rfl)))) (mvT hZ6 (hw _ (List.mem_of_getElem? (i := 105) rfl))) (mvT hZ6 (hw _ (List.mem_of_getElem? (i := 104) rfl))) (by decide) (backOf (W := 0) (rmPo l Z a0 hw [] nd6 pt1 T6.heap n0 Zs6 f6_7) hZ6 (hw _ (List.mem_of_getElem? (i := 106) rfl)) (hw _ (List.mem_of_getElem? (i := 34) rfl)) (by decide) (by decide)) qa14 qc14 (g := (mkF m 206 #[.val (.int p1), .val (.int p2), .val (.int p3), .val (.int p4), .val (.int p5), .val (.int c0), .val (.int c1), .val (.int c2), .val (.int n1), .val (.ref r2), .val (.ref o4), .val (.int pt1), .val (.ref nd6), .val (.ref o4)] [(.ref nd6)])) rfl (by rw [hml]; rfl) (Steps.refl _) (argsL := []) (rest := []) (lenOf pd_7 rfl) rfl (by show 2 * 0 + _ ≤ _; exact Nat.le_of_eq rfl) (hb hby at_206) (fun _ _ => ⟨rfl, e10, (by decide : 0 + 1 + 1 + 1 + 3 + 0 + 0 ≤ _), (by decide : 0 + 1 + 4 + 1 + 25 + 0 + 0 ≤ _)⟩)
    dsimp only [Pt.U, Pt.locs, Pt.cells, Pt.slots] at X14 l14 y14 z14 st14 hQ14
    subst l14 y14 z14
    obtain ⟨rfl, N14q, e14⟩ := hQ14
    have N14 := Fr.app N10 N14q
    refine GoH.step (fun t_ k_ => st14.trans k_) ?_
    show GoH _ _ _ _ _ _ _ _ _ _ T14 (mkF m 209 #[.val (.int p1), .val (.int p2), .val (.int p3), .val (.int p4), .val (.int p5), .val (.int c0), .val (.int c1), .val (.int c2), .val (.int n1), .val (.ref r2), .val (.ref o4), .val (.int pt1), .val (.ref nd6), .val (.ref o4)] [(.int pt1)])
    refine GoH.step (fun t_ k_ => XS.iload X14.here hx rfl (hb hby at_209) rfl k_) ?_
    show GoH _ _ _ _ _ _ _ _ _ _ T14 (mkF m 211 #[.val (.int p1), .val (.int p2), .val (.int p3), .val (.int p4), .val (.int p5), .val (.int c0), .val (.int c1), .val (.int c2), .val (.int n1), .val (.ref r2), .val (.ref o4), .val (.int pt1), .val (.ref nd6), .val (.ref o4)] [(.int pt1), (.int pt1)])
    have hb211_15 : pt1 = pt1 := by rfl
    refine GoH.step (fun t_ k_ => XS.icmpNo X14.here hx rfl (hb hby at_211) rfl (XT.ii_ne_f hb211_15) k_) ?_
    show GoH _ _ _ _ _ _ _ _ _ _ T14 (mkF m 214 #[.val (.int p1), .val (.int p2), .val (.int p3), .val (.int p4), .val (.int p5), .val (.int c0), .val (.int c1), .val (.int c2), .val (.int n1), .val (.ref r2), .val (.ref o4), .val (.int pt1), .val (.ref nd6), .val (.ref o4)] [])
    refine GoH.step (fun t_ k_ => XS.aload X14.here hx rfl (hb hby at_214) rfl rfl k_) ?_
    show GoH _ _ _ _ _ _ _ _ _ _ T14 (mkF m 216 #[.val (.int p1), .val (.int p2), .val (.int p3), .val (.int p4), .val (.int p5), .val (.int c0), .val (.int c1), .val (.int c2), .val (.int n1), .val (.ref r2), .val (.ref o4), .val (.int pt1), .val (.ref nd6), .val (.ref o4)] [(.ref nd6)])
    obtain ⟨cq16, kq16, qa16, qb16, qc16⟩ := isOf hZ6 (e14) f6_5
    obtain ⟨_, _, ⟨T16, L16, k16, n16⟩, -, X16, ⟨Lc16, hQ16, l16, y16, z16⟩, st16⟩ := X14.virtualBack hx (y := (⟨"com/example/majority_lease/majoritylease/redis/RedisNode", "tls", "()Ljavax/net/ssl/SSLContext;"⟩ : MethodName)) (z := (⟨"com/example/majority_lease/majoritylease/redis/RedisNode", "tls", "()Ljavax/net/ssl/SSLContext;"⟩ : MethodName)) hown6 (mvT hZ6 (hw _ (List.mem_of_getElem? (i := 107) rfl))) (mvT hZ6 (hw _ (List.mem_of_getElem? (i := 108) rfl))) (notFace_of_selects (args := #[]) (mvT hZ6 (hw _ (List.mem_of_getElem? (i := 110) rfl)))) (mvT hZ6 (hw _ (List.mem_of_getElem? (i := 110) rfl))) (mvT hZ6 (hw _ (List.mem_of_getElem? (i := 109) rfl))) (by decide) (backOf (W := 0) (rmTl l Z a0 hw [] nd6 T6.heap n0 Zs6 f6_9) hZ6 (hw _ (List.mem_of_getElem? (i := 111) rfl)) (hw _ (List.mem_of_getElem? (i := 34) rfl)) (by decide) (by decide)) qa16 qc16 (g := (mkF m 216 #[.val (.int p1), .val (.int p2), .val (.int p3), .val (.int p4), .val (.int p5), .val (.int c0), .val (.int c1), .val (.int c2), .val (.int n1), .val (.ref r2), .val (.ref o4), .val (.int pt1), .val (.ref nd6), .val (.ref o4)] [(.ref nd6)])) rfl (by rw [hml]; rfl) (Steps.refl _) (argsL := []) (rest := []) (lenOf pd_9 rfl) rfl (by show 2 * 0 + _ ≤ _; exact Nat.le_of_eq rfl) (hb hby at_216) (fun _ _ => ⟨rfl, (e14), (by decide : 0 + 1 + 1 + 1 + 3 + 0 + 0 + 0 ≤ _), (by decide : 0 + 1 + 4 + 1 + 25 + 0 + 0 + 0 ≤ _)⟩)
    dsimp only [Pt.U, Pt.locs, Pt.cells, Pt.slots] at X16 l16 y16 z16 st16 hQ16
    subst l16 y16 z16
    obtain ⟨rfl, N16q, e16⟩ := hQ16
    have N16 := Fr.app N14 N16q
    refine GoH.step (fun t_ k_ => st16.trans k_) ?_
    show GoH _ _ _ _ _ _ _ _ _ _ T16 (mkF m 219 #[.val (.int p1), .val (.int p2), .val (.int p3), .val (.int p4), .val (.int p5), .val (.int c0), .val (.int c1), .val (.int c2), .val (.int n1), .val (.ref r2), .val (.ref o4), .val (.int pt1), .val (.ref nd6), .val (.ref o4)] [.null])
    refine GoH.step (fun t_ k_ => XT.ifnonnullNo X16.here hx rfl (hb hby at_219) rfl k_) ?_
    show GoH _ _ _ _ _ _ _ _ _ _ T16 (mkF m 222 #[.val (.int p1), .val (.int p2), .val (.int p3), .val (.int p4), .val (.int p5), .val (.int c0), .val (.int c1), .val (.int c2), .val (.int n1), .val (.ref r2), .val (.ref o4), .val (.int pt1), .val (.ref nd6), .val (.ref o4)] [])
    refine GoH.step (fun t_ k_ => XS.aload X16.here hx rfl (hb hby at_222) rfl rfl k_) ?_
    show GoH _ _ _ _ _ _ _ _ _ _ T16 (mkF m 224 #[.val (.int p1), .val (.int p2), .val (.int p3), .val (.int p4), .val (.int p5), .val (.int c0), .val (.int c1), .val (.int c2), .val (.int n1), .val (.ref r2), .val (.ref o4), .val (.int pt1), .val (.ref nd6), .val (.ref o4)] [(.ref nd6)])
    obtain ⟨cq17, kq17, qa17, qb17, qc17⟩ := isOf hZ6 (e16) f6_5
    obtain ⟨_, _, ⟨T17, L17, k17, n17⟩, -, X17, ⟨Lc17, hQ17, l17, y17, z17⟩, st17⟩ := X16.virtualBack hx (y := (⟨"com/example/majority_lease/majoritylease/redis/RedisNode", "credentials", "()Ljava/util/List;"⟩ : MethodName)) (z := (⟨"com/example/majority_lease/majoritylease/redis/RedisNode", "credentials", "()Ljava/util/List;"⟩ : MethodName)) hown6 (mvT hZ6 (hw _ (List.mem_of_getElem? (i := 112) rfl))) (mvT hZ6 (hw _ (List.mem_of_getElem? (i := 113) rfl))) (notFace_of_selects (args := #[]) (mvT hZ6 (hw _ (List.mem_of_getElem? (i := 115) rfl)))) (mvT hZ6 (hw _ (List.mem_of_getElem? (i := 115) rfl))) (mvT hZ6 (hw _ (List.mem_of_getElem? (i := 114) rfl))) (by decide) (backOf (W := 0) (rmCr l Z a0 hw [] nd6 wl T6.heap n0 Zs6 O6 S_EMPTY f6_8) hZ6 (hw _ (List.mem_of_getElem? (i := 116) rfl)) (hw _ (List.mem_of_getElem? (i := 34) rfl)) (by decide) (by decide)) qa17 qc17 (g := (mkF m 224 #[.val (.int p1), .val (.int p2), .val (.int p3), .val (.int p4), .val (.int p5), .val (.int c0), .val (.int c1), .val (.int c2), .val (.int n1), .val (.ref r2), .val (.ref o4), .val (.int pt1), .val (.ref nd6), .val (.ref o4)] [(.ref nd6)])) rfl (by rw [hml]; rfl) (Steps.refl _) (argsL := []) (rest := []) (lenOf pd_3 rfl) rfl (by show 2 * 0 + _ ≤ _; exact Nat.le_of_eq rfl) (hb hby at_224) (fun _ _ => ⟨rfl, (e16), (by decide : 0 + 1 + 1 + 1 + 3 + 0 + 0 + 0 + 0 ≤ _), (by decide : 0 + 1 + 4 + 1 + 25 + 0 + 0 + 0 + 0 ≤ _)⟩)
    dsimp only [Pt.U, Pt.locs, Pt.cells, Pt.slots] at X17 l17 y17 z17 st17 hQ17
    subst l17 y17 z17
    obtain ⟨rfl, N17q, e17⟩ := hQ17
    have N17 := Fr.app N16 N17q
    refine GoH.step (fun t_ k_ => st17.trans k_) ?_
    show GoH _ _ _ _ _ _ _ _ _ _ T17 (mkF m 227 #[.val (.int p1), .val (.int p2), .val (.int p3), .val (.int p4), .val (.int p5), .val (.int c0), .val (.int c1), .val (.int c2), .val (.int n1), .val (.ref r2), .val (.ref o4), .val (.int pt1), .val (.ref nd6), .val (.ref o4)] [(.ref wl)])
    obtain ⟨cq18, kq18, qa18, qb18, qc18⟩ := isOf hZ6 (e17) (E_EL.ext O6.2)
    obtain ⟨_, _, ⟨T18, L18, k18, n18⟩, -, X18, ⟨Lc18, hQ18, l18, y18, z18⟩, st18⟩ := X17.interfaceBack hx (xi := (⟨"java/util/List", "size", "()I"⟩ : MethodName)) (y := (⟨"java/util/ImmutableCollections$ListN", "size", "()I"⟩ : MethodName)) hown6 (mvT hZ6 (hw _ (List.mem_of_getElem? (i := 123) rfl))) (mvT hZ6 (hw _ (List.mem_of_getElem? (i := 124) rfl))) (mvT hZ6 (hw _ (List.mem_of_getElem? (i := 125) rfl))) (mvT hZ6 (hw _ (List.mem_of_getElem? (i := 126) rfl))) (mvT hZ6 (hw _ (List.mem_of_getElem? (i := 127) rfl))) (mvT hZ6 (hw _ (List.mem_of_getElem? (i := 128) rfl))) (mvT hZ6 (hw _ (List.mem_of_getElem? (i := 129) rfl))) (mvT hZ6 (hw _ (List.mem_of_getElem? (i := 130) rfl))) (by decide) (backOf (W := 0) (rmSz l Z a0 hw [] wl we ke T6.heap n0 Zs6 (F_EL.ext O6.2) (A_EL.ext O6.2)) hZ6 (hw _ (List.mem_of_getElem? (i := 132) rfl)) (hw _ (List.mem_of_getElem? (i := 131) rfl)) (by decide) (by decide)) qa18 qb18 qc18 (g := (mkF m 227 #[.val (.int p1), .val (.int p2), .val (.int p3), .val (.int p4), .val (.int p5), .val (.int c0), .val (.int c1), .val (.int c2), .val (.int n1), .val (.ref r2), .val (.ref o4), .val (.int pt1), .val (.ref nd6), .val (.ref o4)] [(.ref wl)])) rfl (by rw [hml]; rfl) (Steps.refl _) (argsL := []) (rest := []) (lenOf pd_7 rfl) rfl (by show 2 * 0 + _ ≤ _; exact Nat.le_of_eq rfl) (hb hby at_227) (fun _ _ => ⟨rfl, (e17), (by decide : 0 + 1 + 1 + 1 + 3 + 0 + 0 + 0 + 0 + 0 ≤ _), (by decide : 0 + 1 + 4 + 1 + 25 + 0 + 0 + 0 + 0 + 0 ≤ _)⟩)
    dsimp only [Pt.U, Pt.locs, Pt.cells, Pt.slots] at X18 l18 y18 z18 st18 hQ18
    subst l18 y18 z18
    obtain ⟨rfl, N18q, e18⟩ := hQ18
    have N18 := Fr.app N17 N18q
    refine GoH.step (fun t_ k_ => st18.trans k_) ?_
    show GoH _ _ _ _ _ _ _ _ _ _ T18 (mkF m 232 #[.val (.int p1), .val (.int p2), .val (.int p3), .val (.int p4), .val (.int p5), .val (.int c0), .val (.int c1), .val (.int c2), .val (.int n1), .val (.ref r2), .val (.ref o4), .val (.int pt1), .val (.ref nd6), .val (.ref o4)] [(.int (0 : Int32))])
    have hb232_19 : (0 : Int32) = (0 : Int32) := by decide
    refine GoH.step (fun t_ k_ => XS.ifNo X18.here hx rfl (hb hby at_232) rfl (XT.i0_ne_f hb232_19) k_) ?_
    show GoH _ _ _ _ _ _ _ _ _ _ T18 (mkF m 235 #[.val (.int p1), .val (.int p2), .val (.int p3), .val (.int p4), .val (.int p5), .val (.int c0), .val (.int c1), .val (.int c2), .val (.int n1), .val (.ref r2), .val (.ref o4), .val (.int pt1), .val (.ref nd6), .val (.ref o4)] [])
    refine GoH.step (fun t_ k_ => XS.iconst X18.here hx rfl (hb hby at_235) k_) ?_
    show GoH _ _ _ _ _ _ _ _ _ _ T18 (mkF m 236 #[.val (.int p1), .val (.int p2), .val (.int p3), .val (.int p4), .val (.int p5), .val (.int c0), .val (.int c1), .val (.int c2), .val (.int n1), .val (.ref r2), .val (.ref o4), .val (.int pt1), .val (.ref nd6), .val (.ref o4)] [(.int (1 : Int32))])
    refine GoH.step (fun t_ k_ => XS.goto X18.here hx rfl (pc0 := 236) (pc' := 240) rfl (hb hby at_236) (by decide) (by decide) k_) ?_
    show GoH _ _ _ _ _ _ _ _ _ _ T18 (mkF m 240 #[.val (.int p1), .val (.int p2), .val (.int p3), .val (.int p4), .val (.int p5), .val (.int c0), .val (.int c1), .val (.int c2), .val (.int n1), .val (.ref r2), .val (.ref o4), .val (.int pt1), .val (.ref nd6), .val (.ref o4)] [(.int (1 : Int32))])
    have hkr : T6.heap.size ≤ T18.heap.size := by rw [(e18)]; exact hk6
    have hCr : CHr Z own_EL s.vm h0 T6.vm T18.heap := by rw [(e18)]; exact CC6
    refine GoH.ret X18 hx hlk hS6 hkr hZ6 hEL hCr hret rfl (Or.inl ⟨rfl, Or.inr (Or.inl rfl), _, rfl⟩) (hb hby at_240) ?_ (by decide) (by decide)
    show Q0 Z _ _ _ _ _ _ _ _ _ _ _ _ _ T18.heap _
    exact ⟨rfl, N18⟩
  · refine GoH.step (fun t_ k_ => XS.icmpYes X0.here hx rfl (pc0 := 37) (pc' := 53) rfl (hb hby at_37) rfl (XT.ii_ne_t hb37_1) (by decide) (by decide) k_) ?_
    show GoH _ _ _ _ _ _ _ _ _ _ s₁ (mkF m 53 #[.val (.int p1), .val (.int p2), .val (.int p3), .val (.int p4), .val (.int p5), .val (.int c0), .val (.int c1), .val (.int c2), .val (.int n1), .unset, .unset, .unset, .unset, .unset] [])
    refine GoH.step (fun t_ k_ => XS.iload X0.here hx rfl (hb hby at_53) rfl k_) ?_
    show GoH _ _ _ _ _ _ _ _ _ _ s₁ (mkF m 55 #[.val (.int p1), .val (.int p2), .val (.int p3), .val (.int p4), .val (.int p5), .val (.int c0), .val (.int c1), .val (.int c2), .val (.int n1), .unset, .unset, .unset, .unset, .unset] [(.int n1)])
    refine GoH.step (fun t_ k_ => XS.iconst X0.here hx rfl (hb hby at_55) k_) ?_
    show GoH _ _ _ _ _ _ _ _ _ _ s₁ (mkF m 56 #[.val (.int p1), .val (.int p2), .val (.int p3), .val (.int p4), .val (.int p5), .val (.int c0), .val (.int c1), .val (.int c2), .val (.int n1), .unset, .unset, .unset, .unset, .unset] [(.int (2 : Int32)), (.int n1)])
    by_cases hb56_20 : n1 = (2 : Int32)
    · refine GoH.step (fun t_ k_ => XS.icmpNo X0.here hx rfl (hb hby at_56) rfl (XT.ii_ne_f hb56_20) k_) ?_
      show GoH _ _ _ _ _ _ _ _ _ _ s₁ (mkF m 59 #[.val (.int p1), .val (.int p2), .val (.int p3), .val (.int p4), .val (.int p5), .val (.int c0), .val (.int c1), .val (.int c2), .val (.int n1), .unset, .unset, .unset, .unset, .unset] [])
      refine GoH.step (fun t_ k_ => XS.iconst X0.here hx rfl (hb hby at_59) k_) ?_
      show GoH _ _ _ _ _ _ _ _ _ _ s₁ (mkF m 60 #[.val (.int p1), .val (.int p2), .val (.int p3), .val (.int p4), .val (.int p5), .val (.int c0), .val (.int c1), .val (.int c2), .val (.int n1), .unset, .unset, .unset, .unset, .unset] [(.int (2 : Int32))])
      obtain ⟨T21, h21, k21, X21, e21, E21, A21, st21⟩ := newP X0 hx hZ0 (hw _ (List.mem_of_getElem? (i := 1) rfl)) e0 (g := (mkF m 60 #[.val (.int p1), .val (.int p2), .val (.int p3), .val (.int p4), .val (.int p5), .val (.int c0), .val (.int c1), .val (.int c2), .val (.int n1), .unset, .unset, .unset, .unset, .unset] [(.int (2 : Int32))])) rfl (hb hby at_60) rfl (by decide) (cap := 2) (by decide) (by decide) (by decide) (by decide)
      obtain ⟨r21, g21⟩ : ∃ z, z = h0.size := ⟨_, rfl⟩
      rw [← g21] at A21 st21
      have ge_r21 : n0 ≤ r21 := Nat.le_trans Z0 (Nat.le_of_eq g21.symm)
      have f21_0 : Arv Z h21 r21 k21 .char (2 : Int32) [(.int (0 : Int32)), (.int (0 : Int32))] (.int (0 : Int32)) := ((Arv.new A21 (by decide)).pad (pad_rep [] (.int (0 : Int32)) 2))
      have hk21 : _ ≤ h21.size := Nat.le_trans hk0 E21.1
      have C21 : CHr Z own_EL s.vm h0 s.vm h21 := C0.trans (CHr.ext E21 C0.1)
      have Zs21 : n0 ≤ h21.size := (Nat.le_trans Z0 E21.1)
      have O21 : Old Z n0 h21 := O0.ext E21
      refine GoH.step st21 ?_
      show GoH _ _ _ _ _ _ _ _ _ _ T21 (mkF m 62 #[.val (.int p1), .val (.int p2), .val (.int p3), .val (.int p4), .val (.int p5), .val (.int c0), .val (.int c1), .val (.int c2), .val (.int n1), .unset, .unset, .unset, .unset, .unset] [(.ref r21)])
      refine GoH.step (fun t_ k_ => XS.dup X21.here hx rfl (hb hby at_62) rfl rfl k_) ?_
      show GoH _ _ _ _ _ _ _ _ _ _ T21 (mkF m 63 #[.val (.int p1), .val (.int p2), .val (.int p3), .val (.int p4), .val (.int p5), .val (.int c0), .val (.int c1), .val (.int c2), .val (.int n1), .unset, .unset, .unset, .unset, .unset] [(.ref r21), (.ref r21)])
      refine GoH.step (fun t_ k_ => XS.iconst X21.here hx rfl (hb hby at_63) k_) ?_
      show GoH _ _ _ _ _ _ _ _ _ _ T21 (mkF m 64 #[.val (.int p1), .val (.int p2), .val (.int p3), .val (.int p4), .val (.int p5), .val (.int c0), .val (.int c1), .val (.int c2), .val (.int n1), .unset, .unset, .unset, .unset, .unset] [(.int (0 : Int32)), (.ref r21), (.ref r21)])
      refine GoH.step (fun t_ k_ => XS.iload X21.here hx rfl (hb hby at_64) rfl k_) ?_
      show GoH _ _ _ _ _ _ _ _ _ _ T21 (mkF m 66 #[.val (.int p1), .val (.int p2), .val (.int p3), .val (.int p4), .val (.int p5), .val (.int c0), .val (.int c1), .val (.int c2), .val (.int n1), .unset, .unset, .unset, .unset, .unset] [(.int c0), (.int (0 : Int32)), (.ref r21), (.ref r21)])
      obtain ⟨c22, Ar22, q22, S22, M22, H22, U22⟩ := id f21_0
      obtain ⟨T22, h22, X22, e22, W22, st22⟩ := stC X21 hx hZ0 e21 Ar22 (j := (0 : Int32)) (inb_of S22 ⟨(by decide), (by decide)⟩) (g := (mkF m 66 #[.val (.int p1), .val (.int p2), .val (.int p3), .val (.int p4), .val (.int p5), .val (.int c0), .val (.int c1), .val (.int c2), .val (.int n1), .unset, .unset, .unset, .unset, .unset] [(.int c0), (.int (0 : Int32)), (.ref r21), (.ref r21)])) rfl rfl (hb hby at_66)
      have N22 := Fr.snoc X22 N0 ge_r21
      refine GoH.step st22 ?_
      have sfw22 : Safe Z own_EL s.vm _ r21 := (Safe.arv hZ0.alike f21_0 (by decide))
      have hk22 : _ ≤ h22.size := Nat.le_trans hk21 (Keep.of_wr W22).1
      have C22 : CHr Z own_EL s.vm h0 s.vm h22 := C21.trans (CHr.wr W22 sfw22 C21.1)
      have Zs22 : n0 ≤ h22.size := (Nat.le_trans Zs21 (Keep.of_wr W22).1)
      have O22 : Old Z n0 h22 := O21.wr W22 ge_r21
      have fA22 : Arv Z h22 r21 k21 .char (2 : Int32) [(.int c0), (.int (0 : Int32))] (.int (0 : Int32)) := by have q := (Arv.set Ar22 q22 S22 M22 H22 U22 (fits_nar_char _) W22 0 rfl (Nat.le_of_ble_eq_true rfl)); rw [hc0r.2] at q; exact q
      show GoH _ _ _ _ _ _ _ _ _ _ T22 (mkF m 67 #[.val (.int p1), .val (.int p2), .val (.int p3), .val (.int p4), .val (.int p5), .val (.int c0), .val (.int c1), .val (.int c2), .val (.int n1), .unset, .unset, .unset, .unset, .unset] [(.ref r21)])
      refine GoH.step (fun t_ k_ => XS.dup X22.here hx rfl (hb hby at_67) rfl rfl k_) ?_
      show GoH _ _ _ _ _ _ _ _ _ _ T22 (mkF m 68 #[.val (.int p1), .val (.int p2), .val (.int p3), .val (.int p4), .val (.int p5), .val (.int c0), .val (.int c1), .val (.int c2), .val (.int n1), .unset, .unset, .unset, .unset, .unset] [(.ref r21), (.ref r21)])
      refine GoH.step (fun t_ k_ => XS.iconst X22.here hx rfl (hb hby at_68) k_) ?_
      show GoH _ _ _ _ _ _ _ _ _ _ T22 (mkF m 69 #[.val (.int p1), .val (.int p2), .val (.int p3), .val (.int p4), .val (.int p5), .val (.int c0), .val (.int c1), .val (.int c2), .val (.int n1), .unset, .unset, .unset, .unset, .unset] [(.int (1 : Int32)), (.ref r21), (.ref r21)])
      refine GoH.step (fun t_ k_ => XS.iload X22.here hx rfl (hb hby at_69) rfl k_) ?_
      show GoH _ _ _ _ _ _ _ _ _ _ T22 (mkF m 71 #[.val (.int p1), .val (.int p2), .val (.int p3), .val (.int p4), .val (.int p5), .val (.int c0), .val (.int c1), .val (.int c2), .val (.int n1), .unset, .unset, .unset, .unset, .unset] [(.int c1), (.int (1 : Int32)), (.ref r21), (.ref r21)])
      obtain ⟨c23, Ar23, q23, S23, M23, H23, U23⟩ := id fA22
      obtain ⟨T23, h23, X23, e23, W23, st23⟩ := stC X22 hx hZ0 e22 Ar23 (j := (1 : Int32)) (inb_of S23 ⟨(by decide), (by decide)⟩) (g := (mkF m 71 #[.val (.int p1), .val (.int p2), .val (.int p3), .val (.int p4), .val (.int p5), .val (.int c0), .val (.int c1), .val (.int c2), .val (.int n1), .unset, .unset, .unset, .unset, .unset] [(.int c1), (.int (1 : Int32)), (.ref r21), (.ref r21)])) rfl rfl (hb hby at_71)
      have N23 := Fr.snoc X23 N22 ge_r21
      refine GoH.step st23 ?_
      have sfw23 : Safe Z own_EL s.vm _ r21 := (Safe.arv hZ0.alike fA22 (by decide))
      have hk23 : _ ≤ h23.size := Nat.le_trans hk22 (Keep.of_wr W23).1
      have C23 : CHr Z own_EL s.vm h0 s.vm h23 := C22.trans (CHr.wr W23 sfw23 C22.1)
      have Zs23 : n0 ≤ h23.size := (Nat.le_trans Zs22 (Keep.of_wr W23).1)
      have O23 : Old Z n0 h23 := O22.wr W23 ge_r21
      have fA23 : Arv Z h23 r21 k21 .char (2 : Int32) [(.int c0), (.int c1)] (.int (0 : Int32)) := by have q := (Arv.set Ar23 q23 S23 M23 H23 U23 (fits_nar_char _) W23 1 rfl (Nat.le_of_ble_eq_true rfl)); rw [hc1r.2] at q; exact q
      show GoH _ _ _ _ _ _ _ _ _ _ T23 (mkF m 72 #[.val (.int p1), .val (.int p2), .val (.int p3), .val (.int p4), .val (.int p5), .val (.int c0), .val (.int c1), .val (.int c2), .val (.int n1), .unset, .unset, .unset, .unset, .unset] [(.ref r21)])
      refine GoH.step (fun t_ k_ => XS.astore X23.here hx rfl (hb hby at_72) rfl rfl (l' := #[.val (.int p1), .val (.int p2), .val (.int p3), .val (.int p4), .val (.int p5), .val (.int c0), .val (.int c1), .val (.int c2), .val (.int n1), .val (.ref r21), .unset, .unset, .unset, .unset]) rfl k_) ?_
      show GoH _ _ _ _ _ _ _ _ _ _ T23 (mkF m 74 #[.val (.int p1), .val (.int p2), .val (.int p3), .val (.int p4), .val (.int p5), .val (.int c0), .val (.int c1), .val (.int c2), .val (.int n1), .val (.ref r21), .unset, .unset, .unset, .unset] [])
      refine GoH.step (fun t_ k_ => XS.goto X23.here hx rfl (pc0 := 74) (pc' := 97) rfl (hb hby at_74) (by decide) (by decide) k_) ?_
      show GoH _ _ _ _ _ _ _ _ _ _ T23 (mkF m 97 #[.val (.int p1), .val (.int p2), .val (.int p3), .val (.int p4), .val (.int p5), .val (.int c0), .val (.int c1), .val (.int c2), .val (.int n1), .val (.ref r21), .unset, .unset, .unset, .unset] [])
      have hnn : n1 = (2 : Int32) := hb56_20
      obtain ⟨T24, h24, X24, e24, E24, A24, D24, -, st24⟩ := newO X23 hx hZ0 hown0 (hw _ (List.mem_of_getElem? (i := 2) rfl)) (hw _ (List.mem_of_getElem? (i := 3) rfl)) (hw _ (List.mem_of_getElem? (i := 4) rfl)) e23 (g := (mkF m 97 #[.val (.int p1), .val (.int p2), .val (.int p3), .val (.int p4), .val (.int p5), .val (.int c0), .val (.int c1), .val (.int c2), .val (.int n1), .val (.ref r21), .unset, .unset, .unset, .unset] [])) rfl (hb hby at_97) (by decide) (by decide)
      obtain ⟨o24, g24⟩ : ∃ z, z = h23.size := ⟨_, rfl⟩
      rw [← g24] at A24 D24 st24
      have ne_r21_o24 : r21 ≠ o24 := Nat.ne_of_lt (Nat.lt_of_lt_of_le fA23.lt (Nat.le_of_eq g24.symm))
      have ge_o24 : n0 ≤ o24 := Nat.le_trans Zs23 (Nat.le_of_eq g24.symm)
      have f24_0 : Arv Z h24 r21 k21 .char (2 : Int32) [(.int c0), (.int c1)] (.int (0 : Int32)) := (fA23.ext E24)
      have f24_1 : Exa Z h24 o24 "java/lang/String" := A24
      have f24_2 : Fld Z h24 o24 "java/lang/String" "coder" "B" (.int (0 : Int32)) := (D24 (Or.inr (hw _ (List.mem_of_getElem? (i := 28) rfl))) (ty := .byte) (by decide))
      have f24_3 : Fld Z h24 o24 "java/lang/String" "value" "[B" .null := (D24 (Or.inr (hw _ (List.mem_of_getElem? (i := 30) rfl))) (ty := (.array .byte)) (by decide))
      have sf24_o24 : Safe Z own_EL s.vm h24 o24 := Safe.ext E24 C23.1 (Safe.new (Nat.le_of_eq g24.symm))
      have hk24 : _ ≤ h24.size := Nat.le_trans hk23 E24.1
      have C24 : CHr Z own_EL s.vm h0 s.vm h24 := C23.trans (CHr.ext E24 C23.1)
      have Zs24 : n0 ≤ h24.size := (Nat.le_trans Zs23 E24.1)
      have O24 : Old Z n0 h24 := O23.ext E24
      refine GoH.step st24 ?_
      show GoH _ _ _ _ _ _ _ _ _ _ T24 (mkF m 100 #[.val (.int p1), .val (.int p2), .val (.int p3), .val (.int p4), .val (.int p5), .val (.int c0), .val (.int c1), .val (.int c2), .val (.int n1), .val (.ref r21), .unset, .unset, .unset, .unset] [(.ref o24)])
      refine GoH.step (fun t_ k_ => XS.dup X24.here hx rfl (hb hby at_100) rfl rfl k_) ?_
      show GoH _ _ _ _ _ _ _ _ _ _ T24 (mkF m 101 #[.val (.int p1), .val (.int p2), .val (.int p3), .val (.int p4), .val (.int p5), .val (.int c0), .val (.int c1), .val (.int c2), .val (.int n1), .val (.ref r21), .unset, .unset, .unset, .unset] [(.ref o24), (.ref o24)])
      refine GoH.step (fun t_ k_ => XS.aload X24.here hx rfl (hb hby at_101) rfl rfl k_) ?_
      show GoH _ _ _ _ _ _ _ _ _ _ T24 (mkF m 103 #[.val (.int p1), .val (.int p2), .val (.int p3), .val (.int p4), .val (.int p5), .val (.int c0), .val (.int c1), .val (.int c2), .val (.int n1), .val (.ref r21), .unset, .unset, .unset, .unset] [(.ref r21), (.ref o24), (.ref o24)])
      have hp25 : ∀ c ∈ ([c0, c1] : List Int32), ¬ c < 0 ∧ ¬ (255 : Int32) < c := by
        intro c hc
        simp only [List.mem_cons, List.not_mem_nil, or_false] at hc
        rcases hc with rfl | rfl
        · exact hc0r.1
        · exact hc1r.1
      obtain ⟨_, _, ⟨T25, L25, k25, n25⟩, -, X25, ⟨Lc25, hQ25, l25, y25, z25⟩, st25⟩ := X24.specialBack hx (y := (⟨"java/lang/String", "<init>", "([C)V"⟩ : MethodName)) rfl hown0 (mvT hZ0 (hw _ (List.mem_of_getElem? (i := 5) rfl))) (mvT hZ0 (hw _ (List.mem_of_getElem? (i := 6) rfl))) (mvT hZ0 (hw _ (List.mem_of_getElem? (i := 7) rfl))) (by decide) (StrChars.Road.backV (W := 1) hZ0 (own_words hw) (kI := 4) (hw _ (List.mem_of_getElem? (i := 3) rfl)) (cs := ([c0, c1] : List Int32)) (bs := ([c0, c1] : List Int32).map (fun c => c.toInt8.toInt32)) (n := 2) ge_o24 Zs24 f24_1 f24_3 f24_2 f24_0 (S_COMPACT.ext O24.2) P_COMPACT rfl rfl (by decide) (by decide) hp25 rfl (by decide) (by decide)) (g := (mkF m 103 #[.val (.int p1), .val (.int p2), .val (.int p3), .val (.int p4), .val (.int p5), .val (.int c0), .val (.int c1), .val (.int c2), .val (.int n1), .val (.ref r21), .unset, .unset, .unset, .unset] [(.ref r21), (.ref o24), (.ref o24)])) rfl (by rw [hml]; rfl) (Steps.refl _) (a := o24) (argsL := [(.ref r21)]) (rest := [(.ref o24)]) (lenOf pd_4 rfl) rfl (by show 2 * 0 + _ ≤ _; exact Nat.le_of_eq rfl) (hb hby at_103) (fun _ _ => ⟨rfl, e24, (by decide : 0 + 1 + 1 + 1 ≤ _), (by decide : 0 + 2 + 4 + 2 ≤ _)⟩)
      dsimp only [Pt.U, Pt.locs, Pt.cells, Pt.slots] at X25 l25 y25 z25 st25 hQ25
      subst l25 y25 z25
      obtain ⟨rfl, N25q, Kq25, Eq25, Cq25, tb25, kb25, u25, v25, w25, Vq25, Aq25⟩ := hQ25
      have N25 := Fr.app N23 N25q
      have ne_r21_tb25 : r21 ≠ tb25 := Nat.ne_of_lt (Nat.lt_of_lt_of_le f24_0.lt v25)
      have ne_o24_tb25 : o24 ≠ tb25 := Nat.ne_of_lt (Nat.lt_of_lt_of_le f24_1.lt v25)
      have f25_0 : Arv Z T25.heap r21 k21 .char (2 : Int32) [(.int c0), (.int c1)] (.int (0 : Int32)) := (f24_0.keep Kq25 (ninS ne_r21_o24 nin0))
      have f25_1 : Exa Z T25.heap o24 "java/lang/String" := Eq25
      have f25_2 : Fld Z T25.heap o24 "java/lang/String" "coder" "B" (.int (0 : Int32)) := Cq25
      have f25_3 : Fld Z T25.heap o24 "java/lang/String" "value" "[B" (.ref tb25) := Vq25
      have f25_4 : Arv Z T25.heap tb25 kb25 .byte (2 : Int32) ((([c0, c1] : List Int32).map (fun c => c.toInt8.toInt32)).map Value.int) (.int (0 : Int32)) := Aq25
      have sfk25 : ∀ x ∈ ([o24] : List Addr), Safe Z own_EL s.vm h24 x := (sfS sf24_o24 sf0)
      have sf25_o24 : Safe Z own_EL s.vm T25.heap o24 := Safe.keep Kq25 sfk25 C24.1 sf24_o24
      have hk25 : _ ≤ T25.heap.size := Nat.le_trans hk24 Kq25.1
      have C25 : CHr Z own_EL s.vm h0 s.vm T25.heap := C24.trans (CHr.keep Kq25 sfk25 C24.1)
      have Zs25 : n0 ≤ T25.heap.size := (Nat.le_trans Zs24 Kq25.1)
      have O25 : Old Z n0 T25.heap := O24.keep Kq25 (allS ge_o24 all0)
      refine GoH.step (fun t_ k_ => st25.trans k_) ?_
      show GoH _ _ _ _ _ _ _ _ _ _ T25 (mkF m 106 #[.val (.int p1), .val (.int p2), .val (.int p3), .val (.int p4), .val (.int p5), .val (.int c0), .val (.int c1), .val (.int c2), .val (.int n1), .val (.ref r21), .unset, .unset, .unset, .unset] [(.ref o24)])
      refine GoH.step (fun t_ k_ => XS.astore X25.here hx rfl (hb hby at_106) rfl rfl (l' := #[.val (.int p1), .val (.int p2), .val (.int p3), .val (.int p4), .val (.int p5), .val (.int c0), .val (.int c1), .val (.int c2), .val (.int n1), .val (.ref r21), .val (.ref o24), .unset, .unset, .unset]) rfl k_) ?_
      show GoH _ _ _ _ _ _ _ _ _ _ T25 (mkF m 108 #[.val (.int p1), .val (.int p2), .val (.int p3), .val (.int p4), .val (.int p5), .val (.int c0), .val (.int c1), .val (.int c2), .val (.int n1), .val (.ref r21), .val (.ref o24), .unset, .unset, .unset] [])
      refine GoH.step (fun t_ k_ => XS.iconst X25.here hx rfl (hb hby at_108) k_) ?_
      show GoH _ _ _ _ _ _ _ _ _ _ T25 (mkF m 109 #[.val (.int p1), .val (.int p2), .val (.int p3), .val (.int p4), .val (.int p5), .val (.int c0), .val (.int c1), .val (.int c2), .val (.int n1), .val (.ref r21), .val (.ref o24), .unset, .unset, .unset] [(.int (1 : Int32))])
      refine GoH.step (fun t_ k_ => XS.iload X25.here hx rfl (hb hby at_109) rfl k_) ?_
      show GoH _ _ _ _ _ _ _ _ _ _ T25 (mkF m 111 #[.val (.int p1), .val (.int p2), .val (.int p3), .val (.int p4), .val (.int p5), .val (.int c0), .val (.int c1), .val (.int c2), .val (.int n1), .val (.ref r21), .val (.ref o24), .unset, .unset, .unset] [(.int p5), (.int (1 : Int32))])
      refine GoH.step (fun t_ k_ => X25.ldcI hx hown0 (mvT hZ0 (hw _ (List.mem_of_getElem? (i := 0) rfl))) rfl (hb hby at_111) k_) ?_
      show GoH _ _ _ _ _ _ _ _ _ _ T25 (mkF m 113 #[.val (.int p1), .val (.int p2), .val (.int p3), .val (.int p4), .val (.int p5), .val (.int c0), .val (.int c1), .val (.int c2), .val (.int n1), .val (.ref r21), .val (.ref o24), .unset, .unset, .unset] [(.int (2147483647 : Int32)), (.int p5), (.int (1 : Int32))])
      refine GoH.step (fun t_ k_ => XS.iand X25.here hx rfl (hb hby at_113) rfl k_) ?_
      show GoH _ _ _ _ _ _ _ _ _ _ T25 (mkF m 114 #[.val (.int p1), .val (.int p2), .val (.int p3), .val (.int p4), .val (.int p5), .val (.int c0), .val (.int c1), .val (.int c2), .val (.int n1), .val (.ref r21), .val (.ref o24), .unset, .unset, .unset] [(.int (p5 &&& (2147483647 : Int32))), (.int (1 : Int32))])
      refine GoH.step (fun t_ k_ => X25.ldcI hx hown0 (mvT hZ0 (hw _ (List.mem_of_getElem? (i := 31) rfl))) rfl (hb hby at_114) k_) ?_
      show GoH _ _ _ _ _ _ _ _ _ _ T25 (mkF m 116 #[.val (.int p1), .val (.int p2), .val (.int p3), .val (.int p4), .val (.int p5), .val (.int c0), .val (.int c1), .val (.int c2), .val (.int n1), .val (.ref r21), .val (.ref o24), .unset, .unset, .unset] [(.int (65535 : Int32)), (.int (p5 &&& (2147483647 : Int32))), (.int (1 : Int32))])
      refine GoH.step (fun t_ k_ => iremM X25 hx rfl (hb hby at_116) rfl (by decide) k_) ?_
      show GoH _ _ _ _ _ _ _ _ _ _ T25 (mkF m 117 #[.val (.int p1), .val (.int p2), .val (.int p3), .val (.int p4), .val (.int p5), .val (.int c0), .val (.int c1), .val (.int c2), .val (.int n1), .val (.ref r21), .val (.ref o24), .unset, .unset, .unset] [(.int ((p5 &&& (2147483647 : Int32)) % (65535 : Int32))), (.int (1 : Int32))])
      refine GoH.step (fun t_ k_ => XS.iadd X25.here hx rfl (hb hby at_117) rfl k_) ?_
      show GoH _ _ _ _ _ _ _ _ _ _ T25 (mkF m 118 #[.val (.int p1), .val (.int p2), .val (.int p3), .val (.int p4), .val (.int p5), .val (.int c0), .val (.int c1), .val (.int c2), .val (.int n1), .val (.ref r21), .val (.ref o24), .unset, .unset, .unset] [(.int ((1 : Int32) + ((p5 &&& (2147483647 : Int32)) % (65535 : Int32))))])
      generalize hpt1 : ((1 : Int32) + ((p5 &&& (2147483647 : Int32)) % (65535 : Int32))) = pt1
      show GoH _ _ _ _ _ _ _ _ _ _ T25 (mkF m 118 #[.val (.int p1), .val (.int p2), .val (.int p3), .val (.int p4), .val (.int p5), .val (.int c0), .val (.int c1), .val (.int c2), .val (.int n1), .val (.ref r21), .val (.ref o24), .unset, .unset, .unset] [(.int pt1)])
      refine GoH.step (fun t_ k_ => XS.istore X25.here hx rfl (hb hby at_118) rfl (l' := #[.val (.int p1), .val (.int p2), .val (.int p3), .val (.int p4), .val (.int p5), .val (.int c0), .val (.int c1), .val (.int c2), .val (.int n1), .val (.ref r21), .val (.ref o24), .val (.int pt1), .unset, .unset]) rfl k_) ?_
      show GoH _ _ _ _ _ _ _ _ _ _ T25 (mkF m 120 #[.val (.int p1), .val (.int p2), .val (.int p3), .val (.int p4), .val (.int p5), .val (.int c0), .val (.int c1), .val (.int c2), .val (.int n1), .val (.ref r21), .val (.ref o24), .val (.int pt1), .unset, .unset] [])
      have hpt1r := own_port p5
      rw [hpt1] at hpt1r
      refine GoH.step (fun t_ k_ => XS.aload X25.here hx rfl (hb hby at_120) rfl rfl k_) ?_
      show GoH _ _ _ _ _ _ _ _ _ _ T25 (mkF m 122 #[.val (.int p1), .val (.int p2), .val (.int p3), .val (.int p4), .val (.int p5), .val (.int c0), .val (.int c1), .val (.int c2), .val (.int n1), .val (.ref r21), .val (.ref o24), .val (.int pt1), .unset, .unset] [(.ref o24)])
      refine GoH.step (fun t_ k_ => XS.iload X25.here hx rfl (hb hby at_122) rfl k_) ?_
      show GoH _ _ _ _ _ _ _ _ _ _ T25 (mkF m 124 #[.val (.int p1), .val (.int p2), .val (.int p3), .val (.int p4), .val (.int p5), .val (.int c0), .val (.int c1), .val (.int c2), .val (.int n1), .val (.ref r21), .val (.ref o24), .val (.int pt1), .unset, .unset] [(.int pt1), (.ref o24)])
      obtain ⟨_, _, ⟨T26, L26, k26, n26⟩, -, X26, hSq26, hgr26, ⟨Lc26, hQ26, l26, y26, z26, CHq26⟩, st26⟩ := callSS X25 hx (y := (⟨"com/example/majority_lease/majoritylease/redis/RedisNode", "at", "(Ljava/lang/String;I)Lcom/example/majority_lease/majoritylease/redis/RedisNode;"⟩ : MethodName)) hown0 (mvT hZ0 (hw _ (List.mem_of_getElem? (i := 32) rfl))) (mvT hZ0 (hw _ (List.mem_of_getElem? (i := 33) rfl))) (mvT hZ0 (hw _ (List.mem_of_getElem? (i := 34) rfl))) (mvT hZ0 (hw _ (List.mem_of_getElem? (i := 35) rfl))) (by decide) (backOfSH (W := 0) (rmAt l Z a0 hw [] o24 pt1 tb25 kb25 (2 : Int32) ((([c0, c1] : List Int32).map (fun c => c.toInt8.toInt32)).map Value.int) T25.heap n0 Zs25 f25_1 f25_3 f25_4 (by decide) hpt1r.1 hpt1r.2) hZ0 (hw _ (List.mem_of_getElem? (i := 35) rfl)) (hw _ (List.mem_of_getElem? (i := 34) rfl)) (by decide) (by decide) hEL C25.1) (g := (mkF m 124 #[.val (.int p1), .val (.int p2), .val (.int p3), .val (.int p4), .val (.int p5), .val (.int c0), .val (.int c1), .val (.int c2), .val (.int n1), .val (.ref r21), .val (.ref o24), .val (.int pt1), .unset, .unset] [(.int pt1), (.ref o24)])) rfl (by rw [hml]; rfl) (argsL := [(.ref o24), (.int pt1)]) (rest := []) (lenOf pd_5 rfl) rfl (by show 2 * 0 + _ ≤ _; exact Nat.le_of_eq rfl) (hb hby at_124) (fun _ _ => ⟨rfl, rfl, (by decide : 0 + 1 + 1 + 1 + 3 ≤ _), (by decide : 0 + 2 + 4 + 2 + 25 ≤ _)⟩)
      dsimp only [Pt.U, Pt.locs, Pt.cells, Pt.slots] at X26 hSq26 hgr26 l26 y26 z26 st26 hQ26 CHq26
      subst l26 y26 z26
      have X26 : Stand p l e _ (s.setVm T26.vm) _ _ _ _ _ T26 _ _ _ := X26
      have hS26 : s.Since T26.vm T26.heap.size := State.Since.trans hS0 hSq26 (Nat.le_trans hk25 (by first | exact hgr26 | (rw [← (rfl : T25.heap = T25.heap)]; exact hgr26)))
      have hZ26 : Z.Warmed39 (s.setVm T26.vm).vm := State.Warmed39.trans (t := s.setVm s.vm) hZ0 hSq26.1
      have hown26 : (s.setVm T26.vm).vm.findClass "com/example/majority_lease/majoritylease/redis/RedisNodeAtPinLaw" = some m.cls := by rw [show (s.setVm T26.vm).vm = T26.vm from rfl, hSq26.1.alike.findClass]; exact hown0
      have hk26 : T26.heap.size ≤ T26.heap.size := Nat.le_refl _
      obtain ⟨nd26, rfl, N26q, Kq26, gq26, Eq26, Fh26, Fp26, Fw26, Ft26⟩ := hQ26
      have N26 := Fr.app N25 N26q
      have f26_0 : Arv Z T26.heap r21 k21 .char (2 : Int32) [(.int c0), (.int c1)] (.int (0 : Int32)) := (f25_0.keep Kq26 nin0)
      have f26_1 : Exa Z T26.heap o24 "java/lang/String" := (f25_1.keep Kq26)
      have f26_2 : Fld Z T26.heap o24 "java/lang/String" "coder" "B" (.int (0 : Int32)) := (f25_2.keep Kq26 nin0)
      have f26_3 : Fld Z T26.heap o24 "java/lang/String" "value" "[B" (.ref tb25) := (f25_3.keep Kq26 nin0)
      have f26_4 : Arv Z T26.heap tb25 kb25 .byte (2 : Int32) ((([c0, c1] : List Int32).map (fun c => c.toInt8.toInt32)).map Value.int) (.int (0 : Int32)) := (f25_4.keep Kq26 nin0)
      have f26_5 : Exa Z T26.heap nd26 "com/example/majority_lease/majoritylease/redis/RedisNode" := Eq26
      have f26_6 : Fld Z T26.heap nd26 "com/example/majority_lease/majoritylease/redis/RedisNode" "host" "Ljava/lang/String;" (.ref o24) := Fh26
      have f26_7 : Fld Z T26.heap nd26 "com/example/majority_lease/majoritylease/redis/RedisNode" "port" "I" (.int pt1) := Fp26
      have f26_8 : Fld Z T26.heap nd26 "com/example/majority_lease/majoritylease/redis/RedisNode" "password" "Ljava/lang/String;" .null := Fw26
      have f26_9 : Fld Z T26.heap nd26 "com/example/majority_lease/majoritylease/redis/RedisNode" "tls" "Ljavax/net/ssl/SSLContext;" .null := Ft26
      have Zs26 : n0 ≤ T26.heap.size := (Nat.le_trans Zs25 Kq26.1)
      have O26 : Old Z n0 T26.heap := O25.keep Kq26 all0
      have sf26_o24 : Safe Z own_EL T26.vm T26.heap o24 := CHr.safe CHq26 f25_1.lt sf25_o24
      have CC26 : CHr Z own_EL s.vm h0 T26.vm T26.heap := C25.trans CHq26
      refine GoH.step (fun t_ k_ => st26.trans k_) ?_
      show GoH _ _ _ _ _ _ _ _ _ _ T26 (mkF m 127 #[.val (.int p1), .val (.int p2), .val (.int p3), .val (.int p4), .val (.int p5), .val (.int c0), .val (.int c1), .val (.int c2), .val (.int n1), .val (.ref r21), .val (.ref o24), .val (.int pt1), .unset, .unset] [(.ref nd26)])
      refine GoH.step (fun t_ k_ => XS.astore X26.here hx rfl (hb hby at_127) rfl rfl (l' := #[.val (.int p1), .val (.int p2), .val (.int p3), .val (.int p4), .val (.int p5), .val (.int c0), .val (.int c1), .val (.int c2), .val (.int n1), .val (.ref r21), .val (.ref o24), .val (.int pt1), .val (.ref nd26), .unset]) rfl k_) ?_
      show GoH _ _ _ _ _ _ _ _ _ _ T26 (mkF m 129 #[.val (.int p1), .val (.int p2), .val (.int p3), .val (.int p4), .val (.int p5), .val (.int c0), .val (.int c1), .val (.int c2), .val (.int n1), .val (.ref r21), .val (.ref o24), .val (.int pt1), .val (.ref nd26), .unset] [])
      refine GoH.step (fun t_ k_ => XS.aload X26.here hx rfl (hb hby at_129) rfl rfl k_) ?_
      show GoH _ _ _ _ _ _ _ _ _ _ T26 (mkF m 131 #[.val (.int p1), .val (.int p2), .val (.int p3), .val (.int p4), .val (.int p5), .val (.int c0), .val (.int c1), .val (.int c2), .val (.int n1), .val (.ref r21), .val (.ref o24), .val (.int pt1), .val (.ref nd26), .unset] [(.ref nd26)])
      obtain ⟨cq27, kq27, qa27, qb27, qc27⟩ := isOf hZ26 rfl f26_5
      obtain ⟨_, _, ⟨T27, L27, k27, n27⟩, -, X27, ⟨Lc27, hQ27, l27, y27, z27⟩, st27⟩ := X26.virtualBack hx (y := (⟨"com/example/majority_lease/majoritylease/redis/RedisNode", "host", "()Ljava/lang/String;"⟩ : MethodName)) (z := (⟨"com/example/majority_lease/majoritylease/redis/RedisNode", "host", "()Ljava/lang/String;"⟩ : MethodName)) hown26 (mvT hZ26 (hw _ (List.mem_of_getElem? (i := 65) rfl))) (mvT hZ26 (hw _ (List.mem_of_getElem? (i := 66) rfl))) (notFace_of_selects (args := #[]) (mvT hZ26 (hw _ (List.mem_of_getElem? (i := 68) rfl)))) (mvT hZ26 (hw _ (List.mem_of_getElem? (i := 68) rfl))) (mvT hZ26 (hw _ (List.mem_of_getElem? (i := 67) rfl))) (by decide) (backOf (W := 0) (rmHo l Z a0 hw [] nd26 o24 T26.heap n0 Zs26 f26_6) hZ26 (hw _ (List.mem_of_getElem? (i := 69) rfl)) (hw _ (List.mem_of_getElem? (i := 34) rfl)) (by decide) (by decide)) qa27 qc27 (g := (mkF m 131 #[.val (.int p1), .val (.int p2), .val (.int p3), .val (.int p4), .val (.int p5), .val (.int c0), .val (.int c1), .val (.int c2), .val (.int n1), .val (.ref r21), .val (.ref o24), .val (.int pt1), .val (.ref nd26), .unset] [(.ref nd26)])) rfl (by rw [hml]; rfl) (Steps.refl _) (argsL := []) (rest := []) (lenOf pd_6 rfl) rfl (by show 2 * 0 + _ ≤ _; exact Nat.le_of_eq rfl) (hb hby at_131) (fun _ _ => ⟨rfl, rfl, (by decide : 0 + 1 + 1 + 1 + 3 + 0 ≤ _), (by decide : 0 + 2 + 4 + 2 + 25 + 0 ≤ _)⟩)
      dsimp only [Pt.U, Pt.locs, Pt.cells, Pt.slots] at X27 l27 y27 z27 st27 hQ27
      subst l27 y27 z27
      obtain ⟨rfl, N27q, e27⟩ := hQ27
      have N27 := Fr.app N26 N27q
      refine GoH.step (fun t_ k_ => st27.trans k_) ?_
      show GoH _ _ _ _ _ _ _ _ _ _ T27 (mkF m 134 #[.val (.int p1), .val (.int p2), .val (.int p3), .val (.int p4), .val (.int p5), .val (.int c0), .val (.int c1), .val (.int c2), .val (.int n1), .val (.ref r21), .val (.ref o24), .val (.int pt1), .val (.ref nd26), .unset] [(.ref o24)])
      refine GoH.step (fun t_ k_ => XS.astore X27.here hx rfl (hb hby at_134) rfl rfl (l' := #[.val (.int p1), .val (.int p2), .val (.int p3), .val (.int p4), .val (.int p5), .val (.int c0), .val (.int c1), .val (.int c2), .val (.int n1), .val (.ref r21), .val (.ref o24), .val (.int pt1), .val (.ref nd26), .val (.ref o24)]) rfl k_) ?_
      show GoH _ _ _ _ _ _ _ _ _ _ T27 (mkF m 136 #[.val (.int p1), .val (.int p2), .val (.int p3), .val (.int p4), .val (.int p5), .val (.int c0), .val (.int c1), .val (.int c2), .val (.int n1), .val (.ref r21), .val (.ref o24), .val (.int pt1), .val (.ref nd26), .val (.ref o24)] [])
      refine GoH.step (fun t_ k_ => XS.aload X27.here hx rfl (hb hby at_136) rfl rfl k_) ?_
      show GoH _ _ _ _ _ _ _ _ _ _ T27 (mkF m 138 #[.val (.int p1), .val (.int p2), .val (.int p3), .val (.int p4), .val (.int p5), .val (.int c0), .val (.int c1), .val (.int c2), .val (.int n1), .val (.ref r21), .val (.ref o24), .val (.int pt1), .val (.ref nd26), .val (.ref o24)] [(.ref o24)])
      refine GoH.step (fun t_ k_ => XS.ifnullNo X27.here hx rfl (hb hby at_138) rfl k_) ?_
      show GoH _ _ _ _ _ _ _ _ _ _ T27 (mkF m 141 #[.val (.int p1), .val (.int p2), .val (.int p3), .val (.int p4), .val (.int p5), .val (.int c0), .val (.int c1), .val (.int c2), .val (.int n1), .val (.ref r21), .val (.ref o24), .val (.int pt1), .val (.ref nd26), .val (.ref o24)] [])
      refine GoH.step (fun t_ k_ => XS.aload X27.here hx rfl (hb hby at_141) rfl rfl k_) ?_
      show GoH _ _ _ _ _ _ _ _ _ _ T27 (mkF m 143 #[.val (.int p1), .val (.int p2), .val (.int p3), .val (.int p4), .val (.int p5), .val (.int c0), .val (.int c1), .val (.int c2), .val (.int n1), .val (.ref r21), .val (.ref o24), .val (.int pt1), .val (.ref nd26), .val (.ref o24)] [(.ref o24)])
      have hcd28 : StrChars.Road.CodA ([c0, c1] : List Int32) 0 (2 : Int32) ((([c0, c1] : List Int32).map (fun c => c.toInt8.toInt32)).map Value.int) := StrChars.Road.codOf (n := 2) rfl (fun c hc => (hp25 c hc).2)
      have hbd28 : ∀ c ∈ ([c0, c1] : List Int32), ¬ c < 0 ∧ ¬ (65535 : Int32) < c := own_up _ hp25
      obtain ⟨cq28, kq28, qa28, qb28, qc28⟩ := isOf hZ26 (e27) f26_1
      obtain ⟨vv28, _, ⟨T28, L28, k28, n28⟩, -, X28, ⟨Lc28, hQ28, l28, y28, z28⟩, st28⟩ := X27.virtualBack hx (y := (⟨"java/lang/String", "length", "()I"⟩ : MethodName)) (z := (⟨"java/lang/String", "length", "()I"⟩ : MethodName)) hown26 (mvT hZ26 (hw _ (List.mem_of_getElem? (i := 70) rfl))) (mvT hZ26 (hw _ (List.mem_of_getElem? (i := 71) rfl))) (notFace_of_selects (args := #[]) (mvT hZ26 (hw _ (List.mem_of_getElem? (i := 73) rfl)))) (mvT hZ26 (hw _ (List.mem_of_getElem? (i := 73) rfl))) (mvT hZ26 (hw _ (List.mem_of_getElem? (i := 72) rfl))) (by decide) (StrChars.Road.lenW (W := 0) hZ26 (own_wordsLen hw) (kI := 4) (hw _ (List.mem_of_getElem? (i := 3) rfl)) f26_1 f26_3 f26_2 f26_4 hcd28 hbd28 (S_COMPACT.ext O26.2) P_COMPACT (Nat.le_of_ble_eq_true rfl) (by decide) (by decide)) qa28 qc28 (g := (mkF m 143 #[.val (.int p1), .val (.int p2), .val (.int p3), .val (.int p4), .val (.int p5), .val (.int c0), .val (.int c1), .val (.int c2), .val (.int n1), .val (.ref r21), .val (.ref o24), .val (.int pt1), .val (.ref nd26), .val (.ref o24)] [(.ref o24)])) rfl (by rw [hml]; rfl) (Steps.refl _) (argsL := []) (rest := []) (lenOf pd_7 rfl) rfl (by show 2 * 0 + _ ≤ _; exact Nat.le_of_eq rfl) (hb hby at_143) (fun _ _ => ⟨rfl, (e27), (by decide : 0 + 1 + 1 + 1 + 3 + 0 + 0 ≤ _), (by decide : 0 + 2 + 4 + 2 + 25 + 0 + 0 ≤ _)⟩)
      dsimp only [Pt.U, Pt.locs, Pt.cells, Pt.slots] at X28 l28 y28 z28 st28 hQ28
      subst l28 y28 z28
      obtain ⟨rfl, rfl, e28⟩ := hQ28
      have N28 := Fr.app N27 (Fr.nil n0)
      refine GoH.step (fun t_ k_ => st28.trans k_) ?_
      show GoH _ _ _ _ _ _ _ _ _ _ T28 (mkF m 146 #[.val (.int p1), .val (.int p2), .val (.int p3), .val (.int p4), .val (.int p5), .val (.int c0), .val (.int c1), .val (.int c2), .val (.int n1), .val (.ref r21), .val (.ref o24), .val (.int pt1), .val (.ref nd26), .val (.ref o24)] [(.int (2 : Int32))])
      refine GoH.step (fun t_ k_ => XS.iload X28.here hx rfl (hb hby at_146) rfl k_) ?_
      show GoH _ _ _ _ _ _ _ _ _ _ T28 (mkF m 148 #[.val (.int p1), .val (.int p2), .val (.int p3), .val (.int p4), .val (.int p5), .val (.int c0), .val (.int c1), .val (.int c2), .val (.int n1), .val (.ref r21), .val (.ref o24), .val (.int pt1), .val (.ref nd26), .val (.ref o24)] [(.int n1), (.int (2 : Int32))])
      have hb148_29 : (2 : Int32) = n1 := by rw [hnn]
      refine GoH.step (fun t_ k_ => XS.icmpYes X28.here hx rfl (pc0 := 148) (pc' := 153) rfl (hb hby at_148) rfl (XT.ii_eq_t hb148_29) (by decide) (by decide) k_) ?_
      show GoH _ _ _ _ _ _ _ _ _ _ T28 (mkF m 153 #[.val (.int p1), .val (.int p2), .val (.int p3), .val (.int p4), .val (.int p5), .val (.int c0), .val (.int c1), .val (.int c2), .val (.int n1), .val (.ref r21), .val (.ref o24), .val (.int pt1), .val (.ref nd26), .val (.ref o24)] [])
      refine GoH.step (fun t_ k_ => XS.aload X28.here hx rfl (hb hby at_153) rfl rfl k_) ?_
      show GoH _ _ _ _ _ _ _ _ _ _ T28 (mkF m 155 #[.val (.int p1), .val (.int p2), .val (.int p3), .val (.int p4), .val (.int p5), .val (.int c0), .val (.int c1), .val (.int c2), .val (.int n1), .val (.ref r21), .val (.ref o24), .val (.int pt1), .val (.ref nd26), .val (.ref o24)] [(.ref o24)])
      refine GoH.step (fun t_ k_ => XS.iconst X28.here hx rfl (hb hby at_155) k_) ?_
      show GoH _ _ _ _ _ _ _ _ _ _ T28 (mkF m 156 #[.val (.int p1), .val (.int p2), .val (.int p3), .val (.int p4), .val (.int p5), .val (.int c0), .val (.int c1), .val (.int c2), .val (.int n1), .val (.ref r21), .val (.ref o24), .val (.int pt1), .val (.ref nd26), .val (.ref o24)] [(.int (0 : Int32)), (.ref o24)])
      have hcd30 : StrChars.Road.CodA ([c0, c1] : List Int32) 0 (2 : Int32) ((([c0, c1] : List Int32).map (fun c => c.toInt8.toInt32)).map Value.int) := StrChars.Road.codOf (n := 2) rfl (fun c hc => (hp25 c hc).2)
      have hbd30 : ∀ c ∈ ([c0, c1] : List Int32), ¬ c < 0 ∧ ¬ (65535 : Int32) < c := own_up _ hp25
      obtain ⟨cq30, kq30, qa30, qb30, qc30⟩ := isOf hZ26 e28 f26_1
      obtain ⟨vv30, _, ⟨T30, L30, k30, n30⟩, -, X30, ⟨Lc30, hQ30, l30, y30, z30⟩, st30⟩ := X28.virtualBack hx (y := (⟨"java/lang/String", "charAt", "(I)C"⟩ : MethodName)) (z := (⟨"java/lang/String", "charAt", "(I)C"⟩ : MethodName)) hown26 (mvT hZ26 (hw _ (List.mem_of_getElem? (i := 80) rfl))) (mvT hZ26 (hw _ (List.mem_of_getElem? (i := 81) rfl))) (notFace_of_selects (args := #[]) (mvT hZ26 (hw _ (List.mem_of_getElem? (i := 83) rfl)))) (mvT hZ26 (hw _ (List.mem_of_getElem? (i := 83) rfl))) (mvT hZ26 (hw _ (List.mem_of_getElem? (i := 82) rfl))) (by decide) (StrChars.Road.chN (W := 0) hZ26 (own_wordsChN hw) (kI := 4) (hw _ (List.mem_of_getElem? (i := 3) rfl)) f26_1 f26_3 f26_2 f26_4 hcd30 hbd30 (S_COMPACT.ext O26.2) P_COMPACT (S_SIOOBE.ext O26.2) r_SIOOBE (Nat.le_of_ble_eq_true rfl) (i := 0) (Nat.le_of_ble_eq_true rfl) (j := (0 : Int32)) rfl (by decide) (by decide)) qa30 qc30 (g := (mkF m 156 #[.val (.int p1), .val (.int p2), .val (.int p3), .val (.int p4), .val (.int p5), .val (.int c0), .val (.int c1), .val (.int c2), .val (.int n1), .val (.ref r21), .val (.ref o24), .val (.int pt1), .val (.ref nd26), .val (.ref o24)] [(.int (0 : Int32)), (.ref o24)])) rfl (by rw [hml]; rfl) (Steps.refl _) (argsL := [(.int (0 : Int32))]) (rest := []) (lenOf pd_8 rfl) rfl (by show 2 * 0 + _ ≤ _; exact Nat.le_of_eq rfl) (hb hby at_156) (fun _ _ => ⟨rfl, e28, (by decide : 0 + 1 + 1 + 1 + 3 + 0 + 0 ≤ _), (by decide : 0 + 2 + 4 + 2 + 25 + 0 + 0 ≤ _)⟩)
      dsimp only [Pt.U, Pt.locs, Pt.cells, Pt.slots] at X30 l30 y30 z30 st30 hQ30
      subst l30 y30 z30
      obtain ⟨rfl, rfl, e30⟩ := hQ30
      have N30 := Fr.app N28 (Fr.nil n0)
      refine GoH.step (fun t_ k_ => st30.trans k_) ?_
      show GoH _ _ _ _ _ _ _ _ _ _ T30 (mkF m 159 #[.val (.int p1), .val (.int p2), .val (.int p3), .val (.int p4), .val (.int p5), .val (.int c0), .val (.int c1), .val (.int c2), .val (.int n1), .val (.ref r21), .val (.ref o24), .val (.int pt1), .val (.ref nd26), .val (.ref o24)] [(.int c0)])
      refine GoH.step (fun t_ k_ => XS.iload X30.here hx rfl (hb hby at_159) rfl k_) ?_
      show GoH _ _ _ _ _ _ _ _ _ _ T30 (mkF m 161 #[.val (.int p1), .val (.int p2), .val (.int p3), .val (.int p4), .val (.int p5), .val (.int c0), .val (.int c1), .val (.int c2), .val (.int n1), .val (.ref r21), .val (.ref o24), .val (.int pt1), .val (.ref nd26), .val (.ref o24)] [(.int c0), (.int c0)])
      have hb161_31 : c0 = c0 := by rfl
      refine GoH.step (fun t_ k_ => XS.icmpYes X30.here hx rfl (pc0 := 161) (pc' := 166) rfl (hb hby at_161) rfl (XT.ii_eq_t hb161_31) (by decide) (by decide) k_) ?_
      show GoH _ _ _ _ _ _ _ _ _ _ T30 (mkF m 166 #[.val (.int p1), .val (.int p2), .val (.int p3), .val (.int p4), .val (.int p5), .val (.int c0), .val (.int c1), .val (.int c2), .val (.int n1), .val (.ref r21), .val (.ref o24), .val (.int pt1), .val (.ref nd26), .val (.ref o24)] [])
      refine GoH.step (fun t_ k_ => XS.iload X30.here hx rfl (hb hby at_166) rfl k_) ?_
      show GoH _ _ _ _ _ _ _ _ _ _ T30 (mkF m 168 #[.val (.int p1), .val (.int p2), .val (.int p3), .val (.int p4), .val (.int p5), .val (.int c0), .val (.int c1), .val (.int c2), .val (.int n1), .val (.ref r21), .val (.ref o24), .val (.int pt1), .val (.ref nd26), .val (.ref o24)] [(.int n1)])
      refine GoH.step (fun t_ k_ => XS.iconst X30.here hx rfl (hb hby at_168) k_) ?_
      show GoH _ _ _ _ _ _ _ _ _ _ T30 (mkF m 169 #[.val (.int p1), .val (.int p2), .val (.int p3), .val (.int p4), .val (.int p5), .val (.int c0), .val (.int c1), .val (.int c2), .val (.int n1), .val (.ref r21), .val (.ref o24), .val (.int pt1), .val (.ref nd26), .val (.ref o24)] [(.int (2 : Int32)), (.int n1)])
      have hb169_32 : ¬ (n1 < (2 : Int32)) := by rw [hnn]; decide
      refine GoH.step (fun t_ k_ => XS.icmpNo X30.here hx rfl (hb hby at_169) rfl (XT.ii_lt_f hb169_32) k_) ?_
      show GoH _ _ _ _ _ _ _ _ _ _ T30 (mkF m 172 #[.val (.int p1), .val (.int p2), .val (.int p3), .val (.int p4), .val (.int p5), .val (.int c0), .val (.int c1), .val (.int c2), .val (.int n1), .val (.ref r21), .val (.ref o24), .val (.int pt1), .val (.ref nd26), .val (.ref o24)] [])
      refine GoH.step (fun t_ k_ => XS.aload X30.here hx rfl (hb hby at_172) rfl rfl k_) ?_
      show GoH _ _ _ _ _ _ _ _ _ _ T30 (mkF m 174 #[.val (.int p1), .val (.int p2), .val (.int p3), .val (.int p4), .val (.int p5), .val (.int c0), .val (.int c1), .val (.int c2), .val (.int n1), .val (.ref r21), .val (.ref o24), .val (.int pt1), .val (.ref nd26), .val (.ref o24)] [(.ref o24)])
      refine GoH.step (fun t_ k_ => XS.iconst X30.here hx rfl (hb hby at_174) k_) ?_
      show GoH _ _ _ _ _ _ _ _ _ _ T30 (mkF m 175 #[.val (.int p1), .val (.int p2), .val (.int p3), .val (.int p4), .val (.int p5), .val (.int c0), .val (.int c1), .val (.int c2), .val (.int n1), .val (.ref r21), .val (.ref o24), .val (.int pt1), .val (.ref nd26), .val (.ref o24)] [(.int (1 : Int32)), (.ref o24)])
      have hcd33 : StrChars.Road.CodA ([c0, c1] : List Int32) 0 (2 : Int32) ((([c0, c1] : List Int32).map (fun c => c.toInt8.toInt32)).map Value.int) := StrChars.Road.codOf (n := 2) rfl (fun c hc => (hp25 c hc).2)
      have hbd33 : ∀ c ∈ ([c0, c1] : List Int32), ¬ c < 0 ∧ ¬ (65535 : Int32) < c := own_up _ hp25
      obtain ⟨cq33, kq33, qa33, qb33, qc33⟩ := isOf hZ26 e30 f26_1
      obtain ⟨vv33, _, ⟨T33, L33, k33, n33⟩, -, X33, ⟨Lc33, hQ33, l33, y33, z33⟩, st33⟩ := X30.virtualBack hx (y := (⟨"java/lang/String", "charAt", "(I)C"⟩ : MethodName)) (z := (⟨"java/lang/String", "charAt", "(I)C"⟩ : MethodName)) hown26 (mvT hZ26 (hw _ (List.mem_of_getElem? (i := 80) rfl))) (mvT hZ26 (hw _ (List.mem_of_getElem? (i := 81) rfl))) (notFace_of_selects (args := #[]) (mvT hZ26 (hw _ (List.mem_of_getElem? (i := 83) rfl)))) (mvT hZ26 (hw _ (List.mem_of_getElem? (i := 83) rfl))) (mvT hZ26 (hw _ (List.mem_of_getElem? (i := 82) rfl))) (by decide) (StrChars.Road.chN (W := 0) hZ26 (own_wordsChN hw) (kI := 4) (hw _ (List.mem_of_getElem? (i := 3) rfl)) f26_1 f26_3 f26_2 f26_4 hcd33 hbd33 (S_COMPACT.ext O26.2) P_COMPACT (S_SIOOBE.ext O26.2) r_SIOOBE (Nat.le_of_ble_eq_true rfl) (i := 1) (Nat.le_of_ble_eq_true rfl) (j := (1 : Int32)) rfl (by decide) (by decide)) qa33 qc33 (g := (mkF m 175 #[.val (.int p1), .val (.int p2), .val (.int p3), .val (.int p4), .val (.int p5), .val (.int c0), .val (.int c1), .val (.int c2), .val (.int n1), .val (.ref r21), .val (.ref o24), .val (.int pt1), .val (.ref nd26), .val (.ref o24)] [(.int (1 : Int32)), (.ref o24)])) rfl (by rw [hml]; rfl) (Steps.refl _) (argsL := [(.int (1 : Int32))]) (rest := []) (lenOf pd_8 rfl) rfl (by show 2 * 0 + _ ≤ _; exact Nat.le_of_eq rfl) (hb hby at_175) (fun _ _ => ⟨rfl, e30, (by decide : 0 + 1 + 1 + 1 + 3 + 0 + 0 ≤ _), (by decide : 0 + 2 + 4 + 2 + 25 + 0 + 0 ≤ _)⟩)
      dsimp only [Pt.U, Pt.locs, Pt.cells, Pt.slots] at X33 l33 y33 z33 st33 hQ33
      subst l33 y33 z33
      obtain ⟨rfl, rfl, e33⟩ := hQ33
      have N33 := Fr.app N30 (Fr.nil n0)
      refine GoH.step (fun t_ k_ => st33.trans k_) ?_
      show GoH _ _ _ _ _ _ _ _ _ _ T33 (mkF m 178 #[.val (.int p1), .val (.int p2), .val (.int p3), .val (.int p4), .val (.int p5), .val (.int c0), .val (.int c1), .val (.int c2), .val (.int n1), .val (.ref r21), .val (.ref o24), .val (.int pt1), .val (.ref nd26), .val (.ref o24)] [(.int c1)])
      refine GoH.step (fun t_ k_ => XS.iload X33.here hx rfl (hb hby at_178) rfl k_) ?_
      show GoH _ _ _ _ _ _ _ _ _ _ T33 (mkF m 180 #[.val (.int p1), .val (.int p2), .val (.int p3), .val (.int p4), .val (.int p5), .val (.int c0), .val (.int c1), .val (.int c2), .val (.int n1), .val (.ref r21), .val (.ref o24), .val (.int pt1), .val (.ref nd26), .val (.ref o24)] [(.int c1), (.int c1)])
      have hb180_34 : c1 = c1 := by rfl
      refine GoH.step (fun t_ k_ => XS.icmpYes X33.here hx rfl (pc0 := 180) (pc' := 185) rfl (hb hby at_180) rfl (XT.ii_eq_t hb180_34) (by decide) (by decide) k_) ?_
      show GoH _ _ _ _ _ _ _ _ _ _ T33 (mkF m 185 #[.val (.int p1), .val (.int p2), .val (.int p3), .val (.int p4), .val (.int p5), .val (.int c0), .val (.int c1), .val (.int c2), .val (.int n1), .val (.ref r21), .val (.ref o24), .val (.int pt1), .val (.ref nd26), .val (.ref o24)] [])
      refine GoH.step (fun t_ k_ => XS.iload X33.here hx rfl (hb hby at_185) rfl k_) ?_
      show GoH _ _ _ _ _ _ _ _ _ _ T33 (mkF m 187 #[.val (.int p1), .val (.int p2), .val (.int p3), .val (.int p4), .val (.int p5), .val (.int c0), .val (.int c1), .val (.int c2), .val (.int n1), .val (.ref r21), .val (.ref o24), .val (.int pt1), .val (.ref nd26), .val (.ref o24)] [(.int n1)])
      refine GoH.step (fun t_ k_ => XS.iconst X33.here hx rfl (hb hby at_187) k_) ?_
      show GoH _ _ _ _ _ _ _ _ _ _ T33 (mkF m 188 #[.val (.int p1), .val (.int p2), .val (.int p3), .val (.int p4), .val (.int p5), .val (.int c0), .val (.int c1), .val (.int c2), .val (.int n1), .val (.ref r21), .val (.ref o24), .val (.int pt1), .val (.ref nd26), .val (.ref o24)] [(.int (3 : Int32)), (.int n1)])
      have hb188_35 : n1 < (3 : Int32) := by rw [hnn]; decide
      refine GoH.step (fun t_ k_ => XS.icmpYes X33.here hx rfl (pc0 := 188) (pc' := 204) rfl (hb hby at_188) rfl (XT.ii_lt_t hb188_35) (by decide) (by decide) k_) ?_
      show GoH _ _ _ _ _ _ _ _ _ _ T33 (mkF m 204 #[.val (.int p1), .val (.int p2), .val (.int p3), .val (.int p4), .val (.int p5), .val (.int c0), .val (.int c1), .val (.int c2), .val (.int n1), .val (.ref r21), .val (.ref o24), .val (.int pt1), .val (.ref nd26), .val (.ref o24)] [])
      refine GoH.step (fun t_ k_ => XS.aload X33.here hx rfl (hb hby at_204) rfl rfl k_) ?_
      show GoH _ _ _ _ _ _ _ _ _ _ T33 (mkF m 206 #[.val (.int p1), .val (.int p2), .val (.int p3), .val (.int p4), .val (.int p5), .val (.int c0), .val (.int c1), .val (.int c2), .val (.int n1), .val (.ref r21), .val (.ref o24), .val (.int pt1), .val (.ref nd26), .val (.ref o24)] [(.ref nd26)])
      obtain ⟨cq36, kq36, qa36, qb36, qc36⟩ := isOf hZ26 e33 f26_5
      obtain ⟨_, _, ⟨T36, L36, k36, n36⟩, -, X36, ⟨Lc36, hQ36, l36, y36, z36⟩, st36⟩ := X33.virtualBack hx (y := (⟨"com/example/majority_lease/majoritylease/redis/RedisNode", "port", "()I"⟩ : MethodName)) (z := (⟨"com/example/majority_lease/majoritylease/redis/RedisNode", "port", "()I"⟩ : MethodName)) hown26 (mvT hZ26 (hw _ (List.mem_of_getElem? (i := 102) rfl))) (mvT hZ26 (hw _ (List.mem_of_getElem? (i := 103) rfl))) (notFace_of_selects (args := #[]) (mvT hZ26 (hw _ (List.mem_of_getElem? (i := 105) rfl)))) (mvT hZ26 (hw _ (List.mem_of_getElem? (i := 105) rfl))) (mvT hZ26 (hw _ (List.mem_of_getElem? (i := 104) rfl))) (by decide) (backOf (W := 0) (rmPo l Z a0 hw [] nd26 pt1 T26.heap n0 Zs26 f26_7) hZ26 (hw _ (List.mem_of_getElem? (i := 106) rfl)) (hw _ (List.mem_of_getElem? (i := 34) rfl)) (by decide) (by decide)) qa36 qc36 (g := (mkF m 206 #[.val (.int p1), .val (.int p2), .val (.int p3), .val (.int p4), .val (.int p5), .val (.int c0), .val (.int c1), .val (.int c2), .val (.int n1), .val (.ref r21), .val (.ref o24), .val (.int pt1), .val (.ref nd26), .val (.ref o24)] [(.ref nd26)])) rfl (by rw [hml]; rfl) (Steps.refl _) (argsL := []) (rest := []) (lenOf pd_7 rfl) rfl (by show 2 * 0 + _ ≤ _; exact Nat.le_of_eq rfl) (hb hby at_206) (fun _ _ => ⟨rfl, e33, (by decide : 0 + 1 + 1 + 1 + 3 + 0 + 0 ≤ _), (by decide : 0 + 2 + 4 + 2 + 25 + 0 + 0 ≤ _)⟩)
      dsimp only [Pt.U, Pt.locs, Pt.cells, Pt.slots] at X36 l36 y36 z36 st36 hQ36
      subst l36 y36 z36
      obtain ⟨rfl, N36q, e36⟩ := hQ36
      have N36 := Fr.app N33 N36q
      refine GoH.step (fun t_ k_ => st36.trans k_) ?_
      show GoH _ _ _ _ _ _ _ _ _ _ T36 (mkF m 209 #[.val (.int p1), .val (.int p2), .val (.int p3), .val (.int p4), .val (.int p5), .val (.int c0), .val (.int c1), .val (.int c2), .val (.int n1), .val (.ref r21), .val (.ref o24), .val (.int pt1), .val (.ref nd26), .val (.ref o24)] [(.int pt1)])
      refine GoH.step (fun t_ k_ => XS.iload X36.here hx rfl (hb hby at_209) rfl k_) ?_
      show GoH _ _ _ _ _ _ _ _ _ _ T36 (mkF m 211 #[.val (.int p1), .val (.int p2), .val (.int p3), .val (.int p4), .val (.int p5), .val (.int c0), .val (.int c1), .val (.int c2), .val (.int n1), .val (.ref r21), .val (.ref o24), .val (.int pt1), .val (.ref nd26), .val (.ref o24)] [(.int pt1), (.int pt1)])
      have hb211_37 : pt1 = pt1 := by rfl
      refine GoH.step (fun t_ k_ => XS.icmpNo X36.here hx rfl (hb hby at_211) rfl (XT.ii_ne_f hb211_37) k_) ?_
      show GoH _ _ _ _ _ _ _ _ _ _ T36 (mkF m 214 #[.val (.int p1), .val (.int p2), .val (.int p3), .val (.int p4), .val (.int p5), .val (.int c0), .val (.int c1), .val (.int c2), .val (.int n1), .val (.ref r21), .val (.ref o24), .val (.int pt1), .val (.ref nd26), .val (.ref o24)] [])
      refine GoH.step (fun t_ k_ => XS.aload X36.here hx rfl (hb hby at_214) rfl rfl k_) ?_
      show GoH _ _ _ _ _ _ _ _ _ _ T36 (mkF m 216 #[.val (.int p1), .val (.int p2), .val (.int p3), .val (.int p4), .val (.int p5), .val (.int c0), .val (.int c1), .val (.int c2), .val (.int n1), .val (.ref r21), .val (.ref o24), .val (.int pt1), .val (.ref nd26), .val (.ref o24)] [(.ref nd26)])
      obtain ⟨cq38, kq38, qa38, qb38, qc38⟩ := isOf hZ26 (e36) f26_5
      obtain ⟨_, _, ⟨T38, L38, k38, n38⟩, -, X38, ⟨Lc38, hQ38, l38, y38, z38⟩, st38⟩ := X36.virtualBack hx (y := (⟨"com/example/majority_lease/majoritylease/redis/RedisNode", "tls", "()Ljavax/net/ssl/SSLContext;"⟩ : MethodName)) (z := (⟨"com/example/majority_lease/majoritylease/redis/RedisNode", "tls", "()Ljavax/net/ssl/SSLContext;"⟩ : MethodName)) hown26 (mvT hZ26 (hw _ (List.mem_of_getElem? (i := 107) rfl))) (mvT hZ26 (hw _ (List.mem_of_getElem? (i := 108) rfl))) (notFace_of_selects (args := #[]) (mvT hZ26 (hw _ (List.mem_of_getElem? (i := 110) rfl)))) (mvT hZ26 (hw _ (List.mem_of_getElem? (i := 110) rfl))) (mvT hZ26 (hw _ (List.mem_of_getElem? (i := 109) rfl))) (by decide) (backOf (W := 0) (rmTl l Z a0 hw [] nd26 T26.heap n0 Zs26 f26_9) hZ26 (hw _ (List.mem_of_getElem? (i := 111) rfl)) (hw _ (List.mem_of_getElem? (i := 34) rfl)) (by decide) (by decide)) qa38 qc38 (g := (mkF m 216 #[.val (.int p1), .val (.int p2), .val (.int p3), .val (.int p4), .val (.int p5), .val (.int c0), .val (.int c1), .val (.int c2), .val (.int n1), .val (.ref r21), .val (.ref o24), .val (.int pt1), .val (.ref nd26), .val (.ref o24)] [(.ref nd26)])) rfl (by rw [hml]; rfl) (Steps.refl _) (argsL := []) (rest := []) (lenOf pd_9 rfl) rfl (by show 2 * 0 + _ ≤ _; exact Nat.le_of_eq rfl) (hb hby at_216) (fun _ _ => ⟨rfl, (e36), (by decide : 0 + 1 + 1 + 1 + 3 + 0 + 0 + 0 ≤ _), (by decide : 0 + 2 + 4 + 2 + 25 + 0 + 0 + 0 ≤ _)⟩)
      dsimp only [Pt.U, Pt.locs, Pt.cells, Pt.slots] at X38 l38 y38 z38 st38 hQ38
      subst l38 y38 z38
      obtain ⟨rfl, N38q, e38⟩ := hQ38
      have N38 := Fr.app N36 N38q
      refine GoH.step (fun t_ k_ => st38.trans k_) ?_
      show GoH _ _ _ _ _ _ _ _ _ _ T38 (mkF m 219 #[.val (.int p1), .val (.int p2), .val (.int p3), .val (.int p4), .val (.int p5), .val (.int c0), .val (.int c1), .val (.int c2), .val (.int n1), .val (.ref r21), .val (.ref o24), .val (.int pt1), .val (.ref nd26), .val (.ref o24)] [.null])
      refine GoH.step (fun t_ k_ => XT.ifnonnullNo X38.here hx rfl (hb hby at_219) rfl k_) ?_
      show GoH _ _ _ _ _ _ _ _ _ _ T38 (mkF m 222 #[.val (.int p1), .val (.int p2), .val (.int p3), .val (.int p4), .val (.int p5), .val (.int c0), .val (.int c1), .val (.int c2), .val (.int n1), .val (.ref r21), .val (.ref o24), .val (.int pt1), .val (.ref nd26), .val (.ref o24)] [])
      refine GoH.step (fun t_ k_ => XS.aload X38.here hx rfl (hb hby at_222) rfl rfl k_) ?_
      show GoH _ _ _ _ _ _ _ _ _ _ T38 (mkF m 224 #[.val (.int p1), .val (.int p2), .val (.int p3), .val (.int p4), .val (.int p5), .val (.int c0), .val (.int c1), .val (.int c2), .val (.int n1), .val (.ref r21), .val (.ref o24), .val (.int pt1), .val (.ref nd26), .val (.ref o24)] [(.ref nd26)])
      obtain ⟨cq39, kq39, qa39, qb39, qc39⟩ := isOf hZ26 (e38) f26_5
      obtain ⟨_, _, ⟨T39, L39, k39, n39⟩, -, X39, ⟨Lc39, hQ39, l39, y39, z39⟩, st39⟩ := X38.virtualBack hx (y := (⟨"com/example/majority_lease/majoritylease/redis/RedisNode", "credentials", "()Ljava/util/List;"⟩ : MethodName)) (z := (⟨"com/example/majority_lease/majoritylease/redis/RedisNode", "credentials", "()Ljava/util/List;"⟩ : MethodName)) hown26 (mvT hZ26 (hw _ (List.mem_of_getElem? (i := 112) rfl))) (mvT hZ26 (hw _ (List.mem_of_getElem? (i := 113) rfl))) (notFace_of_selects (args := #[]) (mvT hZ26 (hw _ (List.mem_of_getElem? (i := 115) rfl)))) (mvT hZ26 (hw _ (List.mem_of_getElem? (i := 115) rfl))) (mvT hZ26 (hw _ (List.mem_of_getElem? (i := 114) rfl))) (by decide) (backOf (W := 0) (rmCr l Z a0 hw [] nd26 wl T26.heap n0 Zs26 O26 S_EMPTY f26_8) hZ26 (hw _ (List.mem_of_getElem? (i := 116) rfl)) (hw _ (List.mem_of_getElem? (i := 34) rfl)) (by decide) (by decide)) qa39 qc39 (g := (mkF m 224 #[.val (.int p1), .val (.int p2), .val (.int p3), .val (.int p4), .val (.int p5), .val (.int c0), .val (.int c1), .val (.int c2), .val (.int n1), .val (.ref r21), .val (.ref o24), .val (.int pt1), .val (.ref nd26), .val (.ref o24)] [(.ref nd26)])) rfl (by rw [hml]; rfl) (Steps.refl _) (argsL := []) (rest := []) (lenOf pd_3 rfl) rfl (by show 2 * 0 + _ ≤ _; exact Nat.le_of_eq rfl) (hb hby at_224) (fun _ _ => ⟨rfl, (e38), (by decide : 0 + 1 + 1 + 1 + 3 + 0 + 0 + 0 + 0 ≤ _), (by decide : 0 + 2 + 4 + 2 + 25 + 0 + 0 + 0 + 0 ≤ _)⟩)
      dsimp only [Pt.U, Pt.locs, Pt.cells, Pt.slots] at X39 l39 y39 z39 st39 hQ39
      subst l39 y39 z39
      obtain ⟨rfl, N39q, e39⟩ := hQ39
      have N39 := Fr.app N38 N39q
      refine GoH.step (fun t_ k_ => st39.trans k_) ?_
      show GoH _ _ _ _ _ _ _ _ _ _ T39 (mkF m 227 #[.val (.int p1), .val (.int p2), .val (.int p3), .val (.int p4), .val (.int p5), .val (.int c0), .val (.int c1), .val (.int c2), .val (.int n1), .val (.ref r21), .val (.ref o24), .val (.int pt1), .val (.ref nd26), .val (.ref o24)] [(.ref wl)])
      obtain ⟨cq40, kq40, qa40, qb40, qc40⟩ := isOf hZ26 (e39) (E_EL.ext O26.2)
      obtain ⟨_, _, ⟨T40, L40, k40, n40⟩, -, X40, ⟨Lc40, hQ40, l40, y40, z40⟩, st40⟩ := X39.interfaceBack hx (xi := (⟨"java/util/List", "size", "()I"⟩ : MethodName)) (y := (⟨"java/util/ImmutableCollections$ListN", "size", "()I"⟩ : MethodName)) hown26 (mvT hZ26 (hw _ (List.mem_of_getElem? (i := 123) rfl))) (mvT hZ26 (hw _ (List.mem_of_getElem? (i := 124) rfl))) (mvT hZ26 (hw _ (List.mem_of_getElem? (i := 125) rfl))) (mvT hZ26 (hw _ (List.mem_of_getElem? (i := 126) rfl))) (mvT hZ26 (hw _ (List.mem_of_getElem? (i := 127) rfl))) (mvT hZ26 (hw _ (List.mem_of_getElem? (i := 128) rfl))) (mvT hZ26 (hw _ (List.mem_of_getElem? (i := 129) rfl))) (mvT hZ26 (hw _ (List.mem_of_getElem? (i := 130) rfl))) (by decide) (backOf (W := 0) (rmSz l Z a0 hw [] wl we ke T26.heap n0 Zs26 (F_EL.ext O26.2) (A_EL.ext O26.2)) hZ26 (hw _ (List.mem_of_getElem? (i := 132) rfl)) (hw _ (List.mem_of_getElem? (i := 131) rfl)) (by decide) (by decide)) qa40 qb40 qc40 (g := (mkF m 227 #[.val (.int p1), .val (.int p2), .val (.int p3), .val (.int p4), .val (.int p5), .val (.int c0), .val (.int c1), .val (.int c2), .val (.int n1), .val (.ref r21), .val (.ref o24), .val (.int pt1), .val (.ref nd26), .val (.ref o24)] [(.ref wl)])) rfl (by rw [hml]; rfl) (Steps.refl _) (argsL := []) (rest := []) (lenOf pd_7 rfl) rfl (by show 2 * 0 + _ ≤ _; exact Nat.le_of_eq rfl) (hb hby at_227) (fun _ _ => ⟨rfl, (e39), (by decide : 0 + 1 + 1 + 1 + 3 + 0 + 0 + 0 + 0 + 0 ≤ _), (by decide : 0 + 2 + 4 + 2 + 25 + 0 + 0 + 0 + 0 + 0 ≤ _)⟩)
      dsimp only [Pt.U, Pt.locs, Pt.cells, Pt.slots] at X40 l40 y40 z40 st40 hQ40
      subst l40 y40 z40
      obtain ⟨rfl, N40q, e40⟩ := hQ40
      have N40 := Fr.app N39 N40q
      refine GoH.step (fun t_ k_ => st40.trans k_) ?_
      show GoH _ _ _ _ _ _ _ _ _ _ T40 (mkF m 232 #[.val (.int p1), .val (.int p2), .val (.int p3), .val (.int p4), .val (.int p5), .val (.int c0), .val (.int c1), .val (.int c2), .val (.int n1), .val (.ref r21), .val (.ref o24), .val (.int pt1), .val (.ref nd26), .val (.ref o24)] [(.int (0 : Int32))])
      have hb232_41 : (0 : Int32) = (0 : Int32) := by decide
      refine GoH.step (fun t_ k_ => XS.ifNo X40.here hx rfl (hb hby at_232) rfl (XT.i0_ne_f hb232_41) k_) ?_
      show GoH _ _ _ _ _ _ _ _ _ _ T40 (mkF m 235 #[.val (.int p1), .val (.int p2), .val (.int p3), .val (.int p4), .val (.int p5), .val (.int c0), .val (.int c1), .val (.int c2), .val (.int n1), .val (.ref r21), .val (.ref o24), .val (.int pt1), .val (.ref nd26), .val (.ref o24)] [])
      refine GoH.step (fun t_ k_ => XS.iconst X40.here hx rfl (hb hby at_235) k_) ?_
      show GoH _ _ _ _ _ _ _ _ _ _ T40 (mkF m 236 #[.val (.int p1), .val (.int p2), .val (.int p3), .val (.int p4), .val (.int p5), .val (.int c0), .val (.int c1), .val (.int c2), .val (.int n1), .val (.ref r21), .val (.ref o24), .val (.int pt1), .val (.ref nd26), .val (.ref o24)] [(.int (1 : Int32))])
      refine GoH.step (fun t_ k_ => XS.goto X40.here hx rfl (pc0 := 236) (pc' := 240) rfl (hb hby at_236) (by decide) (by decide) k_) ?_
      show GoH _ _ _ _ _ _ _ _ _ _ T40 (mkF m 240 #[.val (.int p1), .val (.int p2), .val (.int p3), .val (.int p4), .val (.int p5), .val (.int c0), .val (.int c1), .val (.int c2), .val (.int n1), .val (.ref r21), .val (.ref o24), .val (.int pt1), .val (.ref nd26), .val (.ref o24)] [(.int (1 : Int32))])
      have hkr : T26.heap.size ≤ T40.heap.size := by rw [(e40)]; exact hk26
      have hCr : CHr Z own_EL s.vm h0 T26.vm T40.heap := by rw [(e40)]; exact CC26
      refine GoH.ret X40 hx hlk hS26 hkr hZ26 hEL hCr hret rfl (Or.inl ⟨rfl, Or.inr (Or.inl rfl), _, rfl⟩) (hb hby at_240) ?_ (by decide) (by decide)
      show Q0 Z _ _ _ _ _ _ _ _ _ _ _ _ _ T40.heap _
      exact ⟨rfl, N40⟩
    · refine GoH.step (fun t_ k_ => XS.icmpYes X0.here hx rfl (pc0 := 56) (pc' := 77) rfl (hb hby at_56) rfl (XT.ii_ne_t hb56_20) (by decide) (by decide) k_) ?_
      show GoH _ _ _ _ _ _ _ _ _ _ s₁ (mkF m 77 #[.val (.int p1), .val (.int p2), .val (.int p3), .val (.int p4), .val (.int p5), .val (.int c0), .val (.int c1), .val (.int c2), .val (.int n1), .unset, .unset, .unset, .unset, .unset] [])
      refine GoH.step (fun t_ k_ => XS.iconst X0.here hx rfl (hb hby at_77) k_) ?_
      show GoH _ _ _ _ _ _ _ _ _ _ s₁ (mkF m 78 #[.val (.int p1), .val (.int p2), .val (.int p3), .val (.int p4), .val (.int p5), .val (.int c0), .val (.int c1), .val (.int c2), .val (.int n1), .unset, .unset, .unset, .unset, .unset] [(.int (3 : Int32))])
      obtain ⟨T42, h42, k42, X42, e42, E42, A42, st42⟩ := newP X0 hx hZ0 (hw _ (List.mem_of_getElem? (i := 1) rfl)) e0 (g := (mkF m 78 #[.val (.int p1), .val (.int p2), .val (.int p3), .val (.int p4), .val (.int p5), .val (.int c0), .val (.int c1), .val (.int c2), .val (.int n1), .unset, .unset, .unset, .unset, .unset] [(.int (3 : Int32))])) rfl (hb hby at_78) rfl (by decide) (cap := 3) (by decide) (by decide) (by decide) (by decide)
      obtain ⟨r42, g42⟩ : ∃ z, z = h0.size := ⟨_, rfl⟩
      rw [← g42] at A42 st42
      have ge_r42 : n0 ≤ r42 := Nat.le_trans Z0 (Nat.le_of_eq g42.symm)
      have f42_0 : Arv Z h42 r42 k42 .char (3 : Int32) [(.int (0 : Int32)), (.int (0 : Int32)), (.int (0 : Int32))] (.int (0 : Int32)) := ((Arv.new A42 (by decide)).pad (pad_rep [] (.int (0 : Int32)) 3))
      have hk42 : _ ≤ h42.size := Nat.le_trans hk0 E42.1
      have C42 : CHr Z own_EL s.vm h0 s.vm h42 := C0.trans (CHr.ext E42 C0.1)
      have Zs42 : n0 ≤ h42.size := (Nat.le_trans Z0 E42.1)
      have O42 : Old Z n0 h42 := O0.ext E42
      refine GoH.step st42 ?_
      show GoH _ _ _ _ _ _ _ _ _ _ T42 (mkF m 80 #[.val (.int p1), .val (.int p2), .val (.int p3), .val (.int p4), .val (.int p5), .val (.int c0), .val (.int c1), .val (.int c2), .val (.int n1), .unset, .unset, .unset, .unset, .unset] [(.ref r42)])
      refine GoH.step (fun t_ k_ => XS.dup X42.here hx rfl (hb hby at_80) rfl rfl k_) ?_
      show GoH _ _ _ _ _ _ _ _ _ _ T42 (mkF m 81 #[.val (.int p1), .val (.int p2), .val (.int p3), .val (.int p4), .val (.int p5), .val (.int c0), .val (.int c1), .val (.int c2), .val (.int n1), .unset, .unset, .unset, .unset, .unset] [(.ref r42), (.ref r42)])
      refine GoH.step (fun t_ k_ => XS.iconst X42.here hx rfl (hb hby at_81) k_) ?_
      show GoH _ _ _ _ _ _ _ _ _ _ T42 (mkF m 82 #[.val (.int p1), .val (.int p2), .val (.int p3), .val (.int p4), .val (.int p5), .val (.int c0), .val (.int c1), .val (.int c2), .val (.int n1), .unset, .unset, .unset, .unset, .unset] [(.int (0 : Int32)), (.ref r42), (.ref r42)])
      refine GoH.step (fun t_ k_ => XS.iload X42.here hx rfl (hb hby at_82) rfl k_) ?_
      show GoH _ _ _ _ _ _ _ _ _ _ T42 (mkF m 84 #[.val (.int p1), .val (.int p2), .val (.int p3), .val (.int p4), .val (.int p5), .val (.int c0), .val (.int c1), .val (.int c2), .val (.int n1), .unset, .unset, .unset, .unset, .unset] [(.int c0), (.int (0 : Int32)), (.ref r42), (.ref r42)])
      obtain ⟨c43, Ar43, q43, S43, M43, H43, U43⟩ := id f42_0
      obtain ⟨T43, h43, X43, e43, W43, st43⟩ := stC X42 hx hZ0 e42 Ar43 (j := (0 : Int32)) (inb_of S43 ⟨(by decide), (by decide)⟩) (g := (mkF m 84 #[.val (.int p1), .val (.int p2), .val (.int p3), .val (.int p4), .val (.int p5), .val (.int c0), .val (.int c1), .val (.int c2), .val (.int n1), .unset, .unset, .unset, .unset, .unset] [(.int c0), (.int (0 : Int32)), (.ref r42), (.ref r42)])) rfl rfl (hb hby at_84)
      have N43 := Fr.snoc X43 N0 ge_r42
      refine GoH.step st43 ?_
      have sfw43 : Safe Z own_EL s.vm _ r42 := (Safe.arv hZ0.alike f42_0 (by decide))
      have hk43 : _ ≤ h43.size := Nat.le_trans hk42 (Keep.of_wr W43).1
      have C43 : CHr Z own_EL s.vm h0 s.vm h43 := C42.trans (CHr.wr W43 sfw43 C42.1)
      have Zs43 : n0 ≤ h43.size := (Nat.le_trans Zs42 (Keep.of_wr W43).1)
      have O43 : Old Z n0 h43 := O42.wr W43 ge_r42
      have fA43 : Arv Z h43 r42 k42 .char (3 : Int32) [(.int c0), (.int (0 : Int32)), (.int (0 : Int32))] (.int (0 : Int32)) := by have q := (Arv.set Ar43 q43 S43 M43 H43 U43 (fits_nar_char _) W43 0 rfl (Nat.le_of_ble_eq_true rfl)); rw [hc0r.2] at q; exact q
      show GoH _ _ _ _ _ _ _ _ _ _ T43 (mkF m 85 #[.val (.int p1), .val (.int p2), .val (.int p3), .val (.int p4), .val (.int p5), .val (.int c0), .val (.int c1), .val (.int c2), .val (.int n1), .unset, .unset, .unset, .unset, .unset] [(.ref r42)])
      refine GoH.step (fun t_ k_ => XS.dup X43.here hx rfl (hb hby at_85) rfl rfl k_) ?_
      show GoH _ _ _ _ _ _ _ _ _ _ T43 (mkF m 86 #[.val (.int p1), .val (.int p2), .val (.int p3), .val (.int p4), .val (.int p5), .val (.int c0), .val (.int c1), .val (.int c2), .val (.int n1), .unset, .unset, .unset, .unset, .unset] [(.ref r42), (.ref r42)])
      refine GoH.step (fun t_ k_ => XS.iconst X43.here hx rfl (hb hby at_86) k_) ?_
      show GoH _ _ _ _ _ _ _ _ _ _ T43 (mkF m 87 #[.val (.int p1), .val (.int p2), .val (.int p3), .val (.int p4), .val (.int p5), .val (.int c0), .val (.int c1), .val (.int c2), .val (.int n1), .unset, .unset, .unset, .unset, .unset] [(.int (1 : Int32)), (.ref r42), (.ref r42)])
      refine GoH.step (fun t_ k_ => XS.iload X43.here hx rfl (hb hby at_87) rfl k_) ?_
      show GoH _ _ _ _ _ _ _ _ _ _ T43 (mkF m 89 #[.val (.int p1), .val (.int p2), .val (.int p3), .val (.int p4), .val (.int p5), .val (.int c0), .val (.int c1), .val (.int c2), .val (.int n1), .unset, .unset, .unset, .unset, .unset] [(.int c1), (.int (1 : Int32)), (.ref r42), (.ref r42)])
      obtain ⟨c44, Ar44, q44, S44, M44, H44, U44⟩ := id fA43
      obtain ⟨T44, h44, X44, e44, W44, st44⟩ := stC X43 hx hZ0 e43 Ar44 (j := (1 : Int32)) (inb_of S44 ⟨(by decide), (by decide)⟩) (g := (mkF m 89 #[.val (.int p1), .val (.int p2), .val (.int p3), .val (.int p4), .val (.int p5), .val (.int c0), .val (.int c1), .val (.int c2), .val (.int n1), .unset, .unset, .unset, .unset, .unset] [(.int c1), (.int (1 : Int32)), (.ref r42), (.ref r42)])) rfl rfl (hb hby at_89)
      have N44 := Fr.snoc X44 N43 ge_r42
      refine GoH.step st44 ?_
      have sfw44 : Safe Z own_EL s.vm _ r42 := (Safe.arv hZ0.alike fA43 (by decide))
      have hk44 : _ ≤ h44.size := Nat.le_trans hk43 (Keep.of_wr W44).1
      have C44 : CHr Z own_EL s.vm h0 s.vm h44 := C43.trans (CHr.wr W44 sfw44 C43.1)
      have Zs44 : n0 ≤ h44.size := (Nat.le_trans Zs43 (Keep.of_wr W44).1)
      have O44 : Old Z n0 h44 := O43.wr W44 ge_r42
      have fA44 : Arv Z h44 r42 k42 .char (3 : Int32) [(.int c0), (.int c1), (.int (0 : Int32))] (.int (0 : Int32)) := by have q := (Arv.set Ar44 q44 S44 M44 H44 U44 (fits_nar_char _) W44 1 rfl (Nat.le_of_ble_eq_true rfl)); rw [hc1r.2] at q; exact q
      show GoH _ _ _ _ _ _ _ _ _ _ T44 (mkF m 90 #[.val (.int p1), .val (.int p2), .val (.int p3), .val (.int p4), .val (.int p5), .val (.int c0), .val (.int c1), .val (.int c2), .val (.int n1), .unset, .unset, .unset, .unset, .unset] [(.ref r42)])
      refine GoH.step (fun t_ k_ => XS.dup X44.here hx rfl (hb hby at_90) rfl rfl k_) ?_
      show GoH _ _ _ _ _ _ _ _ _ _ T44 (mkF m 91 #[.val (.int p1), .val (.int p2), .val (.int p3), .val (.int p4), .val (.int p5), .val (.int c0), .val (.int c1), .val (.int c2), .val (.int n1), .unset, .unset, .unset, .unset, .unset] [(.ref r42), (.ref r42)])
      refine GoH.step (fun t_ k_ => XS.iconst X44.here hx rfl (hb hby at_91) k_) ?_
      show GoH _ _ _ _ _ _ _ _ _ _ T44 (mkF m 92 #[.val (.int p1), .val (.int p2), .val (.int p3), .val (.int p4), .val (.int p5), .val (.int c0), .val (.int c1), .val (.int c2), .val (.int n1), .unset, .unset, .unset, .unset, .unset] [(.int (2 : Int32)), (.ref r42), (.ref r42)])
      refine GoH.step (fun t_ k_ => XS.iload X44.here hx rfl (hb hby at_92) rfl k_) ?_
      show GoH _ _ _ _ _ _ _ _ _ _ T44 (mkF m 94 #[.val (.int p1), .val (.int p2), .val (.int p3), .val (.int p4), .val (.int p5), .val (.int c0), .val (.int c1), .val (.int c2), .val (.int n1), .unset, .unset, .unset, .unset, .unset] [(.int c2), (.int (2 : Int32)), (.ref r42), (.ref r42)])
      obtain ⟨c45, Ar45, q45, S45, M45, H45, U45⟩ := id fA44
      obtain ⟨T45, h45, X45, e45, W45, st45⟩ := stC X44 hx hZ0 e44 Ar45 (j := (2 : Int32)) (inb_of S45 ⟨(by decide), (by decide)⟩) (g := (mkF m 94 #[.val (.int p1), .val (.int p2), .val (.int p3), .val (.int p4), .val (.int p5), .val (.int c0), .val (.int c1), .val (.int c2), .val (.int n1), .unset, .unset, .unset, .unset, .unset] [(.int c2), (.int (2 : Int32)), (.ref r42), (.ref r42)])) rfl rfl (hb hby at_94)
      have N45 := Fr.snoc X45 N44 ge_r42
      refine GoH.step st45 ?_
      have sfw45 : Safe Z own_EL s.vm _ r42 := (Safe.arv hZ0.alike fA44 (by decide))
      have hk45 : _ ≤ h45.size := Nat.le_trans hk44 (Keep.of_wr W45).1
      have C45 : CHr Z own_EL s.vm h0 s.vm h45 := C44.trans (CHr.wr W45 sfw45 C44.1)
      have Zs45 : n0 ≤ h45.size := (Nat.le_trans Zs44 (Keep.of_wr W45).1)
      have O45 : Old Z n0 h45 := O44.wr W45 ge_r42
      have fA45 : Arv Z h45 r42 k42 .char (3 : Int32) [(.int c0), (.int c1), (.int c2)] (.int (0 : Int32)) := by have q := (Arv.set Ar45 q45 S45 M45 H45 U45 (fits_nar_char _) W45 2 rfl (Nat.le_of_ble_eq_true rfl)); rw [hc2r.2] at q; exact q
      show GoH _ _ _ _ _ _ _ _ _ _ T45 (mkF m 95 #[.val (.int p1), .val (.int p2), .val (.int p3), .val (.int p4), .val (.int p5), .val (.int c0), .val (.int c1), .val (.int c2), .val (.int n1), .unset, .unset, .unset, .unset, .unset] [(.ref r42)])
      refine GoH.step (fun t_ k_ => XS.astore X45.here hx rfl (hb hby at_95) rfl rfl (l' := #[.val (.int p1), .val (.int p2), .val (.int p3), .val (.int p4), .val (.int p5), .val (.int c0), .val (.int c1), .val (.int c2), .val (.int n1), .val (.ref r42), .unset, .unset, .unset, .unset]) rfl k_) ?_
      show GoH _ _ _ _ _ _ _ _ _ _ T45 (mkF m 97 #[.val (.int p1), .val (.int p2), .val (.int p3), .val (.int p4), .val (.int p5), .val (.int c0), .val (.int c1), .val (.int c2), .val (.int n1), .val (.ref r42), .unset, .unset, .unset, .unset] [])
      have hnn : n1 = (3 : Int32) := own_n3 _ _ hn1 hb37_1 hb56_20
      obtain ⟨T46, h46, X46, e46, E46, A46, D46, -, st46⟩ := newO X45 hx hZ0 hown0 (hw _ (List.mem_of_getElem? (i := 2) rfl)) (hw _ (List.mem_of_getElem? (i := 3) rfl)) (hw _ (List.mem_of_getElem? (i := 4) rfl)) e45 (g := (mkF m 97 #[.val (.int p1), .val (.int p2), .val (.int p3), .val (.int p4), .val (.int p5), .val (.int c0), .val (.int c1), .val (.int c2), .val (.int n1), .val (.ref r42), .unset, .unset, .unset, .unset] [])) rfl (hb hby at_97) (by decide) (by decide)
      obtain ⟨o46, g46⟩ : ∃ z, z = h45.size := ⟨_, rfl⟩
      rw [← g46] at A46 D46 st46
      have ne_r42_o46 : r42 ≠ o46 := Nat.ne_of_lt (Nat.lt_of_lt_of_le fA45.lt (Nat.le_of_eq g46.symm))
      have ge_o46 : n0 ≤ o46 := Nat.le_trans Zs45 (Nat.le_of_eq g46.symm)
      have f46_0 : Arv Z h46 r42 k42 .char (3 : Int32) [(.int c0), (.int c1), (.int c2)] (.int (0 : Int32)) := (fA45.ext E46)
      have f46_1 : Exa Z h46 o46 "java/lang/String" := A46
      have f46_2 : Fld Z h46 o46 "java/lang/String" "coder" "B" (.int (0 : Int32)) := (D46 (Or.inr (hw _ (List.mem_of_getElem? (i := 28) rfl))) (ty := .byte) (by decide))
      have f46_3 : Fld Z h46 o46 "java/lang/String" "value" "[B" .null := (D46 (Or.inr (hw _ (List.mem_of_getElem? (i := 30) rfl))) (ty := (.array .byte)) (by decide))
      have sf46_o46 : Safe Z own_EL s.vm h46 o46 := Safe.ext E46 C45.1 (Safe.new (Nat.le_of_eq g46.symm))
      have hk46 : _ ≤ h46.size := Nat.le_trans hk45 E46.1
      have C46 : CHr Z own_EL s.vm h0 s.vm h46 := C45.trans (CHr.ext E46 C45.1)
      have Zs46 : n0 ≤ h46.size := (Nat.le_trans Zs45 E46.1)
      have O46 : Old Z n0 h46 := O45.ext E46
      refine GoH.step st46 ?_
      show GoH _ _ _ _ _ _ _ _ _ _ T46 (mkF m 100 #[.val (.int p1), .val (.int p2), .val (.int p3), .val (.int p4), .val (.int p5), .val (.int c0), .val (.int c1), .val (.int c2), .val (.int n1), .val (.ref r42), .unset, .unset, .unset, .unset] [(.ref o46)])
      refine GoH.step (fun t_ k_ => XS.dup X46.here hx rfl (hb hby at_100) rfl rfl k_) ?_
      show GoH _ _ _ _ _ _ _ _ _ _ T46 (mkF m 101 #[.val (.int p1), .val (.int p2), .val (.int p3), .val (.int p4), .val (.int p5), .val (.int c0), .val (.int c1), .val (.int c2), .val (.int n1), .val (.ref r42), .unset, .unset, .unset, .unset] [(.ref o46), (.ref o46)])
      refine GoH.step (fun t_ k_ => XS.aload X46.here hx rfl (hb hby at_101) rfl rfl k_) ?_
      show GoH _ _ _ _ _ _ _ _ _ _ T46 (mkF m 103 #[.val (.int p1), .val (.int p2), .val (.int p3), .val (.int p4), .val (.int p5), .val (.int c0), .val (.int c1), .val (.int c2), .val (.int n1), .val (.ref r42), .unset, .unset, .unset, .unset] [(.ref r42), (.ref o46), (.ref o46)])
      have hp47 : ∀ c ∈ ([c0, c1, c2] : List Int32), ¬ c < 0 ∧ ¬ (255 : Int32) < c := by
        intro c hc
        simp only [List.mem_cons, List.not_mem_nil, or_false] at hc
        rcases hc with rfl | rfl | rfl
        · exact hc0r.1
        · exact hc1r.1
        · exact hc2r.1
      obtain ⟨_, _, ⟨T47, L47, k47, n47⟩, -, X47, ⟨Lc47, hQ47, l47, y47, z47⟩, st47⟩ := X46.specialBack hx (y := (⟨"java/lang/String", "<init>", "([C)V"⟩ : MethodName)) rfl hown0 (mvT hZ0 (hw _ (List.mem_of_getElem? (i := 5) rfl))) (mvT hZ0 (hw _ (List.mem_of_getElem? (i := 6) rfl))) (mvT hZ0 (hw _ (List.mem_of_getElem? (i := 7) rfl))) (by decide) (StrChars.Road.backV (W := 1) hZ0 (own_words hw) (kI := 4) (hw _ (List.mem_of_getElem? (i := 3) rfl)) (cs := ([c0, c1, c2] : List Int32)) (bs := ([c0, c1, c2] : List Int32).map (fun c => c.toInt8.toInt32)) (n := 3) ge_o46 Zs46 f46_1 f46_3 f46_2 f46_0 (S_COMPACT.ext O46.2) P_COMPACT rfl rfl (by decide) (by decide) hp47 rfl (by decide) (by decide)) (g := (mkF m 103 #[.val (.int p1), .val (.int p2), .val (.int p3), .val (.int p4), .val (.int p5), .val (.int c0), .val (.int c1), .val (.int c2), .val (.int n1), .val (.ref r42), .unset, .unset, .unset, .unset] [(.ref r42), (.ref o46), (.ref o46)])) rfl (by rw [hml]; rfl) (Steps.refl _) (a := o46) (argsL := [(.ref r42)]) (rest := [(.ref o46)]) (lenOf pd_4 rfl) rfl (by show 2 * 0 + _ ≤ _; exact Nat.le_of_eq rfl) (hb hby at_103) (fun _ _ => ⟨rfl, e46, (by decide : 0 + 1 + 1 + 1 ≤ _), (by decide : 0 + 3 + 4 + 3 ≤ _)⟩)
      dsimp only [Pt.U, Pt.locs, Pt.cells, Pt.slots] at X47 l47 y47 z47 st47 hQ47
      subst l47 y47 z47
      obtain ⟨rfl, N47q, Kq47, Eq47, Cq47, tb47, kb47, u47, v47, w47, Vq47, Aq47⟩ := hQ47
      have N47 := Fr.app N45 N47q
      have ne_r42_tb47 : r42 ≠ tb47 := Nat.ne_of_lt (Nat.lt_of_lt_of_le f46_0.lt v47)
      have ne_o46_tb47 : o46 ≠ tb47 := Nat.ne_of_lt (Nat.lt_of_lt_of_le f46_1.lt v47)
      have f47_0 : Arv Z T47.heap r42 k42 .char (3 : Int32) [(.int c0), (.int c1), (.int c2)] (.int (0 : Int32)) := (f46_0.keep Kq47 (ninS ne_r42_o46 nin0))
      have f47_1 : Exa Z T47.heap o46 "java/lang/String" := Eq47
      have f47_2 : Fld Z T47.heap o46 "java/lang/String" "coder" "B" (.int (0 : Int32)) := Cq47
      have f47_3 : Fld Z T47.heap o46 "java/lang/String" "value" "[B" (.ref tb47) := Vq47
      have f47_4 : Arv Z T47.heap tb47 kb47 .byte (3 : Int32) ((([c0, c1, c2] : List Int32).map (fun c => c.toInt8.toInt32)).map Value.int) (.int (0 : Int32)) := Aq47
      have sfk47 : ∀ x ∈ ([o46] : List Addr), Safe Z own_EL s.vm h46 x := (sfS sf46_o46 sf0)
      have sf47_o46 : Safe Z own_EL s.vm T47.heap o46 := Safe.keep Kq47 sfk47 C46.1 sf46_o46
      have hk47 : _ ≤ T47.heap.size := Nat.le_trans hk46 Kq47.1
      have C47 : CHr Z own_EL s.vm h0 s.vm T47.heap := C46.trans (CHr.keep Kq47 sfk47 C46.1)
      have Zs47 : n0 ≤ T47.heap.size := (Nat.le_trans Zs46 Kq47.1)
      have O47 : Old Z n0 T47.heap := O46.keep Kq47 (allS ge_o46 all0)
      refine GoH.step (fun t_ k_ => st47.trans k_) ?_
      show GoH _ _ _ _ _ _ _ _ _ _ T47 (mkF m 106 #[.val (.int p1), .val (.int p2), .val (.int p3), .val (.int p4), .val (.int p5), .val (.int c0), .val (.int c1), .val (.int c2), .val (.int n1), .val (.ref r42), .unset, .unset, .unset, .unset] [(.ref o46)])
      refine GoH.step (fun t_ k_ => XS.astore X47.here hx rfl (hb hby at_106) rfl rfl (l' := #[.val (.int p1), .val (.int p2), .val (.int p3), .val (.int p4), .val (.int p5), .val (.int c0), .val (.int c1), .val (.int c2), .val (.int n1), .val (.ref r42), .val (.ref o46), .unset, .unset, .unset]) rfl k_) ?_
      show GoH _ _ _ _ _ _ _ _ _ _ T47 (mkF m 108 #[.val (.int p1), .val (.int p2), .val (.int p3), .val (.int p4), .val (.int p5), .val (.int c0), .val (.int c1), .val (.int c2), .val (.int n1), .val (.ref r42), .val (.ref o46), .unset, .unset, .unset] [])
      refine GoH.step (fun t_ k_ => XS.iconst X47.here hx rfl (hb hby at_108) k_) ?_
      show GoH _ _ _ _ _ _ _ _ _ _ T47 (mkF m 109 #[.val (.int p1), .val (.int p2), .val (.int p3), .val (.int p4), .val (.int p5), .val (.int c0), .val (.int c1), .val (.int c2), .val (.int n1), .val (.ref r42), .val (.ref o46), .unset, .unset, .unset] [(.int (1 : Int32))])
      refine GoH.step (fun t_ k_ => XS.iload X47.here hx rfl (hb hby at_109) rfl k_) ?_
      show GoH _ _ _ _ _ _ _ _ _ _ T47 (mkF m 111 #[.val (.int p1), .val (.int p2), .val (.int p3), .val (.int p4), .val (.int p5), .val (.int c0), .val (.int c1), .val (.int c2), .val (.int n1), .val (.ref r42), .val (.ref o46), .unset, .unset, .unset] [(.int p5), (.int (1 : Int32))])
      refine GoH.step (fun t_ k_ => X47.ldcI hx hown0 (mvT hZ0 (hw _ (List.mem_of_getElem? (i := 0) rfl))) rfl (hb hby at_111) k_) ?_
      show GoH _ _ _ _ _ _ _ _ _ _ T47 (mkF m 113 #[.val (.int p1), .val (.int p2), .val (.int p3), .val (.int p4), .val (.int p5), .val (.int c0), .val (.int c1), .val (.int c2), .val (.int n1), .val (.ref r42), .val (.ref o46), .unset, .unset, .unset] [(.int (2147483647 : Int32)), (.int p5), (.int (1 : Int32))])
      refine GoH.step (fun t_ k_ => XS.iand X47.here hx rfl (hb hby at_113) rfl k_) ?_
      show GoH _ _ _ _ _ _ _ _ _ _ T47 (mkF m 114 #[.val (.int p1), .val (.int p2), .val (.int p3), .val (.int p4), .val (.int p5), .val (.int c0), .val (.int c1), .val (.int c2), .val (.int n1), .val (.ref r42), .val (.ref o46), .unset, .unset, .unset] [(.int (p5 &&& (2147483647 : Int32))), (.int (1 : Int32))])
      refine GoH.step (fun t_ k_ => X47.ldcI hx hown0 (mvT hZ0 (hw _ (List.mem_of_getElem? (i := 31) rfl))) rfl (hb hby at_114) k_) ?_
      show GoH _ _ _ _ _ _ _ _ _ _ T47 (mkF m 116 #[.val (.int p1), .val (.int p2), .val (.int p3), .val (.int p4), .val (.int p5), .val (.int c0), .val (.int c1), .val (.int c2), .val (.int n1), .val (.ref r42), .val (.ref o46), .unset, .unset, .unset] [(.int (65535 : Int32)), (.int (p5 &&& (2147483647 : Int32))), (.int (1 : Int32))])
      refine GoH.step (fun t_ k_ => iremM X47 hx rfl (hb hby at_116) rfl (by decide) k_) ?_
      show GoH _ _ _ _ _ _ _ _ _ _ T47 (mkF m 117 #[.val (.int p1), .val (.int p2), .val (.int p3), .val (.int p4), .val (.int p5), .val (.int c0), .val (.int c1), .val (.int c2), .val (.int n1), .val (.ref r42), .val (.ref o46), .unset, .unset, .unset] [(.int ((p5 &&& (2147483647 : Int32)) % (65535 : Int32))), (.int (1 : Int32))])
      refine GoH.step (fun t_ k_ => XS.iadd X47.here hx rfl (hb hby at_117) rfl k_) ?_
      show GoH _ _ _ _ _ _ _ _ _ _ T47 (mkF m 118 #[.val (.int p1), .val (.int p2), .val (.int p3), .val (.int p4), .val (.int p5), .val (.int c0), .val (.int c1), .val (.int c2), .val (.int n1), .val (.ref r42), .val (.ref o46), .unset, .unset, .unset] [(.int ((1 : Int32) + ((p5 &&& (2147483647 : Int32)) % (65535 : Int32))))])
      generalize hpt1 : ((1 : Int32) + ((p5 &&& (2147483647 : Int32)) % (65535 : Int32))) = pt1
      show GoH _ _ _ _ _ _ _ _ _ _ T47 (mkF m 118 #[.val (.int p1), .val (.int p2), .val (.int p3), .val (.int p4), .val (.int p5), .val (.int c0), .val (.int c1), .val (.int c2), .val (.int n1), .val (.ref r42), .val (.ref o46), .unset, .unset, .unset] [(.int pt1)])
      refine GoH.step (fun t_ k_ => XS.istore X47.here hx rfl (hb hby at_118) rfl (l' := #[.val (.int p1), .val (.int p2), .val (.int p3), .val (.int p4), .val (.int p5), .val (.int c0), .val (.int c1), .val (.int c2), .val (.int n1), .val (.ref r42), .val (.ref o46), .val (.int pt1), .unset, .unset]) rfl k_) ?_
      show GoH _ _ _ _ _ _ _ _ _ _ T47 (mkF m 120 #[.val (.int p1), .val (.int p2), .val (.int p3), .val (.int p4), .val (.int p5), .val (.int c0), .val (.int c1), .val (.int c2), .val (.int n1), .val (.ref r42), .val (.ref o46), .val (.int pt1), .unset, .unset] [])
      have hpt1r := own_port p5
      rw [hpt1] at hpt1r
      refine GoH.step (fun t_ k_ => XS.aload X47.here hx rfl (hb hby at_120) rfl rfl k_) ?_
      show GoH _ _ _ _ _ _ _ _ _ _ T47 (mkF m 122 #[.val (.int p1), .val (.int p2), .val (.int p3), .val (.int p4), .val (.int p5), .val (.int c0), .val (.int c1), .val (.int c2), .val (.int n1), .val (.ref r42), .val (.ref o46), .val (.int pt1), .unset, .unset] [(.ref o46)])
      refine GoH.step (fun t_ k_ => XS.iload X47.here hx rfl (hb hby at_122) rfl k_) ?_
      show GoH _ _ _ _ _ _ _ _ _ _ T47 (mkF m 124 #[.val (.int p1), .val (.int p2), .val (.int p3), .val (.int p4), .val (.int p5), .val (.int c0), .val (.int c1), .val (.int c2), .val (.int n1), .val (.ref r42), .val (.ref o46), .val (.int pt1), .unset, .unset] [(.int pt1), (.ref o46)])
      obtain ⟨_, _, ⟨T48, L48, k48, n48⟩, -, X48, hSq48, hgr48, ⟨Lc48, hQ48, l48, y48, z48, CHq48⟩, st48⟩ := callSS X47 hx (y := (⟨"com/example/majority_lease/majoritylease/redis/RedisNode", "at", "(Ljava/lang/String;I)Lcom/example/majority_lease/majoritylease/redis/RedisNode;"⟩ : MethodName)) hown0 (mvT hZ0 (hw _ (List.mem_of_getElem? (i := 32) rfl))) (mvT hZ0 (hw _ (List.mem_of_getElem? (i := 33) rfl))) (mvT hZ0 (hw _ (List.mem_of_getElem? (i := 34) rfl))) (mvT hZ0 (hw _ (List.mem_of_getElem? (i := 35) rfl))) (by decide) (backOfSH (W := 0) (rmAt l Z a0 hw [] o46 pt1 tb47 kb47 (3 : Int32) ((([c0, c1, c2] : List Int32).map (fun c => c.toInt8.toInt32)).map Value.int) T47.heap n0 Zs47 f47_1 f47_3 f47_4 (by decide) hpt1r.1 hpt1r.2) hZ0 (hw _ (List.mem_of_getElem? (i := 35) rfl)) (hw _ (List.mem_of_getElem? (i := 34) rfl)) (by decide) (by decide) hEL C47.1) (g := (mkF m 124 #[.val (.int p1), .val (.int p2), .val (.int p3), .val (.int p4), .val (.int p5), .val (.int c0), .val (.int c1), .val (.int c2), .val (.int n1), .val (.ref r42), .val (.ref o46), .val (.int pt1), .unset, .unset] [(.int pt1), (.ref o46)])) rfl (by rw [hml]; rfl) (argsL := [(.ref o46), (.int pt1)]) (rest := []) (lenOf pd_5 rfl) rfl (by show 2 * 0 + _ ≤ _; exact Nat.le_of_eq rfl) (hb hby at_124) (fun _ _ => ⟨rfl, rfl, (by decide : 0 + 1 + 1 + 1 + 3 ≤ _), (by decide : 0 + 3 + 4 + 3 + 25 ≤ _)⟩)
      dsimp only [Pt.U, Pt.locs, Pt.cells, Pt.slots] at X48 hSq48 hgr48 l48 y48 z48 st48 hQ48 CHq48
      subst l48 y48 z48
      have X48 : Stand p l e _ (s.setVm T48.vm) _ _ _ _ _ T48 _ _ _ := X48
      have hS48 : s.Since T48.vm T48.heap.size := State.Since.trans hS0 hSq48 (Nat.le_trans hk47 (by first | exact hgr48 | (rw [← (rfl : T47.heap = T47.heap)]; exact hgr48)))
      have hZ48 : Z.Warmed39 (s.setVm T48.vm).vm := State.Warmed39.trans (t := s.setVm s.vm) hZ0 hSq48.1
      have hown48 : (s.setVm T48.vm).vm.findClass "com/example/majority_lease/majoritylease/redis/RedisNodeAtPinLaw" = some m.cls := by rw [show (s.setVm T48.vm).vm = T48.vm from rfl, hSq48.1.alike.findClass]; exact hown0
      have hk48 : T48.heap.size ≤ T48.heap.size := Nat.le_refl _
      obtain ⟨nd48, rfl, N48q, Kq48, gq48, Eq48, Fh48, Fp48, Fw48, Ft48⟩ := hQ48
      have N48 := Fr.app N47 N48q
      have f48_0 : Arv Z T48.heap r42 k42 .char (3 : Int32) [(.int c0), (.int c1), (.int c2)] (.int (0 : Int32)) := (f47_0.keep Kq48 nin0)
      have f48_1 : Exa Z T48.heap o46 "java/lang/String" := (f47_1.keep Kq48)
      have f48_2 : Fld Z T48.heap o46 "java/lang/String" "coder" "B" (.int (0 : Int32)) := (f47_2.keep Kq48 nin0)
      have f48_3 : Fld Z T48.heap o46 "java/lang/String" "value" "[B" (.ref tb47) := (f47_3.keep Kq48 nin0)
      have f48_4 : Arv Z T48.heap tb47 kb47 .byte (3 : Int32) ((([c0, c1, c2] : List Int32).map (fun c => c.toInt8.toInt32)).map Value.int) (.int (0 : Int32)) := (f47_4.keep Kq48 nin0)
      have f48_5 : Exa Z T48.heap nd48 "com/example/majority_lease/majoritylease/redis/RedisNode" := Eq48
      have f48_6 : Fld Z T48.heap nd48 "com/example/majority_lease/majoritylease/redis/RedisNode" "host" "Ljava/lang/String;" (.ref o46) := Fh48
      have f48_7 : Fld Z T48.heap nd48 "com/example/majority_lease/majoritylease/redis/RedisNode" "port" "I" (.int pt1) := Fp48
      have f48_8 : Fld Z T48.heap nd48 "com/example/majority_lease/majoritylease/redis/RedisNode" "password" "Ljava/lang/String;" .null := Fw48
      have f48_9 : Fld Z T48.heap nd48 "com/example/majority_lease/majoritylease/redis/RedisNode" "tls" "Ljavax/net/ssl/SSLContext;" .null := Ft48
      have Zs48 : n0 ≤ T48.heap.size := (Nat.le_trans Zs47 Kq48.1)
      have O48 : Old Z n0 T48.heap := O47.keep Kq48 all0
      have sf48_o46 : Safe Z own_EL T48.vm T48.heap o46 := CHr.safe CHq48 f47_1.lt sf47_o46
      have CC48 : CHr Z own_EL s.vm h0 T48.vm T48.heap := C47.trans CHq48
      refine GoH.step (fun t_ k_ => st48.trans k_) ?_
      show GoH _ _ _ _ _ _ _ _ _ _ T48 (mkF m 127 #[.val (.int p1), .val (.int p2), .val (.int p3), .val (.int p4), .val (.int p5), .val (.int c0), .val (.int c1), .val (.int c2), .val (.int n1), .val (.ref r42), .val (.ref o46), .val (.int pt1), .unset, .unset] [(.ref nd48)])
      refine GoH.step (fun t_ k_ => XS.astore X48.here hx rfl (hb hby at_127) rfl rfl (l' := #[.val (.int p1), .val (.int p2), .val (.int p3), .val (.int p4), .val (.int p5), .val (.int c0), .val (.int c1), .val (.int c2), .val (.int n1), .val (.ref r42), .val (.ref o46), .val (.int pt1), .val (.ref nd48), .unset]) rfl k_) ?_
      show GoH _ _ _ _ _ _ _ _ _ _ T48 (mkF m 129 #[.val (.int p1), .val (.int p2), .val (.int p3), .val (.int p4), .val (.int p5), .val (.int c0), .val (.int c1), .val (.int c2), .val (.int n1), .val (.ref r42), .val (.ref o46), .val (.int pt1), .val (.ref nd48), .unset] [])
      refine GoH.step (fun t_ k_ => XS.aload X48.here hx rfl (hb hby at_129) rfl rfl k_) ?_
      show GoH _ _ _ _ _ _ _ _ _ _ T48 (mkF m 131 #[.val (.int p1), .val (.int p2), .val (.int p3), .val (.int p4), .val (.int p5), .val (.int c0), .val (.int c1), .val (.int c2), .val (.int n1), .val (.ref r42), .val (.ref o46), .val (.int pt1), .val (.ref nd48), .unset] [(.ref nd48)])
      obtain ⟨cq49, kq49, qa49, qb49, qc49⟩ := isOf hZ48 rfl f48_5
      obtain ⟨_, _, ⟨T49, L49, k49, n49⟩, -, X49, ⟨Lc49, hQ49, l49, y49, z49⟩, st49⟩ := X48.virtualBack hx (y := (⟨"com/example/majority_lease/majoritylease/redis/RedisNode", "host", "()Ljava/lang/String;"⟩ : MethodName)) (z := (⟨"com/example/majority_lease/majoritylease/redis/RedisNode", "host", "()Ljava/lang/String;"⟩ : MethodName)) hown48 (mvT hZ48 (hw _ (List.mem_of_getElem? (i := 65) rfl))) (mvT hZ48 (hw _ (List.mem_of_getElem? (i := 66) rfl))) (notFace_of_selects (args := #[]) (mvT hZ48 (hw _ (List.mem_of_getElem? (i := 68) rfl)))) (mvT hZ48 (hw _ (List.mem_of_getElem? (i := 68) rfl))) (mvT hZ48 (hw _ (List.mem_of_getElem? (i := 67) rfl))) (by decide) (backOf (W := 0) (rmHo l Z a0 hw [] nd48 o46 T48.heap n0 Zs48 f48_6) hZ48 (hw _ (List.mem_of_getElem? (i := 69) rfl)) (hw _ (List.mem_of_getElem? (i := 34) rfl)) (by decide) (by decide)) qa49 qc49 (g := (mkF m 131 #[.val (.int p1), .val (.int p2), .val (.int p3), .val (.int p4), .val (.int p5), .val (.int c0), .val (.int c1), .val (.int c2), .val (.int n1), .val (.ref r42), .val (.ref o46), .val (.int pt1), .val (.ref nd48), .unset] [(.ref nd48)])) rfl (by rw [hml]; rfl) (Steps.refl _) (argsL := []) (rest := []) (lenOf pd_6 rfl) rfl (by show 2 * 0 + _ ≤ _; exact Nat.le_of_eq rfl) (hb hby at_131) (fun _ _ => ⟨rfl, rfl, (by decide : 0 + 1 + 1 + 1 + 3 + 0 ≤ _), (by decide : 0 + 3 + 4 + 3 + 25 + 0 ≤ _)⟩)
      dsimp only [Pt.U, Pt.locs, Pt.cells, Pt.slots] at X49 l49 y49 z49 st49 hQ49
      subst l49 y49 z49
      obtain ⟨rfl, N49q, e49⟩ := hQ49
      have N49 := Fr.app N48 N49q
      refine GoH.step (fun t_ k_ => st49.trans k_) ?_
      show GoH _ _ _ _ _ _ _ _ _ _ T49 (mkF m 134 #[.val (.int p1), .val (.int p2), .val (.int p3), .val (.int p4), .val (.int p5), .val (.int c0), .val (.int c1), .val (.int c2), .val (.int n1), .val (.ref r42), .val (.ref o46), .val (.int pt1), .val (.ref nd48), .unset] [(.ref o46)])
      refine GoH.step (fun t_ k_ => XS.astore X49.here hx rfl (hb hby at_134) rfl rfl (l' := #[.val (.int p1), .val (.int p2), .val (.int p3), .val (.int p4), .val (.int p5), .val (.int c0), .val (.int c1), .val (.int c2), .val (.int n1), .val (.ref r42), .val (.ref o46), .val (.int pt1), .val (.ref nd48), .val (.ref o46)]) rfl k_) ?_
      show GoH _ _ _ _ _ _ _ _ _ _ T49 (mkF m 136 #[.val (.int p1), .val (.int p2), .val (.int p3), .val (.int p4), .val (.int p5), .val (.int c0), .val (.int c1), .val (.int c2), .val (.int n1), .val (.ref r42), .val (.ref o46), .val (.int pt1), .val (.ref nd48), .val (.ref o46)] [])
      refine GoH.step (fun t_ k_ => XS.aload X49.here hx rfl (hb hby at_136) rfl rfl k_) ?_
      show GoH _ _ _ _ _ _ _ _ _ _ T49 (mkF m 138 #[.val (.int p1), .val (.int p2), .val (.int p3), .val (.int p4), .val (.int p5), .val (.int c0), .val (.int c1), .val (.int c2), .val (.int n1), .val (.ref r42), .val (.ref o46), .val (.int pt1), .val (.ref nd48), .val (.ref o46)] [(.ref o46)])
      refine GoH.step (fun t_ k_ => XS.ifnullNo X49.here hx rfl (hb hby at_138) rfl k_) ?_
      show GoH _ _ _ _ _ _ _ _ _ _ T49 (mkF m 141 #[.val (.int p1), .val (.int p2), .val (.int p3), .val (.int p4), .val (.int p5), .val (.int c0), .val (.int c1), .val (.int c2), .val (.int n1), .val (.ref r42), .val (.ref o46), .val (.int pt1), .val (.ref nd48), .val (.ref o46)] [])
      refine GoH.step (fun t_ k_ => XS.aload X49.here hx rfl (hb hby at_141) rfl rfl k_) ?_
      show GoH _ _ _ _ _ _ _ _ _ _ T49 (mkF m 143 #[.val (.int p1), .val (.int p2), .val (.int p3), .val (.int p4), .val (.int p5), .val (.int c0), .val (.int c1), .val (.int c2), .val (.int n1), .val (.ref r42), .val (.ref o46), .val (.int pt1), .val (.ref nd48), .val (.ref o46)] [(.ref o46)])
      have hcd50 : StrChars.Road.CodA ([c0, c1, c2] : List Int32) 0 (3 : Int32) ((([c0, c1, c2] : List Int32).map (fun c => c.toInt8.toInt32)).map Value.int) := StrChars.Road.codOf (n := 3) rfl (fun c hc => (hp47 c hc).2)
      have hbd50 : ∀ c ∈ ([c0, c1, c2] : List Int32), ¬ c < 0 ∧ ¬ (65535 : Int32) < c := own_up _ hp47
      obtain ⟨cq50, kq50, qa50, qb50, qc50⟩ := isOf hZ48 (e49) f48_1
      obtain ⟨vv50, _, ⟨T50, L50, k50, n50⟩, -, X50, ⟨Lc50, hQ50, l50, y50, z50⟩, st50⟩ := X49.virtualBack hx (y := (⟨"java/lang/String", "length", "()I"⟩ : MethodName)) (z := (⟨"java/lang/String", "length", "()I"⟩ : MethodName)) hown48 (mvT hZ48 (hw _ (List.mem_of_getElem? (i := 70) rfl))) (mvT hZ48 (hw _ (List.mem_of_getElem? (i := 71) rfl))) (notFace_of_selects (args := #[]) (mvT hZ48 (hw _ (List.mem_of_getElem? (i := 73) rfl)))) (mvT hZ48 (hw _ (List.mem_of_getElem? (i := 73) rfl))) (mvT hZ48 (hw _ (List.mem_of_getElem? (i := 72) rfl))) (by decide) (StrChars.Road.lenW (W := 0) hZ48 (own_wordsLen hw) (kI := 4) (hw _ (List.mem_of_getElem? (i := 3) rfl)) f48_1 f48_3 f48_2 f48_4 hcd50 hbd50 (S_COMPACT.ext O48.2) P_COMPACT (Nat.le_of_ble_eq_true rfl) (by decide) (by decide)) qa50 qc50 (g := (mkF m 143 #[.val (.int p1), .val (.int p2), .val (.int p3), .val (.int p4), .val (.int p5), .val (.int c0), .val (.int c1), .val (.int c2), .val (.int n1), .val (.ref r42), .val (.ref o46), .val (.int pt1), .val (.ref nd48), .val (.ref o46)] [(.ref o46)])) rfl (by rw [hml]; rfl) (Steps.refl _) (argsL := []) (rest := []) (lenOf pd_7 rfl) rfl (by show 2 * 0 + _ ≤ _; exact Nat.le_of_eq rfl) (hb hby at_143) (fun _ _ => ⟨rfl, (e49), (by decide : 0 + 1 + 1 + 1 + 3 + 0 + 0 ≤ _), (by decide : 0 + 3 + 4 + 3 + 25 + 0 + 0 ≤ _)⟩)
      dsimp only [Pt.U, Pt.locs, Pt.cells, Pt.slots] at X50 l50 y50 z50 st50 hQ50
      subst l50 y50 z50
      obtain ⟨rfl, rfl, e50⟩ := hQ50
      have N50 := Fr.app N49 (Fr.nil n0)
      refine GoH.step (fun t_ k_ => st50.trans k_) ?_
      show GoH _ _ _ _ _ _ _ _ _ _ T50 (mkF m 146 #[.val (.int p1), .val (.int p2), .val (.int p3), .val (.int p4), .val (.int p5), .val (.int c0), .val (.int c1), .val (.int c2), .val (.int n1), .val (.ref r42), .val (.ref o46), .val (.int pt1), .val (.ref nd48), .val (.ref o46)] [(.int (3 : Int32))])
      refine GoH.step (fun t_ k_ => XS.iload X50.here hx rfl (hb hby at_146) rfl k_) ?_
      show GoH _ _ _ _ _ _ _ _ _ _ T50 (mkF m 148 #[.val (.int p1), .val (.int p2), .val (.int p3), .val (.int p4), .val (.int p5), .val (.int c0), .val (.int c1), .val (.int c2), .val (.int n1), .val (.ref r42), .val (.ref o46), .val (.int pt1), .val (.ref nd48), .val (.ref o46)] [(.int n1), (.int (3 : Int32))])
      have hb148_51 : (3 : Int32) = n1 := by rw [hnn]
      refine GoH.step (fun t_ k_ => XS.icmpYes X50.here hx rfl (pc0 := 148) (pc' := 153) rfl (hb hby at_148) rfl (XT.ii_eq_t hb148_51) (by decide) (by decide) k_) ?_
      show GoH _ _ _ _ _ _ _ _ _ _ T50 (mkF m 153 #[.val (.int p1), .val (.int p2), .val (.int p3), .val (.int p4), .val (.int p5), .val (.int c0), .val (.int c1), .val (.int c2), .val (.int n1), .val (.ref r42), .val (.ref o46), .val (.int pt1), .val (.ref nd48), .val (.ref o46)] [])
      refine GoH.step (fun t_ k_ => XS.aload X50.here hx rfl (hb hby at_153) rfl rfl k_) ?_
      show GoH _ _ _ _ _ _ _ _ _ _ T50 (mkF m 155 #[.val (.int p1), .val (.int p2), .val (.int p3), .val (.int p4), .val (.int p5), .val (.int c0), .val (.int c1), .val (.int c2), .val (.int n1), .val (.ref r42), .val (.ref o46), .val (.int pt1), .val (.ref nd48), .val (.ref o46)] [(.ref o46)])
      refine GoH.step (fun t_ k_ => XS.iconst X50.here hx rfl (hb hby at_155) k_) ?_
      show GoH _ _ _ _ _ _ _ _ _ _ T50 (mkF m 156 #[.val (.int p1), .val (.int p2), .val (.int p3), .val (.int p4), .val (.int p5), .val (.int c0), .val (.int c1), .val (.int c2), .val (.int n1), .val (.ref r42), .val (.ref o46), .val (.int pt1), .val (.ref nd48), .val (.ref o46)] [(.int (0 : Int32)), (.ref o46)])
      have hcd52 : StrChars.Road.CodA ([c0, c1, c2] : List Int32) 0 (3 : Int32) ((([c0, c1, c2] : List Int32).map (fun c => c.toInt8.toInt32)).map Value.int) := StrChars.Road.codOf (n := 3) rfl (fun c hc => (hp47 c hc).2)
      have hbd52 : ∀ c ∈ ([c0, c1, c2] : List Int32), ¬ c < 0 ∧ ¬ (65535 : Int32) < c := own_up _ hp47
      obtain ⟨cq52, kq52, qa52, qb52, qc52⟩ := isOf hZ48 e50 f48_1
      obtain ⟨vv52, _, ⟨T52, L52, k52, n52⟩, -, X52, ⟨Lc52, hQ52, l52, y52, z52⟩, st52⟩ := X50.virtualBack hx (y := (⟨"java/lang/String", "charAt", "(I)C"⟩ : MethodName)) (z := (⟨"java/lang/String", "charAt", "(I)C"⟩ : MethodName)) hown48 (mvT hZ48 (hw _ (List.mem_of_getElem? (i := 80) rfl))) (mvT hZ48 (hw _ (List.mem_of_getElem? (i := 81) rfl))) (notFace_of_selects (args := #[]) (mvT hZ48 (hw _ (List.mem_of_getElem? (i := 83) rfl)))) (mvT hZ48 (hw _ (List.mem_of_getElem? (i := 83) rfl))) (mvT hZ48 (hw _ (List.mem_of_getElem? (i := 82) rfl))) (by decide) (StrChars.Road.chN (W := 0) hZ48 (own_wordsChN hw) (kI := 4) (hw _ (List.mem_of_getElem? (i := 3) rfl)) f48_1 f48_3 f48_2 f48_4 hcd52 hbd52 (S_COMPACT.ext O48.2) P_COMPACT (S_SIOOBE.ext O48.2) r_SIOOBE (Nat.le_of_ble_eq_true rfl) (i := 0) (Nat.le_of_ble_eq_true rfl) (j := (0 : Int32)) rfl (by decide) (by decide)) qa52 qc52 (g := (mkF m 156 #[.val (.int p1), .val (.int p2), .val (.int p3), .val (.int p4), .val (.int p5), .val (.int c0), .val (.int c1), .val (.int c2), .val (.int n1), .val (.ref r42), .val (.ref o46), .val (.int pt1), .val (.ref nd48), .val (.ref o46)] [(.int (0 : Int32)), (.ref o46)])) rfl (by rw [hml]; rfl) (Steps.refl _) (argsL := [(.int (0 : Int32))]) (rest := []) (lenOf pd_8 rfl) rfl (by show 2 * 0 + _ ≤ _; exact Nat.le_of_eq rfl) (hb hby at_156) (fun _ _ => ⟨rfl, e50, (by decide : 0 + 1 + 1 + 1 + 3 + 0 + 0 ≤ _), (by decide : 0 + 3 + 4 + 3 + 25 + 0 + 0 ≤ _)⟩)
      dsimp only [Pt.U, Pt.locs, Pt.cells, Pt.slots] at X52 l52 y52 z52 st52 hQ52
      subst l52 y52 z52
      obtain ⟨rfl, rfl, e52⟩ := hQ52
      have N52 := Fr.app N50 (Fr.nil n0)
      refine GoH.step (fun t_ k_ => st52.trans k_) ?_
      show GoH _ _ _ _ _ _ _ _ _ _ T52 (mkF m 159 #[.val (.int p1), .val (.int p2), .val (.int p3), .val (.int p4), .val (.int p5), .val (.int c0), .val (.int c1), .val (.int c2), .val (.int n1), .val (.ref r42), .val (.ref o46), .val (.int pt1), .val (.ref nd48), .val (.ref o46)] [(.int c0)])
      refine GoH.step (fun t_ k_ => XS.iload X52.here hx rfl (hb hby at_159) rfl k_) ?_
      show GoH _ _ _ _ _ _ _ _ _ _ T52 (mkF m 161 #[.val (.int p1), .val (.int p2), .val (.int p3), .val (.int p4), .val (.int p5), .val (.int c0), .val (.int c1), .val (.int c2), .val (.int n1), .val (.ref r42), .val (.ref o46), .val (.int pt1), .val (.ref nd48), .val (.ref o46)] [(.int c0), (.int c0)])
      have hb161_53 : c0 = c0 := by rfl
      refine GoH.step (fun t_ k_ => XS.icmpYes X52.here hx rfl (pc0 := 161) (pc' := 166) rfl (hb hby at_161) rfl (XT.ii_eq_t hb161_53) (by decide) (by decide) k_) ?_
      show GoH _ _ _ _ _ _ _ _ _ _ T52 (mkF m 166 #[.val (.int p1), .val (.int p2), .val (.int p3), .val (.int p4), .val (.int p5), .val (.int c0), .val (.int c1), .val (.int c2), .val (.int n1), .val (.ref r42), .val (.ref o46), .val (.int pt1), .val (.ref nd48), .val (.ref o46)] [])
      refine GoH.step (fun t_ k_ => XS.iload X52.here hx rfl (hb hby at_166) rfl k_) ?_
      show GoH _ _ _ _ _ _ _ _ _ _ T52 (mkF m 168 #[.val (.int p1), .val (.int p2), .val (.int p3), .val (.int p4), .val (.int p5), .val (.int c0), .val (.int c1), .val (.int c2), .val (.int n1), .val (.ref r42), .val (.ref o46), .val (.int pt1), .val (.ref nd48), .val (.ref o46)] [(.int n1)])
      refine GoH.step (fun t_ k_ => XS.iconst X52.here hx rfl (hb hby at_168) k_) ?_
      show GoH _ _ _ _ _ _ _ _ _ _ T52 (mkF m 169 #[.val (.int p1), .val (.int p2), .val (.int p3), .val (.int p4), .val (.int p5), .val (.int c0), .val (.int c1), .val (.int c2), .val (.int n1), .val (.ref r42), .val (.ref o46), .val (.int pt1), .val (.ref nd48), .val (.ref o46)] [(.int (2 : Int32)), (.int n1)])
      have hb169_54 : ¬ (n1 < (2 : Int32)) := by rw [hnn]; decide
      refine GoH.step (fun t_ k_ => XS.icmpNo X52.here hx rfl (hb hby at_169) rfl (XT.ii_lt_f hb169_54) k_) ?_
      show GoH _ _ _ _ _ _ _ _ _ _ T52 (mkF m 172 #[.val (.int p1), .val (.int p2), .val (.int p3), .val (.int p4), .val (.int p5), .val (.int c0), .val (.int c1), .val (.int c2), .val (.int n1), .val (.ref r42), .val (.ref o46), .val (.int pt1), .val (.ref nd48), .val (.ref o46)] [])
      refine GoH.step (fun t_ k_ => XS.aload X52.here hx rfl (hb hby at_172) rfl rfl k_) ?_
      show GoH _ _ _ _ _ _ _ _ _ _ T52 (mkF m 174 #[.val (.int p1), .val (.int p2), .val (.int p3), .val (.int p4), .val (.int p5), .val (.int c0), .val (.int c1), .val (.int c2), .val (.int n1), .val (.ref r42), .val (.ref o46), .val (.int pt1), .val (.ref nd48), .val (.ref o46)] [(.ref o46)])
      refine GoH.step (fun t_ k_ => XS.iconst X52.here hx rfl (hb hby at_174) k_) ?_
      show GoH _ _ _ _ _ _ _ _ _ _ T52 (mkF m 175 #[.val (.int p1), .val (.int p2), .val (.int p3), .val (.int p4), .val (.int p5), .val (.int c0), .val (.int c1), .val (.int c2), .val (.int n1), .val (.ref r42), .val (.ref o46), .val (.int pt1), .val (.ref nd48), .val (.ref o46)] [(.int (1 : Int32)), (.ref o46)])
      have hcd55 : StrChars.Road.CodA ([c0, c1, c2] : List Int32) 0 (3 : Int32) ((([c0, c1, c2] : List Int32).map (fun c => c.toInt8.toInt32)).map Value.int) := StrChars.Road.codOf (n := 3) rfl (fun c hc => (hp47 c hc).2)
      have hbd55 : ∀ c ∈ ([c0, c1, c2] : List Int32), ¬ c < 0 ∧ ¬ (65535 : Int32) < c := own_up _ hp47
      obtain ⟨cq55, kq55, qa55, qb55, qc55⟩ := isOf hZ48 e52 f48_1
      obtain ⟨vv55, _, ⟨T55, L55, k55, n55⟩, -, X55, ⟨Lc55, hQ55, l55, y55, z55⟩, st55⟩ := X52.virtualBack hx (y := (⟨"java/lang/String", "charAt", "(I)C"⟩ : MethodName)) (z := (⟨"java/lang/String", "charAt", "(I)C"⟩ : MethodName)) hown48 (mvT hZ48 (hw _ (List.mem_of_getElem? (i := 80) rfl))) (mvT hZ48 (hw _ (List.mem_of_getElem? (i := 81) rfl))) (notFace_of_selects (args := #[]) (mvT hZ48 (hw _ (List.mem_of_getElem? (i := 83) rfl)))) (mvT hZ48 (hw _ (List.mem_of_getElem? (i := 83) rfl))) (mvT hZ48 (hw _ (List.mem_of_getElem? (i := 82) rfl))) (by decide) (StrChars.Road.chN (W := 0) hZ48 (own_wordsChN hw) (kI := 4) (hw _ (List.mem_of_getElem? (i := 3) rfl)) f48_1 f48_3 f48_2 f48_4 hcd55 hbd55 (S_COMPACT.ext O48.2) P_COMPACT (S_SIOOBE.ext O48.2) r_SIOOBE (Nat.le_of_ble_eq_true rfl) (i := 1) (Nat.le_of_ble_eq_true rfl) (j := (1 : Int32)) rfl (by decide) (by decide)) qa55 qc55 (g := (mkF m 175 #[.val (.int p1), .val (.int p2), .val (.int p3), .val (.int p4), .val (.int p5), .val (.int c0), .val (.int c1), .val (.int c2), .val (.int n1), .val (.ref r42), .val (.ref o46), .val (.int pt1), .val (.ref nd48), .val (.ref o46)] [(.int (1 : Int32)), (.ref o46)])) rfl (by rw [hml]; rfl) (Steps.refl _) (argsL := [(.int (1 : Int32))]) (rest := []) (lenOf pd_8 rfl) rfl (by show 2 * 0 + _ ≤ _; exact Nat.le_of_eq rfl) (hb hby at_175) (fun _ _ => ⟨rfl, e52, (by decide : 0 + 1 + 1 + 1 + 3 + 0 + 0 ≤ _), (by decide : 0 + 3 + 4 + 3 + 25 + 0 + 0 ≤ _)⟩)
      dsimp only [Pt.U, Pt.locs, Pt.cells, Pt.slots] at X55 l55 y55 z55 st55 hQ55
      subst l55 y55 z55
      obtain ⟨rfl, rfl, e55⟩ := hQ55
      have N55 := Fr.app N52 (Fr.nil n0)
      refine GoH.step (fun t_ k_ => st55.trans k_) ?_
      show GoH _ _ _ _ _ _ _ _ _ _ T55 (mkF m 178 #[.val (.int p1), .val (.int p2), .val (.int p3), .val (.int p4), .val (.int p5), .val (.int c0), .val (.int c1), .val (.int c2), .val (.int n1), .val (.ref r42), .val (.ref o46), .val (.int pt1), .val (.ref nd48), .val (.ref o46)] [(.int c1)])
      refine GoH.step (fun t_ k_ => XS.iload X55.here hx rfl (hb hby at_178) rfl k_) ?_
      show GoH _ _ _ _ _ _ _ _ _ _ T55 (mkF m 180 #[.val (.int p1), .val (.int p2), .val (.int p3), .val (.int p4), .val (.int p5), .val (.int c0), .val (.int c1), .val (.int c2), .val (.int n1), .val (.ref r42), .val (.ref o46), .val (.int pt1), .val (.ref nd48), .val (.ref o46)] [(.int c1), (.int c1)])
      have hb180_56 : c1 = c1 := by rfl
      refine GoH.step (fun t_ k_ => XS.icmpYes X55.here hx rfl (pc0 := 180) (pc' := 185) rfl (hb hby at_180) rfl (XT.ii_eq_t hb180_56) (by decide) (by decide) k_) ?_
      show GoH _ _ _ _ _ _ _ _ _ _ T55 (mkF m 185 #[.val (.int p1), .val (.int p2), .val (.int p3), .val (.int p4), .val (.int p5), .val (.int c0), .val (.int c1), .val (.int c2), .val (.int n1), .val (.ref r42), .val (.ref o46), .val (.int pt1), .val (.ref nd48), .val (.ref o46)] [])
      refine GoH.step (fun t_ k_ => XS.iload X55.here hx rfl (hb hby at_185) rfl k_) ?_
      show GoH _ _ _ _ _ _ _ _ _ _ T55 (mkF m 187 #[.val (.int p1), .val (.int p2), .val (.int p3), .val (.int p4), .val (.int p5), .val (.int c0), .val (.int c1), .val (.int c2), .val (.int n1), .val (.ref r42), .val (.ref o46), .val (.int pt1), .val (.ref nd48), .val (.ref o46)] [(.int n1)])
      refine GoH.step (fun t_ k_ => XS.iconst X55.here hx rfl (hb hby at_187) k_) ?_
      show GoH _ _ _ _ _ _ _ _ _ _ T55 (mkF m 188 #[.val (.int p1), .val (.int p2), .val (.int p3), .val (.int p4), .val (.int p5), .val (.int c0), .val (.int c1), .val (.int c2), .val (.int n1), .val (.ref r42), .val (.ref o46), .val (.int pt1), .val (.ref nd48), .val (.ref o46)] [(.int (3 : Int32)), (.int n1)])
      have hb188_57 : ¬ (n1 < (3 : Int32)) := by rw [hnn]; decide
      refine GoH.step (fun t_ k_ => XS.icmpNo X55.here hx rfl (hb hby at_188) rfl (XT.ii_lt_f hb188_57) k_) ?_
      show GoH _ _ _ _ _ _ _ _ _ _ T55 (mkF m 191 #[.val (.int p1), .val (.int p2), .val (.int p3), .val (.int p4), .val (.int p5), .val (.int c0), .val (.int c1), .val (.int c2), .val (.int n1), .val (.ref r42), .val (.ref o46), .val (.int pt1), .val (.ref nd48), .val (.ref o46)] [])
      refine GoH.step (fun t_ k_ => XS.aload X55.here hx rfl (hb hby at_191) rfl rfl k_) ?_
      show GoH _ _ _ _ _ _ _ _ _ _ T55 (mkF m 193 #[.val (.int p1), .val (.int p2), .val (.int p3), .val (.int p4), .val (.int p5), .val (.int c0), .val (.int c1), .val (.int c2), .val (.int n1), .val (.ref r42), .val (.ref o46), .val (.int pt1), .val (.ref nd48), .val (.ref o46)] [(.ref o46)])
      refine GoH.step (fun t_ k_ => XS.iconst X55.here hx rfl (hb hby at_193) k_) ?_
      show GoH _ _ _ _ _ _ _ _ _ _ T55 (mkF m 194 #[.val (.int p1), .val (.int p2), .val (.int p3), .val (.int p4), .val (.int p5), .val (.int c0), .val (.int c1), .val (.int c2), .val (.int n1), .val (.ref r42), .val (.ref o46), .val (.int pt1), .val (.ref nd48), .val (.ref o46)] [(.int (2 : Int32)), (.ref o46)])
      have hcd58 : StrChars.Road.CodA ([c0, c1, c2] : List Int32) 0 (3 : Int32) ((([c0, c1, c2] : List Int32).map (fun c => c.toInt8.toInt32)).map Value.int) := StrChars.Road.codOf (n := 3) rfl (fun c hc => (hp47 c hc).2)
      have hbd58 : ∀ c ∈ ([c0, c1, c2] : List Int32), ¬ c < 0 ∧ ¬ (65535 : Int32) < c := own_up _ hp47
      obtain ⟨cq58, kq58, qa58, qb58, qc58⟩ := isOf hZ48 e55 f48_1
      obtain ⟨vv58, _, ⟨T58, L58, k58, n58⟩, -, X58, ⟨Lc58, hQ58, l58, y58, z58⟩, st58⟩ := X55.virtualBack hx (y := (⟨"java/lang/String", "charAt", "(I)C"⟩ : MethodName)) (z := (⟨"java/lang/String", "charAt", "(I)C"⟩ : MethodName)) hown48 (mvT hZ48 (hw _ (List.mem_of_getElem? (i := 80) rfl))) (mvT hZ48 (hw _ (List.mem_of_getElem? (i := 81) rfl))) (notFace_of_selects (args := #[]) (mvT hZ48 (hw _ (List.mem_of_getElem? (i := 83) rfl)))) (mvT hZ48 (hw _ (List.mem_of_getElem? (i := 83) rfl))) (mvT hZ48 (hw _ (List.mem_of_getElem? (i := 82) rfl))) (by decide) (StrChars.Road.chN (W := 0) hZ48 (own_wordsChN hw) (kI := 4) (hw _ (List.mem_of_getElem? (i := 3) rfl)) f48_1 f48_3 f48_2 f48_4 hcd58 hbd58 (S_COMPACT.ext O48.2) P_COMPACT (S_SIOOBE.ext O48.2) r_SIOOBE (Nat.le_of_ble_eq_true rfl) (i := 2) (Nat.le_of_ble_eq_true rfl) (j := (2 : Int32)) rfl (by decide) (by decide)) qa58 qc58 (g := (mkF m 194 #[.val (.int p1), .val (.int p2), .val (.int p3), .val (.int p4), .val (.int p5), .val (.int c0), .val (.int c1), .val (.int c2), .val (.int n1), .val (.ref r42), .val (.ref o46), .val (.int pt1), .val (.ref nd48), .val (.ref o46)] [(.int (2 : Int32)), (.ref o46)])) rfl (by rw [hml]; rfl) (Steps.refl _) (argsL := [(.int (2 : Int32))]) (rest := []) (lenOf pd_8 rfl) rfl (by show 2 * 0 + _ ≤ _; exact Nat.le_of_eq rfl) (hb hby at_194) (fun _ _ => ⟨rfl, e55, (by decide : 0 + 1 + 1 + 1 + 3 + 0 + 0 ≤ _), (by decide : 0 + 3 + 4 + 3 + 25 + 0 + 0 ≤ _)⟩)
      dsimp only [Pt.U, Pt.locs, Pt.cells, Pt.slots] at X58 l58 y58 z58 st58 hQ58
      subst l58 y58 z58
      obtain ⟨rfl, rfl, e58⟩ := hQ58
      have N58 := Fr.app N55 (Fr.nil n0)
      refine GoH.step (fun t_ k_ => st58.trans k_) ?_
      show GoH _ _ _ _ _ _ _ _ _ _ T58 (mkF m 197 #[.val (.int p1), .val (.int p2), .val (.int p3), .val (.int p4), .val (.int p5), .val (.int c0), .val (.int c1), .val (.int c2), .val (.int n1), .val (.ref r42), .val (.ref o46), .val (.int pt1), .val (.ref nd48), .val (.ref o46)] [(.int c2)])
      refine GoH.step (fun t_ k_ => XS.iload X58.here hx rfl (hb hby at_197) rfl k_) ?_
      show GoH _ _ _ _ _ _ _ _ _ _ T58 (mkF m 199 #[.val (.int p1), .val (.int p2), .val (.int p3), .val (.int p4), .val (.int p5), .val (.int c0), .val (.int c1), .val (.int c2), .val (.int n1), .val (.ref r42), .val (.ref o46), .val (.int pt1), .val (.ref nd48), .val (.ref o46)] [(.int c2), (.int c2)])
      have hb199_59 : c2 = c2 := by rfl
      refine GoH.step (fun t_ k_ => XS.icmpYes X58.here hx rfl (pc0 := 199) (pc' := 204) rfl (hb hby at_199) rfl (XT.ii_eq_t hb199_59) (by decide) (by decide) k_) ?_
      show GoH _ _ _ _ _ _ _ _ _ _ T58 (mkF m 204 #[.val (.int p1), .val (.int p2), .val (.int p3), .val (.int p4), .val (.int p5), .val (.int c0), .val (.int c1), .val (.int c2), .val (.int n1), .val (.ref r42), .val (.ref o46), .val (.int pt1), .val (.ref nd48), .val (.ref o46)] [])
      refine GoH.step (fun t_ k_ => XS.aload X58.here hx rfl (hb hby at_204) rfl rfl k_) ?_
      show GoH _ _ _ _ _ _ _ _ _ _ T58 (mkF m 206 #[.val (.int p1), .val (.int p2), .val (.int p3), .val (.int p4), .val (.int p5), .val (.int c0), .val (.int c1), .val (.int c2), .val (.int n1), .val (.ref r42), .val (.ref o46), .val (.int pt1), .val (.ref nd48), .val (.ref o46)] [(.ref nd48)])
      obtain ⟨cq60, kq60, qa60, qb60, qc60⟩ := isOf hZ48 e58 f48_5
      obtain ⟨_, _, ⟨T60, L60, k60, n60⟩, -, X60, ⟨Lc60, hQ60, l60, y60, z60⟩, st60⟩ := X58.virtualBack hx (y := (⟨"com/example/majority_lease/majoritylease/redis/RedisNode", "port", "()I"⟩ : MethodName)) (z := (⟨"com/example/majority_lease/majoritylease/redis/RedisNode", "port", "()I"⟩ : MethodName)) hown48 (mvT hZ48 (hw _ (List.mem_of_getElem? (i := 102) rfl))) (mvT hZ48 (hw _ (List.mem_of_getElem? (i := 103) rfl))) (notFace_of_selects (args := #[]) (mvT hZ48 (hw _ (List.mem_of_getElem? (i := 105) rfl)))) (mvT hZ48 (hw _ (List.mem_of_getElem? (i := 105) rfl))) (mvT hZ48 (hw _ (List.mem_of_getElem? (i := 104) rfl))) (by decide) (backOf (W := 0) (rmPo l Z a0 hw [] nd48 pt1 T48.heap n0 Zs48 f48_7) hZ48 (hw _ (List.mem_of_getElem? (i := 106) rfl)) (hw _ (List.mem_of_getElem? (i := 34) rfl)) (by decide) (by decide)) qa60 qc60 (g := (mkF m 206 #[.val (.int p1), .val (.int p2), .val (.int p3), .val (.int p4), .val (.int p5), .val (.int c0), .val (.int c1), .val (.int c2), .val (.int n1), .val (.ref r42), .val (.ref o46), .val (.int pt1), .val (.ref nd48), .val (.ref o46)] [(.ref nd48)])) rfl (by rw [hml]; rfl) (Steps.refl _) (argsL := []) (rest := []) (lenOf pd_7 rfl) rfl (by show 2 * 0 + _ ≤ _; exact Nat.le_of_eq rfl) (hb hby at_206) (fun _ _ => ⟨rfl, e58, (by decide : 0 + 1 + 1 + 1 + 3 + 0 + 0 ≤ _), (by decide : 0 + 3 + 4 + 3 + 25 + 0 + 0 ≤ _)⟩)
      dsimp only [Pt.U, Pt.locs, Pt.cells, Pt.slots] at X60 l60 y60 z60 st60 hQ60
      subst l60 y60 z60
      obtain ⟨rfl, N60q, e60⟩ := hQ60
      have N60 := Fr.app N58 N60q
      refine GoH.step (fun t_ k_ => st60.trans k_) ?_
      show GoH _ _ _ _ _ _ _ _ _ _ T60 (mkF m 209 #[.val (.int p1), .val (.int p2), .val (.int p3), .val (.int p4), .val (.int p5), .val (.int c0), .val (.int c1), .val (.int c2), .val (.int n1), .val (.ref r42), .val (.ref o46), .val (.int pt1), .val (.ref nd48), .val (.ref o46)] [(.int pt1)])
      refine GoH.step (fun t_ k_ => XS.iload X60.here hx rfl (hb hby at_209) rfl k_) ?_
      show GoH _ _ _ _ _ _ _ _ _ _ T60 (mkF m 211 #[.val (.int p1), .val (.int p2), .val (.int p3), .val (.int p4), .val (.int p5), .val (.int c0), .val (.int c1), .val (.int c2), .val (.int n1), .val (.ref r42), .val (.ref o46), .val (.int pt1), .val (.ref nd48), .val (.ref o46)] [(.int pt1), (.int pt1)])
      have hb211_61 : pt1 = pt1 := by rfl
      refine GoH.step (fun t_ k_ => XS.icmpNo X60.here hx rfl (hb hby at_211) rfl (XT.ii_ne_f hb211_61) k_) ?_
      show GoH _ _ _ _ _ _ _ _ _ _ T60 (mkF m 214 #[.val (.int p1), .val (.int p2), .val (.int p3), .val (.int p4), .val (.int p5), .val (.int c0), .val (.int c1), .val (.int c2), .val (.int n1), .val (.ref r42), .val (.ref o46), .val (.int pt1), .val (.ref nd48), .val (.ref o46)] [])
      refine GoH.step (fun t_ k_ => XS.aload X60.here hx rfl (hb hby at_214) rfl rfl k_) ?_
      show GoH _ _ _ _ _ _ _ _ _ _ T60 (mkF m 216 #[.val (.int p1), .val (.int p2), .val (.int p3), .val (.int p4), .val (.int p5), .val (.int c0), .val (.int c1), .val (.int c2), .val (.int n1), .val (.ref r42), .val (.ref o46), .val (.int pt1), .val (.ref nd48), .val (.ref o46)] [(.ref nd48)])
      obtain ⟨cq62, kq62, qa62, qb62, qc62⟩ := isOf hZ48 (e60) f48_5
      obtain ⟨_, _, ⟨T62, L62, k62, n62⟩, -, X62, ⟨Lc62, hQ62, l62, y62, z62⟩, st62⟩ := X60.virtualBack hx (y := (⟨"com/example/majority_lease/majoritylease/redis/RedisNode", "tls", "()Ljavax/net/ssl/SSLContext;"⟩ : MethodName)) (z := (⟨"com/example/majority_lease/majoritylease/redis/RedisNode", "tls", "()Ljavax/net/ssl/SSLContext;"⟩ : MethodName)) hown48 (mvT hZ48 (hw _ (List.mem_of_getElem? (i := 107) rfl))) (mvT hZ48 (hw _ (List.mem_of_getElem? (i := 108) rfl))) (notFace_of_selects (args := #[]) (mvT hZ48 (hw _ (List.mem_of_getElem? (i := 110) rfl)))) (mvT hZ48 (hw _ (List.mem_of_getElem? (i := 110) rfl))) (mvT hZ48 (hw _ (List.mem_of_getElem? (i := 109) rfl))) (by decide) (backOf (W := 0) (rmTl l Z a0 hw [] nd48 T48.heap n0 Zs48 f48_9) hZ48 (hw _ (List.mem_of_getElem? (i := 111) rfl)) (hw _ (List.mem_of_getElem? (i := 34) rfl)) (by decide) (by decide)) qa62 qc62 (g := (mkF m 216 #[.val (.int p1), .val (.int p2), .val (.int p3), .val (.int p4), .val (.int p5), .val (.int c0), .val (.int c1), .val (.int c2), .val (.int n1), .val (.ref r42), .val (.ref o46), .val (.int pt1), .val (.ref nd48), .val (.ref o46)] [(.ref nd48)])) rfl (by rw [hml]; rfl) (Steps.refl _) (argsL := []) (rest := []) (lenOf pd_9 rfl) rfl (by show 2 * 0 + _ ≤ _; exact Nat.le_of_eq rfl) (hb hby at_216) (fun _ _ => ⟨rfl, (e60), (by decide : 0 + 1 + 1 + 1 + 3 + 0 + 0 + 0 ≤ _), (by decide : 0 + 3 + 4 + 3 + 25 + 0 + 0 + 0 ≤ _)⟩)
      dsimp only [Pt.U, Pt.locs, Pt.cells, Pt.slots] at X62 l62 y62 z62 st62 hQ62
      subst l62 y62 z62
      obtain ⟨rfl, N62q, e62⟩ := hQ62
      have N62 := Fr.app N60 N62q
      refine GoH.step (fun t_ k_ => st62.trans k_) ?_
      show GoH _ _ _ _ _ _ _ _ _ _ T62 (mkF m 219 #[.val (.int p1), .val (.int p2), .val (.int p3), .val (.int p4), .val (.int p5), .val (.int c0), .val (.int c1), .val (.int c2), .val (.int n1), .val (.ref r42), .val (.ref o46), .val (.int pt1), .val (.ref nd48), .val (.ref o46)] [.null])
      refine GoH.step (fun t_ k_ => XT.ifnonnullNo X62.here hx rfl (hb hby at_219) rfl k_) ?_
      show GoH _ _ _ _ _ _ _ _ _ _ T62 (mkF m 222 #[.val (.int p1), .val (.int p2), .val (.int p3), .val (.int p4), .val (.int p5), .val (.int c0), .val (.int c1), .val (.int c2), .val (.int n1), .val (.ref r42), .val (.ref o46), .val (.int pt1), .val (.ref nd48), .val (.ref o46)] [])
      refine GoH.step (fun t_ k_ => XS.aload X62.here hx rfl (hb hby at_222) rfl rfl k_) ?_
      show GoH _ _ _ _ _ _ _ _ _ _ T62 (mkF m 224 #[.val (.int p1), .val (.int p2), .val (.int p3), .val (.int p4), .val (.int p5), .val (.int c0), .val (.int c1), .val (.int c2), .val (.int n1), .val (.ref r42), .val (.ref o46), .val (.int pt1), .val (.ref nd48), .val (.ref o46)] [(.ref nd48)])
      obtain ⟨cq63, kq63, qa63, qb63, qc63⟩ := isOf hZ48 (e62) f48_5
      obtain ⟨_, _, ⟨T63, L63, k63, n63⟩, -, X63, ⟨Lc63, hQ63, l63, y63, z63⟩, st63⟩ := X62.virtualBack hx (y := (⟨"com/example/majority_lease/majoritylease/redis/RedisNode", "credentials", "()Ljava/util/List;"⟩ : MethodName)) (z := (⟨"com/example/majority_lease/majoritylease/redis/RedisNode", "credentials", "()Ljava/util/List;"⟩ : MethodName)) hown48 (mvT hZ48 (hw _ (List.mem_of_getElem? (i := 112) rfl))) (mvT hZ48 (hw _ (List.mem_of_getElem? (i := 113) rfl))) (notFace_of_selects (args := #[]) (mvT hZ48 (hw _ (List.mem_of_getElem? (i := 115) rfl)))) (mvT hZ48 (hw _ (List.mem_of_getElem? (i := 115) rfl))) (mvT hZ48 (hw _ (List.mem_of_getElem? (i := 114) rfl))) (by decide) (backOf (W := 0) (rmCr l Z a0 hw [] nd48 wl T48.heap n0 Zs48 O48 S_EMPTY f48_8) hZ48 (hw _ (List.mem_of_getElem? (i := 116) rfl)) (hw _ (List.mem_of_getElem? (i := 34) rfl)) (by decide) (by decide)) qa63 qc63 (g := (mkF m 224 #[.val (.int p1), .val (.int p2), .val (.int p3), .val (.int p4), .val (.int p5), .val (.int c0), .val (.int c1), .val (.int c2), .val (.int n1), .val (.ref r42), .val (.ref o46), .val (.int pt1), .val (.ref nd48), .val (.ref o46)] [(.ref nd48)])) rfl (by rw [hml]; rfl) (Steps.refl _) (argsL := []) (rest := []) (lenOf pd_3 rfl) rfl (by show 2 * 0 + _ ≤ _; exact Nat.le_of_eq rfl) (hb hby at_224) (fun _ _ => ⟨rfl, (e62), (by decide : 0 + 1 + 1 + 1 + 3 + 0 + 0 + 0 + 0 ≤ _), (by decide : 0 + 3 + 4 + 3 + 25 + 0 + 0 + 0 + 0 ≤ _)⟩)
      dsimp only [Pt.U, Pt.locs, Pt.cells, Pt.slots] at X63 l63 y63 z63 st63 hQ63
      subst l63 y63 z63
      obtain ⟨rfl, N63q, e63⟩ := hQ63
      have N63 := Fr.app N62 N63q
      refine GoH.step (fun t_ k_ => st63.trans k_) ?_
      show GoH _ _ _ _ _ _ _ _ _ _ T63 (mkF m 227 #[.val (.int p1), .val (.int p2), .val (.int p3), .val (.int p4), .val (.int p5), .val (.int c0), .val (.int c1), .val (.int c2), .val (.int n1), .val (.ref r42), .val (.ref o46), .val (.int pt1), .val (.ref nd48), .val (.ref o46)] [(.ref wl)])
      obtain ⟨cq64, kq64, qa64, qb64, qc64⟩ := isOf hZ48 (e63) (E_EL.ext O48.2)
      obtain ⟨_, _, ⟨T64, L64, k64, n64⟩, -, X64, ⟨Lc64, hQ64, l64, y64, z64⟩, st64⟩ := X63.interfaceBack hx (xi := (⟨"java/util/List", "size", "()I"⟩ : MethodName)) (y := (⟨"java/util/ImmutableCollections$ListN", "size", "()I"⟩ : MethodName)) hown48 (mvT hZ48 (hw _ (List.mem_of_getElem? (i := 123) rfl))) (mvT hZ48 (hw _ (List.mem_of_getElem? (i := 124) rfl))) (mvT hZ48 (hw _ (List.mem_of_getElem? (i := 125) rfl))) (mvT hZ48 (hw _ (List.mem_of_getElem? (i := 126) rfl))) (mvT hZ48 (hw _ (List.mem_of_getElem? (i := 127) rfl))) (mvT hZ48 (hw _ (List.mem_of_getElem? (i := 128) rfl))) (mvT hZ48 (hw _ (List.mem_of_getElem? (i := 129) rfl))) (mvT hZ48 (hw _ (List.mem_of_getElem? (i := 130) rfl))) (by decide) (backOf (W := 0) (rmSz l Z a0 hw [] wl we ke T48.heap n0 Zs48 (F_EL.ext O48.2) (A_EL.ext O48.2)) hZ48 (hw _ (List.mem_of_getElem? (i := 132) rfl)) (hw _ (List.mem_of_getElem? (i := 131) rfl)) (by decide) (by decide)) qa64 qb64 qc64 (g := (mkF m 227 #[.val (.int p1), .val (.int p2), .val (.int p3), .val (.int p4), .val (.int p5), .val (.int c0), .val (.int c1), .val (.int c2), .val (.int n1), .val (.ref r42), .val (.ref o46), .val (.int pt1), .val (.ref nd48), .val (.ref o46)] [(.ref wl)])) rfl (by rw [hml]; rfl) (Steps.refl _) (argsL := []) (rest := []) (lenOf pd_7 rfl) rfl (by show 2 * 0 + _ ≤ _; exact Nat.le_of_eq rfl) (hb hby at_227) (fun _ _ => ⟨rfl, (e63), (by decide : 0 + 1 + 1 + 1 + 3 + 0 + 0 + 0 + 0 + 0 ≤ _), (by decide : 0 + 3 + 4 + 3 + 25 + 0 + 0 + 0 + 0 + 0 ≤ _)⟩)
      dsimp only [Pt.U, Pt.locs, Pt.cells, Pt.slots] at X64 l64 y64 z64 st64 hQ64
      subst l64 y64 z64
      obtain ⟨rfl, N64q, e64⟩ := hQ64
      have N64 := Fr.app N63 N64q
      refine GoH.step (fun t_ k_ => st64.trans k_) ?_
      show GoH _ _ _ _ _ _ _ _ _ _ T64 (mkF m 232 #[.val (.int p1), .val (.int p2), .val (.int p3), .val (.int p4), .val (.int p5), .val (.int c0), .val (.int c1), .val (.int c2), .val (.int n1), .val (.ref r42), .val (.ref o46), .val (.int pt1), .val (.ref nd48), .val (.ref o46)] [(.int (0 : Int32))])
      have hb232_65 : (0 : Int32) = (0 : Int32) := by decide
      refine GoH.step (fun t_ k_ => XS.ifNo X64.here hx rfl (hb hby at_232) rfl (XT.i0_ne_f hb232_65) k_) ?_
      show GoH _ _ _ _ _ _ _ _ _ _ T64 (mkF m 235 #[.val (.int p1), .val (.int p2), .val (.int p3), .val (.int p4), .val (.int p5), .val (.int c0), .val (.int c1), .val (.int c2), .val (.int n1), .val (.ref r42), .val (.ref o46), .val (.int pt1), .val (.ref nd48), .val (.ref o46)] [])
      refine GoH.step (fun t_ k_ => XS.iconst X64.here hx rfl (hb hby at_235) k_) ?_
      show GoH _ _ _ _ _ _ _ _ _ _ T64 (mkF m 236 #[.val (.int p1), .val (.int p2), .val (.int p3), .val (.int p4), .val (.int p5), .val (.int c0), .val (.int c1), .val (.int c2), .val (.int n1), .val (.ref r42), .val (.ref o46), .val (.int pt1), .val (.ref nd48), .val (.ref o46)] [(.int (1 : Int32))])
      refine GoH.step (fun t_ k_ => XS.goto X64.here hx rfl (pc0 := 236) (pc' := 240) rfl (hb hby at_236) (by decide) (by decide) k_) ?_
      show GoH _ _ _ _ _ _ _ _ _ _ T64 (mkF m 240 #[.val (.int p1), .val (.int p2), .val (.int p3), .val (.int p4), .val (.int p5), .val (.int c0), .val (.int c1), .val (.int c2), .val (.int n1), .val (.ref r42), .val (.ref o46), .val (.int pt1), .val (.ref nd48), .val (.ref o46)] [(.int (1 : Int32))])
      have hkr : T48.heap.size ≤ T64.heap.size := by rw [(e64)]; exact hk48
      have hCr : CHr Z own_EL s.vm h0 T48.vm T64.heap := by rw [(e64)]; exact CC48
      refine GoH.ret X64 hx hlk hS48 hkr hZ48 hEL hCr hret rfl (Or.inl ⟨rfl, Or.inr (Or.inl rfl), _, rfl⟩) (hb hby at_240) ?_ (by decide) (by decide)
      show Q0 Z _ _ _ _ _ _ _ _ _ _ _ _ _ T64.heap _
      exact ⟨rfl, N64⟩
set_option maxRecDepth 65536 in
set_option maxHeartbeats 40000000 in
theorem comes_1 {Post : Tables → Env → Array Value → State → Outcome → State → Prop} (hpost : ∀ tb e args s v u, (limb_1_1.after args s (.returned v) u = true ∧ limb_1_2.after args s (.returned v) u = true ∧ True) → ReturnedEndW s (.returned v) u (Jvm.fieldLocs frame_1_writes args s ++ Jvm.arrayLocs frame_1_arrays args s ++ Jvm.staticLocs frame_1_statics s) 24 1152 → Post tb e args s (.returned v) u) :
    ArmFor flags0 classFile x code maxLocals ret World_1 tables_1 room_1 Calls_1 rest_1 Pre_1 Post := by
  intro l hfl _ _ p e ha hc hk s m args below hf hA hF happ hP
  obtain ⟨hcalls, hrest, hpre⟩ := hP
  obtain ⟨-, -, -, hnamed, -, -, -, hat⟩ := (Spec.applies_iff hf).mp happ
  obtain ⟨hg, hn⟩ := and_e (Cond.before_iff.mp (show (Jvm.Cond.and given_1 narrow_1).before args s = true from hpre))
  obtain ⟨gc, gA0⟩ := and_e hg
  obtain ⟨gi0, gA1⟩ := and_e gA0
  obtain ⟨gi1, gA2⟩ := and_e gA1
  obtain ⟨gi2, gA3⟩ := and_e gA2
  obtain ⟨gi3, gA4⟩ := and_e gA3
  obtain ⟨w0, w1, w2, w3, w4, rfl⟩ : ∃ w0 w1 w2 w3 w4 : Value, args = #[w0, w1, w2, w3, w4] := by
    have hs : args.size = 5 := by simpa [Cond.value, given_1] using gc
    obtain ⟨L⟩ := args
    match L, hs with
    | [w0, w1, w2, w3, w4], _ => exact ⟨w0, w1, w2, w3, w4, rfl⟩
  have hw := fun d (hd : d ∈ tables_1) => atoms_spec (ws := Jvm.Cond.code x code maxLocals ret :: tables_1) hat d (List.mem_cons_of_mem _ hd)
  have hfit : Fit s := fun {y c} hc i hi => by
    obtain ⟨ha, rfl⟩ := Array.getElem?_eq_some_iff.mp hc
    have q := List.all_eq_true.mp ((Array.all_eq_true_iff_forall_mem.mp hF) _ (Array.getElem_mem ha)) i (List.mem_range.mpr hi)
    simpa [Array.getElem?_eq_getElem hi] using q
  obtain ⟨i0, ei0⟩ := is_v gi0
  obtain rfl : w0 = (.int i0) := Option.some.inj ei0
  obtain ⟨i1, ei1⟩ := is_v gi1
  obtain rfl : w1 = (.int i1) := Option.some.inj ei1
  obtain ⟨i2, ei2⟩ := is_v gi2
  obtain rfl : w2 = (.int i2) := Option.some.inj ei2
  obtain ⟨i3, ei3⟩ := is_v gi3
  obtain rfl : w3 = (.int i3) := Option.some.inj ei3
  obtain ⟨i4, ei4⟩ := is_v gA4
  obtain rfl : w4 = (.int i4) := Option.some.inj ei4
  obtain ⟨hsets, hown0⟩ := atoms_of _ (rest_1_c_eq ▸ (show rest_1_c.before _ s = true from hrest))
  have nCS := not_v (Cond.before_iff.mp (hsets _ (List.mem_of_getElem? (i := 2) rfl)))
  have hcompact : Jvm.Lit.compactW.before _ s = true := hsets _ (List.mem_of_getElem? (i := 2) rfl)
  obtain ⟨iCS, eCS⟩ := is_v (Cond.before_iff.mp (hsets _ (List.mem_of_getElem? (i := 1) rfl)))
  have S_COMPACT : Sta s s.heap "java/lang/String" "COMPACT_STRINGS" "Z" (.int iCS) := Sta.start eCS (Or.inl (hsets _ (List.mem_of_getElem? (i := 0) rfl)))
  have P_COMPACT : ¬ (iCS = (0 : Int32)) := gotF (Cond.eq_ints eCS (Term.int_eval (0))) nCS
  obtain ⟨vSF, eSF, rSF⟩ := isR_v (Cond.before_iff.mp (hsets _ (List.mem_of_getElem? (i := 8) rfl)))
  have S_SIOOBE : Sta s s.heap "jdk/internal/util/Preconditions" "SIOOBE_FORMATTER" "Ljava/util/function/BiFunction;" vSF := Sta.start eSF (Or.inl (hsets _ (List.mem_of_getElem? (i := 7) rfl)))
  have n11 := Cond.before_iff.mp (hsets _ (List.mem_of_getElem? (i := 11) rfl))
  have n12 := Cond.before_iff.mp (hsets _ (List.mem_of_getElem? (i := 12) rfl))
  have n14 := Cond.before_iff.mp (hsets _ (List.mem_of_getElem? (i := 14) rfl))
  obtain ⟨wl, ewl⟩ := exa_v n11
  have S_EMPTY : Sta s s.heap "java/util/ImmutableCollections" "EMPTY_LIST" "Ljava/util/ImmutableCollections$ListN;" (.ref wl) := Sta.start ewl (Or.inl (hsets _ (List.mem_of_getElem? (i := 10) rfl)))
  have E_EL := Exa.start ewl n11
  obtain ⟨we, ewe⟩ := arr_v n12
  have F_EL := Fld.start ((fld_at ewl).symm.trans ewe)
  obtain ⟨ke, A_EL⟩ := own_arr0 hfit ewe n12 (own_eqint n14)
  obtain ⟨n, o, h1, h2, h3, _, L, rfl, ⟨rfl, N⟩, -, hq⟩ := rm0 l s _ hw tables_1 i0 i1 i2 i3 i4 iCS vSF wl we ke s.heap s.heap.size (Nat.le_refl _) (Old.start s) S_COMPACT P_COMPACT S_SIOOBE rSF S_EMPTY E_EL F_EL A_EL p e ha hc hk s m _ below hf ((Spec.applies_iff_loose hf).mp happ).1 ⟨rfl, State.Warmed39.refl s, rfl, nCH⟩ trivial
  refine ⟨n, _, h1, h2, h3, hpost _ _ _ _ _ _ ⟨Cond.after_iff.mpr rfl, Cond.after_iff.mpr (eq_i res_at (Term.int_eval (1)) rfl), trivial⟩ ⟨hq.1, hq.2.1, hq.2.2.1, (hq.2.2.2.sift fun y hy => Or.inr (N y hy)).mono (by decide) (by decide)⟩⟩
theorem main_1_1 : Claimed_1_1 := comes_1 fun _ _ _ _ _ _ h hF => ⟨h.1, hF⟩
theorem main_1_2 : Claimed_1_2 := comes_1 fun _ _ _ _ _ _ h hF => ⟨h.2.1, hF⟩
end Jvm.Pilot.@@N@@
namespace Jvm.Pilot.@@N@@
open Jvm Jvm.ClassFile Sem Op Lib Jvm.Free Jvm.Stand Jvm.Pilot.@@N@@.Jvm.D
/-! MADE BY PROGRAM (witnessworld.py) out of the Statement's table words and the real class files: 33 classes; the members and pool entries that the words name. The judged class is class 1, her method 1. -/
namespace start1
open Jvm.ClassFile
def u (s : String) : CpInfo := .utf8 (stringToUtf16 s)
/-- a pool by its gaps: so many unusable entries, then the entry; so many at the end -/
def gap : Nat → List CpInfo → List CpInfo
  | 0, r => r
  | n + 1, r => .unusable :: gap n r
def poolList (es : List (Nat × CpInfo)) (last : Nat) : List CpInfo := es.foldr (fun e r => gap e.1 (e.2 :: r)) (gap last [])
def pool (es : List (Nat × CpInfo)) (last : Nat) : Array CpInfo := ⟨poolList es last⟩
def fileOf (pool : Array CpInfo) (this : Nat) (attrs : Array Attribute := #[]) (ms : Array MethodInfo := #[]) (fl : Nat := 33) (sup : Nat := 0) (ifs : Array Nat := #[]) (fds : Array FieldInfo := #[]) : ClassFile where
  minorVersion := 0
  majorVersion := 65
  constantPool := pool
  accessFlags := fl
  thisClass := this
  superClass := sup
  interfaces := ifs
  fields := fds
  methods := ms
  attributes := attrs
def plain (name : String) (sup : Option ClassId) : Class where
  name := name
  kind := .ordinary
  loader := none
  accessFlags := 33
  super := sup
  interfaces := #[]
  cf := none
  fields := #[]
  methods := #[]
  instanceTypes := #[]
  staticTypes := #[]
  resolved := #[]
  callSites := []
  init := .initialized
  statics := none
  mirror := none

def pool0 : Array CpInfo := pool [(5, u "<init>"), (0, u "()V"), (1, .class_ 10), (1, u "java/lang/Object")] 113

def k0c0 : Code := { maxStack := 0, maxLocals := 1, code := object_method_1_code, exceptionTable := #[], attributes := #[] }
def k0m0 : Method := { name := "<init>", desc := "()V", sig := { parameters := [], returnType := none }, accessFlags := 1, code := some k0c0 }
/-- java/lang/Object -/
def k0 : Class := { plain "java/lang/Object" none with
  accessFlags := 33
  interfaces := #[]
  cf := some (fileOf pool0 8 #[] #[{ accessFlags := 1, nameIndex := 5, descriptorIndex := 6, attributes := #[] }] 33 0 #[] #[])
  fields := #[]
  methods := #[k0m0]
  instanceTypes := #[]
  staticTypes := #[]
  resolved := Array.replicate 124 none
  statics := none }

def pool1 : Array CpInfo := pool [(2, .class_ 4), (1, u "java/lang/Object"), (0, u "<init>"), (0, u "()V"), (0, .integer 2147483647), (0, .class_ 9), (0, u "java/lang/String"), (0, .methodref 8 11), (0, .nameAndType 5 12), (0, u "([C)V"), (0, .integer 65535), (0, .methodref 15 16), (0, .class_ 17), (0, .nameAndType 18 19), (0, u "com/example/majority_lease/majoritylease/redis/RedisNode"), (0, u "at"), (0, u "(Ljava/lang/String;I)Lcom/example/majority_lease/majoritylease/redis/RedisNode;"), (0, .methodref 15 21), (0, .nameAndType 22 23), (0, u "host"), (0, u "()Ljava/lang/String;"), (0, .methodref 8 25), (0, .nameAndType 26 27), (0, u "length"), (0, u "()I"), (0, .methodref 8 29), (0, .nameAndType 30 31), (0, u "charAt"), (0, u "(I)C"), (0, .methodref 15 33), (0, .nameAndType 34 27), (0, u "port"), (0, .methodref 15 36), (0, .nameAndType 37 38), (0, u "tls"), (0, u "()Ljavax/net/ssl/SSLContext;"), (0, .methodref 15 40), (0, .nameAndType 41 42), (0, u "credentials"), (0, u "()Ljava/util/List;"), (0, .interfaceMethodref 44 45), (0, .class_ 46), (0, .nameAndType 47 27), (0, u "java/util/List"), (0, u "size"), (0, .class_ 49), (0, u "com/example/majority_lease/majoritylease/redis/RedisNodeAtPinLaw"), (2, u "law"), (0, u "(IIIII)Z")] 5

def k1m0 : Method := { name := "<init>", desc := "()V", sig := { parameters := [], returnType := none }, accessFlags := 2, code := none }
def k1c1 : Code := { maxStack := 4, maxLocals := 14, code := code, exceptionTable := #[], attributes := #[] }
def k1m1 : Method := { name := "law", desc := "(IIIII)Z", sig := { parameters := [.int, .int, .int, .int, .int], returnType := some .boolean }, accessFlags := 9, code := some k1c1 }
/-- com/example/majority_lease/majoritylease/redis/RedisNodeAtPinLaw -/
def k1 : Class := { plain "com/example/majority_lease/majoritylease/redis/RedisNodeAtPinLaw" (some 0) with
  accessFlags := 49
  interfaces := #[]
  cf := some (fileOf pool1 48 #[] #[{ accessFlags := 2, nameIndex := 5, descriptorIndex := 6, attributes := #[] }, { accessFlags := 9, nameIndex := 52, descriptorIndex := 53, attributes := #[] }] 49 2 #[] #[])
  fields := #[]
  methods := #[k1m0, k1m1]
  instanceTypes := #[]
  staticTypes := #[]
  resolved := Array.replicate 59 none
  statics := none }

def pool2 : Array CpInfo := pool [(1, .class_ 2), (0, u "java/io/Serializable"), (0, .class_ 4), (0, u "java/lang/Object")] 2

/-- java/io/Serializable -/
def k2 : Class := { plain "java/io/Serializable" (some 0) with
  accessFlags := 1537
  interfaces := #[]
  cf := some (fileOf pool2 1 #[] #[] 1537 3 #[] #[])
  fields := #[]
  methods := #[]
  instanceTypes := #[]
  staticTypes := #[]
  resolved := Array.replicate 7 none
  statics := none }

def pool3 : Array CpInfo := pool [(1, .class_ 2), (0, u "java/lang/Comparable"), (0, .class_ 4), (0, u "java/lang/Object")] 7

/-- java/lang/Comparable -/
def k3 : Class := { plain "java/lang/Comparable" (some 0) with
  accessFlags := 1537
  interfaces := #[]
  cf := some (fileOf pool3 1 #[] #[] 1537 3 #[] #[])
  fields := #[]
  methods := #[]
  instanceTypes := #[]
  staticTypes := #[]
  resolved := Array.replicate 12 none
  statics := none }

def pool4 : Array CpInfo := pool [(2, .class_ 4), (1, u "java/lang/CharSequence"), (42, .class_ 48), (0, u "java/lang/CharSequence$1CodePointIterator"), (10, .class_ 60), (0, u "java/lang/CharSequence$1CharIterator"), (5, .class_ 67), (0, u "java/lang/Object")] 63

/-- java/lang/CharSequence -/
def k4 : Class := { plain "java/lang/CharSequence" (some 0) with
  accessFlags := 1537
  interfaces := #[]
  cf := some (fileOf pool4 2 #[.nestMembers #[47, 59]] #[] 1537 66 #[] #[])
  fields := #[]
  methods := #[]
  instanceTypes := #[]
  staticTypes := #[]
  resolved := Array.replicate 131 none
  statics := none }

def pool5 : Array CpInfo := pool [(1, .class_ 2), (0, u "java/lang/constant/Constable"), (0, .class_ 4), (0, u "java/lang/Object")] 6

/-- java/lang/constant/Constable -/
def k5 : Class := { plain "java/lang/constant/Constable" (some 0) with
  accessFlags := 1537
  interfaces := #[]
  cf := some (fileOf pool5 1 #[] #[] 1537 3 #[] #[])
  fields := #[]
  methods := #[]
  instanceTypes := #[]
  staticTypes := #[]
  resolved := Array.replicate 11 none
  statics := none }

def pool6 : Array CpInfo := pool [(1, .class_ 2), (0, u "java/lang/constant/ConstantDesc"), (0, .class_ 4), (0, u "java/lang/Object")] 32

/-- java/lang/constant/ConstantDesc -/
def k6 : Class := { plain "java/lang/constant/ConstantDesc" (some 0) with
  accessFlags := 1537
  interfaces := #[]
  cf := some (fileOf pool6 1 #[] #[] 1537 3 #[] #[])
  fields := #[]
  methods := #[]
  instanceTypes := #[]
  staticTypes := #[]
  resolved := Array.replicate 37 none
  statics := none }

def pool7 : Array CpInfo := pool [(1, .methodref 2 3), (0, .class_ 4), (0, .nameAndType 5 6), (0, u "java/lang/Object"), (0, u "<init>"), (0, u "()V"), (2, .fieldref 10 11), (0, .class_ 12), (0, .nameAndType 13 14), (0, u "java/lang/String"), (0, u "value"), (0, u "[B"), (0, .fieldref 10 16), (0, .nameAndType 17 18), (0, u "coder"), (0, u "B"), (2, u "hash"), (0, u "I"), (2, u "hashIsZero"), (0, u "Z"), (0, .methodref 10 28), (0, .nameAndType 5 29), (0, u "([CIILjava/lang/Void;)V"), (8, .fieldref 10 39), (0, .nameAndType 40 26), (0, u "COMPACT_STRINGS"), (1, .class_ 44), (1, u "java/lang/StringUTF16"), (0, u "compress"), (1, .methodref 42 48), (0, .nameAndType 49 50), (0, u "coderFromArrayLen"), (0, u "([BI)B"), (56, .class_ 109), (1, u "java/lang/StringLatin1"), (32, u "()Z"), (34, .methodref 42 178), (0, .nameAndType 45 179), (0, u "([CII)[B"), (154, u "()I"), (0, .methodref 10 336), (0, .nameAndType 17 337), (0, u "()B"), (25, u "([BI)C"), (27, u "(II)V"), (35, u "(I)C"), (64, .methodref 10 493), (0, .nameAndType 494 142), (0, u "isLatin1"), (0, .methodref 107 496), (0, .nameAndType 497 363), (0, u "charAt"), (3, u "checkIndex"), (5, u "length"), (67, .class_ 576), (0, u "java/lang/CharSequence"), (22, u "CASE_INSENSITIVE_ORDER"), (0, u "Ljava/util/Comparator;"), (91, u "isEmpty"), (317, u "([C)V"), (42, .fieldref 1054 1055), (0, .class_ 1056), (0, .nameAndType 1057 1058), (0, u "jdk/internal/util/Preconditions"), (0, u "SIOOBE_FORMATTER"), (0, u "Ljava/util/function/BiFunction;"), (0, .methodref 1054 1060), (0, .nameAndType 501 1061), (0, u "(IILjava/util/function/BiFunction;)I"), (39, u "serialPersistentFields"), (0, u "[Ljava/io/ObjectStreamField;"), (0, .class_ 1104), (0, u "java/lang/String$CaseInsensitiveComparator"), (1, .class_ 1107), (0, u "java/io/Serializable"), (0, .class_ 1109), (0, u "java/lang/Comparable"), (0, .class_ 1111), (0, u "java/lang/constant/Constable"), (0, .class_ 1113), (0, u "java/lang/constant/ConstantDesc"), (2, u "serialVersionUID"), (0, u "J"), (3, u "REPL"), (0, u "C"), (2, u "LATIN1"), (1, u "UTF16")] 323

def k7m0 : Method := { name := "<init>", desc := "()V", sig := { parameters := [], returnType := none }, accessFlags := 1, code := none }
def k7c1 : Code := { maxStack := 5, maxLocals := 2, code := jdk_42_method_3_code, exceptionTable := #[], attributes := #[] }
def k7m1 : Method := { name := "<init>", desc := "([C)V", sig := { parameters := [(.array .char)], returnType := none }, accessFlags := 1, code := some k7c1 }
def k7c2 : Code := { maxStack := 2, maxLocals := 1, code := jdk_42_method_54_code, exceptionTable := #[], attributes := #[] }
def k7m2 : Method := { name := "length", desc := "()I", sig := { parameters := [], returnType := some .int }, accessFlags := 1, code := some k7c2 }
def k7c3 : Code := { maxStack := 1, maxLocals := 1, code := jdk_42_method_55_code, exceptionTable := #[], attributes := #[] }
def k7m3 : Method := { name := "isEmpty", desc := "()Z", sig := { parameters := [], returnType := some .boolean }, accessFlags := 1, code := some k7c3 }
def k7c4 : Code := { maxStack := 2, maxLocals := 2, code := jdk_42_method_56_code, exceptionTable := #[], attributes := #[] }
def k7m4 : Method := { name := "charAt", desc := "(I)C", sig := { parameters := [.int], returnType := some .char }, accessFlags := 1, code := some k7c4 }
def k7c5 : Code := { maxStack := 4, maxLocals := 6, code := jdk_42_method_149_code, exceptionTable := #[], attributes := #[] }
def k7m5 : Method := { name := "<init>", desc := "([CIILjava/lang/Void;)V", sig := { parameters := [(.array .char), .int, .int, (.object "java/lang/Void")], returnType := none }, accessFlags := 2, code := some k7c5 }
def k7c6 : Code := { maxStack := 1, maxLocals := 1, code := jdk_42_method_152_code, exceptionTable := #[], attributes := #[] }
def k7m6 : Method := { name := "coder", desc := "()B", sig := { parameters := [], returnType := some .byte }, accessFlags := 0, code := some k7c6 }
def k7c7 : Code := { maxStack := 1, maxLocals := 1, code := jdk_42_method_154_code, exceptionTable := #[], attributes := #[] }
def k7m7 : Method := { name := "isLatin1", desc := "()Z", sig := { parameters := [], returnType := some .boolean }, accessFlags := 0, code := some k7c7 }
def k7c8 : Code := { maxStack := 3, maxLocals := 2, code := jdk_42_method_155_code, exceptionTable := #[], attributes := #[] }
def k7m8 : Method := { name := "checkIndex", desc := "(II)V", sig := { parameters := [.int, .int], returnType := none }, accessFlags := 8, code := some k7c8 }
/-- java/lang/String -/
def k7 : Class := { plain "java/lang/String" (some 0) with
  accessFlags := 49
  interfaces := #[2, 3, 4, 5, 6]
  cf := some (fileOf pool7 10 #[.nestMembers #[1103]] #[{ accessFlags := 1, nameIndex := 5, descriptorIndex := 6, attributes := #[] }, { accessFlags := 1, nameIndex := 5, descriptorIndex := 1010, attributes := #[] }, { accessFlags := 1, nameIndex := 507, descriptorIndex := 334, attributes := #[] }, { accessFlags := 1, nameIndex := 692, descriptorIndex := 142, attributes := #[] }, { accessFlags := 1, nameIndex := 497, descriptorIndex := 427, attributes := #[] }, { accessFlags := 2, nameIndex := 5, descriptorIndex := 29, attributes := #[] }, { accessFlags := 0, nameIndex := 17, descriptorIndex := 337, attributes := #[] }, { accessFlags := 0, nameIndex := 494, descriptorIndex := 142, attributes := #[] }, { accessFlags := 8, nameIndex := 501, descriptorIndex := 391, attributes := #[] }] 49 2 #[1106, 1108, 575, 1110, 1112] #[{ accessFlags := 18, nameIndex := 13, descriptorIndex := 14, attributes := #[] }, { accessFlags := 18, nameIndex := 17, descriptorIndex := 18, attributes := #[] }, { accessFlags := 2, nameIndex := 21, descriptorIndex := 22, attributes := #[] }, { accessFlags := 2, nameIndex := 25, descriptorIndex := 26, attributes := #[] }, { accessFlags := 26, nameIndex := 1116, descriptorIndex := 1117, attributes := #[] }, { accessFlags := 24, nameIndex := 40, descriptorIndex := 26, attributes := #[] }, { accessFlags := 26, nameIndex := 1101, descriptorIndex := 1102, attributes := #[] }, { accessFlags := 26, nameIndex := 1121, descriptorIndex := 1122, attributes := #[] }, { accessFlags := 25, nameIndex := 599, descriptorIndex := 600, attributes := #[] }, { accessFlags := 24, nameIndex := 1125, descriptorIndex := 18, attributes := #[] }, { accessFlags := 24, nameIndex := 1127, descriptorIndex := 18, attributes := #[] }])
  fields := #[{ name := "value", type := (.array .byte), accessFlags := 18, slot := 0, constantValue := 0 }, { name := "coder", type := .byte, accessFlags := 18, slot := 1, constantValue := 0 }, { name := "hash", type := .int, accessFlags := 2, slot := 2, constantValue := 0 }, { name := "hashIsZero", type := .boolean, accessFlags := 2, slot := 3, constantValue := 0 }, { name := "serialVersionUID", type := .long, accessFlags := 26, slot := 0, constantValue := 0 }, { name := "COMPACT_STRINGS", type := .boolean, accessFlags := 24, slot := 1, constantValue := 0 }, { name := "serialPersistentFields", type := (.array (.object "java/io/ObjectStreamField")), accessFlags := 26, slot := 2, constantValue := 0 }, { name := "REPL", type := .char, accessFlags := 26, slot := 3, constantValue := 0 }, { name := "CASE_INSENSITIVE_ORDER", type := (.object "java/util/Comparator"), accessFlags := 25, slot := 4, constantValue := 0 }, { name := "LATIN1", type := .byte, accessFlags := 24, slot := 5, constantValue := 0 }, { name := "UTF16", type := .byte, accessFlags := 24, slot := 6, constantValue := 0 }]
  methods := #[k7m0, k7m1, k7m2, k7m3, k7m4, k7m5, k7m6, k7m7, k7m8]
  instanceTypes := #[(.array .byte), .byte, .int, .boolean]
  staticTypes := #[.long, .boolean, (.array (.object "java/io/ObjectStreamField")), .char, (.object "java/util/Comparator"), .byte, .byte]
  resolved := Array.replicate 1451 none
  statics := some 0 }

def pool8 : Array CpInfo := pool [(6, .class_ 8), (1, u "java/lang/Object"), (0, u "<init>"), (0, u "()V"), (1, .class_ 14), (1, u "java/lang/StringUTF16"), (31, u "$assertionsDisabled"), (0, u "Z"), (13, u "HI_BYTE_SHIFT"), (0, u "I"), (2, u "LO_BYTE_SHIFT"), (49, .methodref 12 116), (0, .nameAndType 117 118), (0, u "compress"), (0, u "([CI[BII)I"), (3, u "([CII)[B"), (138, u "coderFromArrayLen"), (0, u "([BI)B"), (106, .class_ 371), (1, u "java/lang/StringUTF16$LinesSpliterator"), (58, u "MAX_LENGTH"), (196, .class_ 628), (0, u "java/lang/StringUTF16$CodePointsSpliterator"), (0, .class_ 630), (0, u "java/lang/StringUTF16$CharsSpliterator")] 4

def k8m0 : Method := { name := "<init>", desc := "()V", sig := { parameters := [], returnType := none }, accessFlags := 0, code := none }
def k8c1 : Code := { maxStack := 2, maxLocals := 2, code := jdk_52_method_15_code, exceptionTable := #[], attributes := #[] }
def k8m1 : Method := { name := "coderFromArrayLen", desc := "([BI)B", sig := { parameters := [(.array .byte), .int], returnType := some .byte }, accessFlags := 8, code := some k8c1 }
def k8c2 : Code := { maxStack := 5, maxLocals := 6, code := jdk_52_method_16_code, exceptionTable := #[], attributes := #[] }
def k8m2 : Method := { name := "compress", desc := "([CII)[B", sig := { parameters := [(.array .char), .int, .int], returnType := some (.array .byte) }, accessFlags := 9, code := some k8c2 }
def k8c3 : Code := { maxStack := 3, maxLocals := 7, code := jdk_52_method_21_code, exceptionTable := #[], attributes := #[] }
def k8m3 : Method := { name := "compress", desc := "([CI[BII)I", sig := { parameters := [(.array .char), .int, (.array .byte), .int, .int], returnType := some .int }, accessFlags := 9, code := some k8c3 }
/-- java/lang/StringUTF16 -/
def k8 : Class := { plain "java/lang/StringUTF16" (some 0) with
  accessFlags := 48
  interfaces := #[]
  cf := some (fileOf pool8 12 #[.nestMembers #[627, 629, 369]] #[{ accessFlags := 0, nameIndex := 9, descriptorIndex := 10, attributes := #[] }, { accessFlags := 8, nameIndex := 261, descriptorIndex := 262, attributes := #[] }, { accessFlags := 9, nameIndex := 117, descriptorIndex := 122, attributes := #[] }, { accessFlags := 9, nameIndex := 117, descriptorIndex := 118, attributes := #[] }] 48 6 #[] #[{ accessFlags := 26, nameIndex := 61, descriptorIndex := 62, attributes := #[] }, { accessFlags := 26, nameIndex := 65, descriptorIndex := 62, attributes := #[] }, { accessFlags := 24, nameIndex := 430, descriptorIndex := 62, attributes := #[] }, { accessFlags := 4120, nameIndex := 46, descriptorIndex := 47, attributes := #[] }])
  fields := #[{ name := "HI_BYTE_SHIFT", type := .int, accessFlags := 26, slot := 0, constantValue := 0 }, { name := "LO_BYTE_SHIFT", type := .int, accessFlags := 26, slot := 1, constantValue := 0 }, { name := "MAX_LENGTH", type := .int, accessFlags := 24, slot := 2, constantValue := 0 }, { name := "$assertionsDisabled", type := .boolean, accessFlags := 4120, slot := 3, constantValue := 0 }]
  methods := #[k8m0, k8m1, k8m2, k8m3]
  instanceTypes := #[]
  staticTypes := #[.int, .int, .int, .boolean]
  resolved := Array.replicate 635 none
  statics := none }

def pool9 : Array CpInfo := pool [(1, .class_ 2), (0, u "com/example/majority_lease/majoritylease/core/LeaseNode"), (0, .class_ 4), (0, u "java/lang/Object")] 4

/-- com/example/majority_lease/majoritylease/core/LeaseNode -/
def k9 : Class := { plain "com/example/majority_lease/majoritylease/core/LeaseNode" (some 0) with
  accessFlags := 1537
  interfaces := #[]
  cf := some (fileOf pool9 1 #[] #[] 1537 3 #[] #[])
  fields := #[]
  methods := #[]
  instanceTypes := #[]
  staticTypes := #[]
  resolved := Array.replicate 9 none
  statics := none }

def pool10 : Array CpInfo := pool [(1, .methodref 2 3), (0, .class_ 4), (0, .nameAndType 5 6), (0, u "java/lang/Object"), (0, u "<init>"), (0, u "()V"), (0, .fieldref 8 9), (0, .class_ 10), (0, .nameAndType 11 12), (0, u "com/example/majority_lease/majoritylease/redis/RedisNode"), (0, u "host"), (0, u "Ljava/lang/String;"), (0, .fieldref 8 14), (0, .nameAndType 15 16), (0, u "port"), (0, u "I"), (0, .fieldref 8 18), (0, .nameAndType 19 12), (0, u "user"), (0, .fieldref 8 21), (0, .nameAndType 22 12), (0, u "password"), (0, .fieldref 8 24), (0, .nameAndType 25 26), (0, u "tls"), (0, u "Ljavax/net/ssl/SSLContext;"), (0, .string 11), (0, .methodref 29 30), (0, .class_ 31), (0, .nameAndType 32 33), (0, u "java/util/Objects"), (0, u "requireNonNull"), (0, u "(Ljava/lang/Object;Ljava/lang/String;)Ljava/lang/Object;"), (0, .methodref 35 36), (0, .class_ 37), (0, .nameAndType 38 39), (0, u "java/lang/String"), (0, u "isEmpty"), (0, u "()Z"), (7, .integer 65535), (4, .methodref 8 53), (0, .nameAndType 5 54), (0, u "(Ljava/lang/String;ILjava/lang/String;Ljava/lang/String;Ljavax/net/ssl/SSLContext;)V"), (9, u "()Ljavax/net/ssl/SSLContext;"), (23, u "()Ljava/lang/String;"), (17, .interfaceMethodref 107 108), (0, .class_ 109), (0, .nameAndType 110 111), (0, u "java/util/List"), (0, u "of"), (0, u "()Ljava/util/List;"), (16, .class_ 129), (0, u "com/example/majority_lease/majoritylease/core/LeaseNode"), (0, u "MAX_PORT"), (3, u "at"), (0, u "(Ljava/lang/String;I)Lcom/example/majority_lease/majoritylease/redis/RedisNode;"), (9, u "()I"), (1, u "credentials")] 21

def k10c0 : Code := { maxStack := 2, maxLocals := 6, code := prog_9_method_1_code, exceptionTable := #[], attributes := #[] }
def k10m0 : Method := { name := "<init>", desc := "(Ljava/lang/String;ILjava/lang/String;Ljava/lang/String;Ljavax/net/ssl/SSLContext;)V", sig := { parameters := [(.object "java/lang/String"), .int, (.object "java/lang/String"), (.object "java/lang/String"), (.object "javax/net/ssl/SSLContext")], returnType := none }, accessFlags := 2, code := some k10c0 }
def k10c1 : Code := { maxStack := 7, maxLocals := 2, code := prog_9_method_2_code, exceptionTable := #[], attributes := #[] }
def k10m1 : Method := { name := "at", desc := "(Ljava/lang/String;I)Lcom/example/majority_lease/majoritylease/redis/RedisNode;", sig := { parameters := [(.object "java/lang/String"), .int], returnType := some (.object "com/example/majority_lease/majoritylease/redis/RedisNode") }, accessFlags := 9, code := some k10c1 }
def k10c2 : Code := { maxStack := 1, maxLocals := 1, code := prog_9_method_11_code, exceptionTable := #[], attributes := #[] }
def k10m2 : Method := { name := "host", desc := "()Ljava/lang/String;", sig := { parameters := [], returnType := some (.object "java/lang/String") }, accessFlags := 0, code := some k10c2 }
def k10c3 : Code := { maxStack := 1, maxLocals := 1, code := prog_9_method_12_code, exceptionTable := #[], attributes := #[] }
def k10m3 : Method := { name := "port", desc := "()I", sig := { parameters := [], returnType := some .int }, accessFlags := 0, code := some k10c3 }
def k10c4 : Code := { maxStack := 1, maxLocals := 1, code := prog_9_method_13_code, exceptionTable := #[], attributes := #[] }
def k10m4 : Method := { name := "tls", desc := "()Ljavax/net/ssl/SSLContext;", sig := { parameters := [], returnType := some (.object "javax/net/ssl/SSLContext") }, accessFlags := 0, code := some k10c4 }
def k10c5 : Code := { maxStack := 2, maxLocals := 1, code := prog_9_method_14_code, exceptionTable := #[], attributes := #[] }
def k10m5 : Method := { name := "credentials", desc := "()Ljava/util/List;", sig := { parameters := [], returnType := some (.object "java/util/List") }, accessFlags := 0, code := some k10c5 }
/-- com/example/majority_lease/majoritylease/redis/RedisNode -/
def k10 : Class := { plain "com/example/majority_lease/majoritylease/redis/RedisNode" (some 0) with
  accessFlags := 49
  interfaces := #[9]
  cf := some (fileOf pool10 8 #[] #[{ accessFlags := 2, nameIndex := 5, descriptorIndex := 54, attributes := #[] }, { accessFlags := 9, nameIndex := 134, descriptorIndex := 135, attributes := #[] }, { accessFlags := 0, nameIndex := 11, descriptorIndex := 88, attributes := #[] }, { accessFlags := 0, nameIndex := 15, descriptorIndex := 145, attributes := #[] }, { accessFlags := 0, nameIndex := 25, descriptorIndex := 64, attributes := #[] }, { accessFlags := 0, nameIndex := 147, descriptorIndex := 111, attributes := #[] }] 49 2 #[128] #[{ accessFlags := 26, nameIndex := 130, descriptorIndex := 16, attributes := #[] }, { accessFlags := 18, nameIndex := 11, descriptorIndex := 12, attributes := #[] }, { accessFlags := 18, nameIndex := 15, descriptorIndex := 16, attributes := #[] }, { accessFlags := 18, nameIndex := 19, descriptorIndex := 12, attributes := #[] }, { accessFlags := 18, nameIndex := 22, descriptorIndex := 12, attributes := #[] }, { accessFlags := 18, nameIndex := 25, descriptorIndex := 26, attributes := #[] }])
  fields := #[{ name := "MAX_PORT", type := .int, accessFlags := 26, slot := 0, constantValue := 0 }, { name := "host", type := (.object "java/lang/String"), accessFlags := 18, slot := 0, constantValue := 0 }, { name := "port", type := .int, accessFlags := 18, slot := 1, constantValue := 0 }, { name := "user", type := (.object "java/lang/String"), accessFlags := 18, slot := 2, constantValue := 0 }, { name := "password", type := (.object "java/lang/String"), accessFlags := 18, slot := 3, constantValue := 0 }, { name := "tls", type := (.object "javax/net/ssl/SSLContext"), accessFlags := 18, slot := 4, constantValue := 0 }]
  methods := #[k10m0, k10m1, k10m2, k10m3, k10m4, k10m5]
  instanceTypes := #[(.object "java/lang/String"), .int, (.object "java/lang/String"), (.object "java/lang/String"), (.object "javax/net/ssl/SSLContext")]
  staticTypes := #[.int]
  resolved := Array.replicate 169 none
  statics := none }

def pool11 : Array CpInfo := pool [(2, .class_ 4), (1, u "java/lang/Object"), (0, u "<init>"), (0, u "()V"), (35, .class_ 44), (1, u "java/util/Objects"), (0, u "requireNonNull"), (48, u "(Ljava/lang/Object;Ljava/lang/String;)Ljava/lang/Object;")] 89

def k11m0 : Method := { name := "<init>", desc := "()V", sig := { parameters := [], returnType := none }, accessFlags := 2, code := none }
def k11c1 : Code := { maxStack := 3, maxLocals := 2, code := jdk_31_method_11_code, exceptionTable := #[], attributes := #[] }
def k11m1 : Method := { name := "requireNonNull", desc := "(Ljava/lang/Object;Ljava/lang/String;)Ljava/lang/Object;", sig := { parameters := [(.object "java/lang/Object"), (.object "java/lang/String")], returnType := some (.object "java/lang/Object") }, accessFlags := 9, code := some k11c1 }
/-- java/util/Objects -/
def k11 : Class := { plain "java/util/Objects" (some 0) with
  accessFlags := 49
  interfaces := #[]
  cf := some (fileOf pool11 42 #[] #[{ accessFlags := 2, nameIndex := 5, descriptorIndex := 6, attributes := #[] }, { accessFlags := 9, nameIndex := 45, descriptorIndex := 94, attributes := #[] }] 49 2 #[] #[])
  fields := #[]
  methods := #[k11m0, k11m1]
  instanceTypes := #[]
  staticTypes := #[]
  resolved := Array.replicate 184 none
  statics := none }

def pool12 : Array CpInfo := pool [(1, .class_ 2), (0, u "java/lang/String"), (1, .class_ 6), (1, u "java/lang/Object"), (0, u "<init>"), (0, u "()V"), (0, .methodref 1 10), (0, .nameAndType 11 12), (0, u "checkIndex"), (0, u "(II)V"), (1, .class_ 16), (1, u "java/lang/StringLatin1"), (36, u "([BI)C"), (67, u "$assertionsDisabled"), (0, u "Z"), (98, .class_ 223), (1, u "java/lang/StringLatin1$LinesSpliterator"), (28, u "charAt"), (137, .class_ 391), (0, u "java/lang/StringLatin1$CharsSpliterator")] 3

def k12m0 : Method := { name := "<init>", desc := "()V", sig := { parameters := [], returnType := none }, accessFlags := 0, code := none }
def k12c1 : Code := { maxStack := 2, maxLocals := 2, code := jdk_43_method_2_code, exceptionTable := #[], attributes := #[] }
def k12m1 : Method := { name := "charAt", desc := "([BI)C", sig := { parameters := [(.array .byte), .int], returnType := some .char }, accessFlags := 9, code := some k12c1 }
/-- java/lang/StringLatin1 -/
def k12 : Class := { plain "java/lang/StringLatin1" (some 0) with
  accessFlags := 48
  interfaces := #[]
  cf := some (fileOf pool12 14 #[.nestMembers #[390, 221]] #[{ accessFlags := 0, nameIndex := 7, descriptorIndex := 8, attributes := #[] }, { accessFlags := 9, nameIndex := 252, descriptorIndex := 53, attributes := #[] }] 48 4 #[] #[{ accessFlags := 4120, nameIndex := 121, descriptorIndex := 122, attributes := #[] }])
  fields := #[{ name := "$assertionsDisabled", type := .boolean, accessFlags := 4120, slot := 0, constantValue := 0 }]
  methods := #[k12m0, k12m1]
  instanceTypes := #[]
  staticTypes := #[.boolean]
  resolved := Array.replicate 395 none
  statics := none }

def pool13 : Array CpInfo := pool [(2, .class_ 4), (1, u "java/lang/Object"), (0, u "<init>"), (0, u "()V"), (17, .class_ 26), (1, u "jdk/internal/util/Preconditions"), (6, u "checkIndex"), (21, .class_ 56), (0, u "jdk/internal/util/Preconditions$4"), (57, .class_ 115), (0, u "jdk/internal/util/Preconditions$1"), (7, u "SIOOBE_FORMATTER"), (0, u "Ljava/util/function/BiFunction;"), (0, .class_ 126), (0, u "jdk/internal/util/Preconditions$2"), (3, u "AIOOBE_FORMATTER"), (0, .class_ 132), (0, u "jdk/internal/util/Preconditions$3"), (3, u "IOOBE_FORMATTER"), (41, u "(IILjava/util/function/BiFunction;)I")] 15

def k13m0 : Method := { name := "<init>", desc := "()V", sig := { parameters := [], returnType := none }, accessFlags := 1, code := none }
def k13c1 : Code := { maxStack := 3, maxLocals := 3, code := jdk_41_method_11_code, exceptionTable := #[], attributes := #[] }
def k13m1 : Method := { name := "checkIndex", desc := "(IILjava/util/function/BiFunction;)I", sig := { parameters := [.int, .int, (.object "java/util/function/BiFunction")], returnType := some .int }, accessFlags := 9, code := some k13c1 }
/-- jdk/internal/util/Preconditions -/
def k13 : Class := { plain "jdk/internal/util/Preconditions" (some 0) with
  accessFlags := 33
  interfaces := #[]
  cf := some (fileOf pool13 24 #[.nestMembers #[55, 131, 125, 114]] #[{ accessFlags := 1, nameIndex := 5, descriptorIndex := 6, attributes := #[] }, { accessFlags := 9, nameIndex := 33, descriptorIndex := 178, attributes := #[] }] 33 2 #[] #[{ accessFlags := 25, nameIndex := 123, descriptorIndex := 124, attributes := #[] }, { accessFlags := 25, nameIndex := 130, descriptorIndex := 124, attributes := #[] }, { accessFlags := 25, nameIndex := 136, descriptorIndex := 124, attributes := #[] }])
  fields := #[{ name := "SIOOBE_FORMATTER", type := (.object "java/util/function/BiFunction"), accessFlags := 25, slot := 0, constantValue := 0 }, { name := "AIOOBE_FORMATTER", type := (.object "java/util/function/BiFunction"), accessFlags := 25, slot := 1, constantValue := 0 }, { name := "IOOBE_FORMATTER", type := (.object "java/util/function/BiFunction"), accessFlags := 25, slot := 2, constantValue := 0 }]
  methods := #[k13m0, k13m1]
  instanceTypes := #[]
  staticTypes := #[(.object "java/util/function/BiFunction"), (.object "java/util/function/BiFunction"), (.object "java/util/function/BiFunction")]
  resolved := Array.replicate 194 none
  statics := some 1 }

def pool14 : Array CpInfo := pool [(8, .class_ 10), (1, u "java/lang/Iterable"), (24, .class_ 36), (0, u "java/lang/Object")] 25

/-- java/lang/Iterable -/
def k14 : Class := { plain "java/lang/Iterable" (some 0) with
  accessFlags := 1537
  interfaces := #[]
  cf := some (fileOf pool14 8 #[] #[] 1537 35 #[] #[])
  fields := #[]
  methods := #[]
  instanceTypes := #[]
  staticTypes := #[]
  resolved := Array.replicate 62 none
  statics := none }

def pool15 : Array CpInfo := pool [(10, .class_ 12), (1, u "java/util/Collection"), (47, .class_ 61), (0, u "java/lang/Object"), (0, .class_ 63), (0, u "java/lang/Iterable")] 51

/-- java/util/Collection -/
def k15 : Class := { plain "java/util/Collection" (some 0) with
  accessFlags := 1537
  interfaces := #[14]
  cf := some (fileOf pool15 10 #[] #[] 1537 60 #[62] #[])
  fields := #[]
  methods := #[]
  instanceTypes := #[]
  staticTypes := #[]
  resolved := Array.replicate 115 none
  statics := none }

def pool16 : Array CpInfo := pool [(8, .class_ 10), (1, u "java/util/SequencedCollection"), (15, .class_ 27), (0, u "java/lang/Object"), (0, .class_ 29), (0, u "java/util/Collection")] 27

/-- java/util/SequencedCollection -/
def k16 : Class := { plain "java/util/SequencedCollection" (some 0) with
  accessFlags := 1537
  interfaces := #[15]
  cf := some (fileOf pool16 8 #[] #[] 1537 26 #[28] #[])
  fields := #[]
  methods := #[]
  instanceTypes := #[]
  staticTypes := #[]
  resolved := Array.replicate 57 none
  statics := none }

def pool17 : Array CpInfo := pool [(8, .class_ 10), (1, u "java/util/List"), (68, u "size"), (0, u "()I"), (7, u "of"), (1, .fieldref 91 92), (0, .class_ 93), (0, .nameAndType 94 95), (0, u "java/util/ImmutableCollections"), (0, u "EMPTY_LIST"), (0, u "Ljava/util/ImmutableCollections$ListN;"), (7, .class_ 104), (0, u "java/lang/Object"), (14, u "()Ljava/util/List;"), (0, .class_ 121), (0, u "java/util/SequencedCollection")] 129

def k17m0 : Method := { name := "size", desc := "()I", sig := { parameters := [], returnType := some .int }, accessFlags := 1025, code := none }
def k17c1 : Code := { maxStack := 1, maxLocals := 0, code := jdk_40_method_36_code, exceptionTable := #[], attributes := #[] }
def k17m1 : Method := { name := "of", desc := "()Ljava/util/List;", sig := { parameters := [], returnType := some (.object "java/util/List") }, accessFlags := 9, code := some k17c1 }
/-- java/util/List -/
def k17 : Class := { plain "java/util/List" (some 0) with
  accessFlags := 1537
  interfaces := #[16]
  cf := some (fileOf pool17 8 #[] #[{ accessFlags := 1025, nameIndex := 79, descriptorIndex := 80, attributes := #[] }, { accessFlags := 9, nameIndex := 88, descriptorIndex := 119, attributes := #[] }] 1537 103 #[120] #[])
  fields := #[]
  methods := #[k17m0, k17m1]
  instanceTypes := #[]
  staticTypes := #[]
  resolved := Array.replicate 251 none
  statics := none }

def pool18 : Array CpInfo := pool [(2, .class_ 4), (1, u "java/lang/Object"), (0, u "<init>"), (0, u "()V"), (3, .class_ 11), (0, u "java/util/ImmutableCollections$List12"), (0, .class_ 13), (0, u "java/util/ImmutableCollections$ListN"), (3, u "Z"), (29, .class_ 49), (1, u "java/util/ImmutableCollections"), (0, u "$assertionsDisabled"), (5, u "[Ljava/lang/Object;"), (5, u "EMPTY_LIST"), (0, u "Ljava/util/ImmutableCollections$ListN;"), (8, u "EMPTY_LIST_NULLS"), (22, u "SALT32L"), (0, u "J"), (2, u "REVERSE"), (6, u "archivedObjects"), (2, u "EMPTY"), (0, u "Ljava/lang/Object;"), (0, .class_ 112), (0, u "java/util/ImmutableCollections$SetN"), (5, u "EMPTY_SET"), (0, u "Ljava/util/ImmutableCollections$SetN;"), (0, .class_ 121), (0, u "java/util/ImmutableCollections$MapN"), (3, u "EMPTY_MAP"), (0, u "Ljava/util/ImmutableCollections$MapN;"), (4, u "EXPAND_FACTOR"), (0, u "I"), (36, .class_ 170), (0, u "java/util/ImmutableCollections$MapN$MapNIterator"), (0, .class_ 172), (0, u "java/util/ImmutableCollections$MapN$1"), (0, .class_ 174), (0, u "java/util/ImmutableCollections$Map1"), (0, .class_ 176), (0, u "java/util/ImmutableCollections$AbstractImmutableMap"), (0, .class_ 178), (0, u "java/util/ImmutableCollections$SetN$SetNIterator"), (0, .class_ 180), (0, u "java/util/ImmutableCollections$Set12"), (0, .class_ 182), (0, u "java/util/ImmutableCollections$Set12$1"), (0, .class_ 184), (0, u "java/util/ImmutableCollections$AbstractImmutableSet"), (0, .class_ 186), (0, u "java/util/ImmutableCollections$SubList"), (0, .class_ 188), (0, u "java/util/ImmutableCollections$ListItr"), (0, .class_ 190), (0, u "java/util/ImmutableCollections$AbstractImmutableList"), (0, .class_ 192), (0, u "java/util/ImmutableCollections$AbstractImmutableCollection"), (0, .class_ 194), (0, u "java/util/ImmutableCollections$Access"), (0, .class_ 196), (0, u "java/util/ImmutableCollections$Access$1")] 16

def k18m0 : Method := { name := "<init>", desc := "()V", sig := { parameters := [], returnType := none }, accessFlags := 2, code := none }
/-- java/util/ImmutableCollections -/
def k18 : Class := { plain "java/util/ImmutableCollections" (some 0) with
  accessFlags := 32
  interfaces := #[]
  cf := some (fileOf pool18 47 #[.nestMembers #[120, 169, 171, 173, 175, 111, 177, 179, 181, 183, 12, 10, 185, 187, 189, 191, 193, 195]] #[{ accessFlags := 2, nameIndex := 5, descriptorIndex := 6, attributes := #[] }] 32 2 #[] #[{ accessFlags := 26, nameIndex := 95, descriptorIndex := 96, attributes := #[] }, { accessFlags := 26, nameIndex := 99, descriptorIndex := 17, attributes := #[] }, { accessFlags := 10, nameIndex := 106, descriptorIndex := 56, attributes := #[] }, { accessFlags := 26, nameIndex := 109, descriptorIndex := 110, attributes := #[] }, { accessFlags := 24, nameIndex := 62, descriptorIndex := 63, attributes := #[] }, { accessFlags := 24, nameIndex := 72, descriptorIndex := 63, attributes := #[] }, { accessFlags := 24, nameIndex := 118, descriptorIndex := 119, attributes := #[] }, { accessFlags := 24, nameIndex := 125, descriptorIndex := 126, attributes := #[] }, { accessFlags := 24, nameIndex := 131, descriptorIndex := 132, attributes := #[] }, { accessFlags := 4120, nameIndex := 50, descriptorIndex := 17, attributes := #[] }])
  fields := #[{ name := "SALT32L", type := .long, accessFlags := 26, slot := 0, constantValue := 0 }, { name := "REVERSE", type := .boolean, accessFlags := 26, slot := 1, constantValue := 0 }, { name := "archivedObjects", type := (.array (.object "java/lang/Object")), accessFlags := 10, slot := 2, constantValue := 0 }, { name := "EMPTY", type := (.object "java/lang/Object"), accessFlags := 26, slot := 3, constantValue := 0 }, { name := "EMPTY_LIST", type := (.object "java/util/ImmutableCollections$ListN"), accessFlags := 24, slot := 4, constantValue := 0 }, { name := "EMPTY_LIST_NULLS", type := (.object "java/util/ImmutableCollections$ListN"), accessFlags := 24, slot := 5, constantValue := 0 }, { name := "EMPTY_SET", type := (.object "java/util/ImmutableCollections$SetN"), accessFlags := 24, slot := 6, constantValue := 0 }, { name := "EMPTY_MAP", type := (.object "java/util/ImmutableCollections$MapN"), accessFlags := 24, slot := 7, constantValue := 0 }, { name := "EXPAND_FACTOR", type := .int, accessFlags := 24, slot := 8, constantValue := 0 }, { name := "$assertionsDisabled", type := .boolean, accessFlags := 4120, slot := 9, constantValue := 0 }]
  methods := #[k18m0]
  instanceTypes := #[]
  staticTypes := #[.long, .boolean, (.array (.object "java/lang/Object")), (.object "java/lang/Object"), (.object "java/util/ImmutableCollections$ListN"), (.object "java/util/ImmutableCollections$ListN"), (.object "java/util/ImmutableCollections$SetN"), (.object "java/util/ImmutableCollections$MapN"), .int, .boolean]
  resolved := Array.replicate 213 none
  statics := some 2 }

def pool19 : Array CpInfo := pool [(2, .class_ 4), (1, u "java/lang/Object"), (0, u "<init>"), (0, u "()V"), (1, .class_ 10), (1, u "java/util/AbstractCollection"), (66, .class_ 78), (0, u "java/util/Collection")] 81

def k19m0 : Method := { name := "<init>", desc := "()V", sig := { parameters := [], returnType := none }, accessFlags := 4, code := none }
/-- java/util/AbstractCollection -/
def k19 : Class := { plain "java/util/AbstractCollection" (some 0) with
  accessFlags := 1057
  interfaces := #[15]
  cf := some (fileOf pool19 8 #[] #[{ accessFlags := 4, nameIndex := 5, descriptorIndex := 6, attributes := #[] }] 1057 2 #[77] #[])
  fields := #[]
  methods := #[k19m0]
  instanceTypes := #[]
  staticTypes := #[]
  resolved := Array.replicate 160 none
  statics := none }

def pool20 : Array CpInfo := pool [(2, .class_ 4), (1, u "java/util/AbstractCollection"), (0, u "<init>"), (0, u "()V"), (1, .class_ 10), (1, u "java/util/ImmutableCollections"), (2, .class_ 14), (0, u "java/util/ImmutableCollections$AbstractImmutableCollection")] 41

def k20m0 : Method := { name := "<init>", desc := "()V", sig := { parameters := [], returnType := none }, accessFlags := 0, code := none }
/-- java/util/ImmutableCollections$AbstractImmutableCollection -/
def k20 : Class := { plain "java/util/ImmutableCollections$AbstractImmutableCollection" (some 19) with
  accessFlags := 1056
  interfaces := #[]
  cf := some (fileOf pool20 13 #[.nestHost 8] #[{ accessFlags := 0, nameIndex := 5, descriptorIndex := 6, attributes := #[] }] 1056 2 #[] #[])
  fields := #[]
  methods := #[k20m0]
  instanceTypes := #[]
  staticTypes := #[]
  resolved := Array.replicate 56 none
  statics := none }

def pool21 : Array CpInfo := pool [(1, .class_ 2), (0, u "java/util/RandomAccess"), (0, .class_ 4), (0, u "java/lang/Object")] 2

/-- java/util/RandomAccess -/
def k21 : Class := { plain "java/util/RandomAccess" (some 0) with
  accessFlags := 1537
  interfaces := #[]
  cf := some (fileOf pool21 1 #[] #[] 1537 3 #[] #[])
  fields := #[]
  methods := #[]
  instanceTypes := #[]
  staticTypes := #[]
  resolved := Array.replicate 7 none
  statics := none }

def pool22 : Array CpInfo := pool [(2, .class_ 4), (1, u "java/util/ImmutableCollections$AbstractImmutableCollection"), (0, u "<init>"), (0, u "()V"), (1, .class_ 10), (1, u "java/util/ImmutableCollections"), (3, .class_ 16), (1, u "java/util/ImmutableCollections$AbstractImmutableList"), (60, .class_ 78), (0, u "java/util/List"), (45, .class_ 125), (0, u "java/util/RandomAccess")] 70

def k22m0 : Method := { name := "<init>", desc := "()V", sig := { parameters := [], returnType := none }, accessFlags := 0, code := none }
/-- java/util/ImmutableCollections$AbstractImmutableList -/
def k22 : Class := { plain "java/util/ImmutableCollections$AbstractImmutableList" (some 20) with
  accessFlags := 1056
  interfaces := #[17, 21]
  cf := some (fileOf pool22 14 #[.nestHost 8] #[{ accessFlags := 0, nameIndex := 5, descriptorIndex := 6, attributes := #[] }] 1056 2 #[77, 124] #[])
  fields := #[]
  methods := #[k22m0]
  instanceTypes := #[]
  staticTypes := #[]
  resolved := Array.replicate 196 none
  statics := none }

def pool23 : Array CpInfo := pool [(2, .class_ 4), (1, u "java/util/ImmutableCollections$AbstractImmutableList"), (2, .fieldref 8 9), (0, .class_ 10), (0, .nameAndType 11 12), (0, u "java/util/ImmutableCollections$ListN"), (0, u "elements"), (0, u "[Ljava/lang/Object;"), (2, u "allowNulls"), (0, u "Z"), (42, .class_ 60), (0, u "java/io/Serializable"), (16, u "size"), (0, u "()I"), (35, .class_ 115), (0, u "java/util/ImmutableCollections")] 3

def k23c0 : Code := { maxStack := 1, maxLocals := 1, code := jdk_45_method_3_code, exceptionTable := #[], attributes := #[] }
def k23m0 : Method := { name := "size", desc := "()I", sig := { parameters := [], returnType := some .int }, accessFlags := 1, code := some k23c0 }
/-- java/util/ImmutableCollections$ListN -/
def k23 : Class := { plain "java/util/ImmutableCollections$ListN" (some 22) with
  accessFlags := 48
  interfaces := #[2]
  cf := some (fileOf pool23 8 #[.nestHost 114] #[{ accessFlags := 1, nameIndex := 77, descriptorIndex := 78, attributes := #[] }] 48 2 #[59] #[{ accessFlags := 18, nameIndex := 11, descriptorIndex := 12, attributes := #[] }, { accessFlags := 18, nameIndex := 15, descriptorIndex := 16, attributes := #[] }])
  fields := #[{ name := "elements", type := (.array (.object "java/lang/Object")), accessFlags := 18, slot := 0, constantValue := 0 }, { name := "allowNulls", type := .boolean, accessFlags := 18, slot := 1, constantValue := 0 }]
  methods := #[k23m0]
  instanceTypes := #[(.array (.object "java/lang/Object")), .boolean]
  staticTypes := #[]
  resolved := Array.replicate 119 none
  statics := none }

def pool24 : Array CpInfo := pool [(9, u "<init>"), (6, .class_ 18), (1, u "java/lang/Object"), (0, u "()V"), (1, .class_ 23), (1, u "jdk/internal/util/ArraysSupport"), (0, u "LOG2_ARRAY_LONG_INDEX_SCALE"), (0, u "I"), (2, u "U"), (0, u "Ljdk/internal/misc/Unsafe;"), (8, u "BIG_ENDIAN"), (0, u "Z"), (8, u "LOG2_BYTE_BIT_SIZE"), (4, u "LOG2_ARRAY_INT_INDEX_SCALE"), (54, u "JLA"), (0, u "Ljdk/internal/access/JavaLangAccess;"), (11, u "LOG2_ARRAY_BOOLEAN_INDEX_SCALE"), (9, u "LOG2_ARRAY_BYTE_INDEX_SCALE"), (5, u "LOG2_ARRAY_CHAR_INDEX_SCALE"), (5, u "LOG2_ARRAY_SHORT_INDEX_SCALE"), (18, u "LOG2_ARRAY_FLOAT_INDEX_SCALE"), (24, u "LOG2_ARRAY_DOUBLE_INDEX_SCALE"), (89, u "T_BOOLEAN"), (2, u "T_CHAR"), (1, u "T_FLOAT"), (1, u "T_DOUBLE"), (1, u "T_BYTE"), (1, u "T_SHORT"), (1, u "T_INT"), (1, u "T_LONG"), (1, u "SOFT_MAX_ARRAY_LENGTH")] 83

def k24m0 : Method := { name := "<init>", desc := "()V", sig := { parameters := [], returnType := none }, accessFlags := 2, code := none }
/-- jdk/internal/util/ArraysSupport -/
def k24 : Class := { plain "jdk/internal/util/ArraysSupport" (some 0) with
  accessFlags := 33
  interfaces := #[]
  cf := some (fileOf pool24 21 #[] #[{ accessFlags := 2, nameIndex := 9, descriptorIndex := 19, attributes := #[] }] 33 16 #[] #[{ accessFlags := 24, nameIndex := 28, descriptorIndex := 29, attributes := #[] }, { accessFlags := 26, nameIndex := 38, descriptorIndex := 39, attributes := #[] }, { accessFlags := 25, nameIndex := 121, descriptorIndex := 25, attributes := #[] }, { accessFlags := 25, nameIndex := 131, descriptorIndex := 25, attributes := #[] }, { accessFlags := 25, nameIndex := 137, descriptorIndex := 25, attributes := #[] }, { accessFlags := 25, nameIndex := 143, descriptorIndex := 25, attributes := #[] }, { accessFlags := 25, nameIndex := 53, descriptorIndex := 25, attributes := #[] }, { accessFlags := 25, nameIndex := 24, descriptorIndex := 25, attributes := #[] }, { accessFlags := 25, nameIndex := 162, descriptorIndex := 25, attributes := #[] }, { accessFlags := 25, nameIndex := 187, descriptorIndex := 25, attributes := #[] }, { accessFlags := 26, nameIndex := 48, descriptorIndex := 25, attributes := #[] }, { accessFlags := 25, nameIndex := 277, descriptorIndex := 25, attributes := #[] }, { accessFlags := 25, nameIndex := 280, descriptorIndex := 25, attributes := #[] }, { accessFlags := 25, nameIndex := 282, descriptorIndex := 25, attributes := #[] }, { accessFlags := 25, nameIndex := 284, descriptorIndex := 25, attributes := #[] }, { accessFlags := 25, nameIndex := 286, descriptorIndex := 25, attributes := #[] }, { accessFlags := 25, nameIndex := 288, descriptorIndex := 25, attributes := #[] }, { accessFlags := 25, nameIndex := 290, descriptorIndex := 25, attributes := #[] }, { accessFlags := 25, nameIndex := 292, descriptorIndex := 25, attributes := #[] }, { accessFlags := 26, nameIndex := 108, descriptorIndex := 109, attributes := #[] }, { accessFlags := 25, nameIndex := 294, descriptorIndex := 25, attributes := #[] }])
  fields := #[{ name := "U", type := (.object "jdk/internal/misc/Unsafe"), accessFlags := 24, slot := 0, constantValue := 0 }, { name := "BIG_ENDIAN", type := .boolean, accessFlags := 26, slot := 1, constantValue := 0 }, { name := "LOG2_ARRAY_BOOLEAN_INDEX_SCALE", type := .int, accessFlags := 25, slot := 2, constantValue := 0 }, { name := "LOG2_ARRAY_BYTE_INDEX_SCALE", type := .int, accessFlags := 25, slot := 3, constantValue := 0 }, { name := "LOG2_ARRAY_CHAR_INDEX_SCALE", type := .int, accessFlags := 25, slot := 4, constantValue := 0 }, { name := "LOG2_ARRAY_SHORT_INDEX_SCALE", type := .int, accessFlags := 25, slot := 5, constantValue := 0 }, { name := "LOG2_ARRAY_INT_INDEX_SCALE", type := .int, accessFlags := 25, slot := 6, constantValue := 0 }, { name := "LOG2_ARRAY_LONG_INDEX_SCALE", type := .int, accessFlags := 25, slot := 7, constantValue := 0 }, { name := "LOG2_ARRAY_FLOAT_INDEX_SCALE", type := .int, accessFlags := 25, slot := 8, constantValue := 0 }, { name := "LOG2_ARRAY_DOUBLE_INDEX_SCALE", type := .int, accessFlags := 25, slot := 9, constantValue := 0 }, { name := "LOG2_BYTE_BIT_SIZE", type := .int, accessFlags := 26, slot := 10, constantValue := 0 }, { name := "T_BOOLEAN", type := .int, accessFlags := 25, slot := 11, constantValue := 0 }, { name := "T_CHAR", type := .int, accessFlags := 25, slot := 12, constantValue := 0 }, { name := "T_FLOAT", type := .int, accessFlags := 25, slot := 13, constantValue := 0 }, { name := "T_DOUBLE", type := .int, accessFlags := 25, slot := 14, constantValue := 0 }, { name := "T_BYTE", type := .int, accessFlags := 25, slot := 15, constantValue := 0 }, { name := "T_SHORT", type := .int, accessFlags := 25, slot := 16, constantValue := 0 }, { name := "T_INT", type := .int, accessFlags := 25, slot := 17, constantValue := 0 }, { name := "T_LONG", type := .int, accessFlags := 25, slot := 18, constantValue := 0 }, { name := "JLA", type := (.object "jdk/internal/access/JavaLangAccess"), accessFlags := 26, slot := 19, constantValue := 0 }, { name := "SOFT_MAX_ARRAY_LENGTH", type := .int, accessFlags := 25, slot := 20, constantValue := 0 }]
  methods := #[k24m0]
  instanceTypes := #[]
  staticTypes := #[(.object "jdk/internal/misc/Unsafe"), .boolean, .int, .int, .int, .int, .int, .int, .int, .int, .int, .int, .int, .int, .int, .int, .int, .int, .int, (.object "jdk/internal/access/JavaLangAccess"), .int]
  resolved := Array.replicate 378 none
  statics := none }

def pool25 : Array CpInfo := pool [(1, u "java/lang/Cloneable"), (0, .class_ 1), (0, u "java/lang/Object"), (0, .class_ 3)] 3

/-- java/lang/Cloneable -/
def k25 : Class := { plain "java/lang/Cloneable" (some 0) with
  accessFlags := 1537
  interfaces := #[]
  cf := some (fileOf pool25 2 #[] #[] 1537 4 #[] #[])
  fields := #[]
  methods := #[]
  instanceTypes := #[]
  staticTypes := #[]
  resolved := Array.replicate 8 none
  statics := none }

/-- the primitive byte -/
def k26 : Class := { plain "byte" none with kind := .primitive 'B', accessFlags := 0x411 }
/-- [B -/
def k27 : Class := { plain "[B" (some 0) with kind := .array 26 .byte, interfaces := #[25, 2], accessFlags := 1041 }

/-- the primitive char -/
def k28 : Class := { plain "char" none with kind := .primitive 'C', accessFlags := 0x411 }
/-- [C -/
def k29 : Class := { plain "[C" (some 0) with kind := .array 28 .char, interfaces := #[25, 2], accessFlags := 1041 }

/-- the primitive int -/
def k30 : Class := { plain "int" none with kind := .primitive 'I', accessFlags := 0x411 }
/-- [I -/
def k31 : Class := { plain "[I" (some 0) with kind := .array 30 .int, interfaces := #[25, 2], accessFlags := 1041 }

/-- [Ljava/lang/Object; -/
def k32 : Class := { plain "[Ljava/lang/Object;" (some 0) with kind := .array 0 (.object "java/lang/Object"), interfaces := #[25, 2], accessFlags := 1041 }

def heap : Heap := #[{ cls := 7, slots := #[.long 0, .int 1, .null, .int 0, .null, .int 0, .int 0], vm := .statics 7 },
  { cls := 13, slots := #[.null, .null, .null], vm := .statics 13 },
  { cls := 18, slots := #[.long 0, .int 0, .null, .null, .ref 4, .null, .null, .null, .int 0, .int 0], vm := .statics 18 },
  { cls := 32, slots := #[], vm := .none },
  { cls := 23, slots := #[.ref 3, .int 0], vm := .none }]
def classes : Array Class := #[k0, k1, k2, k3, k4, k5, k6, k7, k8, k9, k10, k11, k12, k13, k14, k15, k16, k17, k18, k19, k20, k21, k22, k23, k24, k25, k26, k27, k28, k29, k30, k31, k32]
def interned : List (Array UInt16 × Addr) := []
def slotsUsed : Nat := 22
def theMethod : MethodId := ⟨1, 1⟩
def args0 : Array Value := #[.int 65, .int 66, .int 67, .int 1, .int 80]
def aboutOver (below : List Frame) : State where
  vm := { classes := classes, interned := interned.toArray }
  heap := heap
  slotsUsed := slotsUsed
  threads := #[{ frames := .invoking theMethod args0 :: below }]
def below0 : List Frame := [.native { method := ⟨0, 0⟩, args := #[] }]
def about1 : State := aboutOver below0
def p0 : Program := .bare "" "" ""
def e0 : Env := launch0.env 0 0 0
theorem w_frames : about1.frames = Frame.invoking theMethod args0 :: below0 := rfl
set_option maxRecDepth 65536 in
theorem w_args : argsFit about1.vm theMethod args0 = true := by decide +kernel
set_option maxRecDepth 65536 in
theorem w_heap : heapFits about1 = true := by decide +kernel
set_option maxRecDepth 65536 in
theorem w_runnable : about1.curStatus? = some .runnable := by decide +kernel
set_option maxRecDepth 65536 in
theorem w_alone : about1.alone = true := by decide +kernel
set_option maxRecDepth 65536 in
theorem w_named : about1.methodNamed? x = some theMethod := by decide +kernel
set_option maxRecDepth 65536 in
theorem w_hears : about1.hears theMethod below0 = true := by decide +kernel
set_option maxRecDepth 65536 in
theorem w_ripe : about1.ripe theMethod args0 below0 = true := by decide +kernel
theorem w_running : about1.status = .running := rfl
set_option maxRecDepth 65536 in
theorem w_room : about1.hasRoom e0.platform room_1 = true :=
  launch0.hasRoom_least _ room_1 (by decide +kernel) (by decide +kernel) (by decide +kernel) (by decide +kernel) (by decide +kernel) (by decide +kernel)
theorem allAtoms_all (ts : List Jvm.Cond) (a : Array Jvm.Value) (st : Jvm.State) : (allAtoms ts).before a st = ts.all (fun c => c.before a st) := by
  induction ts with
  | nil => rfl
  | cons c t ih =>
    show (Jvm.Cond.and c (allAtoms t)).before a st = _
    rw [Jvm.Cond.before_and, ih, List.all_cons]
def words1 : List Jvm.Cond := Jvm.Cond.code x code maxLocals ret :: tables_1
/-- a 'code' word, met by the world's own term for the bytes: nothing is compared byte by byte -/
theorem code_word {y : MethodName} {bytes : ByteArray} {mx : Nat} {rt : Option FieldType} {a : Array Value} {s : State} {m : MethodId} {meth : Method} {c : Code} (h1 : s.methodNamed? y = some m) (h2 : s.vm.method? m = some meth) (h3 : meth.code = some c) (h4 : c.code = bytes)
    (h5 : (c.maxLocals == mx && c.exceptionTable.isEmpty && decide (c.maxStack ≤ mostOperands) && decide (meth.sig.returnType = rt) && !meth.locks && decide (parseMethodDescriptor y.desc = some meth.sig)) = true) : (Jvm.Cond.code y bytes mx rt).before a s = true := by
  simp only [Bool.and_eq_true, beq_iff_eq, Bool.not_eq_true', decide_eq_true_eq] at h5
  obtain ⟨⟨⟨⟨⟨g1, g2⟩, g3⟩, g4⟩, g5⟩, g6⟩ := h5
  simp [Cond.before, Cond.holds, Cond.value, h1, h2, h3, h4, g1, g2, g3, g4, g5, g6]
def isCode : Jvm.Cond → Bool
  | .code _ _ _ _ => true
  | _ => false
theorem all_split {L : List Jvm.Cond} {P : Jvm.Cond → Bool} (h1 : L.all (fun c => isCode c || P c) = true) (h2 : ∀ c ∈ L.filter isCode, P c = true) : L.all P = true := by
  refine List.all_eq_true.mpr fun c hc => ?_
  have h := List.all_eq_true.mp h1 c hc
  rcases Bool.eq_false_or_eq_true (isCode c) with hi | hi
  · exact h2 c (List.mem_filter.mpr ⟨hc, hi⟩)
  · simpa [hi] using h
set_option maxRecDepth 65536 in
theorem w_c0 : (Jvm.Cond.code x code maxLocals ret).before args0 about1 = true := code_word (m := ⟨1, 1⟩) (meth := k1m1) (c := k1c1) (by decide +kernel) rfl rfl rfl (by decide +kernel)
set_option maxRecDepth 65536 in
theorem w_c1 : (Jvm.Cond.code ({ cls := "java/lang/String", name := "<init>", desc := "([C)V" } : Jvm.MethodName) jdk_42_method_3_code (2 : Nat) (Option.none : Option Jvm.ClassFile.FieldType)).before args0 about1 = true := code_word (m := ⟨7, 1⟩) (meth := k7m1) (c := k7c1) (by decide +kernel) rfl rfl rfl (by decide +kernel)
set_option maxRecDepth 65536 in
theorem w_c2 : (Jvm.Cond.code ({ cls := "java/lang/String", name := "<init>", desc := "([CIILjava/lang/Void;)V" } : Jvm.MethodName) jdk_42_method_149_code (6 : Nat) (Option.none : Option Jvm.ClassFile.FieldType)).before args0 about1 = true := code_word (m := ⟨7, 5⟩) (meth := k7m5) (c := k7c5) (by decide +kernel) rfl rfl rfl (by decide +kernel)
set_option maxRecDepth 65536 in
theorem w_c3 : (Jvm.Cond.code ({ cls := "java/lang/Object", name := "<init>", desc := "()V" } : Jvm.MethodName) object_method_1_code (1 : Nat) (Option.none : Option Jvm.ClassFile.FieldType)).before args0 about1 = true := code_word (m := ⟨0, 0⟩) (meth := k0m0) (c := k0c0) (by decide +kernel) rfl rfl rfl (by decide +kernel)
set_option maxRecDepth 65536 in
theorem w_c4 : (Jvm.Cond.code ({ cls := "java/lang/StringUTF16", name := "compress", desc := "([CII)[B" } : Jvm.MethodName) jdk_52_method_16_code (6 : Nat) (Option.some (Jvm.ClassFile.FieldType.array Jvm.ClassFile.FieldType.byte))).before args0 about1 = true := code_word (m := ⟨8, 2⟩) (meth := k8m2) (c := k8c2) (by decide +kernel) rfl rfl rfl (by decide +kernel)
set_option maxRecDepth 65536 in
theorem w_c5 : (Jvm.Cond.code ({ cls := "java/lang/StringUTF16", name := "compress", desc := "([CI[BII)I" } : Jvm.MethodName) jdk_52_method_21_code (7 : Nat) (Option.some Jvm.ClassFile.FieldType.int)).before args0 about1 = true := code_word (m := ⟨8, 3⟩) (meth := k8m3) (c := k8c3) (by decide +kernel) rfl rfl rfl (by decide +kernel)
set_option maxRecDepth 65536 in
theorem w_c6 : (Jvm.Cond.code ({ cls := "java/lang/StringUTF16", name := "coderFromArrayLen", desc := "([BI)B" } : Jvm.MethodName) jdk_52_method_15_code (2 : Nat) (Option.some Jvm.ClassFile.FieldType.byte)).before args0 about1 = true := code_word (m := ⟨8, 1⟩) (meth := k8m1) (c := k8c1) (by decide +kernel) rfl rfl rfl (by decide +kernel)
set_option maxRecDepth 65536 in
theorem w_c7 : (Jvm.Cond.code ({ cls := "com/example/majority_lease/majoritylease/redis/RedisNode", name := "at", desc := "(Ljava/lang/String;I)Lcom/example/majority_lease/majoritylease/redis/RedisNode;" } : Jvm.MethodName) prog_9_method_2_code (2 : Nat) (Option.some (Jvm.ClassFile.FieldType.object "com/example/majority_lease/majoritylease/redis/RedisNode"))).before args0 about1 = true := code_word (m := ⟨10, 1⟩) (meth := k10m1) (c := k10c1) (by decide +kernel) rfl rfl rfl (by decide +kernel)
set_option maxRecDepth 65536 in
theorem w_c8 : (Jvm.Cond.code ({ cls := "java/util/Objects", name := "requireNonNull", desc := "(Ljava/lang/Object;Ljava/lang/String;)Ljava/lang/Object;" } : Jvm.MethodName) jdk_31_method_11_code (2 : Nat) (Option.some (Jvm.ClassFile.FieldType.object "java/lang/Object"))).before args0 about1 = true := code_word (m := ⟨11, 1⟩) (meth := k11m1) (c := k11c1) (by decide +kernel) rfl rfl rfl (by decide +kernel)
set_option maxRecDepth 65536 in
theorem w_c9 : (Jvm.Cond.code ({ cls := "java/lang/String", name := "isEmpty", desc := "()Z" } : Jvm.MethodName) jdk_42_method_55_code (1 : Nat) (Option.some Jvm.ClassFile.FieldType.boolean)).before args0 about1 = true := code_word (m := ⟨7, 3⟩) (meth := k7m3) (c := k7c3) (by decide +kernel) rfl rfl rfl (by decide +kernel)
set_option maxRecDepth 65536 in
theorem w_c10 : (Jvm.Cond.code ({ cls := "com/example/majority_lease/majoritylease/redis/RedisNode", name := "<init>", desc := "(Ljava/lang/String;ILjava/lang/String;Ljava/lang/String;Ljavax/net/ssl/SSLContext;)V" } : Jvm.MethodName) prog_9_method_1_code (6 : Nat) (Option.none : Option Jvm.ClassFile.FieldType)).before args0 about1 = true := code_word (m := ⟨10, 0⟩) (meth := k10m0) (c := k10c0) (by decide +kernel) rfl rfl rfl (by decide +kernel)
set_option maxRecDepth 65536 in
theorem w_c11 : (Jvm.Cond.code ({ cls := "com/example/majority_lease/majoritylease/redis/RedisNode", name := "host", desc := "()Ljava/lang/String;" } : Jvm.MethodName) prog_9_method_11_code (1 : Nat) (Option.some (Jvm.ClassFile.FieldType.object "java/lang/String"))).before args0 about1 = true := code_word (m := ⟨10, 2⟩) (meth := k10m2) (c := k10c2) (by decide +kernel) rfl rfl rfl (by decide +kernel)
set_option maxRecDepth 65536 in
theorem w_c12 : (Jvm.Cond.code ({ cls := "java/lang/String", name := "length", desc := "()I" } : Jvm.MethodName) jdk_42_method_54_code (1 : Nat) (Option.some Jvm.ClassFile.FieldType.int)).before args0 about1 = true := code_word (m := ⟨7, 2⟩) (meth := k7m2) (c := k7c2) (by decide +kernel) rfl rfl rfl (by decide +kernel)
set_option maxRecDepth 65536 in
theorem w_c13 : (Jvm.Cond.code ({ cls := "java/lang/String", name := "coder", desc := "()B" } : Jvm.MethodName) jdk_42_method_152_code (1 : Nat) (Option.some Jvm.ClassFile.FieldType.byte)).before args0 about1 = true := code_word (m := ⟨7, 6⟩) (meth := k7m6) (c := k7c6) (by decide +kernel) rfl rfl rfl (by decide +kernel)
set_option maxRecDepth 65536 in
theorem w_c14 : (Jvm.Cond.code ({ cls := "java/lang/String", name := "charAt", desc := "(I)C" } : Jvm.MethodName) jdk_42_method_56_code (2 : Nat) (Option.some Jvm.ClassFile.FieldType.char)).before args0 about1 = true := code_word (m := ⟨7, 4⟩) (meth := k7m4) (c := k7c4) (by decide +kernel) rfl rfl rfl (by decide +kernel)
set_option maxRecDepth 65536 in
theorem w_c15 : (Jvm.Cond.code ({ cls := "java/lang/String", name := "isLatin1", desc := "()Z" } : Jvm.MethodName) jdk_42_method_154_code (1 : Nat) (Option.some Jvm.ClassFile.FieldType.boolean)).before args0 about1 = true := code_word (m := ⟨7, 7⟩) (meth := k7m7) (c := k7c7) (by decide +kernel) rfl rfl rfl (by decide +kernel)
set_option maxRecDepth 65536 in
theorem w_c16 : (Jvm.Cond.code ({ cls := "java/lang/StringLatin1", name := "charAt", desc := "([BI)C" } : Jvm.MethodName) jdk_43_method_2_code (2 : Nat) (Option.some Jvm.ClassFile.FieldType.char)).before args0 about1 = true := code_word (m := ⟨12, 1⟩) (meth := k12m1) (c := k12c1) (by decide +kernel) rfl rfl rfl (by decide +kernel)
set_option maxRecDepth 65536 in
theorem w_c17 : (Jvm.Cond.code ({ cls := "java/lang/String", name := "checkIndex", desc := "(II)V" } : Jvm.MethodName) jdk_42_method_155_code (2 : Nat) (Option.none : Option Jvm.ClassFile.FieldType)).before args0 about1 = true := code_word (m := ⟨7, 8⟩) (meth := k7m8) (c := k7c8) (by decide +kernel) rfl rfl rfl (by decide +kernel)
set_option maxRecDepth 65536 in
theorem w_c18 : (Jvm.Cond.code ({ cls := "jdk/internal/util/Preconditions", name := "checkIndex", desc := "(IILjava/util/function/BiFunction;)I" } : Jvm.MethodName) jdk_41_method_11_code (3 : Nat) (Option.some Jvm.ClassFile.FieldType.int)).before args0 about1 = true := code_word (m := ⟨13, 1⟩) (meth := k13m1) (c := k13c1) (by decide +kernel) rfl rfl rfl (by decide +kernel)
set_option maxRecDepth 65536 in
theorem w_c19 : (Jvm.Cond.code ({ cls := "com/example/majority_lease/majoritylease/redis/RedisNode", name := "port", desc := "()I" } : Jvm.MethodName) prog_9_method_12_code (1 : Nat) (Option.some Jvm.ClassFile.FieldType.int)).before args0 about1 = true := code_word (m := ⟨10, 3⟩) (meth := k10m3) (c := k10c3) (by decide +kernel) rfl rfl rfl (by decide +kernel)
set_option maxRecDepth 65536 in
theorem w_c20 : (Jvm.Cond.code ({ cls := "com/example/majority_lease/majoritylease/redis/RedisNode", name := "tls", desc := "()Ljavax/net/ssl/SSLContext;" } : Jvm.MethodName) prog_9_method_13_code (1 : Nat) (Option.some (Jvm.ClassFile.FieldType.object "javax/net/ssl/SSLContext"))).before args0 about1 = true := code_word (m := ⟨10, 4⟩) (meth := k10m4) (c := k10c4) (by decide +kernel) rfl rfl rfl (by decide +kernel)
set_option maxRecDepth 65536 in
theorem w_c21 : (Jvm.Cond.code ({ cls := "com/example/majority_lease/majoritylease/redis/RedisNode", name := "credentials", desc := "()Ljava/util/List;" } : Jvm.MethodName) prog_9_method_14_code (1 : Nat) (Option.some (Jvm.ClassFile.FieldType.object "java/util/List"))).before args0 about1 = true := code_word (m := ⟨10, 5⟩) (meth := k10m5) (c := k10c5) (by decide +kernel) rfl rfl rfl (by decide +kernel)
set_option maxRecDepth 65536 in
theorem w_c22 : (Jvm.Cond.code ({ cls := "java/util/List", name := "of", desc := "()Ljava/util/List;" } : Jvm.MethodName) jdk_40_method_36_code (0 : Nat) (Option.some (Jvm.ClassFile.FieldType.object "java/util/List"))).before args0 about1 = true := code_word (m := ⟨17, 1⟩) (meth := k17m1) (c := k17c1) (by decide +kernel) rfl rfl rfl (by decide +kernel)
set_option maxRecDepth 65536 in
theorem w_c23 : (Jvm.Cond.code ({ cls := "java/util/ImmutableCollections$ListN", name := "size", desc := "()I" } : Jvm.MethodName) jdk_45_method_3_code (1 : Nat) (Option.some Jvm.ClassFile.FieldType.int)).before args0 about1 = true := code_word (m := ⟨23, 0⟩) (meth := k23m0) (c := k23c0) (by decide +kernel) rfl rfl rfl (by decide +kernel)
def codes1 : List Jvm.Cond := [Jvm.Cond.code x code maxLocals ret, Jvm.Cond.code ({ cls := "java/lang/String", name := "<init>", desc := "([C)V" } : Jvm.MethodName) jdk_42_method_3_code (2 : Nat) (Option.none : Option Jvm.ClassFile.FieldType), Jvm.Cond.code ({ cls := "java/lang/String", name := "<init>", desc := "([CIILjava/lang/Void;)V" } : Jvm.MethodName) jdk_42_method_149_code (6 : Nat) (Option.none : Option Jvm.ClassFile.FieldType), Jvm.Cond.code ({ cls := "java/lang/Object", name := "<init>", desc := "()V" } : Jvm.MethodName) object_method_1_code (1 : Nat) (Option.none : Option Jvm.ClassFile.FieldType), Jvm.Cond.code ({ cls := "java/lang/StringUTF16", name := "compress", desc := "([CII)[B" } : Jvm.MethodName) jdk_52_method_16_code (6 : Nat) (Option.some (Jvm.ClassFile.FieldType.array Jvm.ClassFile.FieldType.byte)), Jvm.Cond.code ({ cls := "java/lang/StringUTF16", name := "compress", desc := "([CI[BII)I" } : Jvm.MethodName) jdk_52_method_21_code (7 : Nat) (Option.some Jvm.ClassFile.FieldType.int), Jvm.Cond.code ({ cls := "java/lang/StringUTF16", name := "coderFromArrayLen", desc := "([BI)B" } : Jvm.MethodName) jdk_52_method_15_code (2 : Nat) (Option.some Jvm.ClassFile.FieldType.byte), Jvm.Cond.code ({ cls := "com/example/majority_lease/majoritylease/redis/RedisNode", name := "at", desc := "(Ljava/lang/String;I)Lcom/example/majority_lease/majoritylease/redis/RedisNode;" } : Jvm.MethodName) prog_9_method_2_code (2 : Nat) (Option.some (Jvm.ClassFile.FieldType.object "com/example/majority_lease/majoritylease/redis/RedisNode")), Jvm.Cond.code ({ cls := "java/util/Objects", name := "requireNonNull", desc := "(Ljava/lang/Object;Ljava/lang/String;)Ljava/lang/Object;" } : Jvm.MethodName) jdk_31_method_11_code (2 : Nat) (Option.some (Jvm.ClassFile.FieldType.object "java/lang/Object")), Jvm.Cond.code ({ cls := "java/lang/String", name := "isEmpty", desc := "()Z" } : Jvm.MethodName) jdk_42_method_55_code (1 : Nat) (Option.some Jvm.ClassFile.FieldType.boolean), Jvm.Cond.code ({ cls := "com/example/majority_lease/majoritylease/redis/RedisNode", name := "<init>", desc := "(Ljava/lang/String;ILjava/lang/String;Ljava/lang/String;Ljavax/net/ssl/SSLContext;)V" } : Jvm.MethodName) prog_9_method_1_code (6 : Nat) (Option.none : Option Jvm.ClassFile.FieldType), Jvm.Cond.code ({ cls := "com/example/majority_lease/majoritylease/redis/RedisNode", name := "host", desc := "()Ljava/lang/String;" } : Jvm.MethodName) prog_9_method_11_code (1 : Nat) (Option.some (Jvm.ClassFile.FieldType.object "java/lang/String")), Jvm.Cond.code ({ cls := "java/lang/String", name := "length", desc := "()I" } : Jvm.MethodName) jdk_42_method_54_code (1 : Nat) (Option.some Jvm.ClassFile.FieldType.int), Jvm.Cond.code ({ cls := "java/lang/String", name := "coder", desc := "()B" } : Jvm.MethodName) jdk_42_method_152_code (1 : Nat) (Option.some Jvm.ClassFile.FieldType.byte), Jvm.Cond.code ({ cls := "java/lang/String", name := "charAt", desc := "(I)C" } : Jvm.MethodName) jdk_42_method_56_code (2 : Nat) (Option.some Jvm.ClassFile.FieldType.char), Jvm.Cond.code ({ cls := "java/lang/String", name := "isLatin1", desc := "()Z" } : Jvm.MethodName) jdk_42_method_154_code (1 : Nat) (Option.some Jvm.ClassFile.FieldType.boolean), Jvm.Cond.code ({ cls := "java/lang/StringLatin1", name := "charAt", desc := "([BI)C" } : Jvm.MethodName) jdk_43_method_2_code (2 : Nat) (Option.some Jvm.ClassFile.FieldType.char), Jvm.Cond.code ({ cls := "java/lang/String", name := "checkIndex", desc := "(II)V" } : Jvm.MethodName) jdk_42_method_155_code (2 : Nat) (Option.none : Option Jvm.ClassFile.FieldType), Jvm.Cond.code ({ cls := "jdk/internal/util/Preconditions", name := "checkIndex", desc := "(IILjava/util/function/BiFunction;)I" } : Jvm.MethodName) jdk_41_method_11_code (3 : Nat) (Option.some Jvm.ClassFile.FieldType.int), Jvm.Cond.code ({ cls := "com/example/majority_lease/majoritylease/redis/RedisNode", name := "port", desc := "()I" } : Jvm.MethodName) prog_9_method_12_code (1 : Nat) (Option.some Jvm.ClassFile.FieldType.int), Jvm.Cond.code ({ cls := "com/example/majority_lease/majoritylease/redis/RedisNode", name := "tls", desc := "()Ljavax/net/ssl/SSLContext;" } : Jvm.MethodName) prog_9_method_13_code (1 : Nat) (Option.some (Jvm.ClassFile.FieldType.object "javax/net/ssl/SSLContext")), Jvm.Cond.code ({ cls := "com/example/majority_lease/majoritylease/redis/RedisNode", name := "credentials", desc := "()Ljava/util/List;" } : Jvm.MethodName) prog_9_method_14_code (1 : Nat) (Option.some (Jvm.ClassFile.FieldType.object "java/util/List")), Jvm.Cond.code ({ cls := "java/util/List", name := "of", desc := "()Ljava/util/List;" } : Jvm.MethodName) jdk_40_method_36_code (0 : Nat) (Option.some (Jvm.ClassFile.FieldType.object "java/util/List")), Jvm.Cond.code ({ cls := "java/util/ImmutableCollections$ListN", name := "size", desc := "()I" } : Jvm.MethodName) jdk_45_method_3_code (1 : Nat) (Option.some Jvm.ClassFile.FieldType.int)]
set_option maxRecDepth 65536 in
theorem codes_eq : words1.filter isCode = codes1 := rfl
theorem w_codes : ∀ c ∈ words1.filter isCode, c.before args0 about1 = true := by
  rw [codes_eq]
  intro c hc
  simp only [codes1, List.mem_cons, List.not_mem_nil, or_false] at hc
  rcases hc with rfl | rfl | rfl | rfl | rfl | rfl | rfl | rfl | rfl | rfl | rfl | rfl | rfl | rfl | rfl | rfl | rfl | rfl | rfl | rfl | rfl | rfl | rfl | rfl
  · exact w_c0
  · exact w_c1
  · exact w_c2
  · exact w_c3
  · exact w_c4
  · exact w_c5
  · exact w_c6
  · exact w_c7
  · exact w_c8
  · exact w_c9
  · exact w_c10
  · exact w_c11
  · exact w_c12
  · exact w_c13
  · exact w_c14
  · exact w_c15
  · exact w_c16
  · exact w_c17
  · exact w_c18
  · exact w_c19
  · exact w_c20
  · exact w_c21
  · exact w_c22
  · exact w_c23
set_option maxRecDepth 65536 in
theorem w_t1 : (words1.take 24).all (fun c => isCode c || c.before args0 about1) = true := by decide +kernel
set_option maxRecDepth 65536 in
theorem w_t2 : ((words1.drop 24).take 24).all (fun c => isCode c || c.before args0 about1) = true := by decide +kernel
set_option maxRecDepth 65536 in
theorem w_t3 : (((words1.drop 24).drop 24).take 24).all (fun c => isCode c || c.before args0 about1) = true := by decide +kernel
set_option maxRecDepth 65536 in
theorem w_t4 : ((((words1.drop 24).drop 24).drop 24).take 24).all (fun c => isCode c || c.before args0 about1) = true := by decide +kernel
set_option maxRecDepth 65536 in
theorem w_t5 : (((((words1.drop 24).drop 24).drop 24).drop 24).take 24).all (fun c => isCode c || c.before args0 about1) = true := by decide +kernel
set_option maxRecDepth 65536 in
theorem w_t6 : (((((words1.drop 24).drop 24).drop 24).drop 24).drop 24).all (fun c => isCode c || c.before args0 about1) = true := by decide +kernel
theorem w_tables : (allAtoms (Jvm.Cond.code x code maxLocals ret :: tables_1)).before args0 about1 = true := by
  rw [allAtoms_all]
  show words1.all (fun c => c.before args0 about1) = true
  refine all_split ?_ w_codes
  rw [← List.take_append_drop 24 words1, List.all_append, w_t1, ← List.take_append_drop 24 (words1.drop 24), List.all_append, w_t2, ← List.take_append_drop 24 ((words1.drop 24).drop 24), List.all_append, w_t3, ← List.take_append_drop 24 (((words1.drop 24).drop 24).drop 24), List.all_append, w_t4, ← List.take_append_drop 24 ((((words1.drop 24).drop 24).drop 24).drop 24), List.all_append, w_t5, w_t6]
  rfl
set_option maxRecDepth 65536 in
theorem w_rest : rest_1_c.before args0 about1 = true := by decide +kernel
set_option maxRecDepth 65536 in
theorem w_case : (Jvm.Cond.and given_1 narrow_1).before args0 about1 = true := by decide +kernel
theorem w_applies : (headSpec (Jvm.Cond.code x code maxLocals ret :: tables_1) room_1).applies x e0.platform about1 = true :=
  (Spec.applies_iff w_frames).mpr ⟨w_running, w_runnable, w_alone, w_named, w_hears, w_ripe, w_room, w_tables⟩
theorem atStart : AtStart classFile x code maxLocals ret World_1 tables_1 room_1 Calls_1 rest_1 Pre_1 launch0 p0 e0 about1 theMethod args0 below0 :=
  ⟨lists_1, trivial, launch0.admits_env _ _ _, launch0.least_env, fairChoices_fair.cas, fairChoices_fair.clock, w_frames, w_args, w_heap, w_applies, trivial, w_rest, w_case⟩
end start1
theorem witness_1 : WitnessClaimed_1 := ⟨start1.p0, start1.e0, start1.about1, start1.theMethod, start1.args0, start1.below0, start1.atStart⟩
end Jvm.Pilot.@@N@@
