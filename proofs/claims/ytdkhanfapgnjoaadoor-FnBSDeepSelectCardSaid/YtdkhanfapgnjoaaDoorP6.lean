/- PLAIN: a bit deleted, words shifted by one. -/
import Derived.Test.YtdkhanfapgnjoaaDoorP5
namespace Go.Proofs.YtdkhanfapgnjoaaDoor
set_option linter.unusedVariables false
set_option linter.unusedSimpArgs false

/-- The bits without the one at place i. -/
def delR (g : Nat → Bool) (i : Nat) : Nat → Bool := fun k => if k < i then g k else g (k + 1)
/-- DeleteAt ahead of word j: what is below its last bit is done. -/
def delF (g : Nat → Bool) (i j : Nat) : Nat → Bool := fun k => if k + 1 < 64 * j then delR g i k else if k + 1 = 64 * j then false else g k
/-- .. with the last bit of the word ahead. -/
def delH (g : Nat → Bool) (i j : Nat) : Nat → Bool := fun k => if k < 64 * j then delR g i k else g k
/-- The word's own bits below i alone. -/
def delC (g : Nat → Bool) (i : Nat) : Nat → Bool := fun k => if k < 64 * (i / 64) then g k else if k < i then g k else if k < 64 * (i / 64) + 64 then false else g k

theorem delC_wd (g : Nat → Bool) (i : Nat) : Bit.wd g (i / 64) &&& (2 ^ (i % 64) - 1) = Bit.wd (delC g i) (i / 64) := by
  rw [Bit.wd_low (i / 64) _ (by omega), Bit.wd_and]
  exact Bit.wd_congr fun k hk => by
    have e : decide (64 * (i / 64) + k < 64 * (i / 64) + i % 64) = decide (64 * (i / 64) + k < i) := by rw [Bool.eq_iff_iff]; simp; omega
    simp only [delC, e]
    have h1 : ¬ 64 * (i / 64) + k < 64 * (i / 64) := by omega
    have h2 : 64 * (i / 64) + k < 64 * (i / 64) + 64 := by omega
    by_cases h3 : 64 * (i / 64) + k < i
    · simp [h1, h3]
    · simp [h1, h2, h3]
theorem delC_other (g : Nat → Bool) (i j : Nat) (h : j ≠ i / 64) : Bit.wd (delC g i) j = Bit.wd g j := Bit.wd_congr fun k hk => by
  unfold delC
  by_cases h1 : 64 * j + k < 64 * (i / 64)
  · simp [h1]
  · have h2 : ¬ 64 * j + k < 64 * (i / 64) + 64 := by omega
    have h3 : ¬ 64 * j + k < i := by omega
    simp [h1, h2, h3]
/-- The shifted data, masked. -/
theorem delF_first (g : Nat → Bool) (i : Nat) : Bit.wd (delC g i) (i / 64) ||| (((Bit.wd g (i / 64) &&& (18446744073709551616 - 2 ^ (i % 64))) / 2) &&& (18446744073709551616 - 2 ^ (i % 64))) = Bit.wd (delF g i (i / 64 + 1)) (i / 64) := by
  have hlt : (Bit.wd g (i / 64) &&& (18446744073709551616 - 2 ^ (i % 64))) < 18446744073709551616 := Nat.lt_of_le_of_lt Nat.and_le_left (Bit.wd_lt _ _)
  refine Bit.wd_eq (Nat.or_lt_two_pow (n := 64) (Bit.wd_lt _ _) (Nat.lt_of_le_of_lt Nat.and_le_left (by omega))) fun k hk => ?_
  rw [Nat.testBit_or, Nat.testBit_and, Nat.testBit_div_two, Nat.testBit_and, Bit.wd_high (i / 64) _ (by omega), Bit.wd_test, Bit.wd_test, Bit.wd_test, Bit.wd_test]
  have h0 : ¬ 64 * (i / 64) + k < 64 * (i / 64) := by omega
  have h1 : 64 * (i / 64) + k < 64 * (i / 64) + 64 := by omega
  by_cases h3 : 64 * (i / 64) + k < i
  · have h4 : ¬ i % 64 ≤ k := by omega
    have h5 : 64 * (i / 64) + k + 1 < 64 * (i / 64 + 1) := by omega
    simp [delC, delF, delR, hk, h0, h3, h4, h5]
  · have h4 : i % 64 ≤ k := by omega
    have h4' : i % 64 ≤ k + 1 := by omega
    by_cases h6 : k + 1 < 64
    · have h5 : 64 * (i / 64) + k + 1 < 64 * (i / 64 + 1) := by omega
      have e1 : delC g i (64 * (i / 64) + k) = false := by unfold delC; rw [if_neg h0, if_neg h3, if_pos h1]
      have e2 : delF g i (i / 64 + 1) (64 * (i / 64) + k) = g (64 * (i / 64) + (k + 1)) := by unfold delF delR; rw [if_pos h5, if_neg h3, Nat.add_assoc]
      rw [e1, e2]
      simp [hk, h4, h4', h6]
    · have h5 : ¬ 64 * (i / 64) + k + 1 < 64 * (i / 64 + 1) := by omega
      have h7 : 64 * (i / 64) + k + 1 = 64 * (i / 64 + 1) := by omega
      simp [delC, delF, delR, hk, h0, h1, h3, h4, h5, h6, h7]
theorem delF_first_other (g : Nat → Bool) (i j : Nat) (h : j ≠ i / 64) : Bit.wd (delF g i (i / 64 + 1)) j = Bit.wd (delC g i) j := by
  rw [delC_other g i j h]
  exact Bit.wd_congr fun k hk => by
    unfold delF delR
    by_cases h1 : j < i / 64
    · have h2 : 64 * j + k + 1 < 64 * (i / 64 + 1) := by omega
      have h3 : 64 * j + k < i := by omega
      simp [h2, h3]
    · have h2 : ¬ 64 * j + k + 1 < 64 * (i / 64 + 1) := by omega
      have h3 : ¬ 64 * j + k + 1 = 64 * (i / 64 + 1) := by omega
      simp [h2, h3]
/-- A round: the lowest bit of word j goes into the word ahead. -/
theorem delH_wd (g : Nat → Bool) (i j : Nat) (hj : i / 64 < j) : Bit.wd (delF g i j) (j - 1) ||| ((Bit.wd (delF g i j) j &&& 1) * 2 ^ 63 % 18446744073709551616) = Bit.wd (delH g i j) (j - 1) := by
  have e1 : (Bit.wd (delF g i j) j &&& 1) = (g (64 * j)).toNat := by
    rw [Nat.and_one_is_mod]
    have h := Bit.wd_test (delF g i j) j 0
    rw [Nat.testBit_zero] at h
    have h2 : delF g i j (64 * j + 0) = g (64 * j) := by unfold delF; rw [if_neg (by omega), if_neg (by omega)]; rfl
    rw [h2] at h
    cases hg : g (64 * j)
    · rw [hg] at h; simp at h; simp; omega
    · rw [hg] at h; simpa using h
  have e2 : ((g (64 * j)).toNat * 2 ^ 63 % 18446744073709551616) = if g (64 * j) then 2 ^ 63 else 0 := by cases g (64 * j) <;> simp
  rw [e1, e2]
  refine Bit.wd_eq (Nat.or_lt_two_pow (n := 64) (Bit.wd_lt _ _) (by split <;> decide)) fun k hk => ?_
  rw [Nat.testBit_or, Bit.wd_test]
  by_cases h6 : k = 63
  · have h1 : ¬ 64 * (j - 1) + k + 1 < 64 * j := by omega
    have h2 : 64 * (j - 1) + k + 1 = 64 * j := by omega
    have h3 : 64 * (j - 1) + k < 64 * j := by omega
    have h4 : ¬ 64 * (j - 1) + k < i := by omega
    subst h6
    have h5 : delH g i j (64 * (j - 1) + 63) = g (64 * j) := by unfold delH delR; rw [if_pos h3, if_neg h4, h2]
    have h7 : delF g i j (64 * (j - 1) + 63) = false := by unfold delF; rw [if_neg h1, if_pos h2]
    rw [h5, h7]
    cases g (64 * j)
    · simp
    · simp; decide
  · have h1 : 64 * (j - 1) + k + 1 < 64 * j := by omega
    have h3 : 64 * (j - 1) + k < 64 * j := by omega
    have h4 : (if g (64 * j) then 2 ^ 63 else 0 : Nat).testBit k = false := by
      split
      · rw [Bit.one_test]; simp; omega
      · simp
    rw [h4]
    simp [delF, delH, hk, h1, h3]
theorem delH_other (g : Nat → Bool) (i j l : Nat) (hl : l ≠ j - 1) : Bit.wd (delH g i j) l = Bit.wd (delF g i j) l := Bit.wd_congr fun k hk => by
  unfold delH delF
  by_cases h1 : l < j
  · have h2 : 64 * l + k < 64 * j := by omega
    have h3 : 64 * l + k + 1 < 64 * j := by omega
    rw [if_pos h2, if_pos h3]
  · have h2 : ¬ 64 * l + k < 64 * j := by omega
    have h3 : ¬ 64 * l + k + 1 < 64 * j := by omega
    have h4 : ¬ 64 * l + k + 1 = 64 * j := by omega
    rw [if_neg h2, if_neg h3, if_neg h4]
theorem delF_wd (g : Nat → Bool) (i j : Nat) (hj : i / 64 < j) : Bit.wd (delH g i j) j / 2 = Bit.wd (delF g i (j + 1)) j := by
  refine Bit.wd_eq (Nat.lt_of_le_of_lt (Nat.div_le_self _ _) (Bit.wd_lt _ _)) fun k hk => ?_
  rw [Nat.testBit_div_two, Bit.wd_test]
  have h0 : ¬ 64 * j + (k + 1) < 64 * j := by omega
  have h1 : ¬ 64 * j + k < i := by omega
  by_cases h6 : k + 1 < 64
  · have h2 : 64 * j + k + 1 < 64 * (j + 1) := by omega
    have e1 : delH g i j (64 * j + (k + 1)) = g (64 * j + (k + 1)) := by unfold delH; rw [if_neg h0]
    have e2 : delF g i (j + 1) (64 * j + k) = g (64 * j + (k + 1)) := by unfold delF delR; rw [if_pos h2, if_neg h1, Nat.add_assoc]
    rw [e1, e2]
    simp [h6]
  · have h2 : ¬ 64 * j + k + 1 < 64 * (j + 1) := by omega
    have h3 : 64 * j + k + 1 = 64 * (j + 1) := by omega
    simp [delF, h2, h3, h6]
theorem delF_other (g : Nat → Bool) (i j l : Nat) (hj : i / 64 < j) (hl : l ≠ j) : Bit.wd (delF g i (j + 1)) l = Bit.wd (delH g i j) l := Bit.wd_congr fun k hk => by
  unfold delH delF
  by_cases h1 : l < j
  · have h2 : 64 * l + k < 64 * j := by omega
    have h3 : 64 * l + k + 1 < 64 * (j + 1) := by omega
    rw [if_pos h2, if_pos h3]
  · have h2 : ¬ 64 * l + k < 64 * j := by omega
    have h3 : ¬ 64 * l + k + 1 < 64 * (j + 1) := by omega
    have h4 : ¬ 64 * l + k + 1 = 64 * (j + 1) := by omega
    rw [if_neg h2, if_neg h3, if_neg h4]
theorem delR_off {g : Nat → Bool} {L i k : Nat} (h : ∀ k, L ≤ k → g k = false) (hi : i < L) (hk : L ≤ k + 1) : delR g i k = false := by
  unfold delR; rw [if_neg (by omega)]; exact h _ hk
theorem delF_off {g : Nat → Bool} {L i j k : Nat} (h : ∀ k, L ≤ k → g k = false) (hi : i < L) (hk : L ≤ k) : delF g i j k = false := by
  unfold delF; split
  · exact delR_off h hi (by omega)
  · split
    · rfl
    · exact h _ hk
theorem delH_off {g : Nat → Bool} {L i j k : Nat} (h : ∀ k, L ≤ k → g k = false) (hi : i < L) (hk : L ≤ k) : delH g i j k = false := by
  unfold delH; split
  · exact delR_off h hi (by omega)
  · exact h _ hk
theorem delC_off {g : Nat → Bool} {L i k : Nat} (h : ∀ k, L ≤ k → g k = false) (hi : i < L) (hk : L ≤ k) : delC g i k = false := by
  have h1 : ¬ k < i := by omega
  have h2 : g k = false := h k hk
  unfold delC; rw [if_neg h1, h2]; simp
theorem delF_end {g : Nat → Bool} {L i n : Nat} (h : ∀ k, L ≤ k → g k = false) (hi : i < L) (hn : L ≤ 64 * n) : delF g i n = delR g i := by
  funext k
  unfold delF
  by_cases h1 : k + 1 < 64 * n
  · rw [if_pos h1]
  · rw [if_neg h1, delR_off h hi (by omega)]
    split
    · rfl
    · exact h k (by omega)
/-- Counts. -/
theorem Bit.cnt_del (g : Nat → Bool) (v : Bool) (i m : Nat) : Bit.cnt (delR (Bit.put g i v) i) (i + m) = Bit.cnt (Bit.put g i false) (i + 1 + m) := by
  rw [Bit.cnt_add, Bit.cnt_add, show Bit.cnt (Bit.put g i false) (i + 1) = Bit.cnt (Bit.put g i false) i from by simp [Bit.cnt, Bit.put]]
  congr 1
  · exact Bit.cnt_congr i fun k hk => by unfold delR Bit.put; rw [if_pos hk, if_neg (by omega), if_neg (by omega)]
  · exact Bit.cnt_congr m fun k hk => by unfold delR Bit.put; rw [if_neg (by omega), if_neg (by omega), if_neg (by omega)]; congr 1; omega
theorem Bit.cnt_clamp {g : Nat → Bool} {L : Nat} (h : ∀ k, L ≤ k → g k = false) (b : Nat) (hb : L ≤ b) : Bit.ones g 0 b = Bit.cnt g L := by
  rw [Bit.ones_clamp h 0 b hb]; unfold Bit.ones; simp [Bit.cnt]
theorem del_same (g : Nat → Bool) (i : Nat) (v u : Bool) : delR (Bit.put g i v) i = delR (Bit.put g i u) i := by
  funext k; unfold delR Bit.put; split
  · rw [if_neg (by omega), if_neg (by omega)]
  · rw [if_neg (by omega), if_neg (by omega)]
end Go.Proofs.YtdkhanfapgnjoaaDoor
