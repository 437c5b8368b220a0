/- PLAIN: the 64 bits from a place on; the words of a counted range. -/
import Derived.Test.YtdkhanfapgnjoaaDoorP4
namespace Go.Proofs.YtdkhanfapgnjoaaDoor
set_option linter.unusedVariables false
set_option linter.unusedSimpArgs false
namespace Bit

/-- The word from place i on. -/
def at64 (g : Nat → Bool) (i : Nat) : Nat := mk (fun k => g (i + k)) 64

theorem at64_test (g : Nat → Bool) (i k : Nat) : (at64 g i).testBit k = (decide (k < 64) && g (i + k)) := mk_test _ _ _
theorem at64_lt (g : Nat → Bool) (i : Nat) : at64 g i < 18446744073709551616 := mk_lt 64 _
theorem at64_pc (g : Nat → Bool) (i : Nat) : pc (at64 g i) = ones g i (i + 64) := by
  rw [ones_eq]; exact cnt_congr 64 fun k hk => by rw [at64_test]; simp [hk]
theorem at64_bit (g : Nat → Bool) (i : Nat) : at64 g i % 2 = (g i).toNat := by
  have h := at64_test g i 0
  rw [Nat.testBit_zero] at h
  simp at h
  cases hg : g i
  · rw [hg] at h; simp at h; simp; omega
  · rw [hg] at h; simpa using h

theorem at64_eq (g : Nat → Bool) (i a b : Nat) (ha : a = wd g (i / 64)) (hb : b = wd g (i / 64 + 1)) : (a / 2 ^ (i % 64)) ||| (b * 2 ^ (64 - i % 64) % 18446744073709551616) = at64 g i := by
  subst ha hb
  apply Nat.eq_of_testBit_eq
  intro k
  rw [Nat.testBit_or, Nat.testBit_div_two_pow, wd_test, at64_test, show (18446744073709551616 : Nat) = 2 ^ 64 from rfl, Nat.testBit_mod_two_pow, Nat.mul_comm (wd g (i / 64 + 1)), Nat.testBit_two_pow_mul, wd_test]
  by_cases hk : k < 64
  · by_cases h2 : k + i % 64 < 64
    · have e : 64 * (i / 64) + (k + i % 64) = i + k := by omega
      have h3 : ¬ 64 - i % 64 ≤ k := by omega
      simp [hk, h2, e, h3]
    · have e : 64 * (i / 64 + 1) + (k - (64 - i % 64)) = i + k := by omega
      have h3 : 64 - i % 64 ≤ k := by omega
      have h4 : k - (64 - i % 64) < 64 := by omega
      simp [hk, h2, e, h3, h4]
  · have h2 : ¬ k + i % 64 < 64 := by omega
    simp [hk, h2]
/-- A word beyond the length is none. -/
theorem wd_none {g : Nat → Bool} {L i : Nat} (h : ∀ k, L ≤ k → g k = false) (hi : L ≤ 64 * i) : wd g i = 0 := wd_zero fun k _ => h _ (by omega)

/-- Counted ranges' words. -/
theorem ones_within (g : Nat → Bool) (s e : Nat) (h : s / 64 = e / 64) (hs : s ≤ e) : pc (wd g (s / 64) &&& ((2 ^ (e % 64) - 1) &&& (18446744073709551615 - (2 ^ (s % 64) - 1)))) = ones g s e := by
  rw [wd_low (s / 64) (e % 64) (by omega), wd_low (s / 64) (s % 64) (by omega), wd_andNot, wd_and]
  refine Eq.trans (congrArg pc (wd_congr fun k hk => ?_)) (pc_and g (s / 64) s e (by omega) hs (by omega))
  have h1 : decide (64 * (s / 64) + k < 64 * (s / 64) + e % 64) = decide (64 * (s / 64) + k < e) := by rw [Bool.eq_iff_iff]; simp; omega
  have h2 : (!decide (64 * (s / 64) + k < 64 * (s / 64) + s % 64)) = decide (s ≤ 64 * (s / 64) + k) := by rw [Bool.eq_iff_iff]; simp; omega
  simp only [h1, h2, Bool.and_comm]
theorem ones_first (g : Nat → Bool) (s : Nat) : pc (wd g (s / 64) &&& (18446744073709551615 - (2 ^ (s % 64) - 1))) = ones g s (64 * (s / 64) + 64) := by
  rw [wd_low (s / 64) (s % 64) (by omega), wd_andNot]
  refine Eq.trans (congrArg pc (wd_congr fun k hk => ?_)) (pc_and g (s / 64) s (64 * (s / 64) + 64) (by omega) (by omega) (by omega))
  have h1 : decide (64 * (s / 64) + k < 64 * (s / 64) + 64) = true := by simp; omega
  have h2 : (!decide (64 * (s / 64) + k < 64 * (s / 64) + s % 64)) = decide (s ≤ 64 * (s / 64) + k) := by rw [Bool.eq_iff_iff]; simp; omega
  simp only [h1, h2, Bool.and_true]
theorem ones_last (g : Nat → Bool) (e : Nat) : pc (wd g (e / 64) &&& (2 ^ (e % 64) - 1)) = ones g (64 * (e / 64)) e := by
  rw [wd_low (e / 64) (e % 64) (by omega), wd_and]
  refine Eq.trans (congrArg pc (wd_congr fun k hk => ?_)) (pc_and g (e / 64) (64 * (e / 64)) e (by omega) (by omega) (by omega))
  have h1 : decide (64 * (e / 64) + k < 64 * (e / 64) + e % 64) = decide (64 * (e / 64) + k < e) := by rw [Bool.eq_iff_iff]; simp; omega
  have h2 : decide (64 * (e / 64) ≤ 64 * (e / 64) + k) = true := by simp
  simp only [h1, h2, Bool.true_and]

theorem ones_le (g : Nat → Bool) (a b : Nat) : ones g a b ≤ b - a := by
  by_cases hab : a ≤ b
  · obtain ⟨n, rfl⟩ := Nat.le.dest hab
    rw [ones_eq]; have := cnt_le (fun k => g (a + k)) n; omega
  · rw [ones_back _ (by omega)]; omega
theorem ones_word (g : Nat → Bool) (a j : Nat) (h : a ≤ 64 * j) : ones g a (64 * (j + 1)) = ones g a (64 * j) + pc (wd g j) := by
  rw [pc_wd, ones_add g h (show 64 * j ≤ 64 * (j + 1) by omega)]; rfl
theorem cnt_bit (x k : Nat) : cnt x.testBit (k + 1) = cnt x.testBit k + x / 2 ^ k % 2 := by
  simp only [cnt]
  have h : x.testBit k = decide (x / 2 ^ k % 2 = 1) := by rw [Nat.testBit_eq_decide_div_mod_eq]
  have h2 : x / 2 ^ k % 2 < 2 := Nat.mod_lt _ (by decide)
  by_cases h3 : x / 2 ^ k % 2 = 1
  · simp [h, h3]
  · have h4 : x / 2 ^ k % 2 = 0 := by omega
    simp [h, h4]
end Bit
end Go.Proofs.YtdkhanfapgnjoaaDoor
