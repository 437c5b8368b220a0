/- PLAIN: bits shifted up. -/
import Derived.Test.YtdkhanfapgnjoaaDoorP3
namespace Go.Proofs.YtdkhanfapgnjoaaDoor
set_option linter.unusedVariables false
set_option linter.unusedSimpArgs false

def shR (g : Nat → Bool) (n : Nat) : Nat → Bool := fun k => decide (n ≤ k) && g (k - n)

theorem shR_wd (g : Nat → Bool) (n j : Nat) (hs : n % 64 ≠ 0) : (Bit.wd g (j + 1) * 2 ^ (n % 64) % 18446744073709551616) ||| (Bit.wd g j / 2 ^ (64 - n % 64)) = Bit.wd (shR g n) (j + 1 + n / 64) := by
  apply Nat.eq_of_testBit_eq
  intro k
  rw [Nat.testBit_or, Nat.testBit_div_two_pow, show (18446744073709551616 : Nat) = 2 ^ 64 from rfl, Nat.testBit_mod_two_pow, Nat.mul_comm, Nat.testBit_two_pow_mul, Bit.wd_test, Bit.wd_test, Bit.wd_test]
  by_cases hk : k < 64
  · have h0 : n ≤ 64 * (j + 1 + n / 64) + k := by omega
    by_cases h1 : n % 64 ≤ k
    · have e : 64 * (j + 1 + n / 64) + k - n = 64 * (j + 1) + (k - n % 64) := by omega
      have h2 : k - n % 64 < 64 := by omega
      have h3 : ¬ k + (64 - n % 64) < 64 := by omega
      simp [shR, hk, h0, h1, h2, h3, e]
    · have e : 64 * (j + 1 + n / 64) + k - n = 64 * j + (k + (64 - n % 64)) := by omega
      have h3 : k + (64 - n % 64) < 64 := by omega
      simp [shR, hk, h0, h1, h3, e]
  · have h3 : ¬ k + (64 - n % 64) < 64 := by omega
    simp [hk, h3]
theorem shR_wd0 (g : Nat → Bool) (n : Nat) : (Bit.wd g 0 * 2 ^ (n % 64) % 18446744073709551616) = Bit.wd (shR g n) (n / 64) := by
  apply Nat.eq_of_testBit_eq
  intro k
  rw [show (18446744073709551616 : Nat) = 2 ^ 64 from rfl, Nat.testBit_mod_two_pow, Nat.mul_comm, Nat.testBit_two_pow_mul, Bit.wd_test, Bit.wd_test]
  by_cases hk : k < 64
  · by_cases h1 : n % 64 ≤ k
    · have e : 64 * (n / 64) + k - n = k - n % 64 := by omega
      have h2 : k - n % 64 < 64 := by omega
      have h0 : n ≤ 64 * (n / 64) + k := by omega
      simp [shR, hk, h0, h1, h2, e]
    · have h0 : ¬ n ≤ 64 * (n / 64) + k := by omega
      simp [shR, hk, h0, h1]
  · simp [hk]
theorem shR_wdTop (g : Nat → Bool) (n j : Nat) (hs : n % 64 ≠ 0) (h : Bit.wd g (j + 1) = 0) : (Bit.wd g j / 2 ^ (64 - n % 64)) = Bit.wd (shR g n) (j + 1 + n / 64) := by
  rw [← shR_wd g n j hs, h, Nat.zero_mul, Nat.zero_mod, Nat.zero_or]
theorem shR_pages (g : Nat → Bool) (n j : Nat) (hs : n % 64 = 0) : Bit.wd g j = Bit.wd (shR g n) (j + n / 64) := Bit.wd_eq (Bit.wd_lt _ _) fun k hk => by
  have h0 : n ≤ 64 * (j + n / 64) + k := by omega
  have e : 64 * (j + n / 64) + k - n = 64 * j + k := by omega
  simp [shR, h0, e, Bit.wd_test, hk]
theorem shR_low (g : Nat → Bool) (n j : Nat) (h : j < n / 64) : Bit.wd (shR g n) j = 0 := Bit.wd_zero fun k hk => by
  have h0 : ¬ n ≤ 64 * j + k := by omega
  simp [shR, h0]
theorem shR_high (g : Nat → Bool) (n t j : Nat) (ht : ∀ k, t < k → g k = false) (h : t + n < 64 * j) : Bit.wd (shR g n) j = 0 := Bit.wd_zero fun k hk => by
  unfold shR; rw [ht _ (by omega), Bool.and_false]
theorem shR_zero (g : Nat → Bool) : shR g 0 = g := by funext k; simp [shR]
theorem shR_none (g : Nat → Bool) (n : Nat) (h : ∀ k, g k = false) : shR g n = g := by funext k; simp [shR, h]
theorem shR_off {g : Nat → Bool} {n t k : Nat} (ht : ∀ k, t < k → g k = false) (h : t + n < k) : shR g n k = false := by
  unfold shR; rw [ht _ (by omega), Bool.and_false]
theorem wd_above {g : Nat → Bool} {t j : Nat} (ht : ∀ k, t < k → g k = false) (h : t < 64 * j) : Bit.wd g j = 0 := Bit.wd_zero fun k _ => ht _ (by omega)
/-- A word's highest bit, as a place. -/
theorem place_of (g : Nat → Bool) (m t : Nat) (h1 : (Bit.wd g m).testBit t = true) (h2 : ∀ k, t < k → (Bit.wd g m).testBit k = false) (h3 : ∀ j, m < j → Bit.wd g j = 0) : g (64 * m + t) = true ∧ ∀ k, 64 * m + t < k → g k = false := by
  rw [Bit.wd_test] at h1
  refine ⟨by revert h1; cases g (64 * m + t) <;> simp, fun k hk => ?_⟩
  have e : 64 * (k / 64) + k % 64 = k := by omega
  have hb := Bit.wd_test g (k / 64) (k % 64)
  rw [e] at hb
  have h64 : decide (k % 64 < 64) = true := by simp; omega
  rw [h64, Bool.true_and] at hb
  by_cases hm : k / 64 = m
  · rw [hm, h2 _ (by omega)] at hb; exact hb.symm
  · rw [h3 _ (by omega)] at hb; simpa using hb.symm
end Go.Proofs.YtdkhanfapgnjoaaDoor
