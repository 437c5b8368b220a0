/- PLAIN: masks of a range of bits. -/
import Derived.Test.YtdkhanfapgnjoaaDoorP
namespace Go.Proofs.YtdkhanfapgnjoaaDoor
set_option linter.unusedVariables false
set_option linter.unusedSimpArgs false

namespace Bit

theorem wd_low (i n : Nat) (hn : n ≤ 64) : 2 ^ n - 1 = wd (fun k => decide (k < 64 * i + n)) i :=
  wd_eq (by have : 2 ^ n ≤ 2 ^ 64 := Nat.pow_le_pow_right (by decide) hn; omega) fun k hk => by
    rw [Nat.testBit_two_pow_sub_one]; congr 1; simp

theorem wd_high (i n : Nat) (hn : n < 64) : 18446744073709551616 - 2 ^ n = wd (fun k => decide (64 * i + n ≤ k)) i := by
  have h := wd_compl (fun k => decide (k < 64 * i + n)) i
  rw [← wd_low i n (by omega)] at h
  have hp : 0 < 2 ^ n := Nat.pow_pos (by decide)
  have hq := two_pow_lt64 n hn
  rw [show 18446744073709551616 - 2 ^ n = 18446744073709551615 - (2 ^ n - 1) from by omega, h]
  exact wd_congr fun k _ => by rw [Bool.eq_iff_iff]; simp

theorem wd_all (i : Nat) : 18446744073709551615 = wd (fun _ => true) i := by
  have h := wd_compl (fun _ => false) i
  rw [wd_zero (fun _ _ => rfl)] at h
  exact h

/-- ~0 << n. -/
theorem shl_all (n : Nat) (hn : n < 64) : 18446744073709551615 * 2 ^ n % 18446744073709551616 = 18446744073709551616 - 2 ^ n := by
  have hp : 0 < 2 ^ n := Nat.pow_pos (by decide)
  have hq := two_pow_lt64 n hn
  have e : 18446744073709551615 * 2 ^ n = (18446744073709551616 - 2 ^ n) + 18446744073709551616 * (2 ^ n - 1) := by
    generalize 2 ^ n = t at *; omega
  rw [e, Nat.add_mul_mod_self_left, Nat.mod_eq_of_lt (by omega)]

/-- ~0 >> n. -/
theorem shr_all (n : Nat) (hn : n ≤ 64) : 18446744073709551615 / 2 ^ n = 2 ^ (64 - n) - 1 := by
  have hp : 0 < 2 ^ n := Nat.pow_pos (by decide)
  have e : 2 ^ (64 - n) * 2 ^ n = 18446744073709551616 := by rw [← Nat.pow_add, Nat.sub_add_cancel hn]; 
  have hq : 0 < 2 ^ (64 - n) := Nat.pow_pos (by decide)
  apply Nat.div_eq_of_lt_le
  · generalize 2 ^ (64 - n) = t at *; rw [Nat.sub_mul, e]; omega
  · rw [Nat.sub_add_cancel hq, e]; decide
end Bit

/-- The bits with a range set, turned. -/
def setR (g : Nat → Bool) (s e : Nat) : Nat → Bool := fun k => g k || (decide (s ≤ k) && decide (k < e))
def flipR (g : Nat → Bool) (s e : Nat) : Nat → Bool := fun k => g k ^^ (decide (s ≤ k) && decide (k < e))

theorem setR_one (g : Nat → Bool) (i : Nat) : setR g i (i + 1) = Bit.put g i true := by
  funext k; by_cases h : k = i
  · subst h; simp [setR, Bit.put]
  · have : (decide (i ≤ k) && decide (k < i + 1)) = false := by simp; omega
    simp only [setR, Bit.put, if_neg h, this, Bool.or_false]
theorem flipR_one (g : Nat → Bool) (i : Nat) : flipR g i (i + 1) = Bit.put g i (!g i) := by
  funext k; by_cases h : k = i
  · subst h; simp [flipR, Bit.put]
  · have : (decide (i ≤ k) && decide (k < i + 1)) = false := by simp; omega
    simp only [flipR, Bit.put, if_neg h, this, Bool.xor_false]

/-- SetRange's words. -/
theorem setR_first (g : Nat → Bool) (s e : Nat) (he : (e - 1) / 64 ≠ s / 64) (hs : s < e) : Bit.wd g (s / 64) ||| (18446744073709551616 - 2 ^ (s % 64)) = Bit.wd (setR g s e) (s / 64) := by
  rw [Bit.wd_high (s / 64) _ (by omega), Bit.wd_or]
  exact Bit.wd_congr fun k hk => by
    have : decide (64 * (s / 64) + s % 64 ≤ 64 * (s / 64) + k) = (decide (s ≤ 64 * (s / 64) + k) && decide (64 * (s / 64) + k < e)) := by
      rw [Bool.eq_iff_iff]; simp; omega
    simp only [setR, this]
theorem setR_mid (g : Nat → Bool) (s e j : Nat) (h1 : s / 64 < j) (h2 : j < (e - 1) / 64) : 18446744073709551615 = Bit.wd (setR g s e) j := by
  rw [Bit.wd_all j]
  exact Bit.wd_congr fun k hk => by
    have : (decide (s ≤ 64 * j + k) && decide (64 * j + k < e)) = true := by simp; omega
    simp only [setR, this, Bool.or_true]
theorem setR_last (g : Nat → Bool) (s e n : Nat) (h1 : s / 64 < (e - 1) / 64) (hn : n = e - 64 * ((e - 1) / 64)) : Bit.wd g ((e - 1) / 64) ||| (2 ^ n - 1) = Bit.wd (setR g s e) ((e - 1) / 64) := by
  subst hn
  rw [Bit.wd_low ((e - 1) / 64) _ (by omega), Bit.wd_or]
  exact Bit.wd_congr fun k hk => by
    have : decide (64 * ((e - 1) / 64) + k < 64 * ((e - 1) / 64) + (e - 64 * ((e - 1) / 64))) = (decide (s ≤ 64 * ((e - 1) / 64) + k) && decide (64 * ((e - 1) / 64) + k < e)) := by
      rw [Bool.eq_iff_iff]; simp; omega
    simp only [setR, this]
theorem setR_only (g : Nat → Bool) (s e n : Nat) (h1 : s / 64 = (e - 1) / 64) (hs : s < e) (hn : n = e - 64 * ((e - 1) / 64)) : Bit.wd g (s / 64) ||| ((18446744073709551616 - 2 ^ (s % 64)) &&& (2 ^ n - 1)) = Bit.wd (setR g s e) (s / 64) := by
  subst hn
  rw [h1, Bit.wd_high ((e - 1) / 64) _ (by omega), Bit.wd_low ((e - 1) / 64) _ (by omega), Bit.wd_and, Bit.wd_or]
  exact Bit.wd_congr fun k hk => by
    have : (decide (64 * ((e - 1) / 64) + s % 64 ≤ 64 * ((e - 1) / 64) + k) && decide (64 * ((e - 1) / 64) + k < 64 * ((e - 1) / 64) + (e - 64 * ((e - 1) / 64)))) = (decide (s ≤ 64 * ((e - 1) / 64) + k) && decide (64 * ((e - 1) / 64) + k < e)) := by
      rw [Bool.eq_iff_iff]; simp; omega
    simp only [setR, this]
theorem setR_below (g : Nat → Bool) (s e k : Nat) (h : k < 64 * (s / 64)) : setR g s e k = g k := by
  have : (decide (s ≤ k) && decide (k < e)) = false := by simp; omega
  simp only [setR, this, Bool.or_false]
theorem setR_above (g : Nat → Bool) (s e k : Nat) (h : e ≤ k) : setR g s e k = g k := by
  have : (decide (s ≤ k) && decide (k < e)) = false := by simp; omega
  simp only [setR, this, Bool.or_false]

/-- FlipRange's words: the first step turns what is ahead of the range in its first word. -/
def preR (g : Nat → Bool) (s : Nat) : Nat → Bool := fun k => g k ^^ (decide (64 * (s / 64) ≤ k) && decide (k < s))
theorem preR_first (g : Nat → Bool) (s : Nat) : Bit.wd g (s / 64) ^^^ (2 ^ (s % 64) - 1) = Bit.wd (preR g s) (s / 64) := by
  rw [Bit.wd_low (s / 64) _ (by omega), Bit.wd_xor]
  exact Bit.wd_congr fun k hk => by
    have : decide (64 * (s / 64) + k < 64 * (s / 64) + s % 64) = (decide (64 * (s / 64) ≤ 64 * (s / 64) + k) && decide (64 * (s / 64) + k < s)) := by
      rw [Bool.eq_iff_iff]; simp; omega
    simp only [preR, this]
theorem preR_other (g : Nat → Bool) (s j : Nat) (h : j ≠ s / 64) : Bit.wd (preR g s) j = Bit.wd g j := Bit.wd_congr fun k hk => by
  have : (decide (64 * (s / 64) ≤ 64 * j + k) && decide (64 * j + k < s)) = false := by simp; omega
  simp only [preR, this, Bool.xor_false]
theorem preR_above (g : Nat → Bool) (s k : Nat) (h : s ≤ k) : preR g s k = g k := by
  have : (decide (64 * (s / 64) ≤ k) && decide (k < s)) = false := by simp; omega
  simp only [preR, this, Bool.xor_false]
theorem flipR_mid (g : Nat → Bool) (s e j : Nat) (h1 : s / 64 ≤ j) (h2 : j < e / 64) : 18446744073709551615 - Bit.wd (preR g s) j = Bit.wd (flipR g s e) j := by
  rw [Bit.wd_compl]
  exact Bit.wd_congr fun k hk => by
    have : (decide (s ≤ 64 * j + k) && decide (64 * j + k < e)) = !(decide (64 * (s / 64) ≤ 64 * j + k) && decide (64 * j + k < s)) := by
      rw [Bool.eq_iff_iff]; simp; omega
    simp only [preR, flipR, this]; cases g (64 * j + k) <;> simp
theorem flipR_last (g : Nat → Bool) (s e : Nat) (hs : s < e) : Bit.wd (preR g s) (e / 64) ^^^ (2 ^ (e % 64) - 1) = Bit.wd (flipR g s e) (e / 64) := by
  rw [Bit.wd_low (e / 64) _ (by omega), Bit.wd_xor]
  exact Bit.wd_congr fun k hk => by
    simp only [preR, flipR]
    by_cases a : s ≤ 64 * (e / 64) + k <;> by_cases b : 64 * (e / 64) + k < e
    · have h1 : ¬ 64 * (e / 64) + k < s := by omega
      have h2 : 64 * (e / 64) + k < 64 * (e / 64) + e % 64 := by omega
      simp [a, b, h1, h2]
    · have h1 : ¬ 64 * (e / 64) + k < s := by omega
      have h2 : ¬ 64 * (e / 64) + k < 64 * (e / 64) + e % 64 := by omega
      simp [a, b, h1, h2]
    · have h1 : 64 * (e / 64) + k < s := by omega
      have h2 : 64 * (e / 64) + k < 64 * (e / 64) + e % 64 := by omega
      have h3 : 64 * (s / 64) ≤ 64 * (e / 64) + k := by omega
      simp [a, b, h1, h2, h3]
    · omega
theorem flipR_at (g : Nat → Bool) (s e j : Nat) (hs : s < e) (he : e % 64 = 0) (hj : e / 64 ≤ j) : Bit.wd (preR g s) j = Bit.wd (flipR g s e) j := Bit.wd_congr fun k hk => by
  have h1 : (decide (64 * (s / 64) ≤ 64 * j + k) && decide (64 * j + k < s)) = false := by simp; omega
  have h2 : (decide (s ≤ 64 * j + k) && decide (64 * j + k < e)) = false := by simp; omega
  simp only [preR, flipR, h1, h2]
theorem flipR_below (g : Nat → Bool) (s e k : Nat) (h : k < 64 * (s / 64)) : flipR g s e k = preR g s k := by
  have h1 : (decide (64 * (s / 64) ≤ k) && decide (k < s)) = false := by simp; omega
  have h2 : (decide (s ≤ k) && decide (k < e)) = false := by simp; omega
  simp only [preR, flipR, h1, h2]
theorem flipR_above (g : Nat → Bool) (s e k : Nat) (h : e ≤ k) : flipR g s e k = g k := by
  have : (decide (s ≤ k) && decide (k < e)) = false := by simp; omega
  simp only [flipR, this, Bool.xor_false]

end Go.Proofs.YtdkhanfapgnjoaaDoor
