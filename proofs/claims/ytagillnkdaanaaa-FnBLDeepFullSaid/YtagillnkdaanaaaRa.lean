/- PLAIN: the bits of a filter that is looked at (blFilter), word by word. -/
import Derived.Test.YtagillnkdaanaaaP
namespace Go.Proofs.Ytagillnkdaanaaa

/-- The bits below M of the words that came in. -/
def fBits (M len : Nat) (x : Nat → Nat) : Nat → Bool := fun k => decide (k < M) && (decide (k / 64 < len) && (x (k / 64)).testBit (k % 64))

theorem fBits_off {M len : Nat} {x : Nat → Nat} {k : Nat} (h : M ≤ k) : fBits M len x k = false := by
  simp [fBits, show ¬ k < M by omega]
theorem fBits_word {M len j : Nat} {x : Nat → Nat} (hx : x j < 18446744073709551616) (hj : j < len) (h : 64 * j + 64 ≤ M) : x j = Bit.wd (fBits M len x) j := by
  refine Bit.wd_eq hx fun k hk => ?_
  have e1 : (64 * j + k) / 64 = j := by omega
  have e2 : (64 * j + k) % 64 = k := by omega
  simp [fBits, e1, e2, hj, show 64 * j + k < M by omega]
theorem fBits_mask {M len j l : Nat} {x : Nat → Nat} (hx : x j < 18446744073709551616) (hj : j < len) (hl : 64 * j + l = M) (h : l < 64) : x j &&& (2 ^ l - 1) = Bit.wd (fBits M len x) j := by
  refine Bit.wd_eq (Nat.lt_of_le_of_lt Nat.and_le_left hx) fun k hk => ?_
  have e1 : (64 * j + k) / 64 = j := by omega
  have e2 : (64 * j + k) % 64 = k := by omega
  rw [Nat.testBit_and, Nat.testBit_two_pow_sub_one]
  by_cases hk2 : k < l
  · simp [fBits, e1, e2, hj, hk2, show 64 * j + k < M by omega]
  · simp [fBits, hk2, show ¬ 64 * j + k < M by omega]
theorem fBits_zero {M len j : Nat} {x : Nat → Nat} (hj : len ≤ j) : 0 = Bit.wd (fBits M len x) j := by
  refine Bit.wd_eq (by omega) fun k hk => ?_
  have e1 : (64 * j + k) / 64 = j := by omega
  simp [fBits, e1, show ¬ j < len by omega]
/-- All words of ones: the bits below M. -/
theorem fBits_ones {M len : Nat} {x : Nat → Nat} (hx : ∀ j, j < len → x j = 18446744073709551615) (h : M ≤ 64 * len) : fBits M len x = fun k => decide (k < M) := by
  funext k
  by_cases hk : k < M
  · have e : k / 64 < len := by omega
    simp only [fBits, hk, e, hx _ e, decide_true, Bool.true_and]
    rw [show (18446744073709551615 : Nat) = 2 ^ 64 - 1 from rfl, Nat.testBit_two_pow_sub_one]
    simp; omega
  · simp [fBits, hk]
end Go.Proofs.Ytagillnkdaanaaa
