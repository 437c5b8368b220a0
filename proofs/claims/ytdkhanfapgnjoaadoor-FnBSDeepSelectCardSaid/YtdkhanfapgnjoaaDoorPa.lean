/- PLAIN: the place of the j-th bit of a word, by halves; counted bits and the next one. -/
import Derived.Test.YtdkhanfapgnjoaaDoorP5
namespace Go.Proofs.YtdkhanfapgnjoaaDoor
set_option linter.unusedVariables false
set_option linter.unusedSimpArgs false
namespace Bit

/-- Bits a to a + len of x are those of y; the j-th bit of x is the k-th of y. -/
structure Win (x a len y j k : Nat) : Prop where
  small : y < 2 ^ len
  bits : ∀ i, i < len → y.testBit i = x.testBit (a + i)
  sum : cnt x.testBit a + k = j
  more : k < cnt y.testBit len

theorem cnt_of_small {y n m : Nat} (h : y < 2 ^ n) (hm : n ≤ m) : cnt y.testBit m = cnt y.testBit n := by
  obtain ⟨d, rfl⟩ := Nat.le.dest hm
  rw [cnt_add, cnt_none d fun k hk => Nat.testBit_lt_two_pow (Nat.lt_of_lt_of_le h (Nat.pow_le_pow_right (by omega) (by omega)))]
  omega
theorem pc_small {y n : Nat} (h : y < 2 ^ n) (hn : n ≤ 64) : pc y = cnt y.testBit n := cnt_of_small h hn

theorem Win.start {x j : Nat} (hx : x < 18446744073709551616) (hj : j < pc x) : Win x 0 64 x j j := ⟨hx, fun i _ => by rw [Nat.zero_add], by simp [cnt], hj⟩
theorem Win.low {x a h y j k : Nat} (w : Win x a (2 * h) y j k) (hh : 2 * h ≤ 64) (hk : k < pc (y % 2 ^ h)) : Win x a h (y % 2 ^ h) j k := by
  have hs : y % 2 ^ h < 2 ^ h := Nat.mod_lt _ (Nat.two_pow_pos h)
  refine ⟨hs, fun i hi => ?_, w.sum, by rwa [pc_small hs (by omega)] at hk⟩
  rw [Nat.testBit_mod_two_pow, w.bits i (by omega)]
  simp [hi]
theorem Win.high {x a h y j k : Nat} (w : Win x a (2 * h) y j k) (hh : 2 * h ≤ 64) (hk : pc (y % 2 ^ h) ≤ k) : Win x (a + h) h (y / 2 ^ h) j (k - pc (y % 2 ^ h)) := by
  have hs : y % 2 ^ h < 2 ^ h := Nat.mod_lt _ (Nat.two_pow_pos h)
  rw [pc_small hs (by omega)] at hk ⊢
  have e1 : cnt (y % 2 ^ h).testBit h = cnt y.testBit h := cnt_congr h fun i hi => by rw [Nat.testBit_mod_two_pow]; simp [hi]
  have e2 : cnt y.testBit h = cnt (fun i => x.testBit (a + i)) h := cnt_congr h fun i hi => w.bits i (by omega)
  have e3 : cnt y.testBit (2 * h) = cnt y.testBit h + cnt (fun i => y.testBit (h + i)) h := by rw [show 2 * h = h + h by omega, cnt_add]
  have e4 : cnt (y / 2 ^ h).testBit h = cnt (fun i => y.testBit (h + i)) h := cnt_congr h fun i hi => by rw [Nat.testBit_div_two_pow, Nat.add_comm]
  have hw := w.more
  have hsum := w.sum
  refine ⟨?_, fun i hi => ?_, ?_, ?_⟩
  · have := w.small
    rw [show 2 * h = h + h by omega, Nat.pow_add] at this
    exact Nat.div_lt_of_lt_mul this
  · rw [Nat.testBit_div_two_pow, w.bits _ (by omega)]
    congr 1
    omega
  · rw [cnt_add]; omega
  · omega

theorem Win.fit {x a len y j k : Nat} (w : Win x a len y j k) (h : len ≤ 64) : y < 18446744073709551616 := Nat.lt_of_lt_of_le w.small (Nat.pow_le_pow_right (n := 2) (j := 64) (by omega) h)

/-- Behind c bits of the last window (none of them the k-th). -/
theorem Win.found {x a y j k c : Nat} (w : Win x a 8 y j k) (hc : c < 8) (hb : y / 2 ^ c % 2 = 1) (hk : cnt y.testBit c = k) : x.testBit (a + c) = true ∧ cnt x.testBit (a + c) = j := by
  have h1 := w.bits c hc
  have h2 : y.testBit c = true := by rw [Nat.testBit_eq_decide_div_mod_eq]; simpa using hb
  refine ⟨by rw [← h1, h2], ?_⟩
  have e : cnt (fun i => x.testBit (a + i)) c = cnt y.testBit c := cnt_congr c fun i hi => (w.bits i (by omega)).symm
  rw [cnt_add, e, hk]
  exact w.sum

/-- A word's bits are the set's. -/
theorem wd_found {g : Nat → Bool} {i r l : Nat} (hr : r < 64) (h1 : (wd g i).testBit r = true) (h2 : cnt (wd g i).testBit r = l) : g (64 * i + r) = true ∧ cnt g (64 * i + r) = cnt g (64 * i) + l := by
  rw [wd_test] at h1
  refine ⟨by simpa [hr] using h1, ?_⟩
  rw [cnt_add, ← h2]
  congr 1
  exact cnt_congr r fun k hk => by rw [wd_test]; simp [show k < 64 by omega]
theorem cnt_word (g : Nat → Bool) (i : Nat) : cnt g (64 * (i + 1)) = cnt g (64 * i) + pc (wd g i) := by
  rw [show 64 * (i + 1) = 64 * i + 64 by omega, cnt_add, pc]
  congr 1
  exact cnt_congr 64 fun k hk => by rw [wd_test]; simp [hk]
/-- The low bits of a word, counted. -/
theorem pc_shl {x r : Nat} (hr : r < 64) : pc (x * 2 ^ (63 - r) % 18446744073709551616) = cnt x.testBit (r + 1) := by
  have key : ∀ m, m = (63 - r) + (r + 1) → cnt (x * 2 ^ (63 - r) % 18446744073709551616).testBit m = cnt x.testBit (r + 1) := by
    intro m hm
    rw [hm, cnt_add, cnt_none]
    · rw [Nat.zero_add]
      refine cnt_congr _ fun k hk => ?_
      rw [show (18446744073709551616 : Nat) = 2 ^ 64 from rfl, Nat.testBit_mod_two_pow, Nat.mul_comm, Nat.testBit_two_pow_mul]
      have h1 : 63 - r + k < 64 := by omega
      have h2 : 63 - r + k - (63 - r) = k := by omega
      have h3 : 63 - r ≤ 63 - r + k := by omega
      simp [h1, h2, h3]
    · intro k hk
      rw [show (18446744073709551616 : Nat) = 2 ^ 64 from rfl, Nat.testBit_mod_two_pow, Nat.mul_comm, Nat.testBit_two_pow_mul]
      have h1 : decide (63 - r ≤ k) = false := by simp; omega
      rw [h1]
      simp
  exact key 64 (by omega)
theorem rank_word (g : Nat → Bool) (n : Nat) : cnt g (64 * (n / 64)) + pc (wd g (n / 64) * 2 ^ (63 - n % 64) % 18446744073709551616) = cnt g (n + 1) := by
  have e : n + 1 = 64 * (n / 64) + (n % 64 + 1) := by omega
  have h1 := cnt_add g (64 * (n / 64)) (n % 64 + 1)
  rw [← e] at h1
  have h2 : cnt (wd g (n / 64)).testBit (n % 64 + 1) = cnt (fun k => g (64 * (n / 64) + k)) (n % 64 + 1) := cnt_congr _ fun k hk => by rw [wd_test]; simp [show k < 64 by omega]
  rw [pc_shl (by omega), h1, h2]

/-- The j-th bit is the first one from behind the one before on. -/
theorem cnt_next {g : Nat → Bool} {f j i : Nat} (hf : cnt g f = j) (hi : g i = true) (hc : cnt g i = j) : f ≤ i ∧ (∀ k, f ≤ k → k < i → g k = false) ∧ cnt g (i + 1) = j + 1 := by
  have h1 : cnt g (i + 1) = j + 1 := by rw [cnt_add, hc]; simp [cnt, hi]
  refine ⟨?_, fun k hk hki => ?_, h1⟩
  · apply Nat.le_of_not_lt
    intro h
    have := cnt_mono g (show i + 1 ≤ f from h)
    omega
  · cases hg : g k with
    | false => rfl
    | true =>
      have a1 : cnt g (k + 1) = cnt g k + 1 := by rw [cnt_add]; simp [cnt, hg]
      have a2 := cnt_mono g hk
      have a3 := cnt_mono g (show k + 1 ≤ i from hki)
      omega
/-- Behind the last one there is none. -/
theorem cnt_last {g : Nat → Bool} {L f : Nat} (hoff : ∀ k, L ≤ k → g k = false) (hf : cnt g f = cnt g L) : ∀ k, f ≤ k → g k = false := fun k hk => by
  cases hg : g k with
  | false => rfl
  | true =>
    have hL : k < L := Nat.lt_of_not_le fun h => by rw [hoff k h] at hg; cases hg
    have a1 : cnt g (k + 1) = cnt g k + 1 := by rw [cnt_add]; simp [cnt, hg]
    have a2 := cnt_mono g hk
    have a3 := cnt_mono g (show k + 1 ≤ L from hL)
    omega
theorem cnt_pos {g : Nat → Bool} {i n : Nat} (h : g i = true) (hi : i < n) : 0 < cnt g n := by
  have a1 : cnt g (i + 1) = cnt g i + 1 := by rw [cnt_add]; simp [cnt, h]
  have a3 := cnt_mono g (show i + 1 ≤ n from hi)
  omega
end Bit
end Go.Proofs.YtdkhanfapgnjoaaDoor
