/- WALKS: FlipRange. -/
import Derived.Test.YtdkhanfapgnjoaaDoorWk
namespace Go.Proofs.YtdkhanfapgnjoaaDoor
open Go.RowKit
set_option linter.unusedVariables false
set_option linter.unusedSimpArgs false

theorem all_xor (y : Nat) (h : y < 18446744073709551616) : 18446744073709551615 ^^^ y = 18446744073709551615 - y := by
  apply Nat.eq_of_testBit_eq
  intro k
  rw [Nat.testBit_xor, Bit.compl_test y k h, show 18446744073709551615 = 2 ^ 64 - 1 from rfl, Nat.testBit_two_pow_sub_one]
  by_cases hk : k < 64
  · simp [hk]
  · have : y < 2 ^ k := Nat.lt_of_lt_of_le (show y < 2 ^ 64 from h) (Nat.pow_le_pow_right (by decide) (by omega))
    simp [hk, Nat.testBit_lt_two_pow this]
theorem flip_first (g : Nat → Bool) (s : Nat) : bits BinOp.xor IntKind.u64 ((Bit.wd g (s / 64) : Nat) : Int) (bits BinOp.xor IntKind.u64 IntKind.u64.max (IntKind.u64.wrap (18446744073709551615 * 2 ^ ((s : Int) % 64).toNat))) = ((Bit.wd (preR g s) (s / 64) : Nat) : Int) := by
  have e : ((s : Int) % 64).toNat = s % 64 := by omega
  have hp : 0 < 2 ^ (s % 64) := Nat.pow_pos (by decide)
  have hq := Bit.two_pow_lt64 (s % 64) (by omega)
  rw [e, first_mask _ (by omega), show IntKind.u64.max = ((18446744073709551615 : Nat) : Int) from rfl, u64_xor_nat _ _ (by omega) (high_lt _), all_xor _ (high_lt _), u64_xor_nat _ _ (Bit.wd_lt _ _) (by omega), show 18446744073709551615 - (18446744073709551616 - 2 ^ (s % 64)) = 2 ^ (s % 64) - 1 from by omega, preR_first]
theorem mix_pre (g : Nat → Bool) (s e j : Nat) : Bit.wd (mix j (flipR g s e) (preR g s)) j = Bit.wd (preR g s) j := Bit.wd_congr fun k hk => by unfold mix; rw [if_neg (by omega)]
theorem flip_mid (g : Nat → Bool) (s e j : Nat) (h1 : s / 64 ≤ j) (h2 : j < e / 64) : bits BinOp.xor IntKind.u64 IntKind.u64.max ((Bit.wd (mix j (flipR g s e) (preR g s)) j : Nat) : Int) = ((Bit.wd (flipR g s e) j : Nat) : Int) := by
  rw [mix_pre, show IntKind.u64.max = ((18446744073709551615 : Nat) : Int) from rfl, u64_xor_nat _ _ (by omega) (Bit.wd_lt _ _), all_xor _ (Bit.wd_lt _ _), flipR_mid g s e j h1 h2]
theorem flip_last (g : Nat → Bool) (s e t : Nat) (ht : t = (64 - e % 64) % 64) (h0 : t ≠ 0) (hs : s < e) : bits BinOp.xor IntKind.u64 ((Bit.wd (mix (e / 64) (flipR g s e) (preR g s)) (e / 64) : Nat) : Int) ((18446744073709551615 : Int) / 2 ^ ((t : Int) % 64).toNat) = ((Bit.wd (flipR g s e) (e / 64) : Nat) : Int) := by
  rw [mix_pre, show ((t : Int) % 64).toNat = t from by omega, last_mask t (e % 64) (by omega) (by omega), u64_xor_nat _ _ (Bit.wd_lt _ _) (low_lt _ (by omega)), flipR_last g s e hs]
theorem mix_flipR_start (g : Nat → Bool) (s e : Nat) : mix (s / 64) (flipR g s e) (preR g s) = preR g s := by
  funext k; unfold mix; split
  · exact flipR_below g s e k (by assumption)
  · rfl
theorem mix_flipR_end (g : Nat → Bool) (s e m : Nat) (h : e ≤ 64 * m) (hs : s < e) : mix m (flipR g s e) (preR g s) = flipR g s e := by
  funext k; unfold mix; split
  · rfl
  · rw [flipR_above g s e k (by omega), preR_above g s k (by omega)]

end Go.Proofs.YtdkhanfapgnjoaaDoor
