/- WALKS: SetRange, FlipRange. -/
import Derived.Test.YtdkhanfapgnjoaaDoorWh
import Derived.Test.YtdkhanfapgnjoaaDoorP3
namespace Go.Proofs.YtdkhanfapgnjoaaDoor
open Go.RowKit
set_option linter.unusedVariables false
set_option linter.unusedSimpArgs false

theorem wordsIndex_neg (i : Nat) (x : Int) (hx : x = IntKind.u64.wrap (-(i : Int))) (h : i ≤ 1000000) (w : World) : Calls Tryd.prog 23 #[.int .u64 x] w fun e w' => e = .returned (.int .u64 ((64 - i % 64) % 64 : Nat)) ∧ w = w' := by
  have hw : x = ((((18446744073709551616 - i) % 18446744073709551616 : Nat) : Int)) := by
    rw [hx, IntKind.wrap_u64]; omega
  have hm : ((18446744073709551616 - i) % 18446744073709551616) % 64 = (64 - i % 64) % 64 := by omega
  have hb : (18446744073709551616 - i) % 18446744073709551616 < 18446744073709551616 := Nat.mod_lt _ (by decide)
  generalize (18446744073709551616 - i) % 18446744073709551616 = y at *
  subst hw
  clear hx
  rw [← hm]
  go_enter Tryd.func23, Tryd.ntmps23
  go_wp2
  go_ret
  exact ⟨int_eq (by rw [show (63 : Int) = ((63 : Nat) : Int) from rfl, u64_and_nat _ _ hb (by omega), nat_mask6]), rfl⟩

theorem first_mask (n : Nat) (hn : n < 64) : IntKind.u64.wrap (18446744073709551615 * 2 ^ n) = ((18446744073709551616 - 2 ^ n : Nat) : Int) := by
  have e : (18446744073709551615 * 2 ^ n : Int) = ((18446744073709551615 * 2 ^ n : Nat) : Int) := by rw [Int.natCast_mul, Int.natCast_pow]; rfl
  rw [IntKind.wrap_u64, e, ← Bit.shl_all n hn]; rfl
theorem last_mask (n m : Nat) (hn : n ≤ 64) (hm : m = 64 - n) : (18446744073709551615 : Int) / 2 ^ n = ((2 ^ m - 1 : Nat) : Int) := by
  have e : (2 ^ n : Int) = ((2 ^ n : Nat) : Int) := (Int.natCast_pow 2 n).symm
  rw [e, hm, ← Bit.shr_all n hn]; rfl
theorem low_lt (m : Nat) (h : m ≤ 64) : 2 ^ m - 1 < 18446744073709551616 := by
  have : 2 ^ m ≤ 2 ^ 64 := Nat.pow_le_pow_right (by decide) h
  omega
theorem high_lt (m : Nat) : 18446744073709551616 - 2 ^ m < 18446744073709551616 := by
  have : 0 < 2 ^ m := Nat.pow_pos (by decide)
  omega
theorem BS.to {w : World} {b sb L : Nat} {f g : Nat → Bool} (h : BS w b sb L f) (e : f = g) : BS w b sb L g := e ▸ h
theorem mix_setR_start (g : Nat → Bool) (s e : Nat) : mix (s / 64) (setR g s e) g = g := by
  funext k; unfold mix; split
  · exact setR_below g s e k (by assumption)
  · rfl
theorem mix_setR_end (g : Nat → Bool) (s e m : Nat) (h : e ≤ 64 * m) : mix m (setR g s e) g = setR g s e := by
  funext k; unfold mix; split
  · rfl
  · exact (setR_above g s e k (by omega)).symm

end Go.Proofs.YtdkhanfapgnjoaaDoor
