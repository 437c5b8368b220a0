/- WALKS: the word from a place on, the bits between two places. -/
import Derived.Test.YtdkhanfapgnjoaaDoorWn
import Derived.Test.YtdkhanfapgnjoaaDoorWl
namespace Go.Proofs.YtdkhanfapgnjoaaDoor
open Go.RowKit
set_option linter.unusedVariables false
set_option linter.unusedSimpArgs false
theorem word_val (x y n m : Nat) (hx : x < 18446744073709551616) : bits BinOp.or IntKind.u64 ((x : Int) / 2 ^ n) (IntKind.u64.wrap ((y : Int) * 2 ^ m)) = ((x / 2 ^ n ||| y * 2 ^ m % 18446744073709551616 : Nat) : Int) := by
  have e1 : (x : Int) / 2 ^ n = ((x / 2 ^ n : Nat) : Int) := by rw [show (2 : Int) ^ n = ((2 ^ n : Nat) : Int) from (Int.natCast_pow 2 n).symm]; rfl
  have e2 : IntKind.u64.wrap ((y : Int) * 2 ^ m) = ((y * 2 ^ m % 18446744073709551616 : Nat) : Int) := by
    rw [show (2 : Int) ^ m = ((2 ^ m : Nat) : Int) from (Int.natCast_pow 2 m).symm, ← Int.natCast_mul, IntKind.wrap_u64]; rfl
  rw [e1, e2]
  exact u64_or_nat _ _ (Nat.lt_of_le_of_lt (Nat.div_le_self _ _) hx) (Nat.mod_lt _ (by decide))
theorem word_val0 (x n : Nat) (hx : x < 18446744073709551616) : bits BinOp.or IntKind.u64 ((x : Int) / 2 ^ n) 0 = ((x / 2 ^ n ||| 0 * 2 ^ (64 - n) % 18446744073709551616 : Nat) : Int) := by
  have e1 : (x : Int) / 2 ^ n = ((x / 2 ^ n : Nat) : Int) := by rw [show (2 : Int) ^ n = ((2 ^ n : Nat) : Int) from (Int.natCast_pow 2 n).symm]; rfl
  rw [e1, show (0 : Int) = ((0 : Nat) : Int) from rfl, u64_or_nat _ _ (Nat.lt_of_le_of_lt (Nat.div_le_self _ _) hx) (by decide), Nat.zero_mul, Nat.zero_mod]
theorem low_mask (n : Nat) (h : n < 64) : IntKind.u64.wrap (IntKind.u64.wrap (2 ^ n) - 1) = ((2 ^ n - 1 : Nat) : Int) := by
  have hp : 0 < 2 ^ n := Nat.pow_pos (by decide)
  have hq := Bit.two_pow_lt64 n h
  rw [wrap_two n h, show ((2 ^ n : Nat) : Int) - 1 = ((2 ^ n - 1 : Nat) : Int) from by omega]
  exact u64_fit _ (by omega)
theorem mask_in (x a b : Nat) (hx : x < 18446744073709551616) (ha : a < 64) (hb : b < 64) : bits BinOp.and IntKind.u64 (x : Int) (bits BinOp.andNot IntKind.u64 (IntKind.u64.wrap (IntKind.u64.wrap (2 ^ a) - 1)) (IntKind.u64.wrap (IntKind.u64.wrap (2 ^ b) - 1))) = ((x &&& ((2 ^ a - 1) &&& (18446744073709551615 - (2 ^ b - 1))) : Nat) : Int) := by
  rw [low_mask a ha, low_mask b hb, u64_andNot_nat _ _ (low_lt _ (by omega)) (low_lt _ (by omega)), u64_and_nat _ _ hx (Nat.lt_of_le_of_lt Nat.and_le_left (low_lt _ (by omega)))]
theorem mask_from (x b : Nat) (hx : x < 18446744073709551616) (hb : b < 64) : bits BinOp.and IntKind.u64 (x : Int) (bits BinOp.xor IntKind.u64 IntKind.u64.max (IntKind.u64.wrap (IntKind.u64.wrap (2 ^ b) - 1))) = ((x &&& (18446744073709551615 - (2 ^ b - 1)) : Nat) : Int) := by
  rw [low_mask b hb, show IntKind.u64.max = ((18446744073709551615 : Nat) : Int) from rfl, u64_xor_nat _ _ (by omega) (low_lt _ (by omega)), all_xor _ (low_lt _ (by omega)), u64_and_nat _ _ hx (by omega)]
theorem mask_to (x a : Nat) (hx : x < 18446744073709551616) (ha : a < 64) : bits BinOp.and IntKind.u64 (x : Int) (IntKind.u64.wrap (IntKind.u64.wrap (2 ^ a) - 1)) = ((x &&& (2 ^ a - 1) : Nat) : Int) := by
  rw [low_mask a ha, u64_and_nat _ _ hx (low_lt _ (by omega))]
theorem onesCount_of (v : Int) (x : Nat) (hv : v = x) (hx : x < 18446744073709551616) (p : Nat) (hp : Bit.pc x = p) (w : World) :
    Calls Tryd.prog 27 #[.int .u64 v] w fun e w' => e = .returned (.int .i64 (p : Nat)) ∧ w = w' ∧ p ≤ 64 := by
  subst hv hp
  exact (onesCount_any x hx w).mono fun _ _ ⟨h1, h2⟩ => ⟨h1, h2, Bit.pc_le x⟩
theorem popcnt_of (sb o n cap j0 : Nat) (g : Nat → Bool) (w : World) (hn : n ≤ 100000) (hc : ∀ j, j < n → w.cell? ⟨sb, o + j, none⟩ = some (.int .u64 (Bit.wd g (j0 + j) : Nat))) (m : Nat) (hm : Bit.ones g (64 * j0) (64 * (j0 + n)) = m) (v : Value) (hv : v = .slice (some ⟨sb, o, none⟩) n cap) :
    Calls Tryd.prog 26 #[v] w fun e w' => e = .returned (.int .u64 (m : Nat)) ∧ Ch S0 w w' := by
  subst hm hv
  exact popcnt_any sb o n cap j0 g w hn hc

end Go.Proofs.YtdkhanfapgnjoaaDoor
