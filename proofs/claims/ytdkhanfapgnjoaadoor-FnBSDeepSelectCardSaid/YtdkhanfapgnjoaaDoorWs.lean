/- WALKS: Len64. -/
import Derived.Test.YtdkhanfapgnjoaaDoorChecked
import Derived.Lib.Strings
import Derived.Lib.Slices
import Derived.Lib.Small
import Derived.Lib.Walk
import Derived.Lib.BitFns
import Derived.Lib.ItoaNum
namespace Go.Proofs.YtdkhanfapgnjoaaDoor
set_option linter.unusedVariables false
set_option linter.unusedSimpArgs false

set_option maxHeartbeats 4000000 in
set_option maxRecDepth 100000 in
theorem len64_lib (x : Int) (w : World) (h0 : 0 ≤ x) (h1 : x ≤ 18446744073709551615) :
    Calls Tryd.prog 30 #[.int .u64 x] w fun e w' => e = .returned (.int .i64 (Lib.bitLen x.toNat)) ∧ w' = w := by
  go_enter Tryd.func30, Tryd.ntmps30
  go_wp2
  all_goals (go_ret; refine ⟨congrArg Ending.returned (congrArg (Value.int IntKind.i64) ?_), rfl⟩)
  all_goals first
    | (rw [Lib.len8_of (x / 4294967296 / 65536 / 256 % 256) (by omega) (by omega)]
       have e : (x / 4294967296 / 65536 / 256 % 256).toNat = x.toNat / 72057594037927936 := by omega
       have l := Lib.bitLen_le8' (x / 4294967296 / 65536 / 256 % 256) (by omega) (by omega)
       have s := Lib.bitLen_shift56 x.toNat (by omega) (by omega)
       rw [e] at l ⊢
       omega)
    | (rw [Lib.len8_of (x / 4294967296 / 65536 % 256) (by omega) (by omega)]
       have e : (x / 4294967296 / 65536 % 256).toNat = x.toNat / 281474976710656 := by omega
       have l := Lib.bitLen_le8' (x / 4294967296 / 65536 % 256) (by omega) (by omega)
       have s := Lib.bitLen_shift48 x.toNat (by omega) (by omega)
       rw [e] at l ⊢
       omega)
    | (rw [Lib.len8_of (x / 4294967296 / 256 % 256) (by omega) (by omega)]
       have e : (x / 4294967296 / 256 % 256).toNat = x.toNat / 1099511627776 := by omega
       have l := Lib.bitLen_le8' (x / 4294967296 / 256 % 256) (by omega) (by omega)
       have s := Lib.bitLen_shift40 x.toNat (by omega) (by omega)
       rw [e] at l ⊢
       omega)
    | (rw [Lib.len8_of (x / 4294967296 % 256) (by omega) (by omega)]
       have e : (x / 4294967296 % 256).toNat = x.toNat / 4294967296 := by omega
       have l := Lib.bitLen_le8' (x / 4294967296 % 256) (by omega) (by omega)
       have s := Lib.bitLen_shift32 x.toNat (by omega) (by omega)
       rw [e] at l ⊢
       omega)
    | (rw [Lib.len8_of (x / 65536 / 256 % 256) (by omega) (by omega)]
       have e : (x / 65536 / 256 % 256).toNat = x.toNat / 16777216 := by omega
       have l := Lib.bitLen_le8' (x / 65536 / 256 % 256) (by omega) (by omega)
       have s := Lib.bitLen_shift24 x.toNat (by omega) (by omega)
       rw [e] at l ⊢
       omega)
    | (rw [Lib.len8_of (x / 65536 % 256) (by omega) (by omega)]
       have e : (x / 65536 % 256).toNat = x.toNat / 65536 := by omega
       have l := Lib.bitLen_le8' (x / 65536 % 256) (by omega) (by omega)
       have s := Lib.bitLen_shift16 x.toNat (by omega) (by omega)
       rw [e] at l ⊢
       omega)
    | (rw [Lib.len8_of (x / 256 % 256) (by omega) (by omega)]
       have e : (x / 256 % 256).toNat = x.toNat / 256 := by omega
       have l := Lib.bitLen_le8' (x / 256 % 256) (by omega) (by omega)
       have s := Lib.bitLen_shift8 x.toNat (by omega) (by omega)
       rw [e] at l ⊢
       omega)
    | (rw [Lib.len8_of (x % 256) (by omega) (by omega)]
       have e : (x % 256).toNat = x.toNat := by omega
       have l := Lib.bitLen_le8' (x % 256) (by omega) (by omega)
       rw [e] at l ⊢
       omega)


/-- A word that is not 0 has a highest bit. -/
theorem top_bit {x : Nat} (h0 : x ≠ 0) (hx : x < 18446744073709551616) : ∃ t, t < 64 ∧ Lib.bitLen x = t + 1 ∧ x.testBit t = true ∧ ∀ k, t < k → x.testBit k = false := by
  obtain ⟨h1, h2, h3⟩ := Lib.bitLenAux_bounds 64 x hx h0
  obtain ⟨t, ht⟩ : ∃ t, Lib.bitLenAux 64 x = t + 1 := ⟨Lib.bitLenAux 64 x - 1, by omega⟩
  rw [ht] at h2 h3
  rw [Nat.add_sub_cancel] at h2
  have ht64 : t < 64 := by
    apply Classical.byContradiction
    intro h
    have : 2 ^ 64 ≤ 2 ^ t := Nat.pow_le_pow_right (by decide) (by omega)
    omega
  refine ⟨t, ht64, ht, ?_, fun k hk => Nat.testBit_lt_two_pow (Nat.lt_of_lt_of_le h3 (Nat.pow_le_pow_right (by decide) hk))⟩
  rw [Nat.testBit_eq_decide_div_mod_eq, decide_eq_true_eq]
  have : x / 2 ^ t = 1 := Nat.div_eq_of_lt_le (by omega) (by rw [Nat.pow_succ] at h3; omega)
  rw [this]

theorem len64_of (v : Int) (x : Nat) (hv : v = x) (hx : x < 18446744073709551616) (n : Nat) (hn : Lib.bitLen x = n) (w : World) :
    Calls Tryd.prog 30 #[.int .u64 v] w fun e w' => e = .returned (.int .i64 (n : Nat)) ∧ w = w' := by
  subst hv hn
  refine (len64_lib x w (by omega) (by omega)).mono fun e w' ⟨h1, h2⟩ => ⟨?_, h2.symm⟩
  rw [h1]; rfl

end Go.Proofs.YtdkhanfapgnjoaaDoor
