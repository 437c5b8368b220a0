/- PLAIN: what the machine's operators say of small numbers and of single bits. -/
import Derived.Laws.BitsAllLaws
import Derived.Laws.Bits128
import Derived.RowKit
import Derived.Test.YtdcjjicdpoakfaaP
namespace Go.Proofs.Ytdcjjicdpoakfaa
open Go.RowKit
set_option linter.unusedVariables false
set_option linter.unusedSimpArgs false

theorem i64_and_nat (a b : Nat) (ha : a < 9223372036854775808) (hb : b < 9223372036854775808) : bits .and .i64 (a : Int) (b : Int) = ((a &&& b : Nat) : Int) := by
  have hx : a &&& b < 2 ^ 63 := Nat.and_lt_two_pow _ (by omega)
  show IntKind.i64.wrap ((BitVec.ofInt 64 (a : Int) &&& BitVec.ofInt 64 (b : Int)).toNat : Int) = _
  rw [BitVec.toNat_and, ofInt_u64 a (by omega), ofInt_u64 b (by omega), IntKind.wrap_i64]
  omega
theorem i64_xor_nat (a b : Nat) (ha : a < 9223372036854775808) (hb : b < 9223372036854775808) : bits .xor .i64 (a : Int) (b : Int) = ((a ^^^ b : Nat) : Int) := by
  have hx : a ^^^ b < 2 ^ 63 := Nat.xor_lt_two_pow (by omega) (by omega)
  show IntKind.i64.wrap ((BitVec.ofInt 64 (a : Int) ^^^ BitVec.ofInt 64 (b : Int)).toNat : Int) = _
  rw [BitVec.toNat_xor, ofInt_u64 a (by omega), ofInt_u64 b (by omega), IntKind.wrap_i64]
  omega
theorem wrap_i32 (n : Int) : IntKind.i32.wrap n = (n + 2147483648) % 4294967296 - 2147483648 := by
  simp [IntKind.wrap, IntKind.bits, IntKind.signed]
  split <;> omega
theorem i32_bit (X : Int) (j : Nat) (hj : j ≤ 30) : bits .and .i32 X (((2 ^ j : Nat) : Int)) = if X / ((2 ^ j : Nat) : Int) % 2 = 1 then ((2 ^ j : Nat) : Int) else 0 := by
  have hS : 0 < 2 ^ j := Nat.pow_pos (by decide)
  have hS2 : 2 ^ j ≤ 2 ^ 30 := Nat.pow_le_pow_right (by decide) hj
  have hd : 4294967296 = 2 ^ j * (2 * 2 ^ (31 - j)) := by
    have h : 2 ^ j * 2 ^ (31 - j) = 2147483648 := by rw [← Nat.pow_add, show j + (31 - j) = 31 from by omega]
    rw [← Nat.mul_assoc, Nat.mul_comm (2 ^ j) 2, Nat.mul_assoc, h]
  show IntKind.i32.wrap ((BitVec.ofInt 32 X &&& BitVec.ofInt 32 ((2 ^ j : Nat) : Int)).toNat : Int) = _
  rw [BitVec.toNat_and, ofInt_u32 (2 ^ j) (by omega), BitVec.toNat_ofInt, nat_bit]
  have hy : ((X % ((2 ^ 32 : Nat) : Int)).toNat / 2 ^ j % 2 : Nat) = (X / ((2 ^ j : Nat) : Int) % 2).toNat := by
    have e1 : ((X % ((2 ^ 32 : Nat) : Int)).toNat : Int) = X % 4294967296 := by omega
    have e2 : (X % 4294967296) / ((2 ^ j : Nat) : Int) % 2 = X / ((2 ^ j : Nat) : Int) % 2 := by
      obtain ⟨k, hk⟩ : ∃ k, X = X % 4294967296 + 4294967296 * k := ⟨X / 4294967296, by omega⟩
      obtain ⟨m, hm⟩ : ∃ m : Nat, m = 2 ^ (31 - j) := ⟨_, rfl⟩
      have hd' : (4294967296 : Int) = ((2 ^ j : Nat) : Int) * (2 * (m : Int)) := by
        rw [hm, show (4294967296 : Int) = ((4294967296 : Nat) : Int) from rfl, hd, Int.natCast_mul, Int.natCast_mul]; rfl
      have hS0 : ((2 ^ j : Nat) : Int) ≠ 0 := by omega
      generalize X % 4294967296 = r at *
      generalize ((2 ^ j : Nat) : Int) = S at *
      rw [hk, hd', Int.mul_assoc, Int.add_mul_ediv_left _ _ hS0, Int.mul_assoc]
      omega
    have e3 : (((X % ((2 ^ 32 : Nat) : Int)).toNat / 2 ^ j % 2 : Nat) : Int) = X / ((2 ^ j : Nat) : Int) % 2 := by
      rw [← e2, ← e1]; rfl
    omega
  rw [hy, wrap_i32]
  generalize X / ((2 ^ j : Nat) : Int) = z
  generalize 2 ^ j = S at *
  have hz : z % 2 = 0 ∨ z % 2 = 1 := by omega
  rcases hz with h | h
  · rw [h]; simp
  · rw [h]; simp; omega
/-- A wrap to 32 bits leaves a remainder by a power of two. -/
theorem wrap_mod (v : Int) (j : Nat) (hj : j ≤ 31) : IntKind.i32.wrap v % ((2 ^ j : Nat) : Int) = v % ((2 ^ j : Nat) : Int) := by
  obtain ⟨m, hm⟩ : ∃ m : Nat, m = 2 ^ (32 - j) := ⟨_, rfl⟩
  have hd : 2 ^ j * 2 ^ (32 - j) = 4294967296 := by rw [← Nat.pow_add, show j + (32 - j) = 32 from by omega]
  have hd' : (4294967296 : Int) = ((2 ^ j : Nat) : Int) * (m : Int) := by rw [hm, show (4294967296 : Int) = ((4294967296 : Nat) : Int) from rfl, ← hd]; exact Int.natCast_mul _ _
  have e : IntKind.i32.wrap v = v + ((2 ^ j : Nat) : Int) * ((m : Int) * (-((v + 2147483648) / 4294967296))) := by
    rw [wrap_i32, ← Int.mul_assoc, ← hd']; omega
  rw [e]
  exact mod_add
theorem wrap32_mod (v : Int) (j : Nat) (hj : j ≤ 31) : wrap32 v % ((2 ^ j : Nat) : Int) = v % ((2 ^ j : Nat) : Int) := by
  rw [← wrap_mod v j hj, wrap_i32]; rfl
end Go.Proofs.Ytdcjjicdpoakfaa
