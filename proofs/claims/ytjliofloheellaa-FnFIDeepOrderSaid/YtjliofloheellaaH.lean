/- WALKS: hash, roundUp. -/
import Derived.Test.YtjliofloheellaaM
import Derived.Test.YtjliofloheellaaPP
import Derived.Lib.Hide
namespace Go.Proofs.Ytjliofloheellaa
open Go.RowKit
set_option linter.unusedVariables false
set_option linter.unusedSimpArgs false

theorem bits_range (op : BinOp) (a b : Int) : 0 ≤ bits op .u64 a b ∧ bits op .u64 a b < 18446744073709551616 := by
  have h : ∀ x : Int, 0 ≤ IntKind.u64.wrap x ∧ IntKind.u64.wrap x < 18446744073709551616 := fun x => by rw [IntKind.wrap_u64]; omega
  unfold bits
  exact h _

set_option maxRecDepth 100000 in
theorem hash_raw (k : Nat) : ∃ a b : Int, ∀ w : World, Calls Try.prog 19 #[.int .u64 k] w fun e w' => e = .returned (.int .u64 (bits BinOp.xor .u64 a b)) ∧ w = w' := by
  apply Exists.intro
  apply Exists.intro
  intro w
  go_enter Try.func19, Try.ntmps19
  go_wp2
  go_ret
  exact ⟨rfl, rfl⟩
theorem hash_ex (k : Nat) : ∃ r : Nat, r < 18446744073709551616 ∧ ∀ w : World, Calls Try.prog 19 #[.int .u64 k] w fun e w' => e = .returned (.int .u64 r) ∧ w = w' := by
  obtain ⟨a, b, h⟩ := hash_raw k
  have hr := bits_range .xor a b
  refine ⟨(bits BinOp.xor .u64 a b).toNat, by omega, fun w => ?_⟩
  have e : (((bits BinOp.xor .u64 a b).toNat : Nat) : Int) = bits BinOp.xor .u64 a b := by omega
  rw [e]
  exact h w
/-- The hash. -/
noncomputable def Hsh (k : Nat) : Nat := (hash_ex k).choose
theorem hash_any (k : Nat) (w : World) : Calls Try.prog 19 #[.int .u64 k] w fun e w' => e = .returned (.int .u64 (Hsh k : Nat)) ∧ w = w' := (hash_ex k).choose_spec.2 w
theorem Hsh_lt (k : Nat) : Hsh k < 18446744073709551616 := (hash_ex k).choose_spec.1

theorem u64_or_nat (a b : Nat) (ha : a < 18446744073709551616) (hb : b < 18446744073709551616) : bits BinOp.or .u64 (a : Int) (b : Int) = ((a ||| b : Nat) : Int) := by
  have hx : a ||| b < 2 ^ 64 := Nat.or_lt_two_pow (n := 64) (by omega) (by omega)
  have h1 : (BitVec.ofInt 64 (a : Int)).toNat = a := by rw [BitVec.ofInt_natCast, BitVec.toNat_ofNat]; exact Nat.mod_eq_of_lt (by omega)
  have h2 : (BitVec.ofInt 64 (b : Int)).toNat = b := by rw [BitVec.ofInt_natCast, BitVec.toNat_ofNat]; exact Nat.mod_eq_of_lt (by omega)
  show IntKind.u64.wrap ((BitVec.ofInt 64 (a : Int) ||| BitVec.ofInt 64 (b : Int)).toNat : Int) = _
  rw [BitVec.toNat_or, h1, h2, IntKind.wrap_u64]
  omega
theorem u64_and_nat (a b : Nat) (ha : a < 18446744073709551616) (hb : b < 18446744073709551616) : bits BinOp.and .u64 (a : Int) (b : Int) = ((a &&& b : Nat) : Int) := by
  have hx : a &&& b < 2 ^ 64 := Nat.and_lt_two_pow _ (by omega)
  have h1 : (BitVec.ofInt 64 (a : Int)).toNat = a := by rw [BitVec.ofInt_natCast, BitVec.toNat_ofNat]; exact Nat.mod_eq_of_lt (by omega)
  have h2 : (BitVec.ofInt 64 (b : Int)).toNat = b := by rw [BitVec.ofInt_natCast, BitVec.toNat_ofNat]; exact Nat.mod_eq_of_lt (by omega)
  show IntKind.u64.wrap ((BitVec.ofInt 64 (a : Int) &&& BitVec.ofInt 64 (b : Int)).toNat : Int) = _
  rw [BitVec.toNat_and, h1, h2, IntKind.wrap_u64]
  omega

set_option maxRecDepth 100000 in
theorem round_any (k : Nat) (h0 : 0 < k) (h1 : k ≤ 4294967296) (w : World) : Calls Try.prog 12 #[.int .u64 k] w fun e w' => e = .returned (.int .u64 (ru k : Nat)) ∧ w = w' := by
  have hor : ∀ a b : Nat, a < 4294967296 → b ≤ a → a ||| b < 4294967296 := fun a b ha hb => Nat.or_lt_two_pow (n := 32) ha (by omega)
  obtain ⟨x0, e0⟩ : ∃ x, x = k - 1 := ⟨_, rfl⟩
  obtain ⟨x1, e1⟩ : ∃ x, x = x0 ||| x0 / 2 := ⟨_, rfl⟩
  obtain ⟨x2, e2⟩ : ∃ x, x = x1 ||| x1 / 4 := ⟨_, rfl⟩
  obtain ⟨x3, e3⟩ : ∃ x, x = x2 ||| x2 / 16 := ⟨_, rfl⟩
  obtain ⟨x4, e4⟩ : ∃ x, x = x3 ||| x3 / 256 := ⟨_, rfl⟩
  obtain ⟨x5, e5⟩ : ∃ x, x = x4 ||| x4 / 65536 := ⟨_, rfl⟩
  obtain ⟨x6, e6⟩ : ∃ x, x = x5 ||| x5 / 4294967296 := ⟨_, rfl⟩
  have l0 : x0 < 4294967296 := by omega
  have l1 : x1 < 4294967296 := by rw [e1]; exact hor _ _ l0 (Nat.div_le_self _ _)
  have l2 : x2 < 4294967296 := by rw [e2]; exact hor _ _ l1 (Nat.div_le_self _ _)
  have l3 : x3 < 4294967296 := by rw [e3]; exact hor _ _ l2 (Nat.div_le_self _ _)
  have l4 : x4 < 4294967296 := by rw [e4]; exact hor _ _ l3 (Nat.div_le_self _ _)
  have l5 : x5 < 4294967296 := by rw [e5]; exact hor _ _ l4 (Nat.div_le_self _ _)
  have l6 : x6 < 4294967296 := by rw [e6]; exact hor _ _ l5 (Nat.div_le_self _ _)
  have q0 : IntKind.u64.wrap ((k : Int) - 1) = (x0 : Nat) := by rw [IntKind.wrap_u64]; omega
  have q1 : bits BinOp.or IntKind.u64 (x0 : Int) ((x0 : Int) / 2) = (x1 : Nat) := by rw [show (x0 : Int) / 2 = ((x0 / 2 : Nat) : Int) from by omega, u64_or_nat _ _ (by omega) (by omega), e1]
  have q2 : bits BinOp.or IntKind.u64 (x1 : Int) ((x1 : Int) / 4) = (x2 : Nat) := by rw [show (x1 : Int) / 4 = ((x1 / 4 : Nat) : Int) from by omega, u64_or_nat _ _ (by omega) (by omega), e2]
  have q3 : bits BinOp.or IntKind.u64 (x2 : Int) ((x2 : Int) / 16) = (x3 : Nat) := by rw [show (x2 : Int) / 16 = ((x2 / 16 : Nat) : Int) from by omega, u64_or_nat _ _ (by omega) (by omega), e3]
  have q4 : bits BinOp.or IntKind.u64 (x3 : Int) ((x3 : Int) / 256) = (x4 : Nat) := by rw [show (x3 : Int) / 256 = ((x3 / 256 : Nat) : Int) from by omega, u64_or_nat _ _ (by omega) (by omega), e4]
  have q5 : bits BinOp.or IntKind.u64 (x4 : Int) ((x4 : Int) / 65536) = (x5 : Nat) := by rw [show (x4 : Int) / 65536 = ((x4 / 65536 : Nat) : Int) from by omega, u64_or_nat _ _ (by omega) (by omega), e5]
  have q6 : bits BinOp.or IntKind.u64 (x5 : Int) ((x5 : Int) / 4294967296) = (x6 : Nat) := by rw [show (x5 : Int) / 4294967296 = ((x5 / 4294967296 : Nat) : Int) from by omega, u64_or_nat _ _ (by omega) (by omega), e6]
  have hru : ru k = x6 + 1 := by subst e6 e5 e4 e3 e2 e1 e0; rfl
  have HR := Lib.hid hru
  clear e0 e1 e2 e3 e4 e5 e6 l0 l1 l2 l3 l4 l5 hru hor
  go_enter Try.func12, Try.ntmps12
  go_wp2
  go_ret
  exact ⟨by rw [HR.out]; congr 2, rfl⟩
end Go.Proofs.Ytjliofloheellaa
