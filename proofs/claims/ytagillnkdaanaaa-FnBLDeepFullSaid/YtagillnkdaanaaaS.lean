/- WALKS: sum128 of the hash, whatever its tail. -/
import Derived.Test.YtagillnkdaanaaaSa
import Derived.Test.YtagillnkdaanaaaSb
import Derived.Test.YtagillnkdaanaaaSc
import Derived.Test.YtagillnkdaanaaaSd
namespace Go.Proofs.Ytagillnkdaanaaa
open Go.RowKit
theorem s128_ex (h1 h2 len : Int) (f : Nat → Int) (t : Nat) (ht : t < 16) (p : Bool) (hp : p = true → t < 15) : ∃ r1 r2 : Int, ∀ (w : World) (d : Nat) (A : Option Addr) (cap : Nat), Byts w A t f d → Blk w d #[.int .u64 h1, .int .u64 h2] →
    Calls Try.prog 51 #[.pointer (some ⟨d, 0, none⟩), .bool p, .int .u64 len, .slice A t cap] w fun e w' => e = .returned (.tuple #[.int .u64 r1, .int .u64 r2]) ∧ Ch S0 w w' := by
  cases p
  · match t, ht with
    | 0, _ => exact s128_0_false h1 h2 len f
    | 1, _ => exact s128_1_false h1 h2 len f
    | 2, _ => exact s128_2_false h1 h2 len f
    | 3, _ => exact s128_3_false h1 h2 len f
    | 4, _ => exact s128_4_false h1 h2 len f
    | 5, _ => exact s128_5_false h1 h2 len f
    | 6, _ => exact s128_6_false h1 h2 len f
    | 7, _ => exact s128_7_false h1 h2 len f
    | 8, _ => exact s128_8_false h1 h2 len f
    | 9, _ => exact s128_9_false h1 h2 len f
    | 10, _ => exact s128_10_false h1 h2 len f
    | 11, _ => exact s128_11_false h1 h2 len f
    | 12, _ => exact s128_12_false h1 h2 len f
    | 13, _ => exact s128_13_false h1 h2 len f
    | 14, _ => exact s128_14_false h1 h2 len f
    | 15, _ => exact s128_15_false h1 h2 len f
    | k + 16, h => exact absurd h (by omega)
  · have hp := hp rfl
    match t, hp with
    | 0, _ => exact s128_0_true h1 h2 len f
    | 1, _ => exact s128_1_true h1 h2 len f
    | 2, _ => exact s128_2_true h1 h2 len f
    | 3, _ => exact s128_3_true h1 h2 len f
    | 4, _ => exact s128_4_true h1 h2 len f
    | 5, _ => exact s128_5_true h1 h2 len f
    | 6, _ => exact s128_6_true h1 h2 len f
    | 7, _ => exact s128_7_true h1 h2 len f
    | 8, _ => exact s128_8_true h1 h2 len f
    | 9, _ => exact s128_9_true h1 h2 len f
    | 10, _ => exact s128_10_true h1 h2 len f
    | 11, _ => exact s128_11_true h1 h2 len f
    | 12, _ => exact s128_12_true h1 h2 len f
    | 13, _ => exact s128_13_true h1 h2 len f
    | 14, _ => exact s128_14_true h1 h2 len f
    | k + 15, h => exact absurd h (by omega)
end Go.Proofs.Ytagillnkdaanaaa
