/- WALKS: dxFew, dsInts, dxPlus. -/
import Derived.Test.YtpkeiankocimaaaOP
namespace Go.Proofs.Ytpkeiankocimaaa
open Go.RowKit
set_option linter.unusedVariables false
set_option linter.unusedSimpArgs false

/-- Small whole numbers as cells. -/
def sv (xs : List Int) : List Value := xs.map (.int .i16)
theorem sv_at {xs : List Int} {j : Nat} {x : Int} (h : xs[j]? = some x) : (sv xs)[j]? = some (.int .i16 x) := by simp [sv, h]
@[simp] theorem sv_length (xs : List Int) : (sv xs).length = xs.length := by simp [sv]
def is16 (xs : List Int) : Prop := ∀ x ∈ xs, -32768 ≤ x ∧ x ≤ 32767
theorem iv_take_succ {xs : List Int} {i : Nat} {x : Int} (h : xs[i]? = some x) : iv (xs.take (i + 1)) = iv (xs.take i) ++ [.int .i64 x] := by
  rw [List.take_add_one, h]
  simp [iv]
def few30 (n : Nat) : Bool := decide (0 < n) && decide (n ≤ 30)

theorem dxFew_any (A : Option Addr) (n c : Nat) (w : World) (hn : n ≤ 2147483647) :
    Calls Try.prog 6 #[.slice A n c] w fun r w' => r = .returned (.bool (few30 n)) ∧ w' = w := by
  by_cases h0 : 0 < n
  · have h0i : (0 : Int) < (n : Nat) := by omega
    by_cases h30 : n ≤ 30
    · have h30i : (n : Int) ≤ 30 := by omega
      have HF : Hid (few30 n = true) := Lib.hid (by simp [few30, h0, h30])
      go_enter Try.func6, Try.ntmps6
      go_wp2_with fail
      go_ret
      exact ⟨by rw [HF.out]; rfl, rfl⟩
    · have h30i : ¬ (n : Int) ≤ 30 := by omega
      have HF : Hid (few30 n = false) := Lib.hid (by simp [few30, h30])
      go_enter Try.func6, Try.ntmps6
      go_wp2_with fail
      go_ret
      exact ⟨by rw [HF.out]; rfl, rfl⟩
  · have h0i : ¬ (0 : Int) < (n : Nat) := by omega
    have HF : Hid (few30 n = false) := Lib.hid (by simp [few30, h0])
    go_enter Try.func6, Try.ntmps6
    go_wp2_with fail
    go_ret
    exact ⟨by rw [HF.out]; rfl, rfl⟩

end Go.Proofs.Ytpkeiankocimaaa
