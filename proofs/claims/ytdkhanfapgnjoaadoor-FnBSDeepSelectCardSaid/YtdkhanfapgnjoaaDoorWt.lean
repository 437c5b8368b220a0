/- WALKS: top. -/
import Derived.Test.YtdkhanfapgnjoaaDoorP7
import Derived.Test.YtdkhanfapgnjoaaDoorWq
import Derived.Test.YtdkhanfapgnjoaaDoorWs
namespace Go.Proofs.YtdkhanfapgnjoaaDoor
open Go.RowKit
set_option linter.unusedVariables false
set_option linter.unusedSimpArgs false
theorem tup_eq {k : IntKind} {a b : Int} {v : Value} (h : a = b) : Ending.returned (.tuple #[.int k a, v]) = .returned (.tuple #[.int k b, v]) := by rw [h]
theorem all_zero {g : Nat → Bool} (h : ∀ j, Bit.wd g j = 0) (k : Nat) : g k = false := by
  have hb := Bit.wd_test g (k / 64) (k % 64)
  have e : 64 * (k / 64) + k % 64 = k := by omega
  have h64 : decide (k % 64 < 64) = true := by simp; omega
  rw [e, h64, Bool.true_and, h] at hb
  simpa using hb.symm
end Go.Proofs.YtdkhanfapgnjoaaDoor
