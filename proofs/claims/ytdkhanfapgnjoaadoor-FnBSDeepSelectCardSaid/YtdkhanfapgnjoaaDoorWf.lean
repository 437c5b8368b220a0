/- WALKS: the statements' own functions: comparisons, bsBits, BSMake. -/
import Derived.Test.YtdkhanfapgnjoaaDoorWe
namespace Go.Proofs.YtdkhanfapgnjoaaDoor
open Go.RowKit
set_option linter.unusedVariables false
set_option linter.unusedSimpArgs false

theorem places_eq {g : Nat → Bool} {L M : Nat} (h1 : ∀ k, L ≤ k → g k = false) (h2 : ∀ k, M ≤ k → g k = false) : places g L = places g M := by
  have key : ∀ (a d : Nat), (∀ k, a ≤ k → g k = false) → places g (a + d) = places g a := by
    intro a d ha
    induction d with
    | zero => rfl
    | succ d ih => rw [show a + (d + 1) = (a + d) + 1 by omega, places_succ, ha (a + d) (by omega), ih]; simp
  by_cases h : L ≤ M
  · rw [show M = L + (M - L) by omega, key L _ h1]
  · rw [show L = M + (L - M) by omega, key M _ h2]

set_option maxHeartbeats 400000 in
theorem fits_yes (l n cap : Nat) (A : Option Addr) (w : World) (h : n ≤ 2147483647) :
    Calls Tryd.prog 4 #[.agg #[.int .u64 l, .slice A n cap]] w fun e w' => e = .returned (.bool true) ∧ Ch S0 w w' := by
  go_enter Tryd.func4, Tryd.ntmps4
  go_wp2
  go_ret
  exact ⟨rfl, (Ch.refl _ _).alloc _⟩

set_option maxHeartbeats 400000 in
theorem fits_no (l n cap : Nat) (A : Option Addr) (w : World) (h : 2147483648 ≤ n) (h2 : n ≤ 9223372036854775807) :
    Calls Tryd.prog 4 #[.agg #[.int .u64 l, .slice A n cap]] w fun e w' => e = .returned (.bool false) ∧ Ch S0 w w' := by
  go_enter Tryd.func4, Tryd.ntmps4
  go_wp2
  go_ret
  exact ⟨rfl, (Ch.refl _ _).alloc _⟩

theorem IsB.cast {base : Nat} {w : World} {v : Value} {L L' : Nat} {g g' : Nat → Bool} (h : IsB base w v L g) (hL : L = L') (hg : ∀ k, g k = g' k) : IsB base w v L' g' := by
  obtain rfl : g = g' := funext hg
  subst hL
  exact h

end Go.Proofs.YtdkhanfapgnjoaaDoor
