/- WALKS: Clone, Union, SymmetricDifference, Intersection, Difference. -/
import Derived.Test.YtdkhanfapgnjoaaDoorWg
namespace Go.Proofs.YtdkhanfapgnjoaaDoor
open Go.RowKit
set_option linter.unusedVariables false
set_option linter.unusedSimpArgs false

/-- f below 64 m, g from there on. -/
def mix (m : Nat) (f g : Nat → Bool) : Nat → Bool := fun k => if k < 64 * m then f k else g k

theorem mix_zero (f g : Nat → Bool) : mix 0 f g = g := by funext k; simp [mix]
theorem wd_mix_at (m : Nat) (f g : Nat → Bool) : Bit.wd (mix (m + 1) f g) m = Bit.wd f m := Bit.wd_congr fun k hk => by simp [mix]; omega
theorem wd_mix_other (m j : Nat) (f g : Nat → Bool) (h : j ≠ m) : Bit.wd (mix (m + 1) f g) j = Bit.wd (mix m f g) j := Bit.wd_congr fun k hk => by
  unfold mix
  by_cases h1 : 64 * j + k < 64 * m
  · rw [if_pos (by omega), if_pos h1]
  · rw [if_neg (by omega), if_neg h1]

/-- Word m of a bitset is stored. -/
theorem BS.storeMix {w : World} {b sb L m : Nat} {f g : Nat → Bool} (h : BS w b sb L (mix m f g)) {x : Int} (hm : m < nw L) (hx : x = ((Bit.wd f m : Nat) : Int)) (hoff : ∀ k, L ≤ k → f k = false) (hoffg : ∀ k, L ≤ k → g k = false) :
    BS (w.setCell ⟨sb, m, none⟩ (.int .u64 x)) b sb L (mix (m + 1) f g) :=
  h.store m hm (by rw [wd_mix_at]; exact hx) (fun j hj _ => wd_mix_other m j f g hj) (fun k hk => by unfold mix; split; exact hoff k hk; exact hoffg k hk)

theorem neqnil74 (w : World) (a : Option Addr) (n c n' c' : Nat) : (binOp .neq 44 (.slice a n c) (.slice none n' c')).run Tryd.prog w = .ok (.bool (!a.isNone)) w := run_neq_slice_nil_any w _ _ a n c n' c' Tryd.underlying44

end Go.Proofs.YtdkhanfapgnjoaaDoor
