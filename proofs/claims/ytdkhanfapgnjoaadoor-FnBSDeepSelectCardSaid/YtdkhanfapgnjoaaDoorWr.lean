/- WALKS: the thin package's DeleteAt, Count. -/
import Derived.Test.YtdkhanfapgnjoaaDoorWq
namespace Go.Proofs.YtdkhanfapgnjoaaDoor
open Go.RowKit
set_option linter.unusedVariables false
set_option linter.unusedSimpArgs false

set_option maxRecDepth 100000 in
set_option maxHeartbeats 400000 in
theorem bscount_any {base : Nat} (v : Value) (L : Nat) (g : Nat → Bool) (w : World) (h : IsB base w v L g)  :
    Calls Tryd.prog 7 #[v] w fun e w' => e = .returned (.int .u64 (Bit.cnt g L : Nat)) ∧ Ch S0 w w' := by
  obtain ⟨A, n, cap, rfl⟩ := h.shape
  have hL := h.small
  have hch : Ch S0 w (w.alloc (Obj.cells #[.int .u64 L, .slice A n cap] 25)) := (Ch.refl _ _).alloc _
  have H := Lib.hid h
  have HC := Lib.hid hch
  clear h hch
  go_enter Tryd.func7, Tryd.ntmps7
  go_wp2_with fail
  refine (set64_any _ L g _ (H.out.keep HC.out)).mono ?_
  rintro e w1 ⟨b, sb, rfl, hB, hb1, hb2, hC1⟩
  have HB := Lib.hid hB
  have HC1 := Lib.hid (HC.out.trans hC1)
  clear hB hC1
  go_wp2_with fail
  refine (count_any b sb L g _ HB.out (by omega)).mono ?_
  rintro e w2 ⟨rfl, hC2⟩
  have HC2 := Lib.hid (HC1.out.trans hC2)
  clear hC2
  go_wp2
  go_ret
  exact ⟨rfl, HC2.out⟩

theorem bscount_t {base : Nat} (v : Value) (L : Nat) (g : Nat → Bool) (w : World) (h : IsB base w v L g) (t : Nat) (ht : Bit.cnt g L = t) :
    Calls Tryd.prog 7 #[v] w fun e w' => e = .returned (.int .u64 (t : Nat)) ∧ Ch S0 w w' := by
  subst ht
  exact bscount_any v L g w h

end Go.Proofs.YtdkhanfapgnjoaaDoor
