/- WALKS: the thin package's PreviousSet, PreviousClear. -/
import Derived.Test.YtdkhanfapgnjoaaDoorWx
namespace Go.Proofs.YtdkhanfapgnjoaaDoor
open Go.RowKit
set_option linter.unusedVariables false
set_option linter.unusedSimpArgs false

set_option maxRecDepth 100000 in
set_option maxHeartbeats 400000 in
theorem bsprevset_any {base : Nat} (v : Value) (L : Nat) (g : Nat → Bool) (w : World) (h : IsB base w v L g) (i p : Nat) (x : Int) (hx : x = i) (hi : i < L) (hp : p ≤ i) (hg : g p = true):
    Calls Tryd.prog 10 #[v, .int .u64 x] w fun e w' => (∃ n : Nat, n ≤ i ∧ g n = true ∧ (∀ k, n < k → k ≤ i → g k = false) ∧ e = .returned (.tuple #[.int .u64 n, .bool true])) ∧ Ch S0 w w' := by
  subst hx
  have HG := Lib.hid hg
  clear hg
  obtain ⟨A, n, cap, rfl⟩ := h.shape
  have hL := h.small
  have hch : Ch S0 w (w.alloc (Obj.cells #[.int .u64 L, .slice A n cap] 25)) := (Ch.refl _ _).alloc _
  have H := Lib.hid h
  have HC := Lib.hid hch
  clear h hch
  go_enter Tryd.func10, Tryd.ntmps10
  go_wp2_with fail
  refine (set64_any _ L g _ (H.out.keep HC.out)).mono ?_
  rintro e w1 ⟨b, sb, rfl, hB, hb1, hb2, hC1⟩
  have HB := Lib.hid hB
  have HC1 := Lib.hid (HC.out.trans hC1)
  clear hB hC1
  go_wp2_with fail
  refine (prevSet_any b sb L i p g _ HB.out (by omega) hi hp HG.out _ rfl).mono ?_
  rintro e w2 ⟨⟨n1, q1, q2, q3, rfl⟩, hC2⟩
  have Q2 := Lib.hid q2
  have Q3 := Lib.hid q3
  clear q2 q3
  have HC2 := Lib.hid (HC1.out.trans hC2)
  clear hC2
  go_wp2
  go_ret2
  exact ⟨⟨n1, q1, Q2.out, Q3.out, rfl⟩, HC2.out⟩

end Go.Proofs.YtdkhanfapgnjoaaDoor
