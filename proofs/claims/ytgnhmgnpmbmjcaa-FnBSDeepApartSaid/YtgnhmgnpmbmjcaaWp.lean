/- WALKS: the thin package's functions that ask for words and counts. -/
import Derived.Test.YtgnhmgnpmbmjcaaWo
namespace Go.Proofs.Ytgnhmgnpmbmjcaa
open Go.RowKit
set_option linter.unusedVariables false
set_option linter.unusedSimpArgs false

set_option maxRecDepth 100000 in
set_option maxHeartbeats 400000 in
theorem bsword_any {base : Nat} (v : Value) (L : Nat) (g : Nat → Bool) (w : World) (h : IsB base w v L g) (i : Nat) (x : Int) (hx : x = i) (hi : i ≤ 10000):
    Calls Try.prog 26 #[v, .int .u64 x] w fun e w' => e = .returned (.int .u64 (Bit.at64 g i : Nat)) ∧ Ch S0 w w' := by
  subst hx
  obtain ⟨A, n, cap, rfl⟩ := h.shape
  have hL := h.small
  have hch : Ch S0 w (w.alloc (Obj.cells #[.int .u64 L, .slice A n cap] 25)) := (Ch.refl _ _).alloc _
  have H := Lib.hid h
  have HC := Lib.hid hch
  clear h hch
  go_enter Try.func26, Try.ntmps26
  go_wp2_with fail
  refine (set64_any _ L g _ (H.out.keep HC.out)).mono ?_
  rintro e w1 ⟨b, sb, rfl, hB, hb1, hb2, hC1⟩
  have HB := Lib.hid hB
  have HC1 := Lib.hid (HC.out.trans hC1)
  clear hB hC1
  go_wp2_with fail
  refine (word_any b sb L i g _ HB.out hi _ rfl).mono ?_
  rintro e w2 ⟨rfl, hC2⟩
  have HC2 := Lib.hid (HC1.out.trans hC2)
  clear hC2
  go_wp2
  go_ret
  exact ⟨rfl, HC2.out⟩

set_option maxRecDepth 100000 in
set_option maxHeartbeats 400000 in
theorem bsbetween_any {base : Nat} (v : Value) (L : Nat) (g : Nat → Bool) (w : World) (h : IsB base w v L g) (s f : Nat) (x y : Int) (hx : x = s) (hy : y = f) (hs : s ≤ 10000) (hf : f ≤ 10000):
    Calls Try.prog 27 #[v, .int .u64 x, .int .u64 y] w fun e w' => e = .returned (.int .u64 (Bit.ones g s f : Nat)) ∧ Ch S0 w w' := by
  subst hx hy
  obtain ⟨A, n, cap, rfl⟩ := h.shape
  have hL := h.small
  have hch : Ch S0 w (w.alloc (Obj.cells #[.int .u64 L, .slice A n cap] 25)) := (Ch.refl _ _).alloc _
  have H := Lib.hid h
  have HC := Lib.hid hch
  clear h hch
  go_enter Try.func27, Try.ntmps27
  go_wp2_with fail
  refine (set64_any _ L g _ (H.out.keep HC.out)).mono ?_
  rintro e w1 ⟨b, sb, rfl, hB, hb1, hb2, hC1⟩
  have HB := Lib.hid hB
  have HC1 := Lib.hid (HC.out.trans hC1)
  clear hB hC1
  go_wp2_with fail
  refine (between_any b sb L s f g _ HB.out hs hf (by omega) _ _ rfl rfl).mono ?_
  rintro e w2 ⟨rfl, hC2⟩
  have HC2 := Lib.hid (HC1.out.trans hC2)
  clear hC2
  go_wp2
  go_ret
  exact ⟨rfl, HC2.out⟩

end Go.Proofs.Ytgnhmgnpmbmjcaa
