/- WALKS: the thin package's Select, NextSet, Rank. -/
import Derived.Test.YtdkhanfapgnjoaaDoorNc
import Derived.Test.YtdkhanfapgnjoaaDoorWy
import Derived.Test.YtdkhanfapgnjoaaDoorWr
namespace Go.Proofs.YtdkhanfapgnjoaaDoor
open Go.RowKit
set_option linter.unusedVariables false
set_option linter.unusedSimpArgs false

set_option maxRecDepth 100000 in
set_option maxHeartbeats 400000 in
theorem bsselect_any {base : Nat} (v : Value) (L : Nat) (g : Nat → Bool) (w : World) (h : IsB base w v L g) (i : Nat) (hj : i < Bit.cnt g L) :
    Calls Tryd.prog 8 #[v, .int .u64 i] w fun e w' => (∃ r : Nat, e = .returned (.int .u64 r) ∧ g r = true ∧ Bit.cnt g r = i) ∧ Ch S0 w w' := by
  have HJ := Lib.hid hj
  clear hj
  obtain ⟨A, n, cap, rfl⟩ := h.shape
  have hL := h.small
  have hch : Ch S0 w (w.alloc (Obj.cells #[.int .u64 L, .slice A n cap] 25)) := (Ch.refl _ _).alloc _
  have H := Lib.hid h
  have HC := Lib.hid hch
  clear h hch
  go_enter Tryd.func8, Tryd.ntmps8
  go_wp2_with fail
  refine (set64_any _ L g _ (H.out.keep HC.out)).mono ?_
  rintro e w1 ⟨b, sb, rfl, hB, hb1, hb2, hC1⟩
  have HB := Lib.hid hB
  have HC1 := Lib.hid (HC.out.trans hC1)
  clear hB hC1
  go_wp2_with fail
  refine (select_any b sb L i g _ HB.out (by omega) HJ.out).mono ?_
  rintro e w2 ⟨⟨r, rfl, q1, q2⟩, rfl⟩
  have Q1 := Lib.hid q1
  have Q2 := Lib.hid q2
  clear q1 q2
  go_wp2
  go_ret
  exact ⟨⟨r, rfl, Q1.out, Q2.out⟩, HC1.out⟩

set_option maxRecDepth 100000 in
set_option maxHeartbeats 400000 in
theorem bsrank_any {base : Nat} (v : Value) (L : Nat) (g : Nat → Bool) (w : World) (h : IsB base w v L g) (i t : Nat) (hi : i < L) (ht : Bit.cnt g (i + 1) = t) :
    Calls Tryd.prog 11 #[v, .int .u64 i] w fun e w' => e = .returned (.int .u64 t) ∧ Ch S0 w w' := by
  have HR := Lib.hid ht
  clear ht
  obtain ⟨A, n, cap, rfl⟩ := h.shape
  have hL := h.small
  have hch : Ch S0 w (w.alloc (Obj.cells #[.int .u64 L, .slice A n cap] 25)) := (Ch.refl _ _).alloc _
  have H := Lib.hid h
  have HC := Lib.hid hch
  clear h hch
  go_enter Tryd.func11, Tryd.ntmps11
  go_wp2_with fail
  refine (set64_any _ L g _ (H.out.keep HC.out)).mono ?_
  rintro e w1 ⟨b, sb, rfl, hB, hb1, hb2, hC1⟩
  have HB := Lib.hid hB
  have HC1 := Lib.hid (HC.out.trans hC1)
  clear hB hC1
  go_wp2_with fail
  refine (HR.out ▸ rank_any b sb L i g _ HB.out (by omega) hi).mono ?_
  rintro e w2 ⟨rfl, rfl⟩
  go_wp2
  go_ret
  exact ⟨rfl, HC1.out⟩

set_option maxRecDepth 100000 in
set_option maxHeartbeats 400000 in
theorem bsnext_any {base : Nat} (v : Value) (L : Nat) (g : Nat → Bool) (w : World) (h : IsB base w v L g) (i : Nat) (hi : i ≤ 50000) (hT : TabAt w) :
    Calls Tryd.prog 9 #[v, .int .u64 i] w fun e w' => NextRes g i e ∧ Ch S0 w w' := by
  have HT := Lib.hid hT
  clear hT
  obtain ⟨A, n, cap, rfl⟩ := h.shape
  have hL := h.small
  have hch : Ch S0 w (w.alloc (Obj.cells #[.int .u64 L, .slice A n cap] 25)) := (Ch.refl _ _).alloc _
  have H := Lib.hid h
  have HC := Lib.hid hch
  clear h hch
  go_enter Tryd.func9, Tryd.ntmps9
  go_wp2_with fail
  refine (set64_any _ L g _ (H.out.keep HC.out)).mono ?_
  rintro e w1 ⟨b, sb, rfl, hB, hb1, hb2, hC1⟩
  have HB := Lib.hid hB
  have HC1 := Lib.hid (HC.out.trans hC1)
  clear hB hC1
  go_wp2_with fail
  refine (nextSet_any b sb L i g _ HB.out (by omega) hi (tab_keep HT.out HC1.out)).mono ?_
  rintro e w2 ⟨⟨n1, is, rfl, q2⟩, hC2⟩
  have Q2 := Lib.hid q2
  have HC2 := Lib.hid (HC1.out.trans hC2)
  clear q2 hC2
  go_wp2
  go_ret2
  exact ⟨⟨n1, is, rfl, Q2.out⟩, HC2.out⟩
end Go.Proofs.YtdkhanfapgnjoaaDoor
