/- FnBSDeepEqual holds for every input: a bitset equals its clone, and what it was fully copied into; not one with another bit, nor a longer one. No condition beyond the given row's. -/
import Derived.Test.YtgnhmgnpmbmjcaaR
import Derived.Test.YtgnhmgnpmbmjcaaLEqual
namespace Go.Proofs.Ytgnhmgnpmbmjcaa
open Go.ChangeShapes Go.WideShapes Go.ChangeAt Go.RowKit

set_option maxRecDepth 100000 in
set_option maxHeartbeats 1000000 in
theorem equal_great1 (l1 : Nat) (P1 : Option Addr) (m1 r1 : Nat) (l2 : Nat) (P2 : Option Addr) (m2 r2 : Nat) (u1 : Nat) (w : World)  (h : 2147483648 ≤ m1) (h' : m1 ≤ 9223372036854775807) :
    Calls Try.prog 11 #[.agg #[.int .u64 l1, .slice P1 m1 r1], .agg #[.int .u64 l2, .slice P2 m2 r2], .int .u16 u1] w fun e w' => e = .returned (.bool true) ∧ Ch S0 w w' := by
  go_enter Try.func11, Try.ntmps11
  go_wp2_with fail
  refine (fits_no l1 m1 r1 P1 _ h h').mono ?_
  rintro e w1 ⟨rfl, hC⟩
  have HC1 := Lib.hid (Ch.trans (Ch.alloc (Ch.alloc (Ch.refl S0 _) _) _) hC)
  clear hC
  go_wp2_with fail
  go_ret
  exact ⟨rfl, HC1.out⟩

set_option maxRecDepth 100000 in
set_option maxHeartbeats 1000000 in
theorem equal_great2 (l1 : Nat) (P1 : Option Addr) (m1 r1 : Nat) (l2 : Nat) (P2 : Option Addr) (m2 r2 : Nat) (u1 : Nat) (w : World) (h1 : m1 ≤ 2147483647) (h : 2147483648 ≤ m2) (h' : m2 ≤ 9223372036854775807) :
    Calls Try.prog 11 #[.agg #[.int .u64 l1, .slice P1 m1 r1], .agg #[.int .u64 l2, .slice P2 m2 r2], .int .u16 u1] w fun e w' => e = .returned (.bool true) ∧ Ch S0 w w' := by
  go_enter Try.func11, Try.ntmps11
  go_wp2_with fail
  refine (fits_yes l1 m1 r1 P1 _ h1).mono ?_
  rintro e w1 ⟨rfl, hC⟩
  have HC1 := Lib.hid (Ch.trans (Ch.alloc (Ch.alloc (Ch.refl S0 _) _) _) hC)
  have B2 : Hid (Blk w1 (w.heap.size + 1) #[.int .u64 (l2 : Nat), .slice P2 m2 r2]) := Lib.hid (Blk.keep (S := S0) (by first | exact Blk.newAt _ _ (by simp) | exact (Blk.newAt _ _ (by simp)).alloc _ | exact ((Blk.newAt _ _ (by simp)).alloc _).alloc _) hC (fun h => h))
  clear hC
  try clear x20 x21
  have x20 := B2.out.cell 0
  have x21 := B2.out.cell 1
  simp only [List.getElem?_toArray, List.getElem?_cons_zero, List.getElem?_cons_succ] at x20 x21
  go_wp2_with fail
  refine (fits_no l2 m2 r2 P2 _ h h').mono ?_
  rintro e w2 ⟨rfl, hC⟩
  have HC2 := Lib.hid (HC1.out.trans hC)
  clear hC
  go_wp2_with fail
  go_ret
  exact ⟨rfl, HC2.out⟩

set_option maxRecDepth 100000 in
theorem equal_lifted (os : Os) (started : os.Started) (H : Type) (enc : TypeId × Value → H) :
    ReturnsInHanded {} Try.checked os 11 .any (Rows.fnBSDeepEqualSpec.pre6 enc Try.prog Try.f11 Rows.fnBSDeepEqualRow.domain false) (Rows.fnBSDeepEqualSpec.post enc Try.prog Try.f11 false true false false) := by
  refine returnsInHanded_of_change (C := Try.checked) Try.own started (by kernel_rfl) Try.func11
    (ChangeSpec.witness6 (enc := enc) (C := Try.checked) false ⟨#[], #[.agg #[.int .u64 0, .slice none 0 0], .agg #[.int .u64 0, .slice none 0 0], .int .u16 0], []⟩ 8 (by kernel_rfl) (by kernel_rfl) (by kernel_rfl) (by kernel_rfl)) ?_
  intro W base args ds gs before hval0 hW hcnd _
  have hval : ∀ (j : Nat) t v, Try.f11.params[j]? = some t → args[j]? = some v → Value.okWide Try.prog W .any base t v := hval0
  have hW' := hW
  obtain ⟨p, q, hA0, hV, rfl, hfz, hnd⟩ := hW
  have hA : DataW.TrodAll enc Try.prog W 0 (fun _ => true) true Try.f11.params.toList args.toList ds p := hA0
  rw [Try.params11] at hA hval
  obtain ⟨v0, vs0, d0, ds0, q0, r0, e0, rfl, rfl, h0, g0⟩ := trodAll_cons hA
  obtain ⟨v1, vs1, d1, ds1, q1, r1, rfl, rfl, rfl, h1, g1⟩ := trodAll_cons g0
  obtain ⟨v2, vs2, d2, ds2, q2, r2, rfl, rfl, rfl, h2, g2⟩ := trodAll_cons g1
  obtain ⟨rfl, rfl, rfl⟩ := trodAll_nil g2
  obtain rfl : args = #[v0, v1, v2] := by cases args; simp_all
  obtain ⟨rfl, rfl⟩ := trodVars_none hV
  obtain ⟨l1, P1, m1, c1, xs1, rfl, hL1, hxl1, hn1, hx1⟩ := open_bits (hval 0 25 v0 rfl rfl) h0
  obtain ⟨l2, P2, m2, c2, xs2, rfl, hL2, hxl2, hn2, hx2⟩ := open_bits (hval 1 25 v1 rfl rfl) h1
  obtain ⟨a1, rfl, rfl, rfl, wa1⟩ := open_int Try.underlying26 (hval 2 26 v2 rfl rfl) h2
  obtain ⟨u1, rfl, hu1⟩ := nat16_of_wf wa1
  have fin : ∀ W', Ch S0 W W' → Rows.fnBSDeepEqualSpec.post enc Try.prog Try.f11 false true false false W #[.agg #[.int .u64 l1, .slice P1 m1 c1], .agg #[.int .u64 l2, .slice P2 m2 c2], .int .u16 u1] (.bool true) W' := fun W' hC =>
    law_post hW' rfl rfl (by kernel_rfl) ⟨rfl, rfl, rfl⟩ (hC.below (Nat.le_refl _) (fun _ _ h => h))
  by_cases hb1 : m1 ≤ 2147483647
  case neg => exact (equal_great1 l1 P1 m1 c1 l2 P2 m2 c2 u1 W  (by omega) hn1).mono fun e W' ⟨he, hC⟩ => ⟨_, he, fin W' hC⟩
  by_cases hb2 : m2 ≤ 2147483647
  case neg => exact (equal_great2 l1 P1 m1 c1 l2 P2 m2 c2 u1 W hb1 (by omega) hn2).mono fun e W' ⟨he, hC⟩ => ⟨_, he, fin W' hC⟩
  exact (equal_small l1 P1 m1 c1 xs1 l2 P2 m2 c2 xs2 u1 W hL1 hx1 hxl1 hb1 hL2 hx2 hxl2 hb2 hu1).mono fun e W' ⟨he, hC⟩ => ⟨_, he, fin W' hC⟩

theorem equal_holds : Rows.FnBSDeepEqualSaid :=
  OpenClaim.holds_of_wide 11 Try.f11 rfl rfl rfl rfl rfl rfl rfl ⟨rfl, rfl, rfl, rfl, rfl⟩ rfl rfl rfl rfl rfl (by kernel_rfl) Try.func11 (by kernel_rfl)
    (of_decide_eq_true (by kernel_rfl)) (by unfold Func.isWrapper; first | (rw [if_pos (by decide +kernel)]; kernel_rfl) | (rw [if_neg (by decide +kernel)]; exact ⟨rfl, rfl⟩))
    (fun os started H enc _ => equal_lifted os started H enc)
end Go.Proofs.Ytgnhmgnpmbmjcaa
