/- FnBSDeepApart holds for every input: whatever is done to a clone, the bitset stays as it is; and the other way round. No condition beyond the given row's. -/
import Derived.Test.YtgnhmgnpmbmjcaaR
import Derived.Test.YtgnhmgnpmbmjcaaLApart
namespace Go.Proofs.Ytgnhmgnpmbmjcaa
open Go.ChangeShapes Go.WideShapes Go.ChangeAt Go.RowKit

set_option maxRecDepth 100000 in
set_option maxHeartbeats 1000000 in
theorem apart_great1 (l1 : Nat) (P1 : Option Addr) (m1 r1 : Nat) (u1 : Nat) (PA : Option Addr) (nA cA : Nat) (back : Bool) (w : World)  (h : 2147483648 ≤ m1) (h' : m1 ≤ 9223372036854775807) :
    Calls Try.prog 12 #[.agg #[.int .u64 l1, .slice P1 m1 r1], .int .u16 u1, .slice PA nA cA, .bool back] w fun e w' => e = .returned (.bool true) ∧ Ch S0 w w' := by
  go_enter Try.func12, Try.ntmps12
  go_wp2_with fail
  refine (fits_no l1 m1 r1 P1 _ h h').mono ?_
  rintro e w1 ⟨rfl, hC⟩
  have HC1 := Lib.hid (Ch.trans (Ch.alloc (Ch.refl S0 _) _) hC)
  clear hC
  go_wp2_with fail
  go_ret
  exact ⟨rfl, HC1.out⟩

set_option maxRecDepth 100000 in
set_option maxHeartbeats 1000000 in
theorem apart_great2 (l1 : Nat) (P1 : Option Addr) (m1 r1 : Nat) (u1 : Nat) (PA : Option Addr) (nA cA : Nat) (back : Bool) (w : World) (h1 : m1 ≤ 2147483647) (h : 2147483648 ≤ nA) (h' : nA ≤ 9223372036854775807) :
    Calls Try.prog 12 #[.agg #[.int .u64 l1, .slice P1 m1 r1], .int .u16 u1, .slice PA nA cA, .bool back] w fun e w' => e = .returned (.bool true) ∧ Ch S0 w w' := by
  go_enter Try.func12, Try.ntmps12
  go_wp2_with fail
  refine (fits_yes l1 m1 r1 P1 _ h1).mono ?_
  rintro e w1 ⟨rfl, hC⟩
  have HC1 := Lib.hid (Ch.trans (Ch.alloc (Ch.refl S0 _) _) hC)
  clear hC
  go_wp2_with fail
  go_ret
  exact ⟨rfl, HC1.out⟩

set_option maxRecDepth 100000 in
theorem apart_lifted (os : Os) (started : os.Started) (H : Type) (enc : TypeId × Value → H) :
    ReturnsInHanded {} Try.checked os 12 .any (Rows.fnBSDeepApartSpec.pre6 enc Try.prog Try.f12 Rows.fnBSDeepApartRow.domain false) (Rows.fnBSDeepApartSpec.post enc Try.prog Try.f12 false true false false) := by
  refine returnsInHanded_of_change (C := Try.checked) Try.own started (by kernel_rfl) Try.func12
    (ChangeSpec.witness6 (enc := enc) (C := Try.checked) false ⟨#[], #[.agg #[.int .u64 0, .slice none 0 0], .int .u16 0, .slice none 0 0, .bool false], []⟩ 8 (by kernel_rfl) (by kernel_rfl) (by kernel_rfl) (by kernel_rfl)) ?_
  intro W base args ds gs before hval0 hW hcnd _
  have hval : ∀ (j : Nat) t v, Try.f12.params[j]? = some t → args[j]? = some v → Value.okWide Try.prog W .any base t v := hval0
  have hW' := hW
  obtain ⟨p, q, hA0, hV, rfl, hfz, hnd⟩ := hW
  have hA : DataW.TrodAll enc Try.prog W 0 (fun _ => true) true Try.f12.params.toList args.toList ds p := hA0
  rw [Try.params12] at hA hval
  obtain ⟨v0, vs0, d0, ds0, q0, r0, e0, rfl, rfl, h0, g0⟩ := trodAll_cons hA
  obtain ⟨v1, vs1, d1, ds1, q1, r1, rfl, rfl, rfl, h1, g1⟩ := trodAll_cons g0
  obtain ⟨v2, vs2, d2, ds2, q2, r2, rfl, rfl, rfl, h2, g2⟩ := trodAll_cons g1
  obtain ⟨v3, vs3, d3, ds3, q3, r3, rfl, rfl, rfl, h3, g3⟩ := trodAll_cons g2
  obtain ⟨rfl, rfl, rfl⟩ := trodAll_nil g3
  obtain rfl : args = #[v0, v1, v2, v3] := by cases args; simp_all
  obtain ⟨rfl, rfl⟩ := trodVars_none hV
  obtain ⟨l1, P1, m1, c1, xs1, rfl, hL1, hxl1, hn1, hx1⟩ := open_bits (hval 0 25 v0 rfl rfl) h0
  obtain ⟨a1, rfl, rfl, rfl, wa1⟩ := open_int Try.underlying26 (hval 1 26 v1 rfl rfl) h1
  obtain ⟨u1, rfl, hu1⟩ := nat16_of_wf wa1
  obtain ⟨PA, nA, cA, rfl, hnA, hst⟩ := open_steps (hval 2 46 v2 rfl rfl) h2
  obtain ⟨back, rfl⟩ := okWide_bool Try.underlying4 (hval 3 4 v3 rfl rfl)
  have fin : ∀ W', Ch S0 W W' → Rows.fnBSDeepApartSpec.post enc Try.prog Try.f12 false true false false W #[.agg #[.int .u64 l1, .slice P1 m1 c1], .int .u16 u1, .slice PA nA cA, .bool back] (.bool true) W' := fun W' hC =>
    law_post hW' rfl rfl (by kernel_rfl) ⟨rfl, rfl, rfl⟩ (hC.below (Nat.le_refl _) (fun _ _ h => h))
  by_cases hb1 : m1 ≤ 2147483647
  case neg => exact (apart_great1 l1 P1 m1 c1 u1 PA nA cA back W  (by omega) hn1).mono fun e W' ⟨he, hC⟩ => ⟨_, he, fin W' hC⟩
  by_cases hb2 : nA ≤ 2147483647
  case neg => exact (apart_great2 l1 P1 m1 c1 u1 PA nA cA back W hb1 (by omega) hnA).mono fun e W' ⟨he, hC⟩ => ⟨_, he, fin W' hC⟩
  exact (apart_small l1 P1 m1 c1 xs1 u1 PA nA cA back W hL1 hx1 hxl1 hb1 hu1 hst hb2).mono fun e W' ⟨he, hC⟩ => ⟨_, he, fin W' hC⟩

theorem apart_holds : Rows.FnBSDeepApartSaid :=
  OpenClaim.holds_of_wide 12 Try.f12 rfl rfl rfl rfl rfl rfl rfl ⟨rfl, rfl, rfl, rfl, rfl⟩ rfl rfl rfl rfl rfl (by kernel_rfl) Try.func12 (by kernel_rfl)
    (of_decide_eq_true (by kernel_rfl)) (by unfold Func.isWrapper; first | (rw [if_pos (by decide +kernel)]; kernel_rfl) | (rw [if_neg (by decide +kernel)]; exact ⟨rfl, rfl⟩))
    (fun os started H enc _ => apart_lifted os started H enc)
end Go.Proofs.Ytgnhmgnpmbmjcaa
