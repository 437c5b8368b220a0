/- FnISPlace holds for every input: a number that is inserted stands at the place that the search tells; the search for the next number tells the place behind it. No condition beyond the given row's. -/
import Derived.Test.YtpkeiankocimaaaR1
import Derived.Test.YtpkeiankocimaaaIL
namespace Go.Proofs.Ytpkeiankocimaaa
open Go.ChangeShapes Go.WideShapes Go.ChangeAt Go.RowKit

set_option maxRecDepth 100000 in
theorem place_great0 (A0 : Option Addr) (n0 c0 : Nat) (k1 : Int) (w : World) (h : 2147483648 ≤ n0) (b0 : n0 ≤ 9223372036854775807) :
    Calls Try.prog 3 #[.slice A0 n0 c0, .int .i16 k1] w fun e w' => e = .returned (.bool true) ∧ Ch S0 w w' := by
  have d0 : (2147483647 : Int) < (n0 : Nat) := by omega
  clear h
  go_enter Try.func3, Try.ntmps3
  go_wp2_with fail
  go_ret
  exact ⟨rfl, by first | exact Ch.refl _ _ | exact (Ch.refl _ _).drew⟩

set_option maxRecDepth 100000 in
theorem place_lifted (os : Os) (started : os.Started) (H : Type) (enc : TypeId × Value → H) :
    ReturnsInHanded {} Try.checked os 3 .any (Rows.fnISPlaceSpec.pre6 enc Try.prog Try.f3 Rows.fnISPlaceRow.domain false) (Rows.fnISPlaceSpec.post enc Try.prog Try.f3 false true false false) := by
  refine returnsInHanded_of_change (C := Try.checked) Try.own started (by kernel_rfl) Try.func3
    (ChangeSpec.witness6 (enc := enc) (C := Try.checked) false ⟨#[], #[.slice none 0 0, .int .i16 0], []⟩ 8 (by kernel_rfl) (by kernel_rfl) (by kernel_rfl) (by kernel_rfl)) ?_
  intro W base args ds gs before hval0 hW hcnd _
  have hval : ∀ (j : Nat) t v, Try.f3.params[j]? = some t → args[j]? = some v → Value.okWide Try.prog W .any base t v := hval0
  have hW' := hW
  obtain ⟨p, q, hA0, hV, rfl, hfz, hnd⟩ := hW
  have hA : DataW.TrodAll enc Try.prog W 0 (fun _ => true) true Try.f3.params.toList args.toList ds p := hA0
  rw [Try.params3] at hA hval
  obtain ⟨v0, vs0, d0, ds0, q0, r0, e0, rfl, rfl, h0, g0⟩ := trodAll_cons hA
  obtain ⟨v1, vs1, d1, ds1, q1, r1, rfl, rfl, rfl, h1, g1⟩ := trodAll_cons g0
  obtain ⟨rfl, rfl, rfl⟩ := trodAll_nil g1
  obtain rfl : args = #[v0, v1] := by cases args; simp_all
  obtain ⟨rfl, rfl⟩ := trodVars_none hV
  obtain ⟨A0, n0, c0, xs0, rfl, b0, xl0, xr0, xb0⟩ := open_i16s (hval 0 22 v0 rfl rfl) h0
  obtain ⟨k1, rfl, rfl, rfl, wa1⟩ := open_int Try.underlying23 (hval 1 23 v1 rfl rfl) h1
  obtain ⟨kl1, kh1⟩ := wf_i16 wa1
  have fin : ∀ W', Ch S0 W W' → Rows.fnISPlaceSpec.post enc Try.prog Try.f3 false true false false W #[.slice A0 n0 c0, .int .i16 k1] (.bool true) W' := fun W' hC =>
    law_post hW' rfl rfl (by kernel_rfl) ⟨rfl, rfl, rfl⟩ (hC.below (Nat.le_refl _) (fun _ _ h => h))
  by_cases sm0 : n0 ≤ 2147483647
  case neg => exact (place_great0 A0 n0 c0 k1 W  (by omega) b0).mono fun e W' ⟨he, hC⟩ => ⟨_, he, fin W' hC⟩
  exact (place_small A0 n0 c0 xs0 k1 W xl0 sm0 xr0 xb0 kl1 kh1).mono fun e W' ⟨he, hC⟩ => ⟨_, he, fin W' hC⟩

theorem place_holds : Rows.FnISPlaceSaid :=
  OpenClaim.holds_of_wide 3 Try.f3 rfl rfl rfl rfl rfl rfl rfl ⟨rfl, rfl, rfl, rfl, rfl⟩ rfl rfl rfl rfl rfl (by kernel_rfl) Try.func3 (by kernel_rfl)
    (of_decide_eq_true (by kernel_rfl)) (by unfold Func.isWrapper; first | (rw [if_pos (by decide +kernel)]; kernel_rfl) | (rw [if_neg (by decide +kernel)]; exact ⟨rfl, rfl⟩))
    (fun os started H enc _ => place_lifted os started H enc)
end Go.Proofs.Ytpkeiankocimaaa
