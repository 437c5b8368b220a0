/- FnAVOver holds for every input: entries that are inserted with Keys that are there take their places, and those that were there are returned; the size stays. No condition beyond the given row's. -/
import Derived.Test.YtlppnbmaedgodaaR1
import Derived.Test.YtlppnbmaedgodaaLO
namespace Go.Proofs.Ytlppnbmaedgodaa
open Go.ChangeShapes Go.WideShapes Go.ChangeAt Go.RowKit

set_option maxRecDepth 100000 in
theorem over_great0 (A0 : Option Addr) (n0 c0 : Nat) (w : World) (h : 2147483648 ≤ n0) (b0 : n0 ≤ 9223372036854775807) :
    Calls Try.prog 3 #[.slice A0 n0 c0] w fun e w' => e = .returned (.bool true) ∧ Ch S0 w w' := by
  have d0 : (2147483647 : Int) < (n0 : Nat) := by omega
  clear h
  go_enter Try.func3, Try.ntmps3
  go_wp2_with fail
  go_ret
  exact ⟨rfl, by first | exact Ch.refl _ _ | exact (Ch.refl _ _).drew⟩

set_option maxRecDepth 100000 in
theorem over_lifted (os : Os) (started : os.Started) (H : Type) (enc : TypeId × Value → H) :
    ReturnsInHanded {} Try.checked os 3 .any (Rows.fnAVOverSpec.pre6 enc Try.prog Try.f3 Rows.fnAVOverRow.domain false) (Rows.fnAVOverSpec.post enc Try.prog Try.f3 false true false false) := by
  refine returnsInHanded_of_change (C := Try.checked) Try.own started (by kernel_rfl) Try.func3
    (ChangeSpec.witness6 (enc := enc) (C := Try.checked) false ⟨#[], #[.slice none 0 0], []⟩ 8 (by kernel_rfl) (by kernel_rfl) (by kernel_rfl) (by kernel_rfl)) ?_
  intro W base args ds gs before hval0 hW hcnd _
  have hval : ∀ (j : Nat) t v, Try.f3.params[j]? = some t → args[j]? = some v → Value.okWide Try.prog W .any base t v := hval0
  have hW' := hW
  obtain ⟨p, q, hA0, hV, rfl, hfz, hnd⟩ := hW
  have hA : DataW.TrodAll enc Try.prog W 0 (fun _ => true) true Try.f3.params.toList args.toList ds p := hA0
  rw [Try.params3] at hA hval
  obtain ⟨v0, vs0, d0, ds0, q0, r0, e0, rfl, rfl, h0, g0⟩ := trodAll_cons hA
  obtain ⟨rfl, rfl, rfl⟩ := trodAll_nil g0
  obtain rfl : args = #[v0] := by cases args; simp_all
  obtain ⟨rfl, rfl⟩ := trodVars_none hV
  obtain ⟨A0, n0, c0, xs0, rfl, b0, xl0, xr0, xb0⟩ := open_i16s (hval 0 22 v0 rfl rfl) h0
  have fin : ∀ W', Ch S0 W W' → Rows.fnAVOverSpec.post enc Try.prog Try.f3 false true false false W #[.slice A0 n0 c0] (.bool true) W' := fun W' hC =>
    law_post hW' rfl rfl (by kernel_rfl) ⟨rfl, rfl, rfl⟩ (hC.below (Nat.le_refl _) (fun _ _ h => h))
  by_cases sm0 : n0 ≤ 2147483647
  case neg => exact (over_great0 A0 n0 c0 W  (by omega) b0).mono fun e W' ⟨he, hC⟩ => ⟨_, he, fin W' hC⟩
  exact (over_small A0 n0 c0 xs0  W xl0 sm0 xr0 xb0 ).mono fun e W' ⟨he, hC⟩ => ⟨_, he, fin W' hC⟩

theorem over_holds : Rows.FnAVOverSaid :=
  OpenClaim.holds_of_wide 3 Try.f3 rfl rfl rfl rfl rfl rfl rfl ⟨rfl, rfl, rfl, rfl, rfl⟩ rfl rfl rfl rfl rfl (by kernel_rfl) Try.func3 (by kernel_rfl)
    (of_decide_eq_true (by kernel_rfl)) (by unfold Func.isWrapper; first | (rw [if_pos (by decide +kernel)]; kernel_rfl) | (rw [if_neg (by decide +kernel)]; exact ⟨rfl, rfl⟩))
    (fun os started H enc _ => over_lifted os started H enc)
end Go.Proofs.Ytlppnbmaedgodaa
