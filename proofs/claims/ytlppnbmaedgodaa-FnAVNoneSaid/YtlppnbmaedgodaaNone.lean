/- FnAVNone holds for every input: deleting Keys that are not there changes nothing, and nothing is returned. No condition beyond the given row's. -/
import Derived.Test.YtlppnbmaedgodaaR1
import Derived.Test.YtlppnbmaedgodaaLN
namespace Go.Proofs.Ytlppnbmaedgodaa
open Go.ChangeShapes Go.WideShapes Go.ChangeAt Go.RowKit

set_option maxRecDepth 100000 in
theorem none_great0 (A0 : Option Addr) (n0 c0 : Nat) (A1 : Option Addr) (n1 c1 : Nat) (w : World) (h : 2147483648 ≤ n0) (b0 : n0 ≤ 9223372036854775807) (b1 : n1 ≤ 9223372036854775807) :
    Calls Try.prog 4 #[.slice A0 n0 c0, .slice A1 n1 c1] w fun e w' => e = .returned (.bool true) ∧ Ch S0 w w' := by
  have d0 : (2147483647 : Int) < (n0 : Nat) := by omega
  clear h
  go_enter Try.func4, Try.ntmps4
  go_wp2_with fail
  go_ret
  exact ⟨rfl, by first | exact Ch.refl _ _ | exact (Ch.refl _ _).drew⟩

set_option maxRecDepth 100000 in
theorem none_great1 (A0 : Option Addr) (n0 c0 : Nat) (A1 : Option Addr) (n1 c1 : Nat) (w : World) (s0 : n0 ≤ 2147483647) (h : 2147483648 ≤ n1) (b0 : n0 ≤ 9223372036854775807) (b1 : n1 ≤ 9223372036854775807) :
    Calls Try.prog 4 #[.slice A0 n0 c0, .slice A1 n1 c1] w fun e w' => e = .returned (.bool true) ∧ Ch S0 w w' := by
  have d0 : ¬ (2147483647 : Int) < (n0 : Nat) := by omega
  have d1 : (2147483647 : Int) < (n1 : Nat) := by omega
  clear h
  go_enter Try.func4, Try.ntmps4
  go_wp2_with fail
  go_ret
  exact ⟨rfl, by first | exact Ch.refl _ _ | exact (Ch.refl _ _).drew⟩

set_option maxRecDepth 100000 in
theorem none_lifted (os : Os) (started : os.Started) (H : Type) (enc : TypeId × Value → H) :
    ReturnsInHanded {} Try.checked os 4 .any (Rows.fnAVNoneSpec.pre6 enc Try.prog Try.f4 Rows.fnAVNoneRow.domain false) (Rows.fnAVNoneSpec.post enc Try.prog Try.f4 false true false false) := by
  refine returnsInHanded_of_change (C := Try.checked) Try.own started (by kernel_rfl) Try.func4
    (ChangeSpec.witness6 (enc := enc) (C := Try.checked) false ⟨#[], #[.slice none 0 0, .slice none 0 0], []⟩ 8 (by kernel_rfl) (by kernel_rfl) (by kernel_rfl) (by kernel_rfl)) ?_
  intro W base args ds gs before hval0 hW hcnd _
  have hval : ∀ (j : Nat) t v, Try.f4.params[j]? = some t → args[j]? = some v → Value.okWide Try.prog W .any base t v := hval0
  have hW' := hW
  obtain ⟨p, q, hA0, hV, rfl, hfz, hnd⟩ := hW
  have hA : DataW.TrodAll enc Try.prog W 0 (fun _ => true) true Try.f4.params.toList args.toList ds p := hA0
  rw [Try.params4] at hA hval
  obtain ⟨v0, vs0, d0, ds0, q0, r0, e0, rfl, rfl, h0, g0⟩ := trodAll_cons hA
  obtain ⟨v1, vs1, d1, ds1, q1, r1, rfl, rfl, rfl, h1, g1⟩ := trodAll_cons g0
  obtain ⟨rfl, rfl, rfl⟩ := trodAll_nil g1
  obtain rfl : args = #[v0, v1] := by cases args; simp_all
  obtain ⟨rfl, rfl⟩ := trodVars_none hV
  obtain ⟨A0, n0, c0, xs0, rfl, b0, xl0, xr0, xb0⟩ := open_i16s (hval 0 22 v0 rfl rfl) h0
  obtain ⟨A1, n1, c1, xs1, rfl, b1, xl1, xr1, xb1⟩ := open_i16s (hval 1 22 v1 rfl rfl) h1
  have fin : ∀ W', Ch S0 W W' → Rows.fnAVNoneSpec.post enc Try.prog Try.f4 false true false false W #[.slice A0 n0 c0, .slice A1 n1 c1] (.bool true) W' := fun W' hC =>
    law_post hW' rfl rfl (by kernel_rfl) ⟨rfl, rfl, rfl⟩ (hC.below (Nat.le_refl _) (fun _ _ h => h))
  by_cases sm0 : n0 ≤ 2147483647
  case neg => exact (none_great0 A0 n0 c0 A1 n1 c1 W  (by omega) b0 b1).mono fun e W' ⟨he, hC⟩ => ⟨_, he, fin W' hC⟩
  by_cases sm1 : n1 ≤ 2147483647
  case neg => exact (none_great1 A0 n0 c0 A1 n1 c1 W sm0 (by omega) b0 b1).mono fun e W' ⟨he, hC⟩ => ⟨_, he, fin W' hC⟩
  exact (none_small A0 A1 n0 n1 c0 c1 xs0 xs1  W xl0 xl1 sm0 sm1 xr0 xr1 xb0 xb1 ).mono fun e W' ⟨he, hC⟩ => ⟨_, he, fin W' hC⟩

theorem none_holds : Rows.FnAVNoneSaid :=
  OpenClaim.holds_of_wide 4 Try.f4 rfl rfl rfl rfl rfl rfl rfl ⟨rfl, rfl, rfl, rfl, rfl⟩ rfl rfl rfl rfl rfl (by kernel_rfl) Try.func4 (by kernel_rfl)
    (of_decide_eq_true (by kernel_rfl)) (by unfold Func.isWrapper; first | (rw [if_pos (by decide +kernel)]; kernel_rfl) | (rw [if_neg (by decide +kernel)]; exact ⟨rfl, rfl⟩))
    (fun os started H enc _ => none_lifted os started H enc)
end Go.Proofs.Ytlppnbmaedgodaa
