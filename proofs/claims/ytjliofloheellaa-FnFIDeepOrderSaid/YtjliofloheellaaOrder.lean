/- FnFIDeepOrder holds for every input: sets of different keys, done in either order on two new maps, answer alike. No condition beyond the given row's. -/
import Derived.Test.YtjliofloheellaaR
namespace Go.Proofs.Ytjliofloheellaa
open Go.ChangeShapes Go.WideShapes Go.ChangeAt Go.RowKit

set_option maxRecDepth 100000 in
set_option maxHeartbeats 1000000 in
theorem order_great (u n cap ot : Nat) (A : Option Addr) (w : World) (h : 2147483648 ≤ n) (h' : n ≤ 9223372036854775807) :
    Calls Try.prog 3 #[.int .u16 u, .slice A n cap, .int .u64 ot] w fun e w' => e = .returned (.bool true) ∧ Ch S0 w w' := by
  have d1 : (2147483647 : Int) < (n : Nat) := by omega
  clear h
  go_enter Try.func3, Try.ntmps3
  go_wp2_with fail
  go_ret
  exact ⟨rfl, by first | exact Ch.refl _ _ | exact (Ch.refl _ _).drew⟩

set_option maxRecDepth 100000 in
theorem order_lifted (os : Os) (started : os.Started) (H : Type) (enc : TypeId × Value → H) :
    ReturnsInHanded {} Try.checked os 3 .any (Rows.fnFIDeepOrderSpec.pre6 enc Try.prog Try.f3 Rows.fnFIDeepOrderRow.domain false) (Rows.fnFIDeepOrderSpec.post enc Try.prog Try.f3 false true false false) := by
  refine returnsInHanded_of_change (C := Try.checked) Try.own started (by kernel_rfl) Try.func3
    (ChangeSpec.witness6 (enc := enc) (C := Try.checked) false ⟨#[], #[.int .u16 0, .slice none 0 0, .int .u64 0], []⟩ 8 (by kernel_rfl) (by kernel_rfl) (by kernel_rfl) (by kernel_rfl)) ?_
  intro W base args ds gs before hval0 hW hcnd _
  have hval : ∀ (j : Nat) t v, Try.f3.params[j]? = some t → args[j]? = some v → Value.okWide Try.prog W .any base t v := hval0
  have hW' := hW
  obtain ⟨p, q, hA0, hV, rfl, hfz, hnd⟩ := hW
  have hA : DataW.TrodAll enc Try.prog W 0 (fun _ => true) true Try.f3.params.toList args.toList ds p := hA0
  rw [Try.params3] at hA hval
  obtain ⟨v0, vs0, d0, ds0, q0, r0, e0, rfl, rfl, h0, g0⟩ := trodAll_cons hA
  obtain ⟨v1, vs1, d1, ds1, q1, r1, rfl, rfl, rfl, h1, g1⟩ := trodAll_cons g0
  obtain ⟨v2, vs2, d2, ds2, q2, r2, rfl, rfl, rfl, h2, g2⟩ := trodAll_cons g1
  obtain ⟨rfl, rfl, rfl⟩ := trodAll_nil g2
  obtain rfl : args = #[v0, v1, v2] := by cases args; simp_all
  obtain ⟨rfl, rfl⟩ := trodVars_none hV
  obtain ⟨a0, rfl, rfl, rfl, wa0⟩ := open_int Try.underlying22 (hval 0 22 v0 rfl rfl) h0
  obtain ⟨u, rfl, hu⟩ := nat16_of_wf wa0
  obtain ⟨A, n, cap, k, v, rfl, hn, hP⟩ := open_steps (hval 1 23 v1 rfl rfl) h1
  obtain ⟨a2, rfl, rfl, rfl, wa2⟩ := open_int Try.underlying24 (hval 2 24 v2 rfl rfl) h2
  obtain ⟨ot, rfl, hot⟩ := nat_of_wf wa2
  have fin : ∀ W', Ch S0 W W' → Rows.fnFIDeepOrderSpec.post enc Try.prog Try.f3 false true false false W #[.int .u16 u, .slice A n cap, .int .u64 ot] (.bool true) W' := fun W' hC =>
    law_post hW' rfl rfl (by kernel_rfl) ⟨rfl, rfl, rfl⟩ (hC.below (Nat.le_refl _) (fun _ _ h => h))
  by_cases hb1 : n ≤ 2147483647
  case neg => exact (order_great u n cap ot A W (by omega) hn).mono fun e W' ⟨he, hC⟩ => ⟨_, he, fin W' hC⟩
  exact (order_small u n cap ot A k v W hu hb1 hP (by omega)).mono fun e W' ⟨he, hC⟩ => ⟨_, he, fin W' hC⟩

theorem order_holds : Rows.FnFIDeepOrderSaid :=
  OpenClaim.holds_of_wide 3 Try.f3 rfl rfl rfl rfl rfl rfl rfl ⟨rfl, rfl, rfl, rfl, rfl⟩ rfl rfl rfl rfl rfl (by kernel_rfl) Try.func3 (by kernel_rfl)
    (of_decide_eq_true (by kernel_rfl)) (by unfold Func.isWrapper; first | (rw [if_pos (by decide +kernel)]; kernel_rfl) | (rw [if_neg (by decide +kernel)]; exact ⟨rfl, rfl⟩))
    (fun os started H enc _ => order_lifted os started H enc)
end Go.Proofs.Ytjliofloheellaa
