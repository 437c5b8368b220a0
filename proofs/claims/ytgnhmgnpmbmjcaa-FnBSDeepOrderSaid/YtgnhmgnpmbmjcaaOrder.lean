/- FnBSDeepOrder holds for every input: setting two bits in either order, and one of them again, is the same; both are set then. No condition beyond the given row's. -/
import Derived.Test.YtgnhmgnpmbmjcaaR
import Derived.Test.YtgnhmgnpmbmjcaaLOrder
namespace Go.Proofs.Ytgnhmgnpmbmjcaa
open Go.ChangeShapes Go.WideShapes Go.ChangeAt Go.RowKit

set_option maxRecDepth 100000 in
theorem order_lifted (os : Os) (started : os.Started) (H : Type) (enc : TypeId × Value → H) :
    ReturnsInHanded {} Try.checked os 3 .any (Rows.fnBSDeepOrderSpec.pre6 enc Try.prog Try.f3 Rows.fnBSDeepOrderRow.domain false) (Rows.fnBSDeepOrderSpec.post enc Try.prog Try.f3 false true false false) := by
  refine returnsInHanded_of_change (C := Try.checked) Try.own started (by kernel_rfl) Try.func3
    (ChangeSpec.witness6 (enc := enc) (C := Try.checked) false ⟨#[], #[.agg #[.int .u64 0, .slice none 0 0], .int .u16 0, .int .u16 0], []⟩ 8 (by kernel_rfl) (by kernel_rfl) (by kernel_rfl) (by kernel_rfl)) ?_
  intro W base args ds gs before hval0 hW hcnd _
  have hval : ∀ (j : Nat) t v, Try.f3.params[j]? = some t → args[j]? = some v → Value.okWide Try.prog W .any base t v := hval0
  have hW' := hW
  obtain ⟨p, q, hA0, hV, rfl, hfz, hnd⟩ := hW
  have hA : DataW.TrodAll enc Try.prog W 0 (fun _ => true) true Try.f3.params.toList args.toList ds p := hA0
  rw [Try.params3] at hA hval
  obtain ⟨v0, v1, v2, d0, d1, d2, p0, p1, p2, rfl, rfl, rfl, h0, h1, h2⟩ := trodAll_three hA
  obtain ⟨rfl, rfl⟩ := trodVars_none hV
  obtain ⟨l, A, n, cap, xs, rfl, hL, hxl, hn, hx⟩ := open_bits (hval 0 25 v0 rfl rfl) h0
  obtain ⟨a, rfl, rfl, rfl, wa⟩ := open_int Try.underlying26 (hval 1 26 v1 rfl rfl) h1
  obtain ⟨b, rfl, rfl, rfl, wb⟩ := open_int Try.underlying26 (hval 2 26 v2 rfl rfl) h2
  obtain ⟨one, rfl, h16a⟩ := nat16_of_wf wa
  obtain ⟨two, rfl, h16b⟩ := nat16_of_wf wb
  have fin : ∀ W', Ch S0 W W' → Rows.fnBSDeepOrderSpec.post enc Try.prog Try.f3 false true false false W #[.agg #[.int .u64 l, .slice A n cap], .int .u16 one, .int .u16 two] (.bool true) W' := fun W' hC =>
    law_post hW' rfl rfl (by kernel_rfl) ⟨rfl, rfl, rfl⟩ (hC.below (Nat.le_refl _) (fun _ _ h => h))
  by_cases hbig : n ≤ 2147483647
  · exact (order_small l A n cap one two xs W hL hx hxl hbig h16a h16b).mono fun e W' ⟨he, hC⟩ => ⟨_, he, fin W' hC⟩
  · exact (order_great l A n cap _ _ W (by omega) hn).mono fun e W' ⟨he, hC⟩ => ⟨_, he, fin W' hC⟩

theorem order_holds : Rows.FnBSDeepOrderSaid :=
  OpenClaim.holds_of_wide 3 Try.f3 rfl rfl rfl rfl rfl rfl rfl ⟨rfl, rfl, rfl, rfl, rfl⟩ rfl rfl rfl rfl rfl (by kernel_rfl) Try.func3 (by kernel_rfl)
    (of_decide_eq_true (by kernel_rfl)) (by unfold Func.isWrapper; first | (rw [if_pos (by decide +kernel)]; kernel_rfl) | (rw [if_neg (by decide +kernel)]; exact ⟨rfl, rfl⟩))
    (fun os started H enc _ => order_lifted os started H enc)
end Go.Proofs.Ytgnhmgnpmbmjcaa
