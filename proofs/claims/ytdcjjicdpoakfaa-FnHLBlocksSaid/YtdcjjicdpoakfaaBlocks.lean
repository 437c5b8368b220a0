/- FnHLBlocks holds for every input: the 4^k numbers from a multiple of 4^k on are the places of a square of 2^k a side, at a multiple of 2^k. No condition beyond the given row's. -/
import Derived.Test.YtdcjjicdpoakfaaR
import Derived.Test.YtdcjjicdpoakfaaL
namespace Go.Proofs.Ytdcjjicdpoakfaa
open Go.ChangeShapes Go.WideShapes Go.ChangeAt Go.RowKit

set_option maxRecDepth 100000 in
theorem blocks_lifted (os : Os) (started : os.Started) (H : Type) (enc : TypeId × Value → H) :
    ReturnsInHanded {} Try.checked os 3 .any (Rows.fnHLBlocksSpec.pre6 enc Try.prog Try.f3 Rows.fnHLBlocksRow.domain false) (Rows.fnHLBlocksSpec.post enc Try.prog Try.f3 false true false false) := by
  refine returnsInHanded_of_change (C := Try.checked) Try.own started (by kernel_rfl) Try.func3
    (ChangeSpec.witness6 (enc := enc) (C := Try.checked) false ⟨#[], #[.int .u64 0, .int .u8 0, .int .u64 0], []⟩ 8 (by kernel_rfl) (by kernel_rfl) (by kernel_rfl) (by kernel_rfl)) ?_
  intro W base args ds gs before hval0 hW hcnd _
  have hval : ∀ (j : Nat) t v, Try.f3.params[j]? = some t → args[j]? = some v → Value.okWide Try.prog W .any base t v := hval0
  have hW' := hW
  obtain ⟨p, q, hA0, hV, rfl, hfz, hnd⟩ := hW
  have hA : DataW.TrodAll enc Try.prog W 0 (fun _ => true) true Try.f3.params.toList args.toList ds p := hA0
  rw [Try.params3] at hA hval
  obtain ⟨v0, v1, v2, d0, d1, d2, p0, p1, p2, rfl, rfl, rfl, h0, h1, h2⟩ := trodAll_three hA
  obtain ⟨rfl, rfl⟩ := trodVars_none hV
  obtain ⟨a, rfl, rfl, rfl, wa⟩ := open_int Try.underlying22 (hval 0 22 v0 rfl rfl) h0
  obtain ⟨b, rfl, rfl, rfl, wb⟩ := open_int Try.underlying5 (hval 1 5 v1 rfl rfl) h1
  obtain ⟨c, rfl, rfl, rfl, wc⟩ := open_int Try.underlying22 (hval 2 22 v2 rfl rfl) h2
  obtain ⟨n, rfl, hn⟩ := nat_of_wf wa
  obtain ⟨k, rfl, hk⟩ := nat8_of_wf wb
  obtain ⟨r, rfl, hr⟩ := nat_of_wf wc
  have fin : ∀ W', Ch S0 W W' → Rows.fnHLBlocksSpec.post enc Try.prog Try.f3 false true false false W #[.int .u64 n, .int .u8 k, .int .u64 r] (.bool true) W' := fun W' hC =>
    law_post hW' rfl rfl (by kernel_rfl) ⟨rfl, rfl, rfl⟩ (hC.below (Nat.le_refl _) (fun _ _ h => h))
  exact (blocks_walk n k r hn hk hr W).mono fun e W' ⟨he, hC⟩ => ⟨_, he, fin W' hC⟩

theorem blocks_holds : Rows.FnHLBlocksSaid :=
  OpenClaim.holds_of_wide 3 Try.f3 rfl rfl rfl rfl rfl rfl rfl ⟨rfl, rfl, rfl, rfl, rfl⟩ rfl rfl rfl rfl rfl (by kernel_rfl) Try.func3 (by kernel_rfl)
    (of_decide_eq_true (by kernel_rfl)) (by unfold Func.isWrapper; first | (rw [if_pos (by decide +kernel)]; kernel_rfl) | (rw [if_neg (by decide +kernel)]; exact ⟨rfl, rfl⟩))
    (fun os started H enc _ => blocks_lifted os started H enc)
end Go.Proofs.Ytdcjjicdpoakfaa
