/- FnBLDeepFull holds for every input: a filter all of whose bits are set finds everything, and so does one into which it is merged. No condition beyond the given row's. -/
import Derived.Test.YtagillnkdaanaaaRR
import Derived.Test.YtagillnkdaanaaaLFull
namespace Go.Proofs.Ytagillnkdaanaaa
open Go.ChangeShapes Go.WideShapes Go.ChangeAt Go.RowKit

set_option maxRecDepth 100000 in
set_option maxHeartbeats 1000000 in
theorem full_great1 (m k : Nat) (P1 : Option Addr) (n1 c1 : Nat) (P2 : Option Addr) (n2 c2 : Nat) (w : World) (h : 2147483648 ≤ n1) (b1 : n1 ≤ 9223372036854775807) (b2 : n2 ≤ 9223372036854775807) :
    Calls Try.prog 5 #[.int .u16 m, .int .u8 k, .slice P1 n1 c1, .slice P2 n2 c2] w fun e w' => e = .returned (.bool true) ∧ Ch S0 w w' := by
  have d1 : (2147483647 : Int) < (n1 : Nat) := by omega
  clear h
  go_enter Try.func5, Try.ntmps5
  go_wp2_with fail
  go_ret
  exact ⟨rfl, by first | exact Ch.refl _ _ | exact (Ch.refl _ _).drew⟩

set_option maxRecDepth 100000 in
set_option maxHeartbeats 1000000 in
theorem full_great2 (m k : Nat) (P1 : Option Addr) (n1 c1 : Nat) (P2 : Option Addr) (n2 c2 : Nat) (w : World) (s1 : n1 ≤ 2147483647) (h : 2147483648 ≤ n2) (b1 : n1 ≤ 9223372036854775807) (b2 : n2 ≤ 9223372036854775807) :
    Calls Try.prog 5 #[.int .u16 m, .int .u8 k, .slice P1 n1 c1, .slice P2 n2 c2] w fun e w' => e = .returned (.bool true) ∧ Ch S0 w w' := by
  have d1 : ¬ (2147483647 : Int) < (n1 : Nat) := by omega
  have d2 : (2147483647 : Int) < (n2 : Nat) := by omega
  clear h
  go_enter Try.func5, Try.ntmps5
  go_wp2_with fail
  go_ret
  exact ⟨rfl, by first | exact Ch.refl _ _ | exact (Ch.refl _ _).drew⟩

set_option maxRecDepth 100000 in
theorem full_lifted (os : Os) (started : os.Started) (H : Type) (enc : TypeId × Value → H) :
    ReturnsInHanded {} Try.checked os 5 .any (Rows.fnBLDeepFullSpec.pre6 enc Try.prog Try.f5 Rows.fnBLDeepFullRow.domain false) (Rows.fnBLDeepFullSpec.post enc Try.prog Try.f5 false true false false) := by
  refine returnsInHanded_of_change (C := Try.checked) Try.own started (by kernel_rfl) Try.func5
    (ChangeSpec.witness6 (enc := enc) (C := Try.checked) false ⟨#[], #[.int .u16 0, .int .u8 0, .slice none 0 0, .slice none 0 0], []⟩ 8 (by kernel_rfl) (by kernel_rfl) (by kernel_rfl) (by kernel_rfl)) ?_
  intro W base args ds gs before hval0 hW hcnd _
  have hval : ∀ (j : Nat) t v, Try.f5.params[j]? = some t → args[j]? = some v → Value.okWide Try.prog W .any base t v := hval0
  have hW' := hW
  obtain ⟨p, q, hA0, hV, rfl, hfz, hnd⟩ := hW
  have hA : DataW.TrodAll enc Try.prog W 0 (fun _ => true) true Try.f5.params.toList args.toList ds p := hA0
  rw [Try.params5] at hA hval
  obtain ⟨v0, vs0, d0, ds0, q0, r0, e0, rfl, rfl, h0, g0⟩ := trodAll_cons hA
  obtain ⟨v1, vs1, d1, ds1, q1, r1, rfl, rfl, rfl, h1, g1⟩ := trodAll_cons g0
  obtain ⟨v2, vs2, d2, ds2, q2, r2, rfl, rfl, rfl, h2, g2⟩ := trodAll_cons g1
  obtain ⟨v3, vs3, d3, ds3, q3, r3, rfl, rfl, rfl, h3, g3⟩ := trodAll_cons g2
  obtain ⟨rfl, rfl, rfl⟩ := trodAll_nil g3
  obtain rfl : args = #[v0, v1, v2, v3] := by cases args; simp_all
  obtain ⟨rfl, rfl⟩ := trodVars_none hV
  obtain ⟨a0, rfl, rfl, rfl, wa0⟩ := open_int Try.underlying22 (hval 0 22 v0 rfl rfl) h0
  obtain ⟨m, rfl, hm⟩ := nat16_of_wf wa0
  obtain ⟨a1, rfl, rfl, rfl, wa1⟩ := open_int Try.underlying5 (hval 1 5 v1 rfl rfl) h1
  obtain ⟨k, rfl, hk⟩ := nat8_of_wf wa1
  obtain ⟨P1, n1, c1, x1, rfl, hX1, b1⟩ := open_words (hval 2 23 v2 rfl rfl) h2
  obtain ⟨P2, n2, c2, f2, rfl, hX2, b2⟩ := open_bytes (hval 3 24 v3 rfl rfl) h3
  have fin : ∀ W', Ch S0 W W' → Rows.fnBLDeepFullSpec.post enc Try.prog Try.f5 false true false false W #[.int .u16 m, .int .u8 k, .slice P1 n1 c1, .slice P2 n2 c2] (.bool true) W' := fun W' hC =>
    law_post hW' rfl rfl (by kernel_rfl) ⟨rfl, rfl, rfl⟩ (hC.below (Nat.le_refl _) (fun _ _ h => h))
  by_cases s1 : n1 ≤ 2147483647
  case neg => exact (full_great1 m k P1 n1 c1 P2 n2 c2 W  (by omega) b1 b2).mono fun e W' ⟨he, hC⟩ => ⟨_, he, fin W' hC⟩
  by_cases s2 : n2 ≤ 2147483647
  case neg => exact (full_great2 m k P1 n1 c1 P2 n2 c2 W s1 (by omega) b1 b2).mono fun e W' ⟨he, hC⟩ => ⟨_, he, fin W' hC⟩
  exact (full_small m k P1 n1 c1 x1 P2 n2 c2 f2 W hm hk s1 hX1 s2 hX2).mono fun e W' ⟨he, hC⟩ => ⟨_, he, fin W' hC⟩

theorem full_holds : Rows.FnBLDeepFullSaid :=
  OpenClaim.holds_of_wide 5 Try.f5 rfl rfl rfl rfl rfl rfl rfl ⟨rfl, rfl, rfl, rfl, rfl⟩ rfl rfl rfl rfl rfl (by kernel_rfl) Try.func5 (by kernel_rfl)
    (of_decide_eq_true (by kernel_rfl)) (by unfold Func.isWrapper; first | (rw [if_pos (by decide +kernel)]; kernel_rfl) | (rw [if_neg (by decide +kernel)]; exact ⟨rfl, rfl⟩))
    (fun os started H enc _ => full_lifted os started H enc)
end Go.Proofs.Ytagillnkdaanaaa
