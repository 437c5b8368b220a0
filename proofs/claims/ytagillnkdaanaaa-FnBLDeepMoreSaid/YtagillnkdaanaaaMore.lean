/- FnBLDeepMore holds for every input: what is found in a filter is found, too, when anything is added, or another filter is merged in. No condition beyond the given row's. -/
import Derived.Test.YtagillnkdaanaaaRR
import Derived.Test.YtagillnkdaanaaaLMore
namespace Go.Proofs.Ytagillnkdaanaaa
open Go.ChangeShapes Go.WideShapes Go.ChangeAt Go.RowKit

set_option maxRecDepth 100000 in
set_option maxHeartbeats 1000000 in
theorem more_great1 (m k : Nat) (P1 : Option Addr) (n1 c1 : Nat) (P2 : Option Addr) (n2 c2 : Nat) (P3 : Option Addr) (n3 c3 : Nat) (P4 : Option Addr) (n4 c4 : Nat) (w : World) (h : 2147483648 ≤ n1) (b1 : n1 ≤ 9223372036854775807) (b2 : n2 ≤ 9223372036854775807) (b3 : n3 ≤ 9223372036854775807) (b4 : n4 ≤ 9223372036854775807) :
    Calls Try.prog 3 #[.int .u16 m, .int .u8 k, .slice P1 n1 c1, .slice P2 n2 c2, .slice P3 n3 c3, .slice P4 n4 c4] w fun e w' => e = .returned (.bool true) ∧ Ch S0 w w' := by
  have d1 : (2147483647 : Int) < (n1 : Nat) := by omega
  clear h
  go_enter Try.func3, Try.ntmps3
  go_wp2_with fail
  go_ret
  exact ⟨rfl, by first | exact Ch.refl _ _ | exact (Ch.refl _ _).drew⟩

set_option maxRecDepth 100000 in
set_option maxHeartbeats 1000000 in
theorem more_great2 (m k : Nat) (P1 : Option Addr) (n1 c1 : Nat) (P2 : Option Addr) (n2 c2 : Nat) (P3 : Option Addr) (n3 c3 : Nat) (P4 : Option Addr) (n4 c4 : Nat) (w : World) (s1 : n1 ≤ 2147483647) (h : 2147483648 ≤ n2) (b1 : n1 ≤ 9223372036854775807) (b2 : n2 ≤ 9223372036854775807) (b3 : n3 ≤ 9223372036854775807) (b4 : n4 ≤ 9223372036854775807) :
    Calls Try.prog 3 #[.int .u16 m, .int .u8 k, .slice P1 n1 c1, .slice P2 n2 c2, .slice P3 n3 c3, .slice P4 n4 c4] w fun e w' => e = .returned (.bool true) ∧ Ch S0 w w' := by
  have d1 : ¬ (2147483647 : Int) < (n1 : Nat) := by omega
  have d2 : (2147483647 : Int) < (n2 : Nat) := by omega
  clear h
  go_enter Try.func3, Try.ntmps3
  go_wp2_with fail
  go_ret
  exact ⟨rfl, by first | exact Ch.refl _ _ | exact (Ch.refl _ _).drew⟩

set_option maxRecDepth 100000 in
set_option maxHeartbeats 1000000 in
theorem more_great3 (m k : Nat) (P1 : Option Addr) (n1 c1 : Nat) (P2 : Option Addr) (n2 c2 : Nat) (P3 : Option Addr) (n3 c3 : Nat) (P4 : Option Addr) (n4 c4 : Nat) (w : World) (s1 : n1 ≤ 2147483647) (s2 : n2 ≤ 2147483647) (h : 2147483648 ≤ n3) (b1 : n1 ≤ 9223372036854775807) (b2 : n2 ≤ 9223372036854775807) (b3 : n3 ≤ 9223372036854775807) (b4 : n4 ≤ 9223372036854775807) :
    Calls Try.prog 3 #[.int .u16 m, .int .u8 k, .slice P1 n1 c1, .slice P2 n2 c2, .slice P3 n3 c3, .slice P4 n4 c4] w fun e w' => e = .returned (.bool true) ∧ Ch S0 w w' := by
  have d1 : ¬ (2147483647 : Int) < (n1 : Nat) := by omega
  have d2 : ¬ (2147483647 : Int) < (n2 : Nat) := by omega
  have d3 : (2147483647 : Int) < (n3 : Nat) := by omega
  clear h
  go_enter Try.func3, Try.ntmps3
  go_wp2_with fail
  go_ret
  exact ⟨rfl, by first | exact Ch.refl _ _ | exact (Ch.refl _ _).drew⟩

set_option maxRecDepth 100000 in
set_option maxHeartbeats 1000000 in
theorem more_great4 (m k : Nat) (P1 : Option Addr) (n1 c1 : Nat) (P2 : Option Addr) (n2 c2 : Nat) (P3 : Option Addr) (n3 c3 : Nat) (P4 : Option Addr) (n4 c4 : Nat) (w : World) (s1 : n1 ≤ 2147483647) (s2 : n2 ≤ 2147483647) (s3 : n3 ≤ 2147483647) (h : 2147483648 ≤ n4) (b1 : n1 ≤ 9223372036854775807) (b2 : n2 ≤ 9223372036854775807) (b3 : n3 ≤ 9223372036854775807) (b4 : n4 ≤ 9223372036854775807) :
    Calls Try.prog 3 #[.int .u16 m, .int .u8 k, .slice P1 n1 c1, .slice P2 n2 c2, .slice P3 n3 c3, .slice P4 n4 c4] w fun e w' => e = .returned (.bool true) ∧ Ch S0 w w' := by
  have d1 : ¬ (2147483647 : Int) < (n1 : Nat) := by omega
  have d2 : ¬ (2147483647 : Int) < (n2 : Nat) := by omega
  have d3 : ¬ (2147483647 : Int) < (n3 : Nat) := by omega
  have d4 : (2147483647 : Int) < (n4 : Nat) := by omega
  clear h
  go_enter Try.func3, Try.ntmps3
  go_wp2_with fail
  go_ret
  exact ⟨rfl, by first | exact Ch.refl _ _ | exact (Ch.refl _ _).drew⟩

set_option maxRecDepth 100000 in
theorem more_lifted (os : Os) (started : os.Started) (H : Type) (enc : TypeId × Value → H) :
    ReturnsInHanded {} Try.checked os 3 .any (Rows.fnBLDeepMoreSpec.pre6 enc Try.prog Try.f3 Rows.fnBLDeepMoreRow.domain false) (Rows.fnBLDeepMoreSpec.post enc Try.prog Try.f3 false true false false) := by
  refine returnsInHanded_of_change (C := Try.checked) Try.own started (by kernel_rfl) Try.func3
    (ChangeSpec.witness6 (enc := enc) (C := Try.checked) false ⟨#[], #[.int .u16 0, .int .u8 0, .slice none 0 0, .slice none 0 0, .slice none 0 0, .slice none 0 0], []⟩ 8 (by kernel_rfl) (by kernel_rfl) (by kernel_rfl) (by kernel_rfl)) ?_
  intro W base args ds gs before hval0 hW hcnd _
  have hval : ∀ (j : Nat) t v, Try.f3.params[j]? = some t → args[j]? = some v → Value.okWide Try.prog W .any base t v := hval0
  have hW' := hW
  obtain ⟨p, q, hA0, hV, rfl, hfz, hnd⟩ := hW
  have hA : DataW.TrodAll enc Try.prog W 0 (fun _ => true) true Try.f3.params.toList args.toList ds p := hA0
  rw [Try.params3] at hA hval
  obtain ⟨v0, vs0, d0, ds0, q0, r0, e0, rfl, rfl, h0, g0⟩ := trodAll_cons hA
  obtain ⟨v1, vs1, d1, ds1, q1, r1, rfl, rfl, rfl, h1, g1⟩ := trodAll_cons g0
  obtain ⟨v2, vs2, d2, ds2, q2, r2, rfl, rfl, rfl, h2, g2⟩ := trodAll_cons g1
  obtain ⟨v3, vs3, d3, ds3, q3, r3, rfl, rfl, rfl, h3, g3⟩ := trodAll_cons g2
  obtain ⟨v4, vs4, d4, ds4, q4, r4, rfl, rfl, rfl, h4, g4⟩ := trodAll_cons g3
  obtain ⟨v5, vs5, d5, ds5, q5, r5, rfl, rfl, rfl, h5, g5⟩ := trodAll_cons g4
  obtain ⟨rfl, rfl, rfl⟩ := trodAll_nil g5
  obtain rfl : args = #[v0, v1, v2, v3, v4, v5] := by cases args; simp_all
  obtain ⟨rfl, rfl⟩ := trodVars_none hV
  obtain ⟨a0, rfl, rfl, rfl, wa0⟩ := open_int Try.underlying22 (hval 0 22 v0 rfl rfl) h0
  obtain ⟨m, rfl, hm⟩ := nat16_of_wf wa0
  obtain ⟨a1, rfl, rfl, rfl, wa1⟩ := open_int Try.underlying5 (hval 1 5 v1 rfl rfl) h1
  obtain ⟨k, rfl, hk⟩ := nat8_of_wf wa1
  obtain ⟨P1, n1, c1, x1, rfl, hX1, b1⟩ := open_words (hval 2 23 v2 rfl rfl) h2
  obtain ⟨P2, n2, c2, x2, rfl, hX2, b2⟩ := open_words (hval 3 23 v3 rfl rfl) h3
  obtain ⟨P3, n3, c3, f3, rfl, hX3, b3⟩ := open_bytes (hval 4 24 v4 rfl rfl) h4
  obtain ⟨P4, n4, c4, f4, rfl, hX4, b4⟩ := open_bytes (hval 5 24 v5 rfl rfl) h5
  have fin : ∀ W', Ch S0 W W' → Rows.fnBLDeepMoreSpec.post enc Try.prog Try.f3 false true false false W #[.int .u16 m, .int .u8 k, .slice P1 n1 c1, .slice P2 n2 c2, .slice P3 n3 c3, .slice P4 n4 c4] (.bool true) W' := fun W' hC =>
    law_post hW' rfl rfl (by kernel_rfl) ⟨rfl, rfl, rfl⟩ (hC.below (Nat.le_refl _) (fun _ _ h => h))
  by_cases s1 : n1 ≤ 2147483647
  case neg => exact (more_great1 m k P1 n1 c1 P2 n2 c2 P3 n3 c3 P4 n4 c4 W  (by omega) b1 b2 b3 b4).mono fun e W' ⟨he, hC⟩ => ⟨_, he, fin W' hC⟩
  by_cases s2 : n2 ≤ 2147483647
  case neg => exact (more_great2 m k P1 n1 c1 P2 n2 c2 P3 n3 c3 P4 n4 c4 W s1 (by omega) b1 b2 b3 b4).mono fun e W' ⟨he, hC⟩ => ⟨_, he, fin W' hC⟩
  by_cases s3 : n3 ≤ 2147483647
  case neg => exact (more_great3 m k P1 n1 c1 P2 n2 c2 P3 n3 c3 P4 n4 c4 W s1 s2 (by omega) b1 b2 b3 b4).mono fun e W' ⟨he, hC⟩ => ⟨_, he, fin W' hC⟩
  by_cases s4 : n4 ≤ 2147483647
  case neg => exact (more_great4 m k P1 n1 c1 P2 n2 c2 P3 n3 c3 P4 n4 c4 W s1 s2 s3 (by omega) b1 b2 b3 b4).mono fun e W' ⟨he, hC⟩ => ⟨_, he, fin W' hC⟩
  exact (more_small m k P1 P2 n1 c1 n2 c2 x1 x2 P3 P4 n3 c3 n4 c4 f3 f4 W hm hk s1 hX1 s2 hX2 s3 hX3 s4 hX4).mono fun e W' ⟨he, hC⟩ => ⟨_, he, fin W' hC⟩

theorem more_holds : Rows.FnBLDeepMoreSaid :=
  OpenClaim.holds_of_wide 3 Try.f3 rfl rfl rfl rfl rfl rfl rfl ⟨rfl, rfl, rfl, rfl, rfl⟩ rfl rfl rfl rfl rfl (by kernel_rfl) Try.func3 (by kernel_rfl)
    (of_decide_eq_true (by kernel_rfl)) (by unfold Func.isWrapper; first | (rw [if_pos (by decide +kernel)]; kernel_rfl) | (rw [if_neg (by decide +kernel)]; exact ⟨rfl, rfl⟩))
    (fun os started H enc _ => more_lifted os started H enc)
end Go.Proofs.Ytagillnkdaanaaa
