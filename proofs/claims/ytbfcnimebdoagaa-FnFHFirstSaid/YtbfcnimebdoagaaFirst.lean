/- FnFHFirst holds for every input: an entry whose priority is decreased below all others comes out of the heap next, whichever it is and however many have come out ahead, and the others come out as before. No condition beyond the given row's. -/
import Derived.Test.YtbfcnimebdoagaaR1
import Derived.Test.YtbfcnimebdoagaaKF
namespace Go.Proofs.Ytbfcnimebdoagaa
open Go.ChangeShapes Go.WideShapes Go.ChangeAt Go.RowKit

set_option maxRecDepth 100000 in
theorem first_great0 (A0 : Option Addr) (n0 c0 : Nat) (k1 : Nat) (k2 : Nat) (w : World) (h : 2147483648 ≤ n0) (b0 : n0 ≤ 9223372036854775807) :
    Calls Try.prog 3 #[.slice A0 n0 c0, .int .u8 k1, .int .u8 k2] w fun e w' => e = .returned (.bool true) ∧ Ch S0 w w' := by
  have d0 : (2147483647 : Int) < (n0 : Nat) := by omega
  clear h
  go_enter Try.func3, Try.ntmps3
  go_wp2_with fail
  go_ret
  exact ⟨rfl, by first | exact Ch.refl _ _ | exact (Ch.refl _ _).drew⟩

/-- The room of a slice of numbers that came in. -/
theorem cap_i16 {H : Type} {enc : TypeId × Value → H} {W : World} {A : Option Addr} {n c : Nat} {d : DataW H} {p : List MemPlace} (h : DataW.Trod enc Try.prog W 0 (fun _ => true) true 22 (.slice A n c) d p) : n ≤ c ∧ c ≤ 9223372036854775807 := by
  obtain ⟨fuel, hf⟩ := h
  rcases Deep.open_slice Try.underlying22 hf with ⟨e, _⟩ | ⟨a, len, cap', m, k, D, Pl, e, hb, hl, hm, _⟩
  · simp [Value.cells] at e; omega
  · simp [Value.cells] at e
    obtain ⟨rfl, rfl, rfl⟩ := e
    exact ⟨hl, hm⟩
set_option maxRecDepth 100000 in
theorem first_lifted (os : Os) (started : os.Started) (H : Type) (enc : TypeId × Value → H) :
    ReturnsInHanded {} Try.checked os 3 .any (Rows.fnFHFirstSpec.pre6 enc Try.prog Try.f3 Rows.fnFHFirstRow.domain false) (Rows.fnFHFirstSpec.post enc Try.prog Try.f3 false true false false) := by
  refine returnsInHanded_of_change (C := Try.checked) Try.own started (by kernel_rfl) Try.func3
    (ChangeSpec.witness6 (enc := enc) (C := Try.checked) false ⟨#[], #[.slice none 0 0, .int .u8 0, .int .u8 0], []⟩ 8 (by kernel_rfl) (by kernel_rfl) (by kernel_rfl) (by kernel_rfl)) ?_
  intro W base args ds gs before hval0 hW hcnd _
  have hval : ∀ (j : Nat) t v, Try.f3.params[j]? = some t → args[j]? = some v → Value.okWide Try.prog W .any base t v := hval0
  have hW' := hW
  obtain ⟨p, q, hA0, hV, rfl, hfz, hnd⟩ := hW
  have hA : DataW.TrodAll enc Try.prog W 0 (fun _ => true) true Try.f3.params.toList args.toList ds p := hA0
  rw [Try.params3] at hA hval
  obtain ⟨v0, vs0, d0, ds0, q0, r0, e0, rfl, rfl, h0, g0⟩ := trodAll_cons hA
  obtain ⟨v1, vs1, d1, ds1, q1, r1, rfl, rfl, rfl, h1, g1⟩ := trodAll_cons g0
  obtain ⟨v2, vs2, d2, ds2, q2, r2, rfl, rfl, rfl, h2, g2⟩ := trodAll_cons g1
  obtain ⟨rfl, rfl, rfl⟩ := trodAll_nil g2
  obtain rfl : args = #[v0, v1, v2] := by cases args; simp_all
  obtain ⟨rfl, rfl⟩ := trodVars_none hV
  obtain ⟨A0, n0, c0, xs0, rfl, b0, xl0, xr0, xb0⟩ := open_i16s (hval 0 22 v0 rfl rfl) h0
  obtain ⟨cp1, cp2⟩ := cap_i16 h0
  obtain ⟨a1, rfl, rfl, rfl, wa1⟩ := open_int Try.underlying5 (hval 1 5 v1 rfl rfl) h1
  obtain ⟨k1, rfl, kb1⟩ := wf_u8 wa1
  obtain ⟨a2, rfl, rfl, rfl, wa2⟩ := open_int Try.underlying5 (hval 2 5 v2 rfl rfl) h2
  obtain ⟨k2, rfl, kb2⟩ := wf_u8 wa2
  have fin : ∀ W', Ch S0 W W' → Rows.fnFHFirstSpec.post enc Try.prog Try.f3 false true false false W #[.slice A0 n0 c0, .int .u8 k1, .int .u8 k2] (.bool true) W' := fun W' hC =>
    law_post hW' rfl rfl (by kernel_rfl) ⟨rfl, rfl, rfl⟩ (hC.below (Nat.le_refl _) (fun _ _ h => h))
  by_cases sm0 : n0 ≤ 2147483647
  case neg => exact (first_great0 A0 n0 c0 k1 k2 W  (by omega) b0).mono fun e W' ⟨he, hC⟩ => ⟨_, he, fin W' hC⟩
  exact (first_small A0 n0 c0 xs0 k1 k2 W xl0 sm0 xr0 xb0 (by omega) (by omega) cp1 cp2).mono fun e W' ⟨he, hC⟩ => ⟨_, he, fin W' hC⟩

theorem first_holds : Rows.FnFHFirstSaid :=
  OpenClaim.holds_of_wide 3 Try.f3 rfl rfl rfl rfl rfl rfl rfl ⟨rfl, rfl, rfl, rfl, rfl⟩ rfl rfl rfl rfl rfl (by kernel_rfl) Try.func3 (by kernel_rfl)
    (of_decide_eq_true (by kernel_rfl)) (by unfold Func.isWrapper; first | (rw [if_pos (by decide +kernel)]; kernel_rfl) | (rw [if_neg (by decide +kernel)]; exact ⟨rfl, rfl⟩))
    (fun os started H enc _ => first_lifted os started H enc)
end Go.Proofs.Ytbfcnimebdoagaa
