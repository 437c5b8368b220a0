/- FnPQLook holds for every input (the card): looking at a queue changes nothing: with Peek, Len, Empty and Disposed between its steps the same comes out; Len goes down by what came out. No condition beyond the given row's. -/
import Derived.Test.YtpkeiankocimaaaDoorR
import Derived.Test.YtpkeiankocimaaaDoorLK
import Derived.Test.YtpkeiankocimaaaDoorCards
import Derived.Test.YtpkeiankocimaaaDoorTie
import Derived.LaidLaws
import Derived.SevenTiedAt
import Derived.JoinedOf
namespace Go.Proofs.YtpkeiankocimaaaDoor
open Go.ChangeShapes Go.WideShapes Go.ChangeAt Go.RowKit

set_option maxRecDepth 100000 in
theorem look_great (A : Option Addr) (n cap : Nat) (w : World) (h : 2147483648 ≤ n) (h' : n ≤ 9223372036854775807) :
    Calls Tryd.prog 3 #[.slice A n cap] w fun r w' => r = .returned (.bool true) ∧ Ch S0 w w' := by
  have h31 : (2147483647 : Int) < (n : Nat) := by omega
  clear h
  go_enter Tryd.func3, Tryd.ntmps3
  go_wp2_with fail
  go_ret
  exact ⟨rfl, Ch.refl S0 w⟩

set_option maxRecDepth 100000 in
theorem look_lifted (os : Os) (started : os.Started) (H : Type) (enc : TypeId × Value → H) :
    ReturnsInHanded {} Tryd.checked os 3 .any (fun w args => (Rows.fnPQLookSpec.pre enc Tryd.prog Tryd.f3 Rows.fnPQLookRow.domain false w args ∧ laidMet Tryd.prog Rows.fnPQLookRow.laid w) ∧ sizedMet enc Tryd.prog Tryd.f3 (OpenSpec.ofChange Rows.fnPQLookSpec) false w args)
      (Rows.fnPQLookSpec.post enc Tryd.prog Tryd.f3 false true false false) := by
  refine returnsInHanded_of_change_and (C := Tryd.checked) (X := fun w _ => laidMet Tryd.prog Rows.fnPQLookRow.laid w) (fun _ _ _ hh h => h.of_heap hh) Tryd.own started (by kernel_rfl) Tryd.func3
    (ChangeSpec.witness_at (enc := enc) (C := Tryd.checked) (os := os) (X := fun w _ => laidMet Tryd.prog Rows.fnPQLookRow.laid w) false (laidWorld os) #[.slice none 0 0] 8 rfl (by kernel_rfl) (by kernel_rfl) (by kernel_rfl) (by kernel_rfl) (by kernel_rfl) (laid_met os _)) ?_
  intro W base args ds gs before hval0 hW _ _ hL _
  obtain ⟨e1, e2, e3, hv1, hv2, hv3⟩ := er_of_laid hL
  have hval : ∀ (j : Nat) t v, Tryd.f3.params[j]? = some t → args[j]? = some v → Value.okWide Tryd.prog W .any base t v := hval0
  have hW' := hW
  obtain ⟨p, q, hA0, hV, rfl, hfz, hnd⟩ := hW
  have hA : DataW.TrodAll enc Tryd.prog W 0 (fun _ => true) true Tryd.f3.params.toList args.toList ds p := hA0
  rw [Tryd.params3] at hA hval
  obtain ⟨v0, vs0, d0, ds0, q0, r0, e0, rfl, rfl, h0, g0⟩ := trodAll_cons hA
  obtain ⟨rfl, rfl, rfl⟩ := trodAll_nil g0
  obtain rfl : args = #[v0] := by cases args; simp_all
  obtain ⟨rfl, rfl⟩ := DataW.TrodVars.unique hV (vars_read3 enc Tryd.gE1 Tryd.gT1 Tryd.underlying57 hv1 trivial Tryd.gE2 Tryd.gT2 Tryd.underlying57 hv2 trivial Tryd.gE3 Tryd.gT3 Tryd.underlying57 hv3 trivial _)
  obtain ⟨A, n, cap, xs, rfl, hn, hxl, hx, hx16⟩ := open_i16s (hval 0 22 v0 rfl rfl) h0
  have fin : ∀ W', Ch S0 W W' → Rows.fnPQLookSpec.post enc Tryd.prog Tryd.f3 false true false false W #[.slice A n cap] (.bool true) W' := fun W' hC => by
    have hb : Below W.heap.size W W' := hC.below (Nat.le_refl _) (fun _ _ h => h)
    exact law_postV hW' rfl (by kernel_rfl) ⟨rfl, rfl, rfl⟩ hb (fun q hq sp => by
      obtain ⟨_, rfl⟩ := DataW.TrodVars.unique hq hV
      exact vars_read3 enc Tryd.gE1 Tryd.gT1 Tryd.underlying57 (var?_below hv1 hb) trivial Tryd.gE2 Tryd.gT2 Tryd.underlying57 (var?_below hv2 hb) trivial Tryd.gE3 Tryd.gT3 Tryd.underlying57 (var?_below hv3 hb) trivial sp)
  by_cases hb1 : n ≤ 2147483647
  case neg => exact (look_great A n cap W (by omega) hn).mono fun e W' ⟨he, hC⟩ => ⟨_, he, fin W' hC⟩
  exact (look_small A n cap xs W hxl hb1 hx hx16).mono fun e W' ⟨he, hC⟩ => ⟨_, he, fin W' hC⟩

theorem look_holds : Rows.FnPQLookSaid :=
  OpenClaim.holds_of_wide 3 Tryd.f3 rfl rfl rfl rfl rfl rfl rfl ⟨rfl, rfl, rfl, rfl, rfl⟩ rfl rfl rfl rfl rfl (by kernel_rfl) Tryd.func3 (by kernel_rfl)
    (of_decide_eq_true (by kernel_rfl)) (by unfold Func.isWrapper; first | (rw [if_pos (by decide +kernel)]; kernel_rfl) | (rw [if_neg (by decide +kernel)]; exact ⟨rfl, rfl⟩))
    (fun os started H enc _ => look_lifted os started H enc)

/-- THE CARD. -/
theorem look_card : Rows.FnPQLookCardSaid :=
  Claim7.holds_tied_plain_at .later [] [.sentinel, .sentinel, .sentinel] true (true, "142819676f63405ec46e43a36c3ef371c521c251cde396b00bdf34e1ca52e8ca") true
    look_holds (fun _ h => by cases h) (by kernel_rfl) (fun _ h => by cases h) fnPQLook_row_tie rfl ⟨rfl, rfl⟩ (by kernel_rfl) rfl
    (fun f fn hf hfn => by
      obtain rfl : f = 3 := Option.some.inj ((show Tryd.prog.funcNamed "given.example/pub-spokeshave/laws.FnPQLook" = some 3 by kernel_rfl).symm.trans hf) |>.symm
      obtain rfl : fn = Tryd.f3 := (Option.some.inj (Tryd.func3.symm.trans hfn)).symm
      exact ⟨by kernel_rfl, fun j t ht => by
        rw [Tryd.params3] at ht
        have h3 : t = 22 := by
          rcases j with _ | j
          · simpa using ht.symm
          · simp at ht
        rw [h3]
        exact (show Tryd.prog.wantsStandIn 22 = false by kernel_rfl)⟩)
    (by kernel_rfl)
end Go.Proofs.YtpkeiankocimaaaDoor
