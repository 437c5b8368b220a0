/- FnGRNamed holds for every input (the card): with other names for its vertices a graph has as many of them, as many edges, the same errors, and the same neighbours. No condition beyond the given row's. -/
import Derived.Test.YtjifdcklmpibpaaDoorR
import Derived.Test.YtjifdcklmpibpaaDoorN3
import Derived.Test.YtjifdcklmpibpaaDoorCards
import Derived.Test.YtjifdcklmpibpaaDoorTie
import Derived.LaidLaws
import Derived.SevenTiedAt
import Derived.JoinedOf
namespace Go.Proofs.YtjifdcklmpibpaaDoor
open Go.ChangeShapes Go.WideShapes Go.ChangeAt Go.RowKit

set_option maxRecDepth 100000 in
theorem gnamed_great (n cap : Nat) (A : Option Addr) (p q : Nat) (w : World) (h : 2147483648 ≤ n) (h' : n ≤ 9223372036854775807) :
    Calls Tryd.prog 5 #[.slice A n cap, .int .u8 p, .int .u8 q] w fun r w' => r = .returned (.bool true) ∧ Ch S0 w w' := by
  have h31 : (2147483647 : Int) < (n : Nat) := by omega
  clear h
  go_enter Tryd.func5, Tryd.ntmps5
  go_wp2_with fail
  go_ret
  exact ⟨rfl, Ch.refl S0 w⟩

set_option maxRecDepth 100000 in
theorem gnamed_lifted (os : Os) (started : os.Started) (H : Type) (enc : TypeId × Value → H) :
    ReturnsInHanded {} Tryd.checked os 5 .any (fun w args => (Rows.fnGRNamedSpec.pre enc Tryd.prog Tryd.f5 Rows.fnGRNamedRow.domain false w args ∧ laidMet Tryd.prog Rows.fnGRNamedRow.laid w) ∧ sizedMet enc Tryd.prog Tryd.f5 (OpenSpec.ofChange Rows.fnGRNamedSpec) false w args)
      (Rows.fnGRNamedSpec.post enc Tryd.prog Tryd.f5 false true false false) := by
  refine returnsInHanded_of_change_and (C := Tryd.checked) (X := fun w _ => laidMet Tryd.prog Rows.fnGRNamedRow.laid w) (fun _ _ _ hh h => h.of_heap hh) Tryd.own started (by kernel_rfl) Tryd.func5
    (ChangeSpec.witness_at (enc := enc) (C := Tryd.checked) (os := os) (X := fun w _ => laidMet Tryd.prog Rows.fnGRNamedRow.laid w) false (laidWorld os) #[.slice none 0 0, .int .u8 0, .int .u8 0] 8 rfl (by kernel_rfl) (by kernel_rfl) (by kernel_rfl) (by kernel_rfl) (by kernel_rfl) (laid_met os _)) ?_
  intro W base args ds gs before hval0 hW _ _ hL _
  obtain ⟨e1, e2, e3, hE, hv1, hv2, hv3⟩ := er_of_laid hL
  have hval : ∀ (j : Nat) t v, Tryd.f5.params[j]? = some t → args[j]? = some v → Value.okWide Tryd.prog W .any base t v := hval0
  have hW' := hW
  obtain ⟨p, q, hA0, hV, rfl, hfz, hnd⟩ := hW
  have hA : DataW.TrodAll enc Tryd.prog W 0 (fun _ => true) true Tryd.f5.params.toList args.toList ds p := hA0
  rw [Tryd.params5] at hA hval
  obtain ⟨v0, vs0, d0, ds0, q0, r0, e0, rfl, rfl, h0, g0⟩ := trodAll_cons hA
  obtain ⟨v1, vs1, d1, ds1, q1, r1, rfl, rfl, rfl, h1, g1⟩ := trodAll_cons g0
  obtain ⟨v2, vs2, d2, ds2, q2, r2, rfl, rfl, rfl, h2, g2⟩ := trodAll_cons g1
  obtain ⟨rfl, rfl, rfl⟩ := trodAll_nil g2
  obtain rfl : args = #[v0, v1, v2] := by cases args; simp_all
  obtain ⟨rfl, rfl⟩ := DataW.TrodVars.unique hV (vars_read3 enc Tryd.gE2 Tryd.gT2 Tryd.underlying53 hv2 trivial Tryd.gE3 Tryd.gT3 Tryd.underlying53 hv3 trivial Tryd.gE1 Tryd.gT1 Tryd.underlying53 hv1 trivial _)
  obtain ⟨A, n, cap, xs, rfl, hn, hxl, hx⟩ := open_edges (hval 0 22 v0 rfl rfl) h0
  obtain ⟨a1, rfl, rfl, rfl, wa1⟩ := open_int Tryd.underlying5 (hval 1 5 v1 rfl rfl) h1
  obtain ⟨u1, rfl, hu1⟩ := wf_u8 wa1
  obtain ⟨a2, rfl, rfl, rfl, wa2⟩ := open_int Tryd.underlying5 (hval 2 5 v2 rfl rfl) h2
  obtain ⟨u, rfl, hu⟩ := wf_u8 wa2
  have fin : ∀ W', Ch S0 W W' → Rows.fnGRNamedSpec.post enc Tryd.prog Tryd.f5 false true false false W #[.slice A n cap, .int .u8 u1, .int .u8 u] (.bool true) W' := fun W' hC => by
    have hb : Below W.heap.size W W' := hC.below (Nat.le_refl _) (fun _ _ h => h)
    exact law_postV hW' rfl (by kernel_rfl) ⟨rfl, rfl, rfl⟩ hb (fun q hq sp => by
      obtain ⟨_, rfl⟩ := DataW.TrodVars.unique hq hV
      exact vars_read3 enc Tryd.gE2 Tryd.gT2 Tryd.underlying53 (var?_below hv2 hb) trivial Tryd.gE3 Tryd.gT3 Tryd.underlying53 (var?_below hv3 hb) trivial Tryd.gE1 Tryd.gT1 Tryd.underlying53 (var?_below hv1 hb) trivial sp)
  by_cases hb1 : n ≤ 2147483647
  case neg => exact (gnamed_great n cap A u1 u W (by omega) hn).mono fun e W' ⟨he, hC⟩ => ⟨_, he, fin W' hC⟩
  exact (gnamed_small n cap A xs u1 u W.heap.size e1 e2 e3 W hxl hb1 hx hE hu1 hu).mono fun e W' ⟨he, hC⟩ => ⟨_, he, fin W' hC⟩

theorem gnamed_holds : Rows.FnGRNamedSaid :=
  OpenClaim.holds_of_wide 5 Tryd.f5 rfl rfl rfl rfl rfl rfl rfl ⟨rfl, rfl, rfl, rfl, rfl⟩ rfl rfl rfl rfl rfl (by kernel_rfl) Tryd.func5 (by kernel_rfl)
    (of_decide_eq_true (by kernel_rfl)) (by unfold Func.isWrapper; first | (rw [if_pos (by decide +kernel)]; kernel_rfl) | (rw [if_neg (by decide +kernel)]; exact ⟨rfl, rfl⟩))
    (fun os started H enc _ => gnamed_lifted os started H enc)

/-- THE CARD. -/
theorem gnamed_card : Rows.FnGRNamedCardSaid :=
  Claim7.holds_tied_plain_at .later [] [.sentinel, .sentinel, .sentinel] true (true, "d6b381d4647543526d1494af46eeaa95908fb74a53e2d0a619e13a48df6719f0") true
    gnamed_holds (fun _ h => by cases h) (by kernel_rfl) (fun _ h => by cases h) fnGRNamed_row_tie rfl ⟨rfl, rfl⟩ (by kernel_rfl) rfl
    (fun f fn hf hfn => by
      obtain rfl : f = 5 := Option.some.inj ((show Tryd.prog.funcNamed "given.example/pub-spokeshave/laws.FnGRNamed" = some 5 by kernel_rfl).symm.trans hf) |>.symm
      obtain rfl : fn = Tryd.f5 := (Option.some.inj (Tryd.func5.symm.trans hfn)).symm
      exact ⟨by kernel_rfl, fun j t ht => by
        rw [Tryd.params5] at ht
        have h3 : t = 22 ∨ t = 5 ∨ t = 5 := by
          rcases j with _ | _ | _ | j
          · left; simpa using ht.symm
          · right; left; simpa using ht.symm
          · right; right; simpa using ht.symm
          · simp at ht
        rcases h3 with rfl | rfl | rfl
        · exact (show Tryd.prog.wantsStandIn 22 = false by kernel_rfl)
        · exact (show Tryd.prog.wantsStandIn 5 = false by kernel_rfl)
        · exact (show Tryd.prog.wantsStandIn 5 = false by kernel_rfl)⟩)
    (by kernel_rfl)
end Go.Proofs.YtjifdcklmpibpaaDoor
