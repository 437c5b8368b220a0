/- FnGRMore holds for every input (the card): a further edge makes the degrees of both its ends greater by one, if it is new, and no other one. No condition beyond the given row's. -/
import Derived.Test.YtjifdcklmpibpaaDoorR
import Derived.Test.YtjifdcklmpibpaaDoorCards
import Derived.Test.YtjifdcklmpibpaaDoorTie
import Derived.LaidLaws
import Derived.SevenTiedAt
import Derived.JoinedOf
namespace Go.Proofs.YtjifdcklmpibpaaDoor
open Go.ChangeShapes Go.WideShapes Go.ChangeAt Go.RowKit

set_option maxRecDepth 100000 in
theorem more_great (n cap : Nat) (A : Option Addr) (X Y : Int) (q : Nat) (w : World) (h : 2147483648 ≤ n) (h' : n ≤ 9223372036854775807) :
    Calls Tryd.prog 3 #[.slice A n cap, .agg #[.int .i64 X, .int .i64 Y], .int .u8 q] w fun r w' => r = .returned (.bool true) ∧ Ch S0 w w' := by
  have h31 : (2147483647 : Int) < (n : Nat) := by omega
  clear h
  go_enter Tryd.func3, Tryd.ntmps3
  go_wp2_with fail
  go_ret
  exact ⟨rfl, (Ch.refl S0 w).alloc _⟩

set_option maxRecDepth 100000 in
theorem more_lifted (os : Os) (started : os.Started) (H : Type) (enc : TypeId × Value → H) :
    ReturnsInHanded {} Tryd.checked os 3 .any (fun w args => (Rows.fnGRMoreSpec.pre enc Tryd.prog Tryd.f3 Rows.fnGRMoreRow.domain false w args ∧ laidMet Tryd.prog Rows.fnGRMoreRow.laid w) ∧ sizedMet enc Tryd.prog Tryd.f3 (OpenSpec.ofChange Rows.fnGRMoreSpec) false w args)
      (Rows.fnGRMoreSpec.post enc Tryd.prog Tryd.f3 false true false false) := by
  refine returnsInHanded_of_change_and (C := Tryd.checked) (X := fun w _ => laidMet Tryd.prog Rows.fnGRMoreRow.laid w) (fun _ _ _ hh h => h.of_heap hh) Tryd.own started (by kernel_rfl) Tryd.func3
    (ChangeSpec.witness_at (enc := enc) (C := Tryd.checked) (os := os) (X := fun w _ => laidMet Tryd.prog Rows.fnGRMoreRow.laid w) false (laidWorld os) #[.slice none 0 0, .agg #[.int .i64 0, .int .i64 0], .int .u8 0] 8 rfl (by kernel_rfl) (by kernel_rfl) (by kernel_rfl) (by kernel_rfl) (by kernel_rfl) (laid_met os _)) ?_
  intro W base args ds gs before hval0 hW _ _ hL _
  obtain ⟨e1, e2, e3, hE, hv1, hv2, hv3⟩ := er_of_laid hL
  have hval : ∀ (j : Nat) t v, Tryd.f3.params[j]? = some t → args[j]? = some v → Value.okWide Tryd.prog W .any base t v := hval0
  have hW' := hW
  obtain ⟨p, q, hA0, hV, rfl, hfz, hnd⟩ := hW
  have hA : DataW.TrodAll enc Tryd.prog W 0 (fun _ => true) true Tryd.f3.params.toList args.toList ds p := hA0
  rw [Tryd.params3] at hA hval
  obtain ⟨v0, vs0, d0, ds0, q0, r0, e0, rfl, rfl, h0, g0⟩ := trodAll_cons hA
  obtain ⟨v1, vs1, d1, ds1, q1, r1, rfl, rfl, rfl, h1, g1⟩ := trodAll_cons g0
  obtain ⟨v2, vs2, d2, ds2, q2, r2, rfl, rfl, rfl, h2, g2⟩ := trodAll_cons g1
  obtain ⟨rfl, rfl, rfl⟩ := trodAll_nil g2
  obtain rfl : args = #[v0, v1, v2] := by cases args; simp_all
  obtain ⟨rfl, rfl⟩ := DataW.TrodVars.unique hV (vars_read3 enc Tryd.gE2 Tryd.gT2 Tryd.underlying53 hv2 trivial Tryd.gE3 Tryd.gT3 Tryd.underlying53 hv3 trivial Tryd.gE1 Tryd.gT1 Tryd.underlying53 hv1 trivial _)
  obtain ⟨A, n, cap, xs, rfl, hn, hxl, hx⟩ := open_edges (hval 0 22 v0 rfl rfl) h0
  obtain ⟨y0, y1, z0, z1, k, rfl, rfl, rfl, k0, k1⟩ := Joins.open_agg2 Tryd.underlying24 (by kernel_rfl) (by kernel_rfl) (hval 1 24 v1 rfl rfl) h1
  obtain ⟨X, i0, _, w0⟩ := DataW.trod_int Tryd.underlying3 k0
  obtain ⟨Y, i1, _, w1⟩ := DataW.trod_int Tryd.underlying3 k1
  simp only [List.cons.injEq, and_true] at i0 i1
  subst i0 i1
  obtain ⟨a2, rfl, rfl, rfl, wa2⟩ := open_int Tryd.underlying5 (hval 2 5 v2 rfl rfl) h2
  obtain ⟨u, rfl, hu⟩ := wf_u8 wa2
  have fin : ∀ W', Ch S0 W W' → Rows.fnGRMoreSpec.post enc Tryd.prog Tryd.f3 false true false false W #[.slice A n cap, .agg #[.int .i64 X, .int .i64 Y], .int .u8 u] (.bool true) W' := fun W' hC => by
    have hb : Below W.heap.size W W' := hC.below (Nat.le_refl _) (fun _ _ h => h)
    exact law_postV hW' rfl (by kernel_rfl) ⟨rfl, rfl, rfl⟩ hb (fun q hq sp => by
      obtain ⟨_, rfl⟩ := DataW.TrodVars.unique hq hV
      exact vars_read3 enc Tryd.gE2 Tryd.gT2 Tryd.underlying53 (var?_below hv2 hb) trivial Tryd.gE3 Tryd.gT3 Tryd.underlying53 (var?_below hv3 hb) trivial Tryd.gE1 Tryd.gT1 Tryd.underlying53 (var?_below hv1 hb) trivial sp)
  by_cases hb1 : n ≤ 2147483647
  case neg => exact (more_great n cap A X Y u W (by omega) hn).mono fun e W' ⟨he, hC⟩ => ⟨_, he, fin W' hC⟩
  exact (more_small n cap A xs X Y u W.heap.size e1 e2 e3 W hxl hb1 hx hE hu).mono fun e W' ⟨he, hC⟩ => ⟨_, he, fin W' hC⟩

theorem more_holds : Rows.FnGRMoreSaid :=
  OpenClaim.holds_of_wide 3 Tryd.f3 rfl rfl rfl rfl rfl rfl rfl ⟨rfl, rfl, rfl, rfl, rfl⟩ rfl rfl rfl rfl rfl (by kernel_rfl) Tryd.func3 (by kernel_rfl)
    (of_decide_eq_true (by kernel_rfl)) (by unfold Func.isWrapper; first | (rw [if_pos (by decide +kernel)]; kernel_rfl) | (rw [if_neg (by decide +kernel)]; exact ⟨rfl, rfl⟩))
    (fun os started H enc _ => more_lifted os started H enc)

/-- THE CARD. -/
theorem more_card : Rows.FnGRMoreCardSaid :=
  Claim7.holds_tied_plain_at .later [] [.sentinel, .sentinel, .sentinel] true (true, "d6b381d4647543526d1494af46eeaa95908fb74a53e2d0a619e13a48df6719f0") true
    more_holds (fun _ h => by cases h) (by kernel_rfl) (fun _ h => by cases h) fnGRMore_row_tie rfl ⟨rfl, rfl⟩ (by kernel_rfl) rfl
    (fun f fn hf hfn => by
      obtain rfl : f = 3 := Option.some.inj ((show Tryd.prog.funcNamed "given.example/pub-spokeshave/laws.FnGRMore" = some 3 by kernel_rfl).symm.trans hf) |>.symm
      obtain rfl : fn = Tryd.f3 := (Option.some.inj (Tryd.func3.symm.trans hfn)).symm
      exact ⟨by kernel_rfl, fun j t ht => by
        rw [Tryd.params3] at ht
        have h3 : t = 22 ∨ t = 24 ∨ t = 5 := by
          rcases j with _ | _ | _ | j
          · left; simpa using ht.symm
          · right; left; simpa using ht.symm
          · right; right; simpa using ht.symm
          · simp at ht
        rcases h3 with rfl | rfl | rfl
        · exact (show Tryd.prog.wantsStandIn 22 = false by kernel_rfl)
        · exact (show Tryd.prog.wantsStandIn 24 = false by kernel_rfl)
        · exact (show Tryd.prog.wantsStandIn 5 = false by kernel_rfl)⟩)
    (by kernel_rfl)
end Go.Proofs.YtjifdcklmpibpaaDoor
