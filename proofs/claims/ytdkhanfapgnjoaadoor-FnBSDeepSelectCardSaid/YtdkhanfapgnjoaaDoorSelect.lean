/- FnBSDeepSelect holds for every input (the card): each selected bit is the next one from the one before on, and the previous one of itself; its rank is its number, and one. No condition beyond the given row's. -/
import Derived.Test.YtdkhanfapgnjoaaDoorR
import Derived.Test.YtdkhanfapgnjoaaDoorLSelect
import Derived.Test.YtdkhanfapgnjoaaDoorCards
import Derived.Test.YtdkhanfapgnjoaaDoorTie
import Derived.Lib.LaidTab
import Derived.LaidLaws
import Derived.SevenTiedAt
import Derived.ChangeVars
import Derived.JoinedOf
namespace Go.Proofs.YtdkhanfapgnjoaaDoor
open Go.ChangeShapes Go.WideShapes Go.ChangeAt Go.RowKit

set_option maxRecDepth 100000 in
set_option maxHeartbeats 1000000 in
theorem select_great1 (l1 : Nat) (P1 : Option Addr) (m1 r1 : Nat) (u1 : Nat) (w : World)  (h : 2147483648 ≤ m1) (h' : m1 ≤ 9223372036854775807) :
    Calls Tryd.prog 3 #[.agg #[.int .u64 l1, .slice P1 m1 r1], .int .u16 u1] w fun e w' => e = .returned (.bool true) ∧ Ch S0 w w' := by
  go_enter Tryd.func3, Tryd.ntmps3
  go_wp2_with fail
  refine (fits_no l1 m1 r1 P1 _ h h').mono ?_
  rintro e w1 ⟨rfl, hC⟩
  have HC1 := Lib.hid (Ch.trans (Ch.alloc (Ch.refl S0 _) _) hC)
  clear hC
  go_wp2_with fail
  go_ret
  exact ⟨rfl, HC1.out⟩

/-- What the row lists: the library's table. -/
def tabInts : List Int := List.map (fun (n : Nat) => (n : Int)) Lib.deBruijn64tab
theorem laid_is : Rows.fnBSDeepSelectRow.laid = [("math/bits.deBruijn64tab", Lib.tabData .u8 tabInts)] := by rfl
theorem Tryd.tab : Tryd.prog.globalNamed "math/bits.deBruijn64tab" = some 0 := by kernel_rfl
theorem Tryd.tabType : (Tryd.prog.globals[0]?).map (·.type) = some 54 := by kernel_rfl
theorem Tryd.cells54 : Tryd.prog.cellsOf 54 = 64 := by kernel_rfl
theorem Tryd.cells5 : Tryd.prog.cellsOf 5 = 1 := by kernel_rfl

theorem tab_of_laid {W : World} (h : laidMet Tryd.prog Rows.fnBSDeepSelectRow.laid W) : TabAt W := by
  rw [laid_is] at h
  have hT := Lib.tabIs_of_head Tryd.tab Tryd.tabType Tryd.underlying54 Tryd.underlying5 Tryd.cells5 Tryd.cells54 h
  intro j hj
  have hl : j < tabInts.length := by simpa [tabInts, Lib.deBruijn64tab] using hj
  have := hT.cell Tryd.tab j hl
  rw [this]
  have e : tabInts.getD j 0 = ((Lib.deBruijn64tab.getD j 0 : Nat) : Int) := by
    have hl2 : j < Lib.deBruijn64tab.length := by simpa [tabInts] using hl
    simp [tabInts, List.getD, hl2]
  rw [e]

/-- The settled world, the table as its initialiser lays it. -/
noncomputable def laidWorld (os : Os) : World :=
  { World.holding Tryd.prog os ⟨#[], #[], []⟩ with heap := (World.holding Tryd.prog os ⟨#[], #[], []⟩).heap.modify 0 fun
      | .cells _ t frozen => .cells (tabInts.map fun z => Value.int .u8 z).toArray t frozen
      | o => o }
theorem laid_met (os : Os) (args : Array Value) : laidMet Tryd.prog Rows.fnBSDeepSelectRow.laid ((laidWorld os).forCall (fun _ _ => 0) ⟨#[], args, []⟩).memory :=
  laidMet_of_run' 8 (by kernel_rfl) (by kernel_rfl)

set_option maxRecDepth 100000 in
theorem select_lifted (os : Os) (started : os.Started) (H : Type) (enc : TypeId × Value → H) :
    ReturnsInHanded {} Tryd.checked os 3 .any (fun w args => (Rows.fnBSDeepSelectSpec.pre enc Tryd.prog Tryd.f3 Rows.fnBSDeepSelectRow.domain false w args ∧ laidMet Tryd.prog Rows.fnBSDeepSelectRow.laid w) ∧ sizedMet enc Tryd.prog Tryd.f3 (OpenSpec.ofChange Rows.fnBSDeepSelectSpec) false w args)
      (Rows.fnBSDeepSelectSpec.post enc Tryd.prog Tryd.f3 false true false false) := by
  refine returnsInHanded_of_change_and (C := Tryd.checked) (X := fun w _ => laidMet Tryd.prog Rows.fnBSDeepSelectRow.laid w) (fun _ _ _ hh h => h.of_heap hh) Tryd.own started (by kernel_rfl) Tryd.func3
    (ChangeSpec.witness_at (enc := enc) (C := Tryd.checked) (os := os) (X := fun w _ => laidMet Tryd.prog Rows.fnBSDeepSelectRow.laid w) false (laidWorld os) #[.agg #[.int .u64 0, .slice none 0 0], .int .u16 0] 8 rfl (by kernel_rfl) (by kernel_rfl) (by kernel_rfl) (by kernel_rfl) (by kernel_rfl) (laid_met os _)) ?_
  intro W base args ds gs before hval0 hW _ _ hL _
  have hT := tab_of_laid hL
  have hval : ∀ (j : Nat) t v, Tryd.f3.params[j]? = some t → args[j]? = some v → Value.okWide Tryd.prog W .any base t v := hval0
  have hW' := hW
  obtain ⟨p, q, hA0, hV, rfl, hfz, hnd⟩ := hW
  have hA : DataW.TrodAll enc Tryd.prog W 0 (fun _ => true) true Tryd.f3.params.toList args.toList ds p := hA0
  rw [Tryd.params3] at hA hval
  obtain ⟨v0, vs0, d0, ds0, q0, r0, e0, rfl, rfl, h0, g0⟩ := trodAll_cons hA
  obtain ⟨v1, vs1, d1, ds1, q1, r1, rfl, rfl, rfl, h1, g1⟩ := trodAll_cons g0
  obtain ⟨rfl, rfl, rfl⟩ := trodAll_nil g1
  obtain rfl : args = #[v0, v1] := by cases args; simp_all
  obtain ⟨rfl, rfl⟩ := trodVars_none hV
  obtain ⟨l1, P1, m1, c1, xs1, rfl, hL1, hxl1, hn1, hx1⟩ := open_bits (hval 0 25 v0 rfl rfl) h0
  obtain ⟨a1, rfl, rfl, rfl, wa1⟩ := open_int Tryd.underlying26 (hval 1 26 v1 rfl rfl) h1
  obtain ⟨u1, rfl, hu1⟩ := nat16_of_wf wa1
  have fin : ∀ W', Ch S0 W W' → Rows.fnBSDeepSelectSpec.post enc Tryd.prog Tryd.f3 false true false false W #[.agg #[.int .u64 l1, .slice P1 m1 c1], .int .u16 u1] (.bool true) W' := fun W' hC =>
    law_post hW' rfl rfl (by kernel_rfl) ⟨rfl, rfl, rfl⟩ (hC.below (Nat.le_refl _) (fun _ _ h => h))
  by_cases hb1 : m1 ≤ 2147483647
  case neg => exact (select_great1 l1 P1 m1 c1 u1 W  (by omega) hn1).mono fun e W' ⟨he, hC⟩ => ⟨_, he, fin W' hC⟩
  exact (select_small l1 P1 m1 c1 xs1 u1 W hL1 hx1 hxl1 hb1 hu1 hT).mono fun e W' ⟨he, hC⟩ => ⟨_, he, fin W' hC⟩

theorem select_holds : Rows.FnBSDeepSelectSaid :=
  OpenClaim.holds_of_wide 3 Tryd.f3 rfl rfl rfl rfl rfl rfl rfl ⟨rfl, rfl, rfl, rfl, rfl⟩ rfl rfl rfl rfl rfl (by kernel_rfl) Tryd.func3 (by kernel_rfl)
    (of_decide_eq_true (by kernel_rfl)) (by unfold Func.isWrapper; first | (rw [if_pos (by decide +kernel)]; kernel_rfl) | (rw [if_neg (by decide +kernel)]; exact ⟨rfl, rfl⟩))
    (fun os started H enc _ => select_lifted os started H enc)

/-- THE CARD. -/
theorem select_card : Rows.FnBSDeepSelectCardSaid :=
  Claim7.holds_tied_plain_at .later [] [.data] true (true, "db5857e7655e0d89d43d19490566332b97848d96530252c112f017319c1f8140") false
    select_holds (fun _ h => by cases h) (by kernel_rfl) (fun _ h => by cases h) fnBSDeepSelect_row_tie rfl ⟨rfl, rfl⟩ (by kernel_rfl) rfl
    (fun f fn hf hfn => by
      obtain rfl : f = 3 := Option.some.inj ((show Tryd.prog.funcNamed "given.example/pub-spokeshave/laws.FnBSDeepSelect" = some 3 by kernel_rfl).symm.trans hf) |>.symm
      obtain rfl : fn = Tryd.f3 := (Option.some.inj (Tryd.func3.symm.trans hfn)).symm
      exact ⟨by kernel_rfl, fun j t ht => by
        rw [Tryd.params3] at ht
        have h3 : t = 25 ∨ t = 26 := by
          rcases j with _ | _ | j
          · left; simpa using ht.symm
          · right; simpa using ht.symm
          · simp at ht
        rcases h3 with rfl | rfl
        · exact (show Tryd.prog.wantsStandIn 25 = false by kernel_rfl)
        · exact (show Tryd.prog.wantsStandIn 26 = false by kernel_rfl)⟩)
    (by kernel_rfl)
end Go.Proofs.YtdkhanfapgnjoaaDoor
