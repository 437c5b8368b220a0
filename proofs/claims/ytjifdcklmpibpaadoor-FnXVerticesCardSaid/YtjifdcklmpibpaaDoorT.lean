/- WALKS: dgAwake. -/
import Derived.Test.YtjifdcklmpibpaaDoorQ
namespace Go.Proofs.YtjifdcklmpibpaaDoor
open Go.RowKit
set_option linter.unusedVariables false
set_option linter.unusedSimpArgs false

theorem awake1 : (PG.nil.adds [(1, 2), (2, 3), (3, 3)]).nv = 3 ∧ (PG.nil.adds [(1, 2), (2, 3), (3, 3)]).ne = 2 ∧ PG.nil.errI [(1, 2), (2, 3), (3, 3)] = [0, 0, 2] := by
  refine ⟨by decide, by decide, by decide⟩
theorem awake2 {done : List Int} (h1 : done.length = (PG.nil.adds [(1, 2)]).deg 2) (h2 : ∀ y, y ∈ done ↔ (PG.nil.adds [(1, 2)]).adj 2 y = true) : done = [1] := by
  have e : (PG.nil.adds [(1, 2)]).deg 2 = 1 := by decide
  have h3 := (h2 1).2 (by decide)
  rw [e] at h1
  match done, h1, h3 with
  | [x], _, h3 => simp at h3; rw [h3]

set_option maxRecDepth 100000 in
theorem awake_any (B : Nat) (e1 e2 e3 : Addr) (w : World) (hE : Er w B e1 e2 e3) :
    Calls Tryd.prog 9 #[] w fun r w' => r = .returned (.bool true) ∧ Ch S0 w w' := by
  have HE := Lib.hid hE
  clear hE
  go_enter Tryd.func9, Tryd.ntmps9
  go_wp2_with fail
  have hR1 : Hid (Rd (w.alloc (.cells #[.int .i64 1, .int .i64 2, .int .i64 2, .int .i64 3, .int .i64 3, .int .i64 3] 24)) (some ⟨w.heap.size, 0, none⟩) (ev [(1, 2), (2, 3), (3, 3)])) := Lib.hid (Rd.new w _ 24)
  have HC1 : Hid (Ch S0 w (w.alloc (.cells #[.int .i64 1, .int .i64 2, .int .i64 2, .int .i64 3, .int .i64 3, .int .i64 3] 24))) := Lib.hid ((Ch.refl S0 w).alloc _)
  refine (grrun_any 3 3 _ [(1, 2), (2, 3), (3, 3)] B e1 e2 e3 _ rfl (by omega) hR1.out (HE.out.keep0 HC1.out)).mono ?_
  rintro r w2 ⟨v, rfl, hO, hC⟩
  rw [awake1.1, awake1.2.1]
  rw [awake1.2.2] at hO
  obtain ⟨A, cap, rfl, hRd, _⟩ := own_rd hO
  have HRd := Lib.hid hRd
  have HC2 := Lib.hid (HC1.out.trans hC)
  clear hO hRd hC
  go_wp2_with fail
  have hR3 : Hid (Rd (w2.alloc (.cells #[.int .i64 1, .int .i64 2] 24)) (some ⟨w2.heap.size, 0, none⟩) (ev [(1, 2)])) := Lib.hid (Rd.new w2 _ 24)
  have HC3 : Hid (Ch S0 w2 (w2.alloc (.cells #[.int .i64 1, .int .i64 2] 24))) := Lib.hid ((Ch.refl S0 w2).alloc _)
  refine (gradj_any 1 1 _ [(1, 2)] B e1 e2 e3 2 _ rfl (by omega) hR3.out (HE.out.keep0 (HC2.out.trans HC3.out))).mono ?_
  rintro r w4 ⟨done, v4, rfl, hl4, _, hm4, hO4, hC4⟩
  obtain rfl := awake2 hl4 hm4
  obtain ⟨A4, cap4, rfl, hRd4, _⟩ := own_rd hO4
  have e : (if (PG.nil.adds [(1, 2)]).ver 2 = true then 0 else 1 : Nat) = 0 := by decide
  rw [e]
  have HRd4 := Lib.hid hRd4
  have HRd2 := Lib.hid (HRd.out.keep0 (HC3.out.trans hC4))
  have HC4 := Lib.hid (HC2.out.trans (HC3.out.trans hC4))
  clear hO4 hRd4 hC4 hl4 hm4 e
  go_wp2_with fail
  refine (equal_int _ _ 3 3 _ _ [0, 0, 2] [0, 0, 2] _ rfl rfl (by omega) (by omega) (HRd2.out.keep0 ((Ch.refl S0 _).alloc _)) (Rd.new _ (iv [0, 0, 2]) 3)).mono ?_
  rintro r w5 ⟨rfl, hC5⟩
  have e : decide (([0, 0, 2] : List Int) = [0, 0, 2]) = true := by decide
  rw [e]
  have HC5 := Lib.hid (HC4.out.trans (((Ch.refl S0 _).alloc _).trans hC5))
  have HRd5 := Lib.hid (HRd4.out.keep0 (((Ch.refl S0 _).alloc _).trans hC5))
  clear e hC5
  go_wp2_with fail
  refine (equal_int _ _ 1 1 _ _ [1] [1] _ rfl rfl (by omega) (by omega) (HRd5.out.keep0 ((Ch.refl S0 _).alloc _)) (Rd.new _ (iv [1]) 3)).mono ?_
  rintro r w6 ⟨rfl, hC6⟩
  have e : decide (([1] : List Int) = [1]) = true := by decide
  rw [e]
  have HC6 := Lib.hid (HC5.out.trans (((Ch.refl S0 _).alloc _).trans hC6))
  clear e hC6
  go_wp2_with fail
  go_ret
  exact ⟨rfl, HC6.out⟩
end Go.Proofs.YtjifdcklmpibpaaDoor
