/- WALKS: a new entry comes into a tree. -/
import Derived.Test.YtlppnbmaedgodaaE0
import Derived.Deep.CutBlock
import Derived.Deep.Cut
namespace Go.Proofs.Ytlppnbmaedgodaa
open Go.RowKit
set_option linter.unusedVariables false
set_option linter.unusedSimpArgs false

set_option maxHeartbeats 4000000 in
set_option maxRecDepth 100000 in
theorem reset_any (cp : Nat) (p : Option Addr) (n : Int) (w : World) (h : Blk w cp #[.pointer p, .int .u64 n, .int .i8 0, .pointer none, .pointer none, .nilIface]) :
    Calls Try.prog 34 #[.pointer (some ⟨cp, 0, none⟩)] w fun r w' => r = .returned (.tuple #[]) ∧ Blk w' cp #[.pointer p, .int .u64 n, .int .i8 0, .pointer none, .pointer none, .nilIface] ∧ Ch (S1 cp) w w' := by
  have c3 := h.cell 3
  have c4 := h.cell 4
  have f3 := h.free 3
  have f4 := h.free 4
  have h1 := (h.set 3 (.pointer none))
  have d4 := h1.cell 4
  have g4 := h1.free 4
  have h2 := h1.set 4 (.pointer none)
  have k1 := (h.set 4 (.pointer none))
  have d3 := k1.cell 3
  have g3 := k1.free 3
  have k2 := k1.set 3 (.pointer none)
  have HC1 : Hid (Ch (S1 cp) w ((w.setCell ⟨cp, 3, none⟩ (.pointer none)).setCell ⟨cp, 4, none⟩ (.pointer none))) := Lib.hid (((Ch.refl (S1 cp) w).setCell ⟨cp, 3, none⟩ (fun _ => rfl) _).setCell ⟨cp, 4, none⟩ (fun _ => rfl) _)
  have HC2 : Hid (Ch (S1 cp) w ((w.setCell ⟨cp, 4, none⟩ (.pointer none)).setCell ⟨cp, 3, none⟩ (.pointer none))) := Lib.hid (((Ch.refl (S1 cp) w).setCell ⟨cp, 4, none⟩ (fun _ => rfl) _).setCell ⟨cp, 3, none⟩ (fun _ => rfl) _)
  have H2 := Lib.hid h2
  have K2 := Lib.hid k2
  simp only [List.getElem?_toArray, List.getElem?_cons_zero, List.getElem?_cons_succ, List.setIfInBounds_toArray, List.set_cons_zero, List.set_cons_succ] at c3 c4 d3 d4
  clear h h1 h2 k1 k2
  go_enter Try.func34, Try.ntmps34
  go_wp2_with fail
  go_region
  obtain ⟨W, hW⟩ : ∃ W, W = ((w.setCell ⟨cp, 3, none⟩ (.pointer none)).setCell ⟨cp, 4, none⟩ (.pointer none)).drew := ⟨_, rfl⟩
  have hb : Blk W cp #[.pointer p, .int .u64 n, .int .i8 0, .pointer none, .pointer none, .nilIface] := by rw [hW]; exact H2.out
  have hc : Ch (S1 cp) w W := by rw [hW]; exact HC1.out.drew
  rw [← hW]
  clear hW H2 K2 HC1 HC2 c3 c4 d3 d4 f3 f4 g3 g4
  have c2 := hb.cell 2
  have f2 := hb.free 2
  have HB := Lib.hid (hb.set 2 (.int .i8 0))
  have HC := Lib.hid (hc.setCell ⟨cp, 2, none⟩ (fun _ => rfl) (.int .i8 0))
  simp only [List.getElem?_toArray, List.getElem?_cons_zero, List.getElem?_cons_succ, List.setIfInBounds_toArray, List.set_cons_zero, List.set_cons_succ] at c2
  clear hb hc
  go_step
  go_wp2_with fail
  refine bodyPost_end (results_none rfl _ _ _) rfl ?_
  exact ⟨rfl, HB.out, HC.out⟩
end Go.Proofs.Ytlppnbmaedgodaa
