/- addVertex. -/
import Derived.Test.YtjifdcklmpibpaaDoorA
import Derived.Lib.Hide
import Derived.Maps.OwnOps
namespace Go.Proofs.YtjifdcklmpibpaaDoor
open Go.RowKit
set_option linter.unusedVariables false
set_option linter.unusedSimpArgs false

theorem Tryd.info68 : (Tryd.prog.info? 68).map (·.zero) = some (some (.map none)) := by kernel_rfl
theorem zero68 (w : World) : (zeroValue 68).run Tryd.prog w = .ok (.map none) w := by
  have h := Tryd.info68
  cases hi : Tryd.prog.info? 68 with
  | none => rw [hi] at h; cases h
  | some i =>
    rw [hi] at h
    have h' : i.zero = some (.map none) := by simpa using h
    simp [zeroValue, run_tyI hi, h', Result.andThen]

set_option maxRecDepth 100000 in
theorem addv_there (g ob nv ne : Nat) (vs : Int → Option Nat) (adj : Int → Int → Bool) (deg : Int → Nat) (k : Int) (b0 : Nat) (w : World) (h : GG w g ob vs adj deg nv ne) (hk : vs k = some b0) :
    Calls Tryd.prog 38 #[.pointer (some ⟨g, 0, none⟩), .iface 3 (.int .i64 k)] w fun r w' => r = .returned (.tuple #[]) ∧ w' = w := by
  have HG := Lib.hid h
  have c0 := h.blk.cell 0
  simp only [List.getElem?_toArray, List.getElem?_cons_zero] at c0
  have hf : ((fun k => (vs k).map fun b => Value.map (some b)) k) = some (.map (some b0)) := by simp [hk]
  clear h hk
  go_enter Tryd.func38, Tryd.ntmps38
  go_wp2_with (at_lookup; go_loud (refine wpList_ilook_ok _ rfl _ _ 65 rfl 68 ikey Tryd.underlying65 (zero68 _) ob nv _ rfl HG.out.out k rfl ?_; simp only [hf, Option.getD_some, Option.isSome_some]))
  refine bodyPost_end (results_none rfl _ _ _) rfl ?_
  exact ⟨rfl, rfl⟩
end Go.Proofs.YtjifdcklmpibpaaDoor
