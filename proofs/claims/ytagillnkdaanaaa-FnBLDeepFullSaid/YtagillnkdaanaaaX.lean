/- WALKS: blData. -/
import Derived.Test.YtagillnkdaanaaaW
namespace Go.Proofs.Ytagillnkdaanaaa
open Go.RowKit
set_option linter.unusedVariables false
set_option linter.unusedSimpArgs false

/-- n bytes that came in. -/
def Raw (w : World) (v : Value) (n : Nat) (f : Nat → Int) : Prop :=
  ∃ A cap, v = .slice A n cap ∧ n ≤ cap ∧ cap ≤ 9223372036854775807 ∧ (A = none → cap = 0) ∧ (∀ a, A = some a → a.spot = none) ∧ ∀ j, j < n → ∃ b o, A = some ⟨b, o, none⟩ ∧ w.cell? ⟨b, o + j, none⟩ = some (.int .u8 (f j))

theorem Raw.keep {w w' : World} {v : Value} {n : Nat} {f : Nat → Int} (h : Raw w v n f) (hc : Ch S0 w w') : Raw w' v n f := by
  obtain ⟨A, cap, h1, h2, h3, h4, h5, h6⟩ := h
  refine ⟨A, cap, h1, h2, h3, h4, h5, fun j hj => ?_⟩
  obtain ⟨b, o, k1, k2⟩ := h6 j hj
  exact ⟨b, o, k1, by rw [World.cell?_of_block (w := w) (hc.block b (World.block_lt_of_cell? w _ k2) (fun h => h))]; exact k2⟩

set_option maxRecDepth 100000 in
theorem bldata_any (v : Value) (n : Nat) (f : Nat → Int) (w : World) (h : Raw w v n f) :
    Calls Try.prog 7 #[v] w fun e w' => ∃ v' m, e = .returned v' ∧ Dat w v' m f ∧ w = w' := by
  obtain ⟨A, cap, rfl, h2, h3, h4, h5, h6⟩ := h
  by_cases hn : n ≤ 80
  · have HD := Lib.hid (show Dat w (.slice A n cap) n f from ⟨hn, A, cap, rfl, h2, h3, h4, h5, h6⟩)
    clear h4 h5 h6
    have hn' : ¬ ((80 : Int) < (n : Int)) := by omega
    go_enter Try.func7, Try.ntmps7
    go_wp2_with fail
    go_ret
    first | exact ⟨_, n, rfl, HD.out, rfl⟩ | exact ⟨_, rfl, n, HD.out⟩ | exact ⟨_, rfl, n, HD.out, rfl⟩ | exact ⟨_, rfl, ⟨n, HD.out⟩, rfl⟩
  · obtain ⟨b, o, rfl, _⟩ := h6 0 (by omega)
    have HD := Lib.hid (show Dat w (.slice (some ⟨b, o, none⟩) 80 cap) 80 f from ⟨Nat.le_refl _, _, cap, rfl, by omega, h3, h4, h5, fun j hj => h6 j (by omega)⟩)
    clear h4 h5 h6
    have hn' : (80 : Int) < (n : Int) := by omega
    have hc' : (80 : Int) ≤ (cap : Int) := by omega
    have hc2 : 80 ≤ cap := by omega
    go_enter Try.func7, Try.ntmps7
    go_wp2_with fail
    go_ret
    first | exact ⟨_, 80, rfl, HD.out, rfl⟩ | exact ⟨_, rfl, 80, HD.out⟩ | exact ⟨_, rfl, 80, HD.out, rfl⟩ | exact ⟨_, rfl, ⟨80, HD.out⟩, rfl⟩
end Go.Proofs.Ytagillnkdaanaaa
