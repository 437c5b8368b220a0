/- WALKS: the whole hash, and the places that it gives. -/
import Derived.Test.YtagillnkdaanaaaS
namespace Go.Proofs.Ytagillnkdaanaaa
open Go.RowKit
set_option linter.unusedVariables false
set_option linter.unusedSimpArgs false

/-- Four bytes. -/
theorem le32_ex (f : Nat → Int) : ∃ r : Int, ∀ (w : World) (b o cap : Nat), (∀ j, j < 4 → w.cell? ⟨b, o + j, none⟩ = some (.int .u8 (f j))) →
    Calls Try.prog 53 #[.agg #[], .slice (some ⟨b, o, none⟩) 4 cap] w fun e w' => e = .returned (.int .u32 r) ∧ Ch S0 w w' := by
  apply Exists.intro
  intro w b o cap h
  have c0 := h 0 (by omega)
  have c1 := h 1 (by omega)
  have c2 := h 2 (by omega)
  have c3 := h 3 (by omega)
  have hb := World.block_lt_of_cell? w _ c0
  rw [Nat.add_zero] at c0
  simp only at hb
  clear h
  go_enter Try.func53, Try.ntmps53
  go_wp2_with fail
  go_quiet (fail)
  go_wp2_with fail
  go_ret
  exact ⟨rfl, ((Ch.refl S0 w).alloc _).trans (Ch.drewQ _ _)⟩

/-- The hash at one place of it, from its four numbers. -/
theorem loc_ex (h1 h2 h3 h4 : Int) (i : Nat) (hi : i < 8) : ∃ r : Int, 0 ≤ r ∧ ∀ w : World, Calls Try.prog 44 #[.agg #[.int .u64 h1, .int .u64 h2, .int .u64 h3, .int .u64 h4], .int .u64 i] w fun e w' => e = .returned (.int .u64 r) ∧ Ch S0 w w' := by
  match i, hi with
  | 0, _ => 
    apply Exists.intro
    refine ⟨?nn, fun w => ?ww⟩
    case ww =>
      go_enter Try.func44, Try.ntmps44
      go_wp2_with fail
      go_quiet (fail)
      go_wp2_with fail
      go_ret
      exact ⟨rfl, ((Ch.refl S0 w).alloc _).trans (Ch.drewQ _ _)⟩
    case nn => simp only [IntKind.wrap_u64]; omega
  | 1, _ => 
    apply Exists.intro
    refine ⟨?nn, fun w => ?ww⟩
    case ww =>
      go_enter Try.func44, Try.ntmps44
      go_wp2_with fail
      go_quiet (fail)
      go_wp2_with fail
      go_ret
      exact ⟨rfl, ((Ch.refl S0 w).alloc _).trans (Ch.drewQ _ _)⟩
    case nn => simp only [IntKind.wrap_u64]; omega
  | 2, _ => 
    apply Exists.intro
    refine ⟨?nn, fun w => ?ww⟩
    case ww =>
      go_enter Try.func44, Try.ntmps44
      go_wp2_with fail
      go_quiet (fail)
      go_wp2_with fail
      go_ret
      exact ⟨rfl, ((Ch.refl S0 w).alloc _).trans (Ch.drewQ _ _)⟩
    case nn => simp only [IntKind.wrap_u64]; omega
  | 3, _ => 
    apply Exists.intro
    refine ⟨?nn, fun w => ?ww⟩
    case ww =>
      go_enter Try.func44, Try.ntmps44
      go_wp2_with fail
      go_quiet (fail)
      go_wp2_with fail
      go_ret
      exact ⟨rfl, ((Ch.refl S0 w).alloc _).trans (Ch.drewQ _ _)⟩
    case nn => simp only [IntKind.wrap_u64]; omega
  | 4, _ => 
    apply Exists.intro
    refine ⟨?nn, fun w => ?ww⟩
    case ww =>
      go_enter Try.func44, Try.ntmps44
      go_wp2_with fail
      go_quiet (fail)
      go_wp2_with fail
      go_ret
      exact ⟨rfl, ((Ch.refl S0 w).alloc _).trans (Ch.drewQ _ _)⟩
    case nn => simp only [IntKind.wrap_u64]; omega
  | 5, _ => 
    apply Exists.intro
    refine ⟨?nn, fun w => ?ww⟩
    case ww =>
      go_enter Try.func44, Try.ntmps44
      go_wp2_with fail
      go_quiet (fail)
      go_wp2_with fail
      go_ret
      exact ⟨rfl, ((Ch.refl S0 w).alloc _).trans (Ch.drewQ _ _)⟩
    case nn => simp only [IntKind.wrap_u64]; omega
  | 6, _ => 
    apply Exists.intro
    refine ⟨?nn, fun w => ?ww⟩
    case ww =>
      go_enter Try.func44, Try.ntmps44
      go_wp2_with fail
      go_quiet (fail)
      go_wp2_with fail
      go_ret
      exact ⟨rfl, ((Ch.refl S0 w).alloc _).trans (Ch.drewQ _ _)⟩
    case nn => simp only [IntKind.wrap_u64]; omega
  | 7, _ => 
    apply Exists.intro
    refine ⟨?nn, fun w => ?ww⟩
    case ww =>
      go_enter Try.func44, Try.ntmps44
      go_wp2_with fail
      go_quiet (fail)
      go_wp2_with fail
      go_ret
      exact ⟨rfl, ((Ch.refl S0 w).alloc _).trans (Ch.drewQ _ _)⟩
    case nn => simp only [IntKind.wrap_u64]; omega
end Go.Proofs.Ytagillnkdaanaaa
