/- WALKS: the small parts of the hash: what they give hangs on their numbers alone. -/
import Derived.Test.YtagillnkdaanaaaM
import Derived.BigQuiet
import Derived.Lib.Hide
namespace Go.Proofs.Ytagillnkdaanaaa
open Go.RowKit
set_option linter.unusedVariables false
set_option linter.unusedSimpArgs false

theorem Ch.drewQ (w : World) (n : Nat) : Ch S0 w (w.drewN n) := ⟨rfl, rfl, rfl, Nat.le_refl _, fun _ _ _ => rfl⟩

theorem then_normal {K : Act → World → Prop} {Q : Exit → Act → World → Prop} {a : Act} {w : World} (h : K a w) : Exit.then K Q .normal a w := h
theorem then_exit {K : Act → World → Prop} {Q : Exit → Act → World → Prop} {n : Nat} {a : Act} {w : World} (h : Q (.exit n) a w) : Exit.then K Q (.exit n) a w := h
theorem inBlock_normal {n : Nat} {Q : Exit → Act → World → Prop} {a : Act} {w : World} (h : Q .normal a w) : Exit.inBlock n Q .normal a w := by simpa [Exit.inBlock] using h
theorem inBlock_same {n : Nat} {Q : Exit → Act → World → Prop} {a : Act} {w : World} (h : Q .normal a w) : Exit.inBlock n Q (.exit n) a w := by simpa [Exit.inBlock] using h
theorem inBlock_other {n m : Nat} {Q : Exit → Act → World → Prop} {a : Act} {w : World} (hn : m ≠ n) (h : Q (.exit m) a w) : Exit.inBlock n Q (.exit m) a w := by simpa [Exit.inBlock, hn] using h

theorem fmix_ex (k : Int) : ∃ r : Int, ∀ w : World, Calls Try.prog 56 #[.int .u64 k] w fun e w' => e = .returned (.int .u64 r) ∧ w' = w := by
  apply Exists.intro
  intro w
  go_enter Try.func56, Try.ntmps56
  go_wp2
  go_ret
  exact ⟨rfl, rfl⟩

theorem rot_ex (x n : Int) (hn : n = 27 ∨ n = 31 ∨ n = 33) : ∃ r : Int, ∀ w : World, Calls Try.prog 55 #[.int .u64 x, .int .i64 n] w fun e w' => e = .returned (.int .u64 r) ∧ w' = w := by
  have e1 : bits BinOp.and IntKind.u64 27 63 = 27 := by decide
  have e2 : bits BinOp.and IntKind.u64 31 63 = 31 := by decide
  have e3 : bits BinOp.and IntKind.u64 33 63 = 33 := by decide
  rcases hn with rfl | rfl | rfl
  all_goals
    apply Exists.intro
    intro w
    go_enter Try.func55, Try.ntmps55
    go_wp2
    go_ret
    exact ⟨rfl, rfl⟩

/-- What it gives. -/
noncomputable def rotF (x n : Int) : Int := if h : n = 27 ∨ n = 31 ∨ n = 33 then (rot_ex x n h).choose else 0
theorem rot_any (x n : Int) (hn : n = 27 ∨ n = 31 ∨ n = 33) (w : World) : Calls Try.prog 55 #[.int .u64 x, .int .i64 n] w fun e w' => e = .returned (.int .u64 (rotF x n)) ∧ w' = w := by
  have h := (rot_ex x n hn).choose_spec w
  have e : rotF x n = (rot_ex x n hn).choose := by unfold rotF; rw [dif_pos hn]
  rw [e]
  exact h
noncomputable def fmixF (k : Int) : Int := (fmix_ex k).choose
theorem fmix_any (k : Int) (w : World) : Calls Try.prog 56 #[.int .u64 k] w fun e w' => e = .returned (.int .u64 (fmixF k)) ∧ w' = w := (fmix_ex k).choose_spec w

set_option maxRecDepth 100000 in
set_option maxHeartbeats 1000000 in
theorem mixw_ex (h1 h2 k1 k2 : Int) : ∃ r1 r2 : Int, ∀ (w : World) (d : Nat), Blk w d #[.int .u64 h1, .int .u64 h2] →
    Calls Try.prog 54 #[.pointer (some ⟨d, 0, none⟩), .int .u64 k1, .int .u64 k2] w fun e w' => e = .returned (.tuple #[]) ∧ Blk w' d #[.int .u64 r1, .int .u64 r2] ∧ Ch (S1 d) w w' := by
  apply Exists.intro
  apply Exists.intro
  intro w d hB
  have c0 := hB.cell 0
  have c1 := hB.cell 1
  have f0 := hB.free 0
  have f1 := hB.free 1
  simp only [List.getElem?_toArray, List.getElem?_cons_zero, List.getElem?_cons_succ] at c0 c1
  have HB := Lib.hid hB
  clear hB
  go_enter Try.func54, Try.ntmps54
  go_wp2_with fail
  go_quiet (fail)
  go_wp2_with (go_at_call 55; refine (rot_any _ _ (by first | exact .inl rfl | exact .inr (.inl rfl) | exact .inr (.inr rfl)) _).mono ?_; rintro e w' ⟨rfl, rfl⟩)
  go_end0
  exact ⟨rfl, ((HB.out.keep (Ch.drewQ w _) (fun h => h)).set 0 _).set 1 _, (((Ch.drewQ w _).mono (fun _ _ h => h.elim)).setCell _ (fun _ => show S1 d d from rfl) _).setCell _ (fun _ => show S1 d d from rfl) _⟩

set_option maxRecDepth 100000 in
set_option maxHeartbeats 1000000 in
/-- Eight bytes. -/
theorem le64_ex (f : Nat → Int) : ∃ r : Int, ∀ (w : World) (b o cap : Nat), (∀ j, j < 8 → w.cell? ⟨b, o + j, none⟩ = some (.int .u8 (f j))) →
    Calls Try.prog 52 #[.agg #[], .slice (some ⟨b, o, none⟩) 8 cap] w fun e w' => e = .returned (.int .u64 r) ∧ Ch S0 w w' := by
  apply Exists.intro
  intro w b o cap h
  have c0 := h 0 (by omega)
  have c1 := h 1 (by omega)
  have c2 := h 2 (by omega)
  have c3 := h 3 (by omega)
  have c4 := h 4 (by omega)
  have c5 := h 5 (by omega)
  have c6 := h 6 (by omega)
  have c7 := h 7 (by omega)
  have hb := World.block_lt_of_cell? w _ c0
  rw [Nat.add_zero] at c0
  simp only at hb
  clear h
  go_enter Try.func52, Try.ntmps52
  go_wp2_with fail
  go_quiet (fail)
  go_wp2_with fail
  go_ret
  exact ⟨rfl, ((Ch.refl S0 w).alloc _).trans (Ch.drewQ _ _)⟩
end Go.Proofs.Ytagillnkdaanaaa
