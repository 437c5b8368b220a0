/- addVertex: the contract. -/
import Derived.Test.YtjifdcklmpibpaaDoorC
namespace Go.Proofs.YtjifdcklmpibpaaDoor
open Go.RowKit
set_option linter.unusedVariables false
set_option linter.unusedSimpArgs false

/-- The blocks of a graph. -/
def InG (g ob : Nat) (vs : Int → Option Nat) (k : Nat) : Prop := k = g ∨ k = ob ∨ ∃ x, vs x = some k

theorem addv_any (g ob nv ne : Nat) (vs : Int → Option Nat) (adj : Int → Int → Bool) (deg : Int → Nat) (k : Int) (w : World) (h : GG w g ob vs adj deg nv ne) (hnv : nv < 1000000) :
    Calls Tryd.prog 38 #[.pointer (some ⟨g, 0, none⟩), .iface 3 (.int .i64 k)] w fun r w' => r = .returned (.tuple #[]) ∧ ∃ vs', GG w' g ob vs' adj deg (if (vs k).isSome then nv else nv + 1) ne ∧ (∀ x, (vs' x).isSome = ((vs x).isSome || x == k)) ∧ (∀ j, InG g ob vs' j → InG g ob vs j ∨ w.heap.size ≤ j) ∧ Ch (S2 g ob) w w' := by
  cases hk : vs k with
  | some b =>
    refine (addv_there g ob nv ne vs adj deg k b w h hk).mono fun r w' ⟨h1, h2⟩ => ⟨h1, vs, ?_, fun x => ?_, fun j hj => Or.inl hj, ?_⟩
    · rw [h2]; simpa using h
    · by_cases hx : x = k
      · subst hx; simp [hk]
      · simp [hx]
    · rw [h2]; exact Ch.refl _ _
  | none =>
    refine (addv_new g ob nv ne vs adj deg k w h hk hnv).mono fun r w' ⟨h1, b, hb, h2, h3⟩ => ⟨h1, (fun x => if x = k then some b else vs x), ?_, fun x => ?_, fun j hj => ?_, h3⟩
    · exact h2
    · by_cases hx : x = k
      · subst hx; simp
      · simp [hx]
    · rcases hj with hj | hj | ⟨x, hx⟩
      · exact Or.inl (Or.inl hj)
      · exact Or.inl (Or.inr (Or.inl hj))
      · by_cases hxk : x = k
        · simp only [hxk, if_true, Option.some.injEq] at hx
          exact Or.inr (by omega)
        · simp only [hxk, if_false] at hx
          exact Or.inl (Or.inr (Or.inr ⟨x, hx⟩))
end Go.Proofs.YtjifdcklmpibpaaDoor
