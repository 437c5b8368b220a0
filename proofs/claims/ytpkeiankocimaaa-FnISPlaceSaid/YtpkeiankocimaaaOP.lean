/- PLAIN: sorted copies. -/
import Derived.Test.YtpkeiankocimaaaS
namespace Go.Proofs.Ytpkeiankocimaaa
open Go.RowKit
set_option linter.unusedVariables false
set_option linter.unusedSimpArgs false

def srt (xs : List Int) : List Int := xs.mergeSort fun x y => decide (x ≤ y)
theorem srt_len (xs : List Int) : (srt xs).length = xs.length := by simp [srt]
theorem srt_perm (xs : List Int) : (srt xs).Perm xs := List.mergeSort_perm _ _
theorem srt_sorted (xs : List Int) : (srt xs).Pairwise (· ≤ ·) := by
  have h := List.pairwise_mergeSort (le := fun x y : Int => decide (x ≤ y)) (fun a b c h1 h2 => by simp only [decide_eq_true_eq] at *; omega) (fun a b => by simp only [Bool.or_eq_true, decide_eq_true_eq]; omega) xs
  exact h.imp fun h => by simpa using h
/-- Two sorted lists of the same numbers are one. -/
theorem sorted_eq : ∀ {xs ys : List Int}, xs.Pairwise (· ≤ ·) → ys.Pairwise (· ≤ ·) → xs.Perm ys → xs = ys
  | [], ys, _, _, h => by have := h.length_eq; cases ys <;> simp_all
  | x :: xs, [], _, _, h => by have := h.length_eq; simp_all
  | x :: xs, y :: ys, h1, h2, h => by
    have hx := List.pairwise_cons.1 h1
    have hy := List.pairwise_cons.1 h2
    have e : x = y := by
      have m1 : x ∈ y :: ys := h.subset (by simp)
      have m2 : y ∈ x :: xs := h.symm.subset (by simp)
      rcases List.mem_cons.1 m1 with e | m1
      · exact e
      · rcases List.mem_cons.1 m2 with e | m2
        · exact e.symm
        · have := hx.1 y m2
          have := hy.1 x m1
          omega
    subst e
    rw [sorted_eq hx.2 hy.2 (List.Perm.cons_inv h)]
theorem srt_eq {xs ys : List Int} (h : xs.Perm ys) : srt xs = srt ys := sorted_eq (srt_sorted xs) (srt_sorted ys) ((srt_perm xs).trans (h.trans (srt_perm ys).symm))
theorem srt_of_sorted {xs : List Int} (h : xs.Pairwise (· ≤ ·)) : srt xs = xs := sorted_eq (srt_sorted xs) h (srt_perm xs)

theorem iv_getD {xs : List Int} {j : Nat} (h : j < xs.length) : (iv xs)[j]? = some (.int .i64 (xs.getD j 0)) := by
  simp [iv, List.getD, h]

end Go.Proofs.Ytpkeiankocimaaa
