/- PLAIN AND WALK: what comes out of two heaps that were merged. -/
import Derived.Test.YtbfcnimebdoagaaKT
namespace Go.Proofs.Ytbfcnimebdoagaa
open Go.RowKit
set_option linter.unusedVariables false
set_option linter.unusedSimpArgs false

def mrgS (A : Option Addr) (len cap : Nat) (y : List Int) : Hp := ⟨6, 0, 0, A, len, cap, y⟩
theorem mrg_fine (l y : List Int) (A : Option Addr) (len cap : Nat) (h : l.length + y.length ≤ 10000) (h1 : ∀ x ∈ l, x.natAbs < 2 ^ 53) (h2 : ∀ x ∈ y, x.natAbs < 2 ^ 53) : HFine true ((enqOf l ++ [mrgS A len cap y]) ++ deqs (l.length + y.length)) [] := by
  rw [List.append_assoc]
  refine fine_enq (by simp; omega) h1 ⟨Or.inr (Or.inr (Or.inr ⟨rfl, by simpa [mrgS] using h, h2⟩)), fun d A' cl' hd => ?_⟩
  obtain ⟨e1, _⟩ := hd.did.d6 rfl
  have := fine_deq (rest := []) (cl := cl') (m := l.length + y.length) (A := A') (by
    rw [e1]
    show _ ≤ alive (([] ++ l.map some) ++ y.map some)
    rw [List.nil_append, ← List.map_append, alive_some, List.length_append]
    exact Nat.le_refl _) (fun (B : List (Option Int)) (cl' : Bool) (ds : List Hd) _ => (trivial : HFine cl' [] B))
  simpa using this
theorem mrg_out (l y : List Int) (A : Option Addr) (len cap : Nat) {ds : List Hd} {B : List (Option Int)} {cl : Bool} (h : HRuns true ((enqOf l ++ [mrgS A len cap y]) ++ deqs (l.length + y.length)) ds [] B cl) : (ds.drop (l.length + 1)).map Hd.p = srt (l ++ y) ∧ alive B = 0 := by
  obtain ⟨d1, d2, C, cl2, e, h1, h2⟩ := runs_app h
  obtain ⟨d3, d4, C2, cl3, e2, h3, h4⟩ := runs_app h1
  obtain ⟨e3, _⟩ := runs_enq h3
  have hl := h1.len
  simp at hl
  have hC : C = (l ++ y).map some := by
    match d4, h4 with
    | [], h4 => exact h4.elim
    | [d], h4 =>
      obtain ⟨A', cl', h5, h6, _⟩ := h4
      obtain ⟨e4, _⟩ := h5.did.d6 rfl
      rw [← h6, e4, e3]
      simp [mrgS]
    | d :: d' :: t, h4 =>
      obtain ⟨A', cl', h5, h6⟩ := h4
      exact h6.elim
  subst e
  rw [← hl, List.drop_left]
  have := runs_deq h2 (by rw [hC, alive_some, List.length_append])
  rw [hC, fm_some] at this
  exact this
theorem df_merge {w : World} {A A2 : Option Addr} {n m c c2 : Nat} {xs ys : List Int} (hx : xs.length = n) (hy : ys.length = m) (hn : n ≤ 100) (hm : m ≤ 100) (hA : Rd w A (hpCells (enqOf xs ++ [mrgS A2 m c2 ys]))) (hA2 : Rd w A2 (iv ys)) (hb : ∀ b o, A2 = some ⟨b, o, none⟩ → b < w.heap.size) (h1 : ∀ x ∈ xs, x.natAbs < 2 ^ 53) (h2 : ∀ x ∈ ys, x.natAbs < 2 ^ 53) :
    Calls Try.prog 12 #[.slice A (n + 1) c, .int .i64 ((n : Int) + m)] w fun r w' => (∃ v, r = .returned (.tuple #[v, .bool true]) ∧ w'.ownsRow w.heap.size 3 1 v (n + m) (iv (srt (xs ++ ys)))) ∧ Ch S0 w w' := by
  subst hx hy
  refine (dfOut_any A (xs.length + 1) c (xs.length + ys.length) (enqOf xs ++ [mrgS A2 ys.length c2 ys]) w (by simp) (by omega) (by omega) hA (by omega) (fun s hs => ?_) (mrg_fine xs ys A2 _ c2 (by omega) h1 h2) (fun ds B cl h => (mrg_out xs ys _ _ _ h).2)).mono ?_
  · rcases List.mem_append.1 hs with h | h
    · exact hst_enqOf w xs s h
    · obtain rfl : s = mrgS A2 ys.length c2 ys := by simpa using h
      exact ⟨rfl, hA2, hb⟩
  · rintro r w' ⟨⟨v, ds, B, cl, h1, h2, h3⟩, h4⟩
    rw [(mrg_out xs ys _ _ _ h2).1] at h3
    exact ⟨⟨v, h1, h3⟩, h4⟩
end Go.Proofs.Ytbfcnimebdoagaa
