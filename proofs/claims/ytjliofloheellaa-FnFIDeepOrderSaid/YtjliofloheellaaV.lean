/- WALKS: the law's rows behind the first loop; answers in memory. -/
import Derived.Test.YtjliofloheellaaN
namespace Go.Proofs.Ytjliofloheellaa
open Go.RowKit
set_option linter.unusedVariables false
set_option linter.unusedSimpArgs false

/-- The questions about the last j keys. -/
def askL (xs : List Stp) (j : Nat) : List Stp := (xs.reverse.take j).flatMap fun x => [⟨2, x.k, 0⟩, ⟨3, (x.k + 1) % 18446744073709551616, 0⟩]
theorem rev_take {xs : List Stp} {j : Nat} {x : Stp} (hj : j < xs.length) (hx : xs[xs.length - 1 - j]? = some x) : xs.reverse.take (j + 1) = xs.reverse.take j ++ [x] := by
  rw [List.take_add_one, List.getElem?_reverse hj, hx]
  rfl
theorem askL_succ {xs : List Stp} {j : Nat} {x : Stp} (hj : j < xs.length) (hx : xs[xs.length - 1 - j]? = some x) : askL xs (j + 1) = askL xs j ++ [⟨2, x.k, 0⟩, ⟨3, (x.k + 1) % 18446744073709551616, 0⟩] := by
  unfold askL
  rw [rev_take hj hx, List.flatMap_append]
  simp
theorem askL_len (xs : List Stp) : ∀ j, j ≤ xs.length → (askL xs j).length = 2 * j
  | 0, _ => rfl
  | j + 1, h => by
    have ih := askL_len xs j (by omega)
    rw [askL_succ (x := xs[xs.length - 1 - j]'(by omega)) (by omega) (by simp [show xs.length - 1 - j < xs.length by omega])]
    simp [ih]; omega
theorem askL_ops (xs : List Stp) (j : Nat) : ∀ x ∈ askL xs j, x.op ∈ [2, 3, 5] := by
  intro x hx
  unfold askL at hx
  obtain ⟨y, _, hy⟩ := List.mem_flatMap.1 hx
  simp at hy
  rcases hy with rfl | rfl <;> simp

/-- Three rows in blocks apart. -/
structure BkI (W wr : World) (vt vb va : Value) (T B A : List Stp) : Prop where
  t : Row3 W.heap.size wr vt T
  b : Row3 W.heap.size wr vb B
  a : Row3 W.heap.size wr va A
  tb : ∀ g, vt.ownBlock = some g → vb.ownBlock ≠ some g
  ta : ∀ g, vt.ownBlock = some g → va.ownBlock ≠ some g
  ba : ∀ g, vb.ownBlock = some g → va.ownBlock ≠ some g
  ch : Ch S0 W wr
theorem BkI.keep {W wr w' : World} {vt vb va : Value} {T B A : List Stp} (h : BkI W wr vt vb va T B A) (hc : Ch S0 wr w') : BkI W w' vt vb va T B A :=
  ⟨h.t.keepS hc (fun _ _ h => h), h.b.keepS hc (fun _ _ h => h), h.a.keepS hc (fun _ _ h => h), h.tb, h.ta, h.ba, h.ch.trans hc⟩
/-- back grows -/
theorem BkI.growB {W wr w1 w' : World} {vt vb va v' : Value} {T B A B' : List Stp} (h : BkI W wr vt vb va T B A) (hc1 : Ch S0 wr w1) (hr : Row3 W.heap.size w' v' B') (hg : w1.grownBy w' vb.ownBlock) (hb : v'.ownBlock = vb.ownBlock ∨ v'.ownBlock = some w1.heap.size) : BkI W w' vt v' va T B' A := by
  have hc : Ch (fun b => vb.ownBlock = some b) wr w' := (hc1.mono (fun _ _ h => h.elim)).trans (Ch.ofGrown hg fun b hb => hb)
  have hs := hc1.size
  refine ⟨h.t.keepS hc (fun g hg' => h.tb g hg'), hr, h.a.keepS hc (fun g hg' e => h.ba g e hg'), fun g hg' e => ?_, h.ta, fun g hg' e => ?_, h.ch.trans' hc (fun k hk e => by have := own_lt h.b k e; omega)⟩
  · rcases hb with q | q
    · rw [q] at e; exact h.tb g hg' e
    · rw [q] at e; have := own_lt h.t g hg'; have e := Option.some.inj e; omega
  · rcases hb with q | q
    · rw [q] at hg'; exact h.ba g hg' e
    · rw [q] at hg'; have := own_lt h.a g e; have e2 := Option.some.inj hg'; omega
/-- asks grows -/
theorem BkI.growA {W wr w1 w' : World} {vt vb va v' : Value} {T B A A' : List Stp} (h : BkI W wr vt vb va T B A) (hc1 : Ch S0 wr w1) (hr : Row3 W.heap.size w' v' A') (hg : w1.grownBy w' va.ownBlock) (hb : v'.ownBlock = va.ownBlock ∨ v'.ownBlock = some w1.heap.size) : BkI W w' vt vb v' T B A' := by
  have hc : Ch (fun b => va.ownBlock = some b) wr w' := (hc1.mono (fun _ _ h => h.elim)).trans (Ch.ofGrown hg fun b hb => hb)
  have hs := hc1.size
  refine ⟨h.t.keepS hc (fun g hg' => h.ta g hg'), h.b.keepS hc (fun g hg' => h.ba g hg'), hr, h.tb, fun g hg' e => ?_, fun g hg' e => ?_, h.ch.trans' hc (fun k hk e => by have := own_lt h.a k e; omega)⟩
  · rcases hb with q | q
    · rw [q] at e; exact h.ta g hg' e
    · rw [q] at e; have := own_lt h.t g hg'; have e := Option.some.inj e; omega
  · rcases hb with q | q
    · rw [q] at e; exact h.ba g hg' e
    · rw [q] at e; have := own_lt h.b g hg'; have e := Option.some.inj e; omega
/-- there grows: what is left of the others -/
theorem BkI.growT {W wr w1 w' : World} {vt vb va v' : Value} {T B A T' : List Stp} (h : BkI W wr vt vb va T B A) (hc1 : Ch S0 wr w1) (hr : Row3 W.heap.size w' v' T') (hg : w1.grownBy w' vt.ownBlock) (hb : v'.ownBlock = vt.ownBlock ∨ v'.ownBlock = some w1.heap.size) : BkI W w' v' vb va T' B A := by
  have hc : Ch (fun b => vt.ownBlock = some b) wr w' := (hc1.mono (fun _ _ h => h.elim)).trans (Ch.ofGrown hg fun b hb => hb)
  have hs := hc1.size
  refine ⟨hr, h.b.keepS hc (fun g hg' e => h.tb g e hg'), h.a.keepS hc (fun g hg' e => h.ta g e hg'), fun g hg' e => ?_, fun g hg' e => ?_, h.ba, h.ch.trans' hc (fun k hk e => by have := own_lt h.t k e; omega)⟩
  · rcases hb with q | q
    · rw [q] at hg'; exact h.tb g hg' e
    · rw [q] at hg'; have := own_lt h.b g e; have e2 := Option.some.inj hg'; omega
  · rcases hb with q | q
    · rw [q] at hg'; exact h.ta g hg' e
    · rw [q] at hg'; have := own_lt h.a g e; have e2 := Option.some.inj hg'; omega

theorem rowCells {base : Nat} {w : World} {v : Value} {xs : List Stp} (h : Row3 base w v xs) (hne : 0 < xs.length) : ∃ g cap, v = .slice (some ⟨g, 0, none⟩) xs.length cap ∧ xs.length ≤ cap ∧ ∀ i u, (stepCells xs)[i]? = some u → w.cell? ⟨g, i, none⟩ = some u := by
  obtain ⟨h1, h2⟩ := h
  rcases h2 with ⟨rfl, h2⟩ | ⟨g, cap, cur, rfl, hb, hh, hnc, h4, h5, h6⟩
  · omega
  · refine ⟨g, cap, rfl, hnc, fun i u hu => ?_⟩
    have hi : i < xs.length * 3 := by have := (List.getElem?_eq_some_iff.1 hu).1; rw [stepCells_len] at this; exact this
    simp only [World.cell?, hh]
    rw [← h6, List.getElem?_take_of_lt hi] at hu
    simpa using hu

theorem rowAt {base g n c : Nat} {w : World} {xs : List Stp} (h : Row3 base w (.slice (some ⟨g, 0, none⟩) n c) xs) : ∀ i u, (stepCells xs)[i]? = some u → w.cell? ⟨g, i, none⟩ = some u := by
  by_cases hne : 0 < xs.length
  · obtain ⟨g', c', e, _, hc⟩ := rowCells h hne
    cases e
    exact hc
  · have : xs = [] := List.length_eq_zero_iff.1 (by omega)
    subst this
    intro i u hu
    simp [stepCells] at hu
theorem BkI.named {W w : World} {vt vb va : Value} {T B A : List Stp} (h : BkI W w vt vb va T B A) (m : Nat) (hm : A.length = m) (hne : 0 < m) : ∃ (Qs : List Stp) (ga ca : Nat), Hid (Qs = A) ∧ Hid (Qs.length = m) ∧ va = .slice (some ⟨ga, 0, none⟩) m ca ∧ Hid (BkI W w vt vb va T B Qs) := by
  obtain ⟨g, c, hv, _, _⟩ := rowCells h.a (by omega)
  exact ⟨A, g, c, Lib.hid rfl, Lib.hid hm, by rw [hv, hm], Lib.hid h⟩
theorem BkI.namedT {W w : World} {vt vb va : Value} {T B A : List Stp} (h : BkI W w vt vb va T B A) : ∃ (AT : Option Addr) (c : Nat), vt = .slice AT T.length c ∧ Hid (BkI W w vt vb va T B A) := by
  obtain ⟨g, c, hv, _, _⟩ := h.t.shape
  exact ⟨g, c, hv, Lib.hid h⟩
theorem BkI.namedB {W w : World} {vt vb va : Value} {T B A : List Stp} (h : BkI W w vt vb va T B A) : ∃ (AT : Option Addr) (c : Nat), vb = .slice AT B.length c ∧ Hid (BkI W w vt vb va T B A) := by
  obtain ⟨g, c, hv, _, _⟩ := h.b.shape
  exact ⟨g, c, hv, Lib.hid h⟩
/-- Answers in memory. -/
def Ans (w : World) (v : Value) (ys : List (Nat × Bool)) : Prop := ∃ g cap, v = .slice (some ⟨g, 0, none⟩) ys.length cap ∧ ys.length ≤ cap ∧ ∀ (j : Nat) (y : Nat × Bool), ys[j]? = some y → w.cell? ⟨g, j * 2, none⟩ = some (.int .u64 (y.1 : Nat)) ∧ w.cell? ⟨g, j * 2 + 1, none⟩ = some (.bool y.2)
theorem ansCells_at : ∀ (ys : List (Nat × Bool)) (j : Nat) (y : Nat × Bool), ys[j]? = some y → (ansCells ys)[j * 2]? = some (.int .u64 (y.1 : Nat)) ∧ (ansCells ys)[j * 2 + 1]? = some (.bool y.2)
  | [], j, y, h => by simp at h
  | z :: zs, 0, y, h => by simp at h; subst h; simp [ansCells]
  | z :: zs, j + 1, y, h => by
    have ih := ansCells_at zs j y (by simpa using h)
    have e : ansCells (z :: zs) = [.int .u64 (z.1 : Nat), .bool z.2] ++ ansCells zs := by simp [ansCells]
    rw [e]
    have l : ([.int .u64 (z.1 : Nat), .bool z.2] : List Value).length = 2 := rfl
    refine ⟨?_, ?_⟩
    · rw [List.getElem?_append_right (by rw [l]; omega), l, show (j + 1) * 2 - 2 = j * 2 by omega]; exact ih.1
    · rw [List.getElem?_append_right (by rw [l]; omega), l, show (j + 1) * 2 + 1 - 2 = j * 2 + 1 by omega]; exact ih.2
theorem own_ans {base : Nat} {w : World} {v : Value} {ys : List (Nat × Bool)} (h : w.ownsRow base 30 2 v ys.length (ansCells ys)) (hne : 0 < ys.length) : Ans w v ys := by
  obtain ⟨h1, h2⟩ := h
  rcases h2 with ⟨rfl, h2⟩ | ⟨g, cap, cur, rfl, hb, hh, hnc, h4, h5, h6⟩
  · omega
  · refine ⟨g, cap, rfl, hnc, fun j y hj => ?_⟩
    have hjl := (List.getElem?_eq_some_iff.1 hj).1
    have hcell : ∀ i u, i < ys.length * 2 → (ansCells ys)[i]? = some u → w.cell? ⟨g, i, none⟩ = some u := fun i u hi hu => by
      simp only [World.cell?, hh]
      rw [← h6, List.getElem?_take_of_lt hi] at hu
      simpa using hu
    obtain ⟨a1, a2⟩ := ansCells_at ys j y hj
    exact ⟨hcell _ _ (by omega) a1, hcell _ _ (by omega) a2⟩
theorem Ans.keep {w w' : World} {v : Value} {ys : List (Nat × Bool)} (h : Ans w v ys) (hc : Ch S0 w w') : Ans w' v ys := by
  obtain ⟨g, cap, h1, h2, h3⟩ := h
  refine ⟨g, cap, h1, h2, fun j y hj => ?_⟩
  obtain ⟨a1, a2⟩ := h3 j y hj
  have hb := hc.block g (World.block_lt_of_cell? w _ a1) (fun h => h)
  exact ⟨by rw [World.cell?_of_block (w := w) hb]; exact a1, by rw [World.cell?_of_block (w := w) hb]; exact a2⟩
theorem Row3.steps {base : Nat} {w : World} {A : Option Addr} {n cap : Nat} {xs : List Stp} (h : Row3 base w (.slice A n cap) xs) : Steps w A xs ∧ n = xs.length := by
  obtain ⟨A', cap', e, hs, _⟩ := h.shape
  cases e
  exact ⟨hs, rfl⟩
end Go.Proofs.Ytjliofloheellaa
