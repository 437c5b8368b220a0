/- WALKS: the law, first part: rows of steps, appends to them. -/
import Derived.Test.YtjliofloheellaaL
namespace Go.Proofs.Ytjliofloheellaa
open Go.RowKit
set_option linter.unusedVariables false
set_option linter.unusedSimpArgs false

def stepCells (xs : List Stp) : List Value := xs.flatMap fun x => [.int .i64 x.op, .int .u64 x.k, .int .u64 x.v]
theorem stepCells_append (xs ys : List Stp) : stepCells (xs ++ ys) = stepCells xs ++ stepCells ys := by simp [stepCells]
theorem stepCells_len (xs : List Stp) : (stepCells xs).length = xs.length * 3 := by
  induction xs with
  | nil => rfl
  | cons x xs ih => simp only [stepCells, List.flatMap_cons, List.length_append] at ih ⊢; simp [ih]; omega
theorem stepCells_at : ∀ (xs : List Stp) (j : Nat) (x : Stp), xs[j]? = some x → (stepCells xs)[j * 3]? = some (.int .i64 x.op) ∧ (stepCells xs)[j * 3 + 1]? = some (.int .u64 x.k) ∧ (stepCells xs)[j * 3 + 2]? = some (.int .u64 x.v)
  | [], j, x, h => by simp at h
  | y :: ys, 0, x, h => by simp at h; subst h; simp [stepCells]
  | y :: ys, j + 1, x, h => by
    have ih := stepCells_at ys j x (by simpa using h)
    have e : stepCells (y :: ys) = [.int .i64 y.op, .int .u64 y.k, .int .u64 y.v] ++ stepCells ys := by simp [stepCells]
    rw [e]
    have l : ([.int .i64 y.op, .int .u64 y.k, .int .u64 y.v] : List Value).length = 3 := rfl
    refine ⟨?_, ?_, ?_⟩
    · rw [List.getElem?_append_right (by rw [l]; omega), l, show (j + 1) * 3 - 3 = j * 3 by omega]; exact ih.1
    · rw [List.getElem?_append_right (by rw [l]; omega), l, show (j + 1) * 3 + 1 - 3 = j * 3 + 1 by omega]; exact ih.2.1
    · rw [List.getElem?_append_right (by rw [l]; omega), l, show (j + 1) * 3 + 2 - 3 = j * 3 + 2 by omega]; exact ih.2.2

/-- A row of steps, the law's own. -/
def Row3 (base : Nat) (w : World) (v : Value) (xs : List Stp) : Prop := w.ownsRow base 26 3 v xs.length (stepCells xs)
theorem Row3.shape {base : Nat} {w : World} {v : Value} {xs : List Stp} (h : Row3 base w v xs) : ∃ A cap, v = .slice A xs.length cap ∧ Steps w A xs ∧ (∀ a, A = some a → ∃ g, a = ⟨g, 0, none⟩ ∧ v.ownBlock = some g) ∧ xs.length ≤ cap := by
  obtain ⟨h1, h2⟩ := h
  rcases h2 with ⟨rfl, h2⟩ | ⟨g, cap, cur, rfl, hb, hh, hnc, h4, h5, h6⟩
  · exact ⟨none, 0, by rw [h2], fun j x hj => (by have := (List.getElem?_eq_some_iff.1 hj).1; omega), fun a h => (by cases h), by omega⟩
  · refine ⟨_, cap, rfl, fun j x hj => ⟨g, 0, rfl, ?_⟩, fun a h => ⟨g, (by cases h; rfl), rfl⟩, hnc⟩
    have hjl := (List.getElem?_eq_some_iff.1 hj).1
    have hcell : ∀ i u, i < xs.length * 3 → (stepCells xs)[i]? = some u → w.cell? ⟨g, 0 + i, none⟩ = some u := fun i u hi hu => by
      simp only [World.cell?, hh, Nat.zero_add]
      rw [← h6, List.getElem?_take_of_lt hi] at hu
      simpa using hu
    obtain ⟨a1, a2, a3⟩ := stepCells_at xs j x hj
    exact ⟨hcell _ _ (by omega) a1, hcell _ _ (by omega) a2, hcell _ _ (by omega) a3⟩

theorem Try.info26 : (Try.prog.info? 26).map (fun i => (i.zero, i.size, i.bytes)) = some (some (.agg #[.int .i64 0, .int .u64 0, .int .u64 0]), 3, 24) := by kernel_rfl

/-- s = append(s, ..) of m steps that lie at ad. -/
theorem app26 {w : World} {ops : Array Oper} {rest : List Oper} {o : Oper} {a : Act} {Q : Exit → Act → World → Prop} (hgd : o.guard = none) (s x : Operand)
    (ho : o.op = .call { callee := .builtin .append, args := #[s, x], argTypes := #[23, 23] }) (base : Nat) (v : Value) (xs ys : List Stp) (hs : a.eval s = v) (hown : Row3 base w v xs)
    (g c : Nat) (m : Nat) (hm : ys.length = m) (hx : a.eval x = .slice (some ⟨g, 0, none⟩) m c) (hy : ∀ i u, (stepCells ys)[i]? = some u → w.cell? ⟨g, i, none⟩ = some u) (hn : xs.length ≤ 1000000) (hn2 : m ≤ 1000000) (hb : base ≤ w.heap.size)
    (h : ∀ v' w', Row3 base w' v' (xs ++ ys) → w.grownBy w' v.ownBlock → (v'.ownBlock = v.ownBlock ∨ v'.ownBlock = some w.heap.size) → wpList Try.prog ops Q rest (a.put o.dst v') w') :
    wpList Try.prog ops Q (o :: rest) a w := by
  subst hm
  obtain ⟨i0, hi0, hz0, hz1, hz2⟩ := info_parts Try.info26
  refine wpList_append_own_at _ hgd s x 23 ho base 26 i0 (.agg #[.int .i64 0, .int .u64 0, .int .u64 0]) 3 24 Try.underlying23 hi0 hz0 hz1 hz2 rfl (by decide) v xs.length (stepCells xs) hs hown ⟨g, 0, none⟩ ys.length c (stepCells ys) hx (stepCells_len ys) ?_ ?_ (by unfold maxLen; omega) (by omega) hb ?_
  · intro j u hj
    have e : (⟨g, 0, none⟩ : Addr).add j = ⟨g, j, none⟩ := by
      unfold Addr.add
      by_cases hj0 : j = 0
      · simp [hj0]
      · simp [hj0]
    rw [e]
    exact hy j u hj
  · intro u hu
    simp only [stepCells, List.mem_flatMap] at hu
    obtain ⟨y, _, hu⟩ := hu
    simp at hu
    rcases hu with rfl | rfl | rfl <;> rfl
  · intro v' w' g1 g2 _ g3
    refine h v' w' ?_ g2 g3
    unfold Row3
    rw [stepCells_append, List.length_append]
    exact g1
/-- The same inside a region that draws its order. -/
theorem step26 {w : World} {ops : Array Oper} {o : Oper} {a : Act} {K : Act → World → Prop} {Q : Exit → Act → World → Prop} {E : Prop} (hgd : o.guard = none) (s x : Operand)
    (ho : o.op = .call { callee := .builtin .append, args := #[s, x], argTypes := #[23, 23] }) (base : Nat) (v : Value) (xs ys : List Stp) (hs : a.eval s = v) (hown : Row3 base w v xs)
    (g c : Nat) (m : Nat) (hm : ys.length = m) (hx : a.eval x = .slice (some ⟨g, 0, none⟩) m c) (hy : ∀ i u, (stepCells ys)[i]? = some u → w.cell? ⟨g, i, none⟩ = some u) (hn : xs.length ≤ 1000000) (hn2 : m ≤ 1000000) (hb : base ≤ w.heap.size)
    (h : ∀ v' w', Row3 base w' v' (xs ++ ys) → w.grownBy w' v.ownBlock → (v'.ownBlock = v.ownBlock ∨ v'.ownBlock = some w.heap.size) → K (a.put o.dst v') w') :
    if Region.wanted o (yielded ops a.tmps) = true then Oper.wp Try.prog o a w K Q else E := by
  have hw : Region.wanted o (yielded ops a.tmps) = true := by simp [Region.wanted, hgd]
  rw [if_pos hw]
  subst hm
  obtain ⟨i0, hi0, hz0, hz1, hz2⟩ := info_parts Try.info26
  have e : ∀ j, (⟨g, 0, none⟩ : Addr).add j = ⟨g, j, none⟩ := fun j => by
    unfold Addr.add
    by_cases hj0 : j = 0
    · simp [hj0]
    · simp [hj0]
  have h1 : ∀ u ∈ stepCells ys, u.oneCell' = true := by
    intro u hu
    simp only [stepCells, List.mem_flatMap] at hu
    obtain ⟨y, _, hu⟩ := hu
    simp at hu
    rcases hu with rfl | rfl | rfl <;> rfl
  obtain ⟨v', w', hr, h2, h3, h4, h5⟩ := run_append_own_at (P := Try.prog) w base 23 o.type 26 i0 (.agg #[.int .i64 0, .int .u64 0, .int .u64 0]) 3 24 Try.underlying23 hi0 hz0 hz1 hz2 rfl (by decide) v xs.length (stepCells xs) hown ⟨g, 0, none⟩ ys.length c (stepCells ys) (stepCells_len ys) (fun j u hj => by rw [e]; exact hy j u hj) h1 (by unfold maxLen; omega) (by omega) hb
  unfold Oper.wp execOp
  simp only [ho, resolve, invoke, builtin, Sem.run_bind, Sem.run_pure, Result.andThen_ok, List.map_toArray, List.map_cons, List.map_nil, hs, hx, hr]
  refine h v' w' ?_ h3 h5
  unfold Row3
  rw [stepCells_append, List.length_append]
  exact h2
theorem Row3.keepS {S : Nat → Prop} {w w' : World} {base : Nat} {v : Value} {xs : List Stp} (h : Row3 base w v xs) (hc : Ch S w w') (hs : ∀ g, v.ownBlock = some g → ¬ S g) : Row3 base w' v xs := own_keepS h hc hs
theorem Row3.nil (base : Nat) (w : World) : Row3 base w (.slice none 0 0) [] := World.ownsRow_nil _ _ _ _
end Go.Proofs.Ytjliofloheellaa
