/- PLAIN: sorted numbers without doubles: the place of a number. -/
import Derived.Test.YtpkeiankocimaaaRows
import Derived.Lib.SlicesCompact
import Derived.Lib.RowBridge
namespace Go.Proofs.Ytpkeiankocimaaa
set_option linter.unusedVariables false
set_option linter.unusedSimpArgs false

theorem compactUpTo_lt (d : Array Int) (hs : ∀ i j, i ≤ j → j < d.size → d[i]! ≤ d[j]!) : ∀ m, m ≤ d.size → (Lib.compactUpTo d m).Pairwise (· < ·) ∧ ∀ x ∈ Lib.compactUpTo d m, ∃ i, i < m ∧ d[i]! = x := by
  intro m
  induction m with
  | zero => intro _; exact ⟨by simp [Lib.compactUpTo], by simp [Lib.compactUpTo]⟩
  | succ m ih =>
    intro hm
    obtain ⟨h1, h2⟩ := ih (by omega)
    rw [Lib.compactUpTo_succ]
    by_cases hk : Lib.keeps d m = true
    · simp only [hk, if_true]
      refine ⟨?_, ?_⟩
      · rw [List.pairwise_append]
        refine ⟨h1, by simp, fun x hx y hy => ?_⟩
        obtain ⟨i, hi, rfl⟩ := h2 x hx
        simp only [List.mem_singleton] at hy
        subst hy
        have e1 := hs i (m - 1) (by omega) (by omega)
        have e2 := hs (m - 1) m (by omega) (by omega)
        simp only [Lib.keeps, decide_eq_true_eq] at hk
        rcases hk with hk | hk
        · omega
        · omega
      · intro x hx
        rcases List.mem_append.1 hx with hx | hx
        · obtain ⟨i, hi, e⟩ := h2 x hx
          exact ⟨i, by omega, e⟩
        · simp only [List.mem_singleton] at hx
          exact ⟨m, by omega, hx.symm⟩
    · simp only [hk, if_false, List.append_nil, Bool.false_eq_true]
      refine ⟨h1, fun x hx => ?_⟩
      obtain ⟨i, hi, e⟩ := h2 x hx
      exact ⟨i, by omega, e⟩
theorem compact_lt (zs : List Int) (h : zs.Pairwise (· ≤ ·)) : (Lib.compact zs).Pairwise (· < ·) := by
  unfold Lib.compact
  refine (compactUpTo_lt zs.toArray (fun i j hij hj => ?_) zs.length (by simp)).1
  have hj' : j < zs.length := by simpa using hj
  have e1 : zs.toArray[i]! = zs[i] := by simp [getElem!_pos, show i < zs.length by omega]
  have e2 : zs.toArray[j]! = zs[j] := by simp [getElem!_pos, hj']
  rw [e1, e2]
  rcases Nat.lt_or_eq_of_le hij with hl | rfl
  · exact List.pairwise_iff_getElem.1 h i j _ _ hl
  · exact Int.le_refl _
theorem mem_compactI {zs : List Int} {x : Int} (h : x ∈ Lib.compact zs) : x ∈ zs := by
  unfold Lib.compact Lib.compactUpTo at h
  rw [List.mem_map] at h
  obtain ⟨j, hj, rfl⟩ := h
  have hj' : j < zs.length := by simpa using (List.mem_filter.1 hj).1
  have e2 : zs.toArray[j]! = zs[j] := by simp [getElem!_pos, hj']
  rw [e2]
  exact List.getElem_mem _

/-- How many are less. -/
def less (s : List Int) (x : Int) : Nat := s.countP fun y => decide (y < x)
/-- A number put in at its place. -/
def insAt (s : List Int) (x : Int) : List Int := if s[less s x]? = some x then s else s.take (less s x) ++ x :: s.drop (less s x)
theorem less_le (s : List Int) (x : Int) : less s x ≤ s.length := List.countP_le_length
theorem less_cons (y : Int) (s : List Int) (x : Int) : less (y :: s) x = less s x + if y < x then 1 else 0 := by
  simp [less, List.countP_cons]
theorem less_app (s t : List Int) (x : Int) : less (s ++ t) x = less s x + less t x := by
  simp [less, List.countP_append]
theorem less_zero {s : List Int} {x : Int} (h : ∀ y ∈ s, x ≤ y) : less s x = 0 := by
  unfold less
  rw [List.countP_eq_zero]
  intro y hy
  have := h y hy
  simp; omega
theorem less_all {s : List Int} {x : Int} (h : ∀ y ∈ s, y < x) : less s x = s.length := by
  unfold less
  rw [List.countP_eq_length]
  intro y hy
  simpa using h y hy
theorem ins_facts : ∀ (s : List Int) (x : Int), s.Pairwise (· < ·) →
    (insAt s x)[less s x]? = some x ∧ less (insAt s x) x = less s x ∧ less (insAt s x) (x + 1) = less s x + 1 ∧ (insAt s x).Pairwise (· < ·)
  | [], x, _ => by
    have : x < x + 1 := by omega
    simp [insAt, less, this]
  | y :: s, x, h => by
    obtain ⟨hy, hs⟩ := List.pairwise_cons.1 h
    by_cases hlt : y < x
    · obtain ⟨h1, h2, h3, h4⟩ := ins_facts s x hs
      have e : less (y :: s) x = less s x + 1 := by rw [less_cons, if_pos hlt]
      have e2 : insAt (y :: s) x = y :: insAt s x := by
        unfold insAt
        rw [e]
        by_cases hg : s[less s x]? = some x
        · rw [if_pos (by simpa using hg), if_pos hg]
        · rw [if_neg (by simpa using hg), if_neg hg]; simp
      rw [e2, e]
      refine ⟨by simpa using h1, by rw [less_cons, if_pos hlt, h2], by rw [less_cons, if_pos (by omega), h3], ?_⟩
      refine List.pairwise_cons.2 ⟨fun z hz => ?_, h4⟩
      unfold insAt at hz
      split at hz
      · exact hy z hz
      · rcases List.mem_append.1 hz with hz | hz
        · exact hy z (List.mem_of_mem_take hz)
        · rcases List.mem_cons.1 hz with rfl | hz
          · exact hlt
          · exact hy z (List.mem_of_mem_drop hz)
    · have e0 : less (y :: s) x = 0 := less_zero fun z hz => by
        rcases List.mem_cons.1 hz with rfl | hz
        · omega
        · have := hy z hz; omega
      have es : ∀ z ∈ s, x < z := fun z hz => by have := hy z hz; omega
      have es1 : less s (x + 1) = 0 := less_zero fun z hz => by have := es z hz; omega
      rw [e0]
      unfold insAt
      rw [e0]
      by_cases hxy : y = x
      · subst hxy
        simp only [List.getElem?_cons_zero, if_true]
        exact ⟨trivial, e0, by rw [less_cons, es1, if_pos (by omega)], h⟩
      · have hne : ¬ (some y = some x) := by simpa using hxy
        simp only [List.getElem?_cons_zero, hne, if_false, List.take_zero, List.drop_zero, List.nil_append]
        refine ⟨trivial, by rw [less_cons, e0, if_neg (by omega)], by rw [less_cons, less_cons, es1, if_neg (by omega), if_pos (by omega)], ?_⟩
        refine List.pairwise_cons.2 ⟨fun z hz => ?_, h⟩
        rcases List.mem_cons.1 hz with rfl | hz
        · omega
        · exact es z hz
theorem insAt_len (s : List Int) (x : Int) : (insAt s x).length = s.length ∨ (insAt s x).length = s.length + 1 := by
  unfold insAt
  split
  · exact Or.inl rfl
  · right
    have := less_le s x
    simp; omega
/-- sort.Search's count. -/
theorem count_less (s : List Int) (x : Int) : (List.range s.length).countP (fun i => !decide (x ≤ s.getD i 0)) = less s x := by
  unfold less
  have h : s = (List.range s.length).map (fun i => s.getD i 0) := by
    apply List.ext_getElem
    · simp
    · intro i h1 h2
      simp [List.getD, h1]
  conv => rhs; rw [h]
  rw [List.countP_map]
  congr 1
  funext i
  simp only [Function.comp]
  by_cases hh : x ≤ s.getD i 0
  · rw [decide_eq_true hh, decide_eq_false (Int.not_lt.2 hh)]; rfl
  · rw [decide_eq_false hh, decide_eq_true (Int.not_le.1 hh)]; rfl
theorem less_at {s : List Int} {r : Nat} {x : Int} (hr : r ≤ s.length) (h1 : ∀ t, t < r → s.getD t 0 < x) (h2 : ∀ t, r ≤ t → t < s.length → x ≤ s.getD t 0) : less s x = r := by
  have e : less s x = less (s.take r) x + less (s.drop r) x := by rw [← less_app, List.take_append_drop]
  rw [e, less_all (s := s.take r) (fun y hy => ?_), less_zero (s := s.drop r) (fun y hy => ?_)]
  · simp; omega
  · obtain ⟨i, hi, rfl⟩ := List.getElem_of_mem hy
    have hi' : r + i < s.length := by simp at hi; omega
    have := h2 (r + i) (by omega) hi'
    rw [List.getD_eq_getElem?_getD, List.getElem?_eq_getElem hi'] at this
    rw [List.getElem_drop]
    exact this
  · obtain ⟨i, hi, rfl⟩ := List.getElem_of_mem hy
    have hi' : i < r ∧ i < s.length := by simp at hi; omega
    have := h1 i hi'.1
    rw [List.getD_eq_getElem?_getD, List.getElem?_eq_getElem hi'.2] at this
    rw [List.getElem_take]
    exact this
theorem sorted_at {s : List Int} (h : s.Pairwise (· < ·)) {a b : Nat} (hab : a ≤ b) (hb : b < s.length) : s.getD a 0 ≤ s.getD b 0 := by
  have e1 : s.getD a 0 = s[a] := by simp [List.getD, show a < s.length by omega]
  have e2 : s.getD b 0 = s[b] := by simp [List.getD, hb]
  rw [e1, e2]
  rcases Nat.lt_or_eq_of_le hab with hl | rfl
  · exact Int.le_of_lt (List.pairwise_iff_getElem.1 h a b _ _ hl)
  · exact Int.le_refl _
end Go.Proofs.Ytpkeiankocimaaa
