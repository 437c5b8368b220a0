/- THE PLAIN LAW of FnFIDeepOrder: sets of different keys in either order lead to the same map. -/
import Derived.Test.YtjliofloheellaaK
namespace Go.Proofs.Ytjliofloheellaa
set_option linter.unusedVariables false
set_option linter.unusedSimpArgs false

abbrev S00 : FS := (fun _ => none, 0)

theorem sts_prefix (A Q : List Stp) (s : FS) : ∀ i, i ≤ A.length → sts (A ++ Q) s i = sts A s i
  | 0, _ => rfl
  | i + 1, h => by
    have ih := sts_prefix A Q s i (by omega)
    have e : (A ++ Q)[i]? = A[i]? := List.getElem?_append_left (by omega)
    simp only [sts, e, ih]
theorem sts_append (A Q : List Stp) (s : FS) : ∀ j, sts (A ++ Q) s (A.length + j) = sts Q (sts A s A.length) j
  | 0 => sts_prefix A Q s _ (Nat.le_refl _)
  | j + 1 => by
    have ih := sts_append A Q s j
    have e : (A ++ Q)[A.length + j]? = Q[j]? := by rw [List.getElem?_append_right (by omega)]; congr 1; omega
    rw [← Nat.add_assoc]
    simp only [sts, e, ih]
theorem says_prefix (A Q : List Stp) (s : FS) : ∀ i, i ≤ A.length → says (A ++ Q) s i = says A s i
  | 0, _ => rfl
  | i + 1, h => by
    have ih := says_prefix A Q s i (by omega)
    have e : (A ++ Q)[i]? = A[i]? := List.getElem?_append_left (by omega)
    simp only [says, e, ih, sts_prefix A Q s i (by omega)]
theorem says_append (A Q : List Stp) (s : FS) : ∀ j, says (A ++ Q) s (A.length + j) = says A s A.length ++ says Q (sts A s A.length) j
  | 0 => by simp [says, says_prefix A Q s _ (Nat.le_refl _)]
  | j + 1 => by
    have ih := says_append A Q s j
    have e : (A ++ Q)[A.length + j]? = Q[j]? := by rw [List.getElem?_append_right (by omega)]; congr 1; omega
    rw [← Nat.add_assoc]
    simp only [says, e, ih, sts_append]
    split <;> simp
theorem says_full (xs : List Stp) (s : FS) : ∀ i, i ≤ xs.length → (says xs s i).length = i
  | 0, _ => rfl
  | i + 1, h => by
    have ih := says_full xs s i (by omega)
    have e : xs[i]? = some (xs[i]'(by omega)) := by simp [show i < xs.length by omega]
    simp [says, e, ih]

/-- Sets of different keys. -/
structure Sets (A : List Stp) : Prop where
  op : ∀ x ∈ A, x.op = 1
  diff : ∀ (i j : Nat) (x y : Stp), A[i]? = some x → A[j]? = some y → x.k = y.k → i = j

theorem sets_state {A : List Stp} (h : Sets A) : ∀ i, i ≤ A.length → (sts A S00 i).2 = i ∧ ∀ k v, (sts A S00 i).1 k = some v ↔ ∃ j x, j < i ∧ A[j]? = some x ∧ x.k = k ∧ x.v = v
  | 0, _ => ⟨rfl, fun k v => ⟨fun h => (by cases h), fun ⟨j, _, h, _⟩ => (by omega)⟩⟩
  | i + 1, hi => by
    obtain ⟨ih1, ih2⟩ := sets_state h i (by omega)
    have e : A[i]? = some (A[i]'(by omega)) := by simp [show i < A.length by omega]
    have ho := h.op (A[i]'(by omega)) (List.getElem_mem _)
    have hs : sts A S00 (i + 1) = (upd (sts A S00 i).1 (A[i]'(by omega)).k (A[i]'(by omega)).v, (sts A S00 i).2 + 1) := by
      simp only [sts, e, next, ho, if_true]
    rw [hs]
    refine ⟨by simp [ih1], fun k v => ?_⟩
    simp only [upd]
    by_cases hk : k = (A[i]'(by omega)).k
    · simp only [hk, if_true, Option.some.injEq]
      constructor
      · intro hv; exact ⟨i, _, by omega, e, rfl, hv⟩
      · rintro ⟨j, x, h1, h2, h3, h4⟩
        have hj := h.diff j i x _ h2 e h3
        subst hj
        rw [e] at h2; cases h2; exact h4
    · simp only [hk, if_false]
      rw [ih2]
      constructor
      · rintro ⟨j, x, h1, h2⟩; exact ⟨j, x, by omega, h2⟩
      · rintro ⟨j, x, h1, h2, h3, h4⟩
        refine ⟨j, x, ?_, h2, h3, h4⟩
        have : j ≠ i := fun e' => by subst e'; rw [e] at h2; cases h2; exact hk h3.symm
        omega
theorem sets_rev {A : List Stp} (h : Sets A) : Sets A.reverse := by
  refine ⟨fun x hx => h.op x (by simpa using hx), fun i j x y hi hj hk => ?_⟩
  have li : i < A.length := by simpa using (List.getElem?_eq_some_iff.1 hi).1
  have lj : j < A.length := by simpa using (List.getElem?_eq_some_iff.1 hj).1
  rw [List.getElem?_reverse li] at hi
  rw [List.getElem?_reverse lj] at hj
  have := h.diff _ _ x y hi hj hk
  omega
/-- Either order: the same map. -/
theorem sets_same {A : List Stp} (h : Sets A) : sts A.reverse S00 A.length = sts A S00 A.length := by
  obtain ⟨a1, a2⟩ := sets_state h A.length (Nat.le_refl _)
  obtain ⟨b1, b2⟩ := sets_state (sets_rev h) A.length (by simp)
  refine Prod.ext ?_ (by rw [a1, b1])
  funext k
  apply Option.ext
  intro v
  rw [b2, a2]
  constructor
  · rintro ⟨j, x, h1, h2, h3⟩
    rw [List.getElem?_reverse h1] at h2
    exact ⟨A.length - 1 - j, x, by omega, h2, h3⟩
  · rintro ⟨j, x, h1, h2, h3⟩
    exact ⟨A.length - 1 - j, x, by omega, by rw [List.getElem?_reverse (by omega), show A.length - 1 - (A.length - 1 - j) = j by omega]; exact h2, h3⟩

/-- Questions change nothing. -/
theorem asks_state {Q : List Stp} (hQ : ∀ x ∈ Q, x.op ∈ [2, 3, 5]) (s : FS) : ∀ i, sts Q s i = s
  | 0 => rfl
  | i + 1 => by
    have ih := asks_state hQ s i
    simp only [sts]
    cases e : Q[i]? with
    | none => exact ih
    | some x =>
      have := hQ x (List.mem_of_getElem? e)
      simp only [List.mem_cons, List.not_mem_nil, or_false] at this
      simp only [next, ih]
      rcases this with h | h | h <;> simp [h]

theorem fine_of {A Q : List Stp} (h : Sets A) (hA : A.length ≤ 101) (hQ : ∀ x ∈ Q, x.op ∈ [2, 3, 5]) : Fine (A ++ Q) S00 := by
  intro i x hx
  by_cases hi : i < A.length
  · rw [List.getElem?_append_left hi] at hx
    have ho := h.op x (List.mem_of_getElem? hx)
    obtain ⟨a1, a2⟩ := sets_state h i (by omega)
    rw [sts_prefix A Q S00 i (by omega)]
    refine ⟨by simp [ho], fun _ => ?_, by omega⟩
    cases hm : (sts A S00 i).1 x.k with
    | none => rfl
    | some v =>
      obtain ⟨j, y, h1, h2, h3, _⟩ := (a2 x.k v).1 hm
      have := h.diff j i y x h2 hx h3
      omega
  · have e : A.length + (i - A.length) = i := by omega
    rw [List.getElem?_append_right (by omega)] at hx
    have ho := hQ x (List.mem_of_getElem? hx)
    have hs : sts (A ++ Q) S00 i = sts A S00 A.length := by rw [← e, sts_append, asks_state hQ]
    rw [hs, (sets_state h A.length (Nat.le_refl _)).1]
    refine ⟨?_, fun h1 => ?_, by omega⟩
    · simp only [List.mem_cons, List.not_mem_nil, or_false] at ho ⊢; omega
    · simp only [List.mem_cons, List.not_mem_nil, or_false] at ho; omega

/-- THE LAW: behind the sets the answers are the same; the last of them is the number of keys. -/
theorem order_law {A Q : List Stp} (h : Sets A) (hQ : ∀ x ∈ Q, x.op ∈ [2, 3, 5]) : ∀ i, A.length ≤ i → (says (A ++ Q) S00 (A ++ Q).length)[i]? = (says (A.reverse ++ Q) S00 (A.reverse ++ Q).length)[i]? := by
  intro i hi
  rw [List.length_append, List.length_append, says_append, says_append]
  have l1 := says_full A S00 A.length (Nat.le_refl _)
  have l2 := says_full A.reverse S00 A.reverse.length (Nat.le_refl _)
  rw [List.getElem?_append_right (by omega), List.getElem?_append_right (by rw [l2]; simpa using hi), l1, l2]
  simp only [List.length_reverse]
  rw [sets_same h]
theorem order_last {A Q : List Stp} (h : Sets A) (hQ : ∀ x ∈ Q, x.op ∈ [2, 3, 5]) (k v : Nat) : (says (A ++ (Q ++ [(⟨5, k, v⟩ : Stp)])) S00 (A ++ (Q ++ [(⟨5, k, v⟩ : Stp)])).length)[A.length + Q.length]? = some (A.length, false) := by
  have e : (A ++ (Q ++ [(⟨5, k, v⟩ : Stp)])).length = (A ++ Q).length + 1 := by simp; omega
  have e2 : A ++ (Q ++ [(⟨5, k, v⟩ : Stp)]) = (A ++ Q) ++ [(⟨5, k, v⟩ : Stp)] := by simp
  rw [e, e2, says_append]
  have l1 := says_full (A ++ Q) S00 (A ++ Q).length (Nat.le_refl _)
  rw [List.getElem?_append_right (by rw [l1]; simp), l1]
  have e3 : sts (A ++ Q) S00 (A ++ Q).length = sts A S00 A.length := by rw [List.length_append, sts_append, asks_state hQ]
  rw [e3, show A.length + Q.length - (A ++ Q).length = 0 by simp]
  have e4 : (sts A S00 A.length).2 = A.length := (sets_state h A.length (Nat.le_refl _)).1
  show (says [(⟨5, k, v⟩ : Stp)] (sts A S00 A.length) 1)[0]? = _
  simp only [says, List.getElem?_cons_zero, sts, List.nil_append]
  simp [said, e4]
end Go.Proofs.Ytjliofloheellaa
