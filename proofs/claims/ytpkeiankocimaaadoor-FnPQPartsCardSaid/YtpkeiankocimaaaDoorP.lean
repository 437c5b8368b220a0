/- PLAIN: binary heaps in a row. -/
import Derived.Test.YtpkeiankocimaaaDoorRows
namespace Go.Proofs.YtpkeiankocimaaaDoor
set_option linter.unusedVariables false
set_option linter.unusedSimpArgs false

def par (i : Nat) : Nat := (i - 1) / 2
def Heap (K : Nat → Int) (n : Nat) : Prop := ∀ i, 0 < i → i < n → K (par i) ≤ K i
def swp (K : Nat → Int) (i j : Nat) : Nat → Int := fun x => if x = i then K j else if x = j then K i else K x
theorem par_lt {i : Nat} (h : 0 < i) : par i < i := by unfold par; omega

structure UpInv (K : Nat → Int) (n idx : Nat) : Prop where
  out : ∀ i, 0 < i → i < n → i ≠ idx → K (par i) ≤ K i
  ch : ∀ i, 0 < i → i < n → par i = idx → 0 < idx → K (par idx) ≤ K i
theorem up_start {K : Nat → Int} {n : Nat} (h : Heap K n) : UpInv K (n + 1) n :=
  ⟨fun i h1 h2 h3 => h i h1 (by omega), fun i h1 h2 h3 h4 => by have := par_lt h1; omega⟩
theorem up_step {K : Nat → Int} {n idx : Nat} (h : UpInv K n idx) (h0 : 0 < idx) (h1 : idx < n) (hlt : K idx < K (par idx)) : UpInv (swp K idx (par idx)) n (par idx) := by
  have hp := par_lt h0
  refine ⟨fun i i1 i2 i3 => ?_, fun i i1 i2 i3 i4 => ?_⟩
  · unfold swp
    by_cases e1 : i = idx
    · subst e1
      have e2 : par i ≠ i := by omega
      simp only [if_true, e2, if_false]
      omega
    · by_cases e2 : par i = idx
      · have := h.ch i i1 i2 e2 h0
        simp only [e1, i3, e2, if_true, if_false]
        exact this
      · by_cases e3 : par i = par idx
        · have := h.out i i1 i2 e1
          simp only [e1, i3, e2, e3, if_true, if_false]
          have e4 : par idx ≠ idx := by omega
          simp only [e4, if_false]
          rw [e3] at this
          omega
        · have := h.out i i1 i2 e1
          simp only [e1, i3, e2, e3, if_false]
          exact this
  · have hpp := par_lt i4
    have e5 : par (par idx) ≠ idx := by omega
    have e6 : par (par idx) ≠ par idx := by omega
    have hg : K (par (par idx)) ≤ K (par idx) := h.out (par idx) i4 (by omega) (by omega)
    unfold swp
    simp only [e5, e6, if_false]
    by_cases e1 : i = idx
    · subst e1
      simp only [if_true]
      exact hg
    · have e2 : i ≠ par idx := fun e => by have := par_lt i1; omega
      simp only [e1, e2, if_false]
      have := h.out i i1 i2 e1
      rw [i3] at this
      omega
theorem up_exit {K : Nat → Int} {n idx : Nat} (h : UpInv K n idx) (hx : idx = 0 ∨ K (par idx) ≤ K idx) : Heap K n := fun i i1 i2 => by
  by_cases e : i = idx
  · subst e
    exact hx.resolve_left (by omega)
  · exact h.out i i1 i2 e

structure DownInv (K : Nat → Int) (n idx : Nat) : Prop where
  out : ∀ i, 0 < i → i < n → par i ≠ idx → K (par i) ≤ K i
  ch : ∀ i, 0 < i → i < n → par i = idx → 0 < idx → K (par idx) ≤ K i
theorem down_start {K : Nat → Int} {n : Nat} (h : ∀ i, 0 < i → i < n → par i ≠ 0 → K (par i) ≤ K i) : DownInv K n 0 := ⟨h, fun i _ _ _ h => by omega⟩
theorem down_step {K : Nat → Int} {n idx c : Nat} (h : DownInv K n idx) (h0 : 0 < c) (h1 : c < n) (hp : par c = idx) (hlt : K c < K idx) (hmin : ∀ i, 0 < i → i < n → par i = idx → K c ≤ K i) : DownInv (swp K idx c) n c := by
  have hci : idx < c := by have := par_lt h0; omega
  refine ⟨fun i i1 i2 i3 => ?_, fun i i1 i2 i3 i4 => ?_⟩
  · have hpi := par_lt i1
    unfold swp
    by_cases e1 : par i = idx
    · -- a child of idx
      have e2 : i ≠ idx := by omega
      simp only [e1, e2, if_true, if_false]
      by_cases e3 : i = c
      · simp only [e3, if_true]; omega
      · simp only [e3, if_false]; exact hmin i i1 i2 e1
    · simp only [e1, i3, if_false]
      by_cases e2 : i = idx
      · subst e2
        simp only [if_true]
        exact h.ch c h0 h1 hp (by omega)
      · by_cases e3 : i = c
        · exact absurd (e3 ▸ hp) e1
        · simp only [e2, e3, if_false]
          exact h.out i i1 i2 e1
  · unfold swp
    have hpi := par_lt i1
    have e1 : i ≠ idx := by omega
    have e2 : i ≠ c := by omega
    rw [hp]
    simp only [e1, e2, if_true, if_false]
    have := h.out i i1 i2 (by omega)
    rw [i3] at this
    exact this
theorem down_exit {K : Nat → Int} {n idx : Nat} (h : DownInv K n idx) (hx : ∀ i, 0 < i → i < n → par i = idx → K idx ≤ K i) : Heap K n := fun i i1 i2 => by
  by_cases e : par i = idx
  · rw [e]; exact hx i i1 i2 e
  · exact h.out i i1 i2 e
theorem heap_min {K : Nat → Int} {n : Nat} (h : Heap K n) : ∀ i, i < n → K 0 ≤ K i := by
  intro i
  induction i using Nat.strongRecOn with
  | _ i ih =>
    intro hi
    by_cases h0 : i = 0
    · subst h0; exact Int.le_refl _
    · have hp := par_lt (show 0 < i by omega)
      have := ih (par i) hp (by omega)
      have := h i (by omega) hi
      omega
theorem Heap.congr {K K' : Nat → Int} {n : Nat} (h : Heap K n) (e : ∀ i, i < n → K' i = K i) : Heap K' n := fun i i1 i2 => by
  rw [e i i2, e _ (by have := par_lt i1; omega)]
  exact h i i1 i2
theorem Heap.less {K : Nat → Int} {n m : Nat} (h : Heap K n) (hm : m ≤ n) : Heap K m := fun i i1 i2 => h i i1 (by omega)
theorem UpInv.congr {K K' : Nat → Int} {n idx : Nat} (h : UpInv K n idx) (hi : idx < n) (e : ∀ i, i < n → K' i = K i) : UpInv K' n idx :=
  ⟨fun i i1 i2 i3 => by rw [e i i2, e _ (by have := par_lt i1; omega)]; exact h.out i i1 i2 i3, fun i i1 i2 i3 i4 => by rw [e i i2, e _ (by have := par_lt i4; omega)]; exact h.ch i i1 i2 i3 i4⟩
theorem DownInv.congr {K K' : Nat → Int} {n idx : Nat} (h : DownInv K n idx) (hi : idx < n) (e : ∀ i, i < n → K' i = K i) : DownInv K' n idx :=
  ⟨fun i i1 i2 i3 => by rw [e i i2, e _ (by have := par_lt i1; omega)]; exact h.out i i1 i2 i3, fun i i1 i2 i3 i4 => by rw [e i i2, e _ (by have := par_lt i4; omega)]; exact h.ch i i1 i2 i3 i4⟩

/-- Elements: a Key and a Tag. -/
abbrev El := Int × Int
def keyAt (a : List El) (i : Nat) : Int := (a.getD i (0, 0)).1
def swapL (a : List El) (i j : Nat) : List El := (a.set i (a.getD j (0, 0))).set j (a.getD i (0, 0))
@[simp] theorem swapL_length (a : List El) (i j : Nat) : (swapL a i j).length = a.length := by simp [swapL]
theorem swapL_get (a : List El) (i j x : Nat) (hi : i < a.length) (hj : j < a.length) (hx : x < a.length) : (swapL a i j).getD x (0, 0) = if x = j then a.getD i (0, 0) else if x = i then a.getD j (0, 0) else a.getD x (0, 0) := by
  unfold swapL
  simp only [List.getD_eq_getElem?_getD, List.getElem?_set, List.length_set]
  by_cases h1 : j = x
  · subst h1; simp [hx]
  · by_cases h2 : i = x
    · subst h2; simp [h1, hx, Ne.symm h1]
    · simp [h1, h2, Ne.symm h1, Ne.symm h2]
theorem keyAt_swap (a : List El) (i j : Nat) (hi : i < a.length) (hj : j < a.length) : ∀ x, x < a.length → keyAt (swapL a i j) x = swp (keyAt a) i j x := fun x hx => by
  unfold keyAt swp
  rw [swapL_get a i j x hi hj hx]
  by_cases h1 : x = j
  · rw [if_pos h1]
    by_cases h2 : x = i
    · rw [if_pos h2, ← h2, h1]
    · rw [if_neg h2, if_pos h1]
  · rw [if_neg h1]
    by_cases h2 : x = i
    · rw [if_pos h2, if_pos h2]
    · rw [if_neg h2, if_neg h2, if_neg h1]
theorem swapL_perm (a : List El) (i j : Nat) (hi : i < a.length) (hj : j < a.length) : (swapL a i j).Perm a := by
  apply List.perm_iff_count.2
  intro e
  unfold swapL
  have gi : a.getD i (0, 0) = a[i] := by simp [List.getD, hi]
  have gj : a.getD j (0, 0) = a[j] := by simp [List.getD, hj]
  rw [gi, gj, List.count_set (by simpa using hj), List.count_set hi]
  by_cases hij : i = j
  · subst hij
    rw [List.getElem_set_self]
    have c1 : 0 < a.count a[i] := List.count_pos_iff.2 (List.getElem_mem _)
    by_cases e1 : a[i] = e
    · subst e1; first | (simp; done) | (simp; omega)
    · simp [e1]
  · rw [List.getElem_set_ne (by omega)]
    have c1 : 0 < a.count a[i] := List.count_pos_iff.2 (List.getElem_mem _)
    have c2 : 0 < a.count a[j] := List.count_pos_iff.2 (List.getElem_mem _)
    by_cases e1 : a[i] = e <;> by_cases e2 : a[j] = e
    · subst e1; first | (simp [e2]; done) | (simp [e2]; omega)
    · subst e1; first | (simp [e2]; done) | (simp [e2]; omega)
    · subst e2; first | (simp [e1]; done) | (simp [e1]; omega)
    · simp [e1, e2]
end Go.Proofs.YtpkeiankocimaaaDoor
