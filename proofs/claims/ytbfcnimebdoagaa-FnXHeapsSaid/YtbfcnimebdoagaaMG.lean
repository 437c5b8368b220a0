/- PLAIN: what the merge of two rows is, near and far. -/
import Derived.Test.YtbfcnimebdoagaaMP
namespace Go.Proofs.Ytbfcnimebdoagaa
set_option linter.unusedVariables false
set_option linter.unusedSimpArgs false

/-- All elements, by their Keys ascending. -/
def Final (us rs : List El) : Prop := rs.Perm us ∧ (rs.map Prod.fst).Pairwise (· ≤ ·)
def cat (n : Nat) (f g : Nat → El) : Nat → El := fun x => if x < n then f x else g (x - n)
theorem cat_low {n x : Nat} (f g : Nat → El) (h : x < n) : cat n f g x = f x := by unfold cat; rw [if_pos h]
theorem cat_high {n x : Nat} (f g : Nat → El) : cat n f g (n + x) = g x := by unfold cat; rw [if_neg (by omega)]; congr 1; omega
theorem lst_cat (n m : Nat) (f g : Nat → El) : lst (n + m) (cat n f g) = lst n f ++ lst m g := by
  rw [lst_add]
  congr 1
  · exact lst_congr fun x hx => cat_low f g hx
  · exact lst_congr fun x hx => cat_high f g
theorem asc_cat {n m : Nat} {f g : Nat → El} (hf : Asc f 0 n) (hg : Asc g 0 m) : Asc (cat n f g) 0 n ∧ Asc (cat n f g) n (n + m) := by
  refine ⟨fun x y h1 h2 h3 => ?_, fun x y h1 h2 h3 => ?_⟩
  · rw [cat_low f g (by omega), cat_low f g h3]
    exact hf x y h1 h2 h3
  · obtain ⟨a, rfl⟩ : ∃ a, x = n + a := ⟨x - n, by omega⟩
    obtain ⟨b, rfl⟩ : ∃ b, y = n + b := ⟨y - n, by omega⟩
    rw [cat_high, cat_high]
    exact hg a b (by omega) (by omega) (by omega)
theorem pair_of_asc {n : Nat} {f : Nat → El} (h : Asc f 0 n) : ((lst n f).map Prod.fst).Pairwise (· ≤ ·) := by
  unfold lst
  rw [List.pairwise_map, List.pairwise_map]
  have := List.pairwise_lt_range (n := n)
  exact this.imp_of_mem fun ha hb hlt => h _ _ (Nat.zero_le _) (Nat.le_of_lt hlt) (by simpa using hb)
theorem near {n m : Nat} {f g r : Nat → El} (h : Merged (n + m) (cat n f g) r 0 (n + m)) : Final (lst n f ++ lst m g) (lst (n + m) r) := by
  refine ⟨?_, pair_of_asc h.asc⟩
  have := h.perm
  rwa [lst_cat] at this

theorem far {L M i J p : Nat} {fs fl u v : Nat → El} (sum : i + J = L) (pl : p + L < M) (hs : Asc fs 0 L) (hl : Asc fl 0 M)
    (low : ∀ x, x < i → (fs x).1 ≤ (fl (p + (L - 1 - x))).1) (high : ∀ x, i ≤ x → x < L → (fl (p + (L - 1 - x))).1 < (fs x).1)
    (hu : Merged (i + (p + J)) (cat i fs fl) u 0 (i + (p + J))) (hv : Merged (J + (i + (M - (p + L)))) (cat J (fun x => fs (i + x)) (fun x => fl (p + J + x))) v 0 (J + (i + (M - (p + L))))) :
    Final (lst L fs ++ lst M fl) (lst (i + (p + J)) u ++ lst (J + (i + (M - (p + L)))) v) := by
  have eM : i + (M - (p + L)) = M - (p + J) := by omega
  rw [eM] at hv ⊢
  refine ⟨?_, ?_⟩
  · have h1 := hu.perm
    have h2 := hv.perm
    rw [lst_cat] at h1 h2
    have e1 : lst L fs = lst i fs ++ lst J (fun x => fs (i + x)) := by rw [← lst_add, sum]
    have e2 : lst M fl = lst (p + J) fl ++ lst (M - (p + J)) (fun x => fl (p + J + x)) := by rw [← lst_add]; congr 1; omega
    rw [e1, e2]
    refine (h1.append h2).trans ?_
    apply List.perm_iff_count.2
    intro x
    simp only [List.count_append]
    omega
  · rw [List.map_append, List.pairwise_append]
    refine ⟨pair_of_asc hu.asc, pair_of_asc hv.asc, ?_⟩
    intro a ha b hb
    simp only [lst, List.mem_map, List.mem_range] at ha hb
    obtain ⟨_, ⟨x, hx, rfl⟩, rfl⟩ := ha
    obtain ⟨_, ⟨y, hy, rfl⟩, rfl⟩ := hb
    obtain ⟨x', _, hx', ex⟩ := hu.own x (Nat.zero_le _) hx
    obtain ⟨y', _, hy', ey⟩ := hv.own y (Nat.zero_le _) hy
    rw [ex, ey]
    have hJ1 : ∀ z, z < i → (fs z).1 ≤ (fl (p + J)).1 := fun z hz => by
      have h1 := low (i - 1) (by omega)
      rw [show p + (L - 1 - (i - 1)) = p + J by omega] at h1
      have h2 := hs z (i - 1) (Nat.zero_le _) (by omega) (by omega)
      omega
    have hJ2 : ∀ z, z < J → ∀ t, t < p + J → (fl t).1 ≤ (fs (i + z)).1 := fun z hz t ht => by
      have h1 := high i (Nat.le_refl _) (by omega)
      rw [show p + (L - 1 - i) = p + J - 1 by omega] at h1
      have h2 := hl t (p + J - 1) (Nat.zero_le _) (by omega) (by omega)
      have h3 := hs i (i + z) (Nat.zero_le _) (by omega) (by omega)
      omega
    by_cases c1 : x' < i
    · rw [cat_low _ _ c1]
      by_cases c2 : y' < J
      · rw [cat_low _ _ c2]
        exact hs _ _ (Nat.zero_le _) (by omega) (by omega)
      · obtain ⟨t, rfl⟩ : ∃ t, y' = J + t := ⟨y' - J, by omega⟩
        rw [cat_high]
        have h1 := hJ1 x' c1
        have h2 := hl (p + J) (p + J + t) (Nat.zero_le _) (by omega) (by omega)
        show (fs x').1 ≤ (fl (p + J + t)).1
        omega
    · obtain ⟨s, rfl⟩ : ∃ s, x' = i + s := ⟨x' - i, by omega⟩
      rw [cat_high]
      by_cases c2 : y' < J
      · rw [cat_low _ _ c2]
        exact hJ2 y' c2 s (by omega)
      · obtain ⟨t, rfl⟩ : ∃ t, y' = J + t := ⟨y' - J, by omega⟩
        rw [cat_high]
        exact hl s (p + J + t) (Nat.zero_le _) (by omega) (by omega)
end Go.Proofs.Ytbfcnimebdoagaa
