/- PLAIN: rows as functions; exchanges, rotations, merges of sorted runs. -/
import Derived.Test.YtbfcnimebdoagaaRows
namespace Go.Proofs.Ytbfcnimebdoagaa
set_option linter.unusedVariables false
set_option linter.unusedSimpArgs false

/-- Elements: a Key and a Tag. -/
abbrev El := Int × Int
def lst (n : Nat) (f : Nat → El) : List El := (List.range n).map f
@[simp] theorem lst_len (n : Nat) (f : Nat → El) : (lst n f).length = n := by simp [lst]
theorem lst_at {n i : Nat} (f : Nat → El) (h : i < n) : (lst n f)[i]? = some (f i) := by simp [lst, h]
theorem lst_congr {n : Nat} {f g : Nat → El} (h : ∀ x, x < n → f x = g x) : lst n f = lst n g := by
  unfold lst
  exact List.map_congr_left fun x hx => h x (by simpa using hx)
def updE (f : Nat → El) (i : Nat) (e : El) : Nat → El := fun x => if x = i then e else f x
theorem lst_set {n i : Nat} (f : Nat → El) (e : El) (h : i < n) : (lst n f).set i e = lst n (updE f i e) := by
  apply List.ext_getElem?
  intro j
  rw [List.getElem?_set, lst_len]
  by_cases hj : j < n
  · rw [lst_at _ hj, lst_at _ hj]
    by_cases e1 : i = j
    · rw [if_pos e1, if_pos h, updE, if_pos e1.symm]
    · rw [if_neg e1, updE, if_neg (Ne.symm e1)]
  · have e1 : i ≠ j := by omega
    rw [if_neg e1, List.getElem?_eq_none (by simp; omega), List.getElem?_eq_none (by simp; omega)]
theorem lst_succ (n : Nat) (f : Nat → El) : lst (n + 1) f = lst n f ++ [f n] := by simp [lst, List.range_succ]
theorem lst_add (n m : Nat) (f : Nat → El) : lst (n + m) f = lst n f ++ lst m (fun x => f (n + x)) := by
  induction m with
  | zero => simp [lst]
  | succ m ih => rw [← Nat.add_assoc, lst_succ, ih, lst_succ]; simp
theorem lst_of (a : List El) : lst a.length (fun i => a.getD i (0, 0)) = a := by
  apply List.ext_getElem?
  intro j
  by_cases hj : j < a.length
  · rw [lst_at _ hj]; simp [List.getD, hj]
  · rw [List.getElem?_eq_none (by simp; omega), List.getElem?_eq_none (by omega)]

/-- Two places exchanged. -/
def swap1 (f : Nat → El) (i j : Nat) : Nat → El := updE (updE f i (f j)) j (f i)
theorem upd_perm {n i : Nat} (f : Nat → El) (e : El) (h : i < n) (x : El) : (lst n (updE f i e)).count x + (if f i = x then 1 else 0) = (lst n f).count x + (if e = x then 1 else 0) := by
  rw [← lst_set f e h, List.count_set (by simpa using h)]
  have e0 : (lst n f)[i]'(by simpa using h) = f i := by simp [lst]
  rw [e0]
  have c1 : f i = x → 0 < (lst n f).count x := fun hx => List.count_pos_iff.2 (by rw [← hx, ← e0]; exact List.getElem_mem _)
  by_cases h1 : f i = x
  · have := c1 h1
    simp [h1]
    by_cases h2 : e = x <;> simp [h2] <;> omega
  · simp [h1]
theorem swap1_perm {n i j : Nat} (f : Nat → El) (hi : i < n) (hj : j < n) : (lst n (swap1 f i j)).Perm (lst n f) := by
  apply List.perm_iff_count.2
  intro x
  have h1 := upd_perm f (f j) hi x
  have h2 := upd_perm (updE f i (f j)) (f i) hj x
  have e : updE f i (f j) j = f j := by
    unfold updE
    by_cases e : j = i
    · simp [e]
    · simp [e]
  rw [e] at h2
  unfold swap1
  omega

/-- e places from s1 on exchanged with those from s2 on. -/
def swpF (f : Nat → El) (s1 s2 e : Nat) : Nat → El := fun x => if s1 ≤ x ∧ x < s1 + e then f (x - s1 + s2) else if s2 ≤ x ∧ x < s2 + e then f (x - s2 + s1) else f x
theorem swpF_zero (f : Nat → El) (s1 s2 : Nat) : swpF f s1 s2 0 = f := by
  funext x
  unfold swpF
  rw [if_neg (by omega), if_neg (by omega)]
theorem swpF_succ (f : Nat → El) (s1 s2 e : Nat) (h : s1 + e < s2) : swpF f s1 s2 (e + 1) = swap1 (swpF f s1 s2 e) (s1 + e) (s2 + e) := by
  funext x
  unfold swap1 updE
  have a1 : swpF f s1 s2 e (s1 + e) = f (s1 + e) := by unfold swpF; rw [if_neg (by omega), if_neg (by omega)]
  have a2 : swpF f s1 s2 e (s2 + e) = f (s2 + e) := by unfold swpF; rw [if_neg (by omega), if_neg (by omega)]
  by_cases e2 : x = s2 + e
  · subst e2
    rw [if_pos rfl, a1]
    unfold swpF
    rw [if_neg (by omega), if_pos (by omega)]
    congr 1; omega
  · rw [if_neg e2]
    by_cases e1 : x = s1 + e
    · subst e1
      rw [if_pos rfl, a2]
      unfold swpF
      rw [if_pos (by omega)]
      congr 1; omega
    · rw [if_neg e1]
      unfold swpF
      by_cases c1 : s1 ≤ x ∧ x < s1 + e
      · rw [if_pos c1, if_pos (by omega)]
      · rw [if_neg c1, if_neg (by omega)]
        by_cases c2 : s2 ≤ x ∧ x < s2 + e
        · rw [if_pos c2, if_pos (by omega)]
        · rw [if_neg c2, if_neg (by omega)]
theorem swpF_perm {n s1 s2 : Nat} (f : Nat → El) : ∀ (e : Nat), s1 + e ≤ s2 → s2 + e ≤ n → (lst n (swpF f s1 s2 e)).Perm (lst n f)
  | 0, _, _ => by rw [swpF_zero]
  | e + 1, h1, h2 => by
    rw [swpF_succ f s1 s2 e (by omega)]
    exact (swap1_perm _ (by omega) (by omega)).trans (swpF_perm f e (by omega) (by omega))

/-- What stands from lo up to hi turned about mid. -/
def rotF (f : Nat → El) (lo mid hi : Nat) : Nat → El := fun x => if lo ≤ x ∧ x < lo + (hi - mid) then f (x + (mid - lo)) else if lo + (hi - mid) ≤ x ∧ x < hi then f (x - (hi - mid)) else f x
theorem rot_more (f : Nat → El) {p i j : Nat} (hp : i ≤ p) (h : j < i) (hj : 0 < j) : rotF (swpF f (p - i) p j) (p - i + j) p (p + j) = rotF f (p - i) p (p + j) := by
  funext x
  unfold rotF swpF
  repeat' split
  all_goals first | rfl | (congr 1; omega) | omega
theorem rot_less (f : Nat → El) {p i j : Nat} (hp : i ≤ p) (h : i < j) (hi : 0 < i) : rotF (swpF f (p - i) (p + j - i) i) (p - i) p (p + (j - i)) = rotF f (p - i) p (p + j) := by
  funext x
  unfold rotF swpF
  repeat' split
  all_goals first | rfl | (congr 1; omega) | omega
theorem rot_same (f : Nat → El) {p i : Nat} (hp : i ≤ p) : swpF f (p - i) p i = rotF f (p - i) p (p + i) := by
  funext x
  unfold rotF swpF
  repeat' split
  all_goals first | rfl | (congr 1; omega) | omega
theorem rot_none (f : Nat → El) {lo mid hi : Nat} (h1 : lo ≤ mid) (h2 : mid ≤ hi) (h : lo = mid ∨ mid = hi) : rotF f lo mid hi = f := by
  funext x
  unfold rotF
  repeat' split
  all_goals first | rfl | (congr 1; omega) | omega

/-- Ascending from lo up to hi. -/
def Asc (f : Nat → El) (lo hi : Nat) : Prop := ∀ x y, lo ≤ x → x ≤ y → y < hi → (f x).1 ≤ (f y).1
/-- What the merge of two runs leaves. -/
structure Merged (n : Nat) (f g : Nat → El) (lo hi : Nat) : Prop where
  out : ∀ x, x < lo ∨ hi ≤ x → g x = f x
  asc : Asc g lo hi
  own : ∀ x, lo ≤ x → x < hi → ∃ y, lo ≤ y ∧ y < hi ∧ g x = f y
  perm : (lst n g).Perm (lst n f)
/-- Where the search among two runs ends. -/
structure Found (f : Nat → El) (lo hi tot s : Nat) : Prop where
  le : lo ≤ s ∧ s ≤ hi
  low : ∀ x, lo ≤ x → x < s → (f x).1 ≤ (f (tot - x)).1
  high : ∀ x, s ≤ x → x < hi → (f (tot - x)).1 < (f x).1

theorem merged_same {n : Nat} {f : Nat → El} {s1 s2 last : Nat} (h : s1 = s2 ∨ s2 = last) (h1 : s1 ≤ s2) (h2 : s2 ≤ last) (ha : Asc f s1 s2) (hb : Asc f s2 last) : Merged n f f s1 last := by
  refine ⟨fun _ _ => rfl, ?_, fun x hx hy => ⟨x, hx, hy, rfl⟩, List.Perm.refl _⟩
  rcases h with rfl | rfl
  · exact hb
  · exact ha
/-- The bounds of the search. -/
def sLo (s1 s2 last mid : Nat) : Nat := if mid < s2 then mid + s2 - last else s1
def sHi (s1 s2 last mid : Nat) : Nat := if mid < s2 then mid else s2

theorem merged_step {n : Nat} {f g h : Nat → El} {s1 s2 last mid s : Nat} (h1 : s1 < s2) (h2 : s2 < last) (hn : last ≤ n) (hm : mid = (s1 + last) / 2) (ha : Asc f s1 s2) (hb : Asc f s2 last)
    (hs : Found f (sLo s1 s2 last mid) (sHi s1 s2 last mid) (mid + s2 - 1) s)
    (hg : Merged n (rotF f s s2 (mid + s2 - s)) g s1 mid) (hh : Merged n g h mid last) (hrp : (lst n (rotF f s s2 (mid + s2 - s))).Perm (lst n f)) : Merged n f h s1 last := by
  have hmid : s1 < mid ∧ mid < last := by omega
  obtain ⟨⟨l1, l2⟩, low, high⟩ := hs
  have b1 : s1 ≤ sLo s1 s2 last mid := by unfold sLo; split <;> omega
  have b2 : sHi s1 s2 last mid ≤ s2 ∧ sHi s1 s2 last mid ≤ mid := by unfold sHi; split <;> omega
  obtain ⟨e, he⟩ : ∃ e, e = mid + s2 - s := ⟨_, rfl⟩
  rw [← he] at hg hrp
  have hel : e ≤ last ∧ s2 ≤ e ∧ mid ≤ e := by
    have : s ≤ mid := by omega
    refine ⟨?_, by omega, by omega⟩
    unfold sLo at l1
    split at l1 <;> omega
  -- what lies where behind the turn
  have r1 : ∀ x, s1 ≤ x → x < mid → ∃ y, s1 ≤ y ∧ rotF f s s2 e x = f y ∧ ((y < s) ∨ (s2 ≤ y ∧ y < e)) := by
    intro x hx1 hx2
    unfold rotF
    by_cases c1 : s ≤ x ∧ x < s + (e - s2)
    · exact ⟨x + (s2 - s), by omega, by rw [if_pos c1], Or.inr ⟨by omega, by omega⟩⟩
    · exact ⟨x, hx1, by rw [if_neg c1, if_neg (by omega)], Or.inl (by omega)⟩
  have r2 : ∀ x, mid ≤ x → x < last → ∃ y, y < last ∧ rotF f s s2 e x = f y ∧ ((s ≤ y ∧ y < s2) ∨ e ≤ y) := by
    intro x hx1 hx2
    unfold rotF
    rw [if_neg (by omega)]
    by_cases c2 : s + (e - s2) ≤ x ∧ x < e
    · exact ⟨x - (e - s2), by omega, by rw [if_pos c2], Or.inl ⟨by omega, by omega⟩⟩
    · exact ⟨x, hx2, by rw [if_neg c2], Or.inr (by omega)⟩
  -- lower ones are not above the higher ones
  have k1 : ∀ y z, s1 ≤ y → y < s → e ≤ z → z < last → (f y).1 ≤ (f z).1 := by
    intro y z hy1 hy2 hz1 hz2
    by_cases c : sLo s1 s2 last mid < s
    · have q := low (s - 1) (by omega) (by omega)
      have q1 := ha y (s - 1) hy1 (by omega) (by omega)
      have e1 : mid + s2 - 1 - (s - 1) = e := by omega
      rw [e1] at q
      have q2 := hb e z (by omega) hz1 hz2
      omega
    · have : s = sLo s1 s2 last mid := by omega
      unfold sLo at this
      split at this <;> omega
  have k2 : ∀ y z, s2 ≤ y → y < e → s ≤ z → z < s2 → (f y).1 ≤ (f z).1 := by
    intro y z hy1 hy2 hz1 hz2
    by_cases c : s < sHi s1 s2 last mid
    · have q := high s (by omega) (by omega)
      have e1 : mid + s2 - 1 - s = e - 1 := by omega
      rw [e1] at q
      have q1 := hb y (e - 1) hy1 (by omega) (by omega)
      have q2 := ha s z (by omega) hz1 hz2
      omega
    · have : s = sHi s1 s2 last mid := by omega
      unfold sHi at this
      split at this <;> omega
  have sep : ∀ x y, s1 ≤ x → x < mid → mid ≤ y → y < last → (rotF f s s2 e x).1 ≤ (rotF f s s2 e y).1 := by
    intro x y hx1 hx2 hy1 hy2
    obtain ⟨u, u1, u2, u3⟩ := r1 x hx1 hx2
    obtain ⟨v, v1, v2, v3⟩ := r2 y hy1 hy2
    rw [u2, v2]
    rcases u3 with u3 | ⟨u3, u4⟩
    · rcases v3 with ⟨v3, v4⟩ | v3
      · exact ha u v u1 (by omega) v4
      · exact k1 u v u1 u3 v3 v1
    · rcases v3 with ⟨v3, v4⟩ | v3
      · exact k2 u v u3 u4 v3 v4
      · exact hb u v u3 (by omega) v1
  have gout : ∀ x, mid ≤ x → g x = rotF f s s2 e x := fun x hx => hg.out x (Or.inr hx)
  have hlow : ∀ x, x < mid → h x = g x := fun x hx => hh.out x (Or.inl hx)
  refine ⟨fun x hx => ?_, ?_, ?_, hh.perm.trans (hg.perm.trans hrp)⟩
  · rw [hh.out x (by omega), hg.out x (by omega)]
    unfold rotF
    rw [if_neg (by omega), if_neg (by omega)]
  · intro x y hx hxy hy
    by_cases c1 : y < mid
    · rw [hlow x (by omega), hlow y c1]
      exact hg.asc x y hx hxy c1
    · by_cases c2 : mid ≤ x
      · exact hh.asc x y c2 hxy hy
      · rw [hlow x (by omega)]
        obtain ⟨u, u1, u2, u3⟩ := hg.own x hx (by omega)
        obtain ⟨v, v1, v2, v3⟩ := hh.own y (by omega) hy
        rw [u3, v3, gout v v1]
        exact sep u v u1 u2 v1 v2
  · intro x hx hy
    by_cases c : x < mid
    · rw [hlow x c]
      obtain ⟨u, u1, u2, u3⟩ := hg.own x hx c
      obtain ⟨v, v1, v2, v3⟩ := r1 u u1 u2
      exact ⟨v, v1, by omega, u3.trans v2⟩
    · obtain ⟨u, u1, u2, u3⟩ := hh.own x (by omega) hy
      rw [gout u u1] at u3
      obtain ⟨v, v1, v2, v3⟩ := r2 u u1 u2
      exact ⟨v, by omega, v1, u3.trans v2⟩
/-- The runs of the two halves are sorted. -/
theorem runs_low {f : Nat → El} {s1 s2 last mid s : Nat} (h1 : s1 < s2) (h2 : s2 < last) (hm : mid = (s1 + last) / 2) (ha : Asc f s1 s2) (hb : Asc f s2 last) (l : sLo s1 s2 last mid ≤ s ∧ s ≤ sHi s1 s2 last mid) :
    Asc (rotF f s s2 (mid + s2 - s)) s1 s ∧ Asc (rotF f s s2 (mid + s2 - s)) s mid ∧ Asc (rotF f s s2 (mid + s2 - s)) mid (mid + s2 - s) ∧ Asc (rotF f s s2 (mid + s2 - s)) (mid + s2 - s) last ∧ s1 ≤ s ∧ s ≤ mid ∧ s ≤ s2 ∧ s2 ≤ mid + s2 - s ∧ mid + s2 - s ≤ last ∧ mid ≤ mid + s2 - s := by
  have b1 : s1 ≤ sLo s1 s2 last mid := by unfold sLo; split <;> omega
  have b2 : sHi s1 s2 last mid ≤ s2 ∧ sHi s1 s2 last mid ≤ mid := by unfold sHi; split <;> omega
  obtain ⟨e, he⟩ : ∃ e, e = mid + s2 - s := ⟨_, rfl⟩
  rw [← he]
  have hel : e ≤ last := by
    have l1 := l.1
    unfold sLo at l1
    split at l1 <;> omega
  refine ⟨fun x y hx hxy hy => ?_, fun x y hx hxy hy => ?_, fun x y hx hxy hy => ?_, fun x y hx hxy hy => ?_, by omega, by omega, by omega, by omega, hel, by omega⟩
  · unfold rotF
    rw [if_neg (by omega), if_neg (by omega), if_neg (by omega), if_neg (by omega)]
    exact ha x y hx hxy (by omega)
  · unfold rotF
    rw [if_pos (by omega), if_pos (by omega)]
    exact hb _ _ (by omega) (by omega) (by omega)
  · unfold rotF
    rw [if_neg (by omega), if_pos (by omega), if_neg (by omega), if_pos (by omega)]
    exact ha _ _ (by omega) (by omega) (by omega)
  · unfold rotF
    rw [if_neg (by omega), if_neg (by omega), if_neg (by omega), if_neg (by omega)]
    exact hb x y (by omega) hxy hy
theorem rotF_swap_perm {n lo mid hi : Nat} (f : Nat → El) (h1 : lo ≤ mid) (h2 : mid ≤ hi) (hn : hi ≤ n) : (lst n (rotF f lo mid hi)).Perm (lst n f) := by
  obtain ⟨i, hi'⟩ : ∃ i, i = mid - lo := ⟨_, rfl⟩
  obtain ⟨j, hj'⟩ : ∃ j, j = hi - mid := ⟨_, rfl⟩
  obtain ⟨m, hm⟩ : ∃ m, m = i + j := ⟨_, rfl⟩
  induction m using Nat.strongRecOn generalizing f lo hi i j with
  | _ m ih =>
    by_cases h0 : i = 0 ∨ j = 0
    · rw [rot_none f h1 h2 (by omega)]
    · have el : lo = mid - i := by omega
      have eh : hi = mid + j := by omega
      rcases Nat.lt_trichotomy i j with h | h | h
      · rw [el, eh, ← rot_less f (by omega) h (by omega)]
        exact (ih (i + (j - i)) (by omega) _ (by omega) (by omega) (by omega) i (by omega) (j - i) (by omega) rfl).trans (swpF_perm f i (by omega) (by omega))
      · rw [el, eh, ← h, ← rot_same f (by omega)]
        exact swpF_perm f i (by omega) (by omega)
      · rw [el, eh, ← rot_more f (by omega) h (by omega)]
        exact (ih (i - j + j) (by omega) _ (by omega) (by omega) (by omega) (i - j) (by omega) j (by omega) rfl).trans (swpF_perm f j (by omega) (by omega))
end Go.Proofs.Ytbfcnimebdoagaa
