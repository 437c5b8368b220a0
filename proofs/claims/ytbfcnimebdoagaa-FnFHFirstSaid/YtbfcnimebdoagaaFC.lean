/- PLAIN: the roots are put together until no two have the same degree. -/
import Derived.Test.YtbfcnimebdoagaaFR
namespace Go.Proofs.Ytbfcnimebdoagaa
set_option linter.unusedVariables false

/-- Ahead of the root at place i of V: T tells the roots by their degrees, m is the least so far. -/
structure Con (N : List Nat) (s : FS) (G : Option Nat → List Nat) (h : Nat → Nat) (V : List Nat) (T : List (Option Nat)) (i m : Nat) : Prop where
  wf : WF N s G h
  vn : V.Nodup
  todo : ∀ j v, i ≤ j → V[j]? = some v → v ∈ G none
  tab : ∀ d t, T[d]? = some (some t) → t ∈ G none ∧ s.deg t = d ∧ t ∈ V.take i
  sub : ∀ r ∈ G none, r ∈ V
  low : ∀ j v, j < i → V[j]? = some v → s.pr m ≤ s.pr v
  mr : m ∈ G none
/-- Within: c is the root at which one is. -/
structure Con2 (N : List Nat) (s : FS) (G : Option Nat → List Nat) (h : Nat → Nat) (V : List Nat) (T : List (Option Nat)) (i m c : Nat) : Prop where
  wf : WF N s G h
  vn : V.Nodup
  todo : ∀ j v, i < j → V[j]? = some v → v ∈ G none
  tab : ∀ d t, T[d]? = some (some t) → t ∈ G none ∧ s.deg t = d ∧ t ∈ V.take (i + 1) ∧ t ≠ c
  sub : ∀ r ∈ G none, r ∈ V
  low : ∀ j v, j < i → V[j]? = some v → s.pr m ≤ s.pr v
  cr : c ∈ G none
  cv : c ∈ V.take (i + 1)
  cl : ∀ v, V[i]? = some v → s.pr c ≤ s.pr v
  mm : m ∈ G none ∨ s.pr c ≤ s.pr m
  mN : m ∈ N
theorem take_mem {V : List Nat} {i : Nat} {x : Nat} (h : x ∈ V.take i) : ∃ j, j < i ∧ V[j]? = some x := by
  obtain ⟨j, hj, e⟩ := List.getElem_of_mem h
  rw [List.length_take] at hj
  refine ⟨j, by omega, ?_⟩
  rw [← e, List.getElem_take]
  exact List.getElem?_eq_getElem (by omega)
theorem nodup_at {V : List Nat} (h : V.Nodup) {i j x : Nat} (h1 : V[i]? = some x) (h2 : V[j]? = some x) : i = j := by
  have hl := (List.getElem?_eq_some_iff.1 h1).1
  exact (List.getElem?_inj hl h).1 (h1.trans h2.symm)
theorem Con.enter {N : List Nat} {s : FS} {G : Option Nat → List Nat} {h : Nat → Nat} {V : List Nat} {T : List (Option Nat)} {i m c : Nat} (w : Con N s G h V T i m) (hc : V[i]? = some c) : Con2 N s G h V T i m c := by
  have hl := (List.getElem?_eq_some_iff.1 hc).1
  refine ⟨w.wf, w.vn, fun j v hj e => w.todo j v (by omega) e, fun d t e => ?_, w.sub, w.low, w.todo i c (Nat.le_refl _) hc, ?_, fun v e => ?_, Or.inl w.mr, w.wf.rings.mem w.mr⟩
  · obtain ⟨h1, h2, h3⟩ := w.tab d t e
    obtain ⟨j, hj, ej⟩ := take_mem h3
    refine ⟨h1, h2, ?_, fun e2 => ?_⟩
    · exact List.mem_of_getElem? (i := j) (by rw [List.getElem?_take_of_lt (by omega)]; exact ej)
    · subst e2; have := nodup_at w.vn ej hc; omega
  · exact List.mem_of_getElem? (i := i) (by rw [List.getElem?_take_of_lt (by omega)]; exact hc)
  · rw [hc] at e; cases e; exact Int.le_refl _
theorem Con2.push {N : List Nat} {s : FS} {G : Option Nat → List Nat} {h : Nat → Nat} {V : List Nat} {T : List (Option Nat)} {i m c : Nat} (w : Con2 N s G h V T i m c) : Con2 N s G h V (T ++ [none]) i m c := by
  refine ⟨w.wf, w.vn, w.todo, fun d t e => w.tab d t ?_, w.sub, w.low, w.cr, w.cv, w.cl, w.mm, w.mN⟩
  rcases Nat.lt_or_ge d T.length with hd | hd
  · rwa [List.getElem?_append_left hd] at e
  · rw [List.getElem?_append_right hd] at e
    rcases Nat.eq_zero_or_pos (d - T.length) with e0 | e0
    · rw [e0] at e; cases e
    · rw [List.getElem?_eq_none (by simp; omega)] at e; cases e
/-- Two roots of the same degree are put together. -/
theorem Con2.link {N : List Nat} {s : FS} {G : Option Nat → List Nat} {h : Nat → Nat} {V : List Nat} {T : List (Option Nat)} {i m c o a b : Nat} (w : Con2 N s G h V T i m c) (ho : T[s.deg c]? = some (some o)) (hab : (s.pr o < s.pr c ∧ a = o ∧ b = c) ∨ (¬ s.pr o < s.pr c ∧ a = c ∧ b = o)) :
    Con2 N (linkSt s a b) (linkG G a b) (upd h a (max (h a) (h b + 1))) V (T.set (s.deg c) none) i m a ∧ a ∈ N ∧ b ∈ N ∧ a ≠ b ∧ (linkG G a b none).length + 1 = (G none).length := by
  obtain ⟨o1, o2, o3, o4⟩ := w.tab _ o ho
  have hne : a ≠ b := by rcases hab with ⟨_, rfl, rfl⟩ | ⟨_, rfl, rfl⟩; exact o4; exact Ne.symm o4
  have haG : a ∈ G none := by rcases hab with ⟨_, rfl, rfl⟩ | ⟨_, rfl, rfl⟩; exact o1; exact w.cr
  have hbG : b ∈ G none := by rcases hab with ⟨_, rfl, rfl⟩ | ⟨_, rfl, rfl⟩; exact w.cr; exact o1
  have hbV : b ∈ V.take (i + 1) := by rcases hab with ⟨_, rfl, rfl⟩ | ⟨_, rfl, rfl⟩; exact w.cv; exact o3
  have haV : a ∈ V.take (i + 1) := by rcases hab with ⟨_, rfl, rfl⟩ | ⟨_, rfl, rfl⟩; exact o3; exact w.cv
  have hle : s.pr a ≤ s.pr b := by rcases hab with ⟨h, rfl, rfl⟩ | ⟨h, rfl, rfl⟩ <;> omega
  have hac : s.pr a ≤ s.pr c := by rcases hab with ⟨h, rfl, rfl⟩ | ⟨h, rfl, rfl⟩ <;> omega
  have hpr : (linkSt s a b).pr = s.pr := by unfold linkSt; exact mst_pr _ _ _
  have hG : linkG G a b none = (G none).erase b := by unfold linkG; rw [ups_ne _ _ (by simp), ups_at]
  have hmem : ∀ x, x ∈ linkG G a b none ↔ x ≠ b ∧ x ∈ G none := fun x => by rw [hG, (w.wf.rings.nd none).mem_erase_iff]
  refine ⟨⟨w.wf.link haG hbG hne hle, w.vn, fun j v hj e => ?_, fun d t e => ?_, fun r hr => w.sub r ((hmem r).1 hr).2, fun j v hj e => by rw [hpr]; exact w.low j v hj e, (hmem a).2 ⟨hne, haG⟩, haV, fun v e => ?_, ?_, w.mN⟩, w.wf.rings.mem haG, w.wf.rings.mem hbG, hne, ?_⟩
  · refine (hmem v).2 ⟨fun e2 => ?_, w.todo j v hj e⟩
    obtain ⟨j2, hj2, ej2⟩ := take_mem hbV
    rw [← e2] at ej2
    have := nodup_at w.vn ej2 e
    omega
  · by_cases hd : d = s.deg c
    · subst hd
      rw [List.getElem?_set_self' ] at e
      rw [ho] at e
      cases e
    · rw [List.getElem?_set_ne (Ne.symm hd)] at e
      obtain ⟨t1, t2, t3, t4⟩ := w.tab d t e
      have hto : t ≠ o := fun e2 => hd (by rw [← t2, e2, o2])
      have hta : t ≠ a := by rcases hab with ⟨_, rfl, rfl⟩ | ⟨_, rfl, rfl⟩ <;> assumption
      have htb : t ≠ b := by rcases hab with ⟨_, rfl, rfl⟩ | ⟨_, rfl, rfl⟩ <;> assumption
      refine ⟨(hmem t).2 ⟨htb, t1⟩, ?_, t3, hta⟩
      show upd s.deg a _ t = d
      rw [upd_ne _ _ hta]; exact t2
  · rw [hpr]
    have := w.cl v e
    omega
  · rw [hpr]
    rcases w.mm with e | e
    · by_cases hmb : m = b
      · right; rw [hmb]; exact hle
      · left; exact (hmem m).2 ⟨hmb, e⟩
    · right; omega
  · rw [hG, List.length_erase_of_mem hbG]
    have := List.length_pos_of_mem hbG
    omega
/-- The root at which one is has a degree that no other one has. -/
theorem Con2.leave {N : List Nat} {s : FS} {G : Option Nat → List Nat} {h : Nat → Nat} {V : List Nat} {T : List (Option Nat)} {i m c : Nat} (w : Con2 N s G h V T i m c) (ho : T[s.deg c]? = some none) : Con N s G h V (T.set (s.deg c) (some c)) (i + 1) (decMn s c m) := by
  have hl : s.deg c < T.length := (List.getElem?_eq_some_iff.1 ho).1
  refine ⟨w.wf, w.vn, fun j v hj e => w.todo j v (by omega) e, fun d t e => ?_, w.sub, fun j v hj e => ?_, ?_⟩
  · by_cases hd : d = s.deg c
    · subst hd
      rw [List.getElem?_set_self hl] at e
      cases e
      exact ⟨w.cr, rfl, w.cv⟩
    · rw [List.getElem?_set_ne (Ne.symm hd)] at e
      obtain ⟨t1, t2, t3, t4⟩ := w.tab d t e
      exact ⟨t1, t2, t3⟩
  · unfold decMn
    by_cases hji : j = i
    · subst hji
      have := w.cl v e
      split <;> omega
    · have := w.low j v (by omega) e
      split <;> omega
  · unfold decMn
    split
    · exact w.cr
    · exact w.mm.resolve_right (by assumption)
theorem Con.done {N : List Nat} {s : FS} {G : Option Nat → List Nat} {h : Nat → Nat} {V : List Nat} {T : List (Option Nat)} {m : Nat} (w : Con N s G h V T V.length m) : HP N s G h (some m) := by
  refine ⟨w.wf, fun e => (by cases e), fun m2 e => ?_⟩
  cases e
  refine ⟨w.mr, fun a ha => ?_⟩
  obtain ⟨j, hj, e⟩ := List.getElem_of_mem (w.sub a ha)
  exact w.low j a hj (by rw [← e]; exact List.getElem?_eq_getElem hj)
theorem Con.start {N : List Nat} {s : FS} {G : Option Nat → List Nat} {h : Nat → Nat} {t : List Nat} {m : Nat} (w : WF N s G h) (hp : (m :: t).Perm (G none)) : Con N s G h (m :: t) [] 0 m :=
  ⟨w, hp.nodup_iff.2 (w.rings.nd none), fun j v _ e => hp.mem_iff.1 (List.mem_of_getElem? e), fun d t e => by simp at e, fun r hr => hp.mem_iff.2 hr, fun j v hj => by omega, hp.mem_iff.1 (by simp)⟩
end Go.Proofs.Ytbfcnimebdoagaa
