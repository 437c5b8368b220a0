/- PLAIN: a table of places: each key stands at the first free place from its home on. -/
namespace Go.Proofs.Ytjliofloheellaa
set_option linter.unusedVariables false
set_option linter.unusedSimpArgs false

/-- A packet: its block, its key, its value. -/
structure Pk where
  b : Nat
  k : Nat
  v : Nat

def put (T : Nat → Option Pk) (i : Nat) (p : Pk) : Nat → Option Pk := fun j => if j = i then some p else T j
theorem put_same (T : Nat → Option Pk) (i : Nat) (p : Pk) : put T i p i = some p := by simp [put]
theorem put_other {T : Nat → Option Pk} {i j : Nat} {p : Pk} (h : j ≠ i) : put T i p j = T j := by simp [put, h]

theorem put_cases {T : Nat → Option Pk} {i j : Nat} {p q : Pk} (h : put T i p j = some q) : T j = some q ∨ q = p := by
  by_cases e : j = i
  · rw [e, put_same] at h; cases h; exact Or.inr rfl
  · rw [put_other e] at h; exact Or.inl h

/-- How many of the first n places are taken. -/
def occ (T : Nat → Option Pk) : Nat → Nat
  | 0 => 0
  | n + 1 => occ T n + (T n).isSome.toNat

theorem occ_le (T : Nat → Option Pk) : ∀ n, occ T n ≤ n
  | 0 => Nat.le_refl _
  | n + 1 => by have := occ_le T n; simp only [occ]; cases (T n).isSome <;> simp <;> omega
theorem occ_free {T : Nat → Option Pk} : ∀ n, occ T n < n → ∃ j, j < n ∧ T j = none
  | 0, h => by omega
  | n + 1, h => by
    cases hT : T n with
    | none => exact ⟨n, by omega, hT⟩
    | some p =>
      simp only [occ, hT, Option.isSome_some, Bool.toNat_true] at h
      obtain ⟨j, hj, hn⟩ := occ_free (T := T) n (by omega)
      exact ⟨j, by omega, hn⟩
theorem occ_put_out {T : Nat → Option Pk} {i : Nat} {p : Pk} : ∀ n, n ≤ i → occ (put T i p) n = occ T n
  | 0, _ => rfl
  | n + 1, h => by simp only [occ]; rw [occ_put_out n (by omega), put_other (by omega)]
theorem occ_put {T : Nat → Option Pk} {i : Nat} {p : Pk} (hT : T i = none) : ∀ n, i < n → occ (put T i p) n = occ T n + 1
  | 0, h => by omega
  | n + 1, h => by
    simp only [occ]
    by_cases e : n = i
    · subst e; rw [occ_put_out n (Nat.le_refl _), put_same, hT]; rfl
    · rw [occ_put hT n (by omega), put_other e]; omega
theorem occ_none (n : Nat) : occ (fun _ => none) n = 0 := by
  induction n with
  | zero => rfl
  | succ n ih => simp [occ, ih]

/-- The table's rule: no key twice; every place from a key's home up to its own is taken. -/
structure Tab (H : Nat → Nat) (N : Nat) (T : Nat → Option Pk) : Prop where
  uniq : ∀ i j p q, i < N → j < N → T i = some p → T j = some q → p.k = q.k → i = j
  probe : ∀ i p, i < N → T i = some p → ∃ d, d < N ∧ (H p.k + d) % N = i ∧ ∀ d', d' < d → (T ((H p.k + d') % N)).isSome = true

theorem Tab.empty (H : Nat → Nat) (N : Nat) : Tab H N fun _ => none := ⟨fun _ _ _ _ _ _ h => (by cases h), fun _ _ _ h => (by cases h)⟩

/-- Key k stands with value v in the table. -/
def Has (N : Nat) (T : Nat → Option Pk) (k v : Nat) : Prop := ∃ i p, i < N ∧ T i = some p ∧ p.k = k ∧ p.v = v

/-- Where the search for k stops: D places behind its home. -/
structure Stop (H : Nat → Nat) (N : Nat) (T : Nat → Option Pk) (k D : Nat) : Prop where
  lt : D < N
  here : T ((H k + D) % N) = none ∨ ∃ p, T ((H k + D) % N) = some p ∧ p.k = k
  before : ∀ d, d < D → ∃ p, T ((H k + d) % N) = some p ∧ p.k ≠ k

theorem least {P : Nat → Prop} : ∀ n, P n → ∃ m, m ≤ n ∧ P m ∧ ∀ d, d < m → ¬ P d := by
  intro n
  induction n using Nat.strongRecOn with
  | _ n ih =>
    intro h
    by_cases hx : ∃ d, d < n ∧ P d
    · obtain ⟨d, hd, hp⟩ := hx
      obtain ⟨m, h1, h2, h3⟩ := ih d hd hp
      exact ⟨m, by omega, h2, h3⟩
    · exact ⟨n, Nat.le_refl _, h, fun d hd hp => hx ⟨d, hd, hp⟩⟩

theorem reach (N h j : Nat) (hj : j < N) : ∃ d, d < N ∧ (h + d) % N = j := by
  refine ⟨(j + N - h % N) % N, Nat.mod_lt _ (by omega), ?_⟩
  have hh : h % N < N := Nat.mod_lt _ (by omega)
  rw [Nat.add_mod, Nat.mod_mod, ← Nat.add_mod]
  have e : h + (j + N - h % N) = j + N * (h / N + 1) := by
    have := Nat.div_add_mod h N
    rw [Nat.mul_add, Nat.mul_one]
    omega
  rw [e, Nat.add_mul_mod_self_left, Nat.mod_eq_of_lt hj]

theorem stop_ex {H : Nat → Nat} {N : Nat} {T : Nat → Option Pk} (k : Nat) (hr : ∃ j, j < N ∧ T j = none) : ∃ D, Stop H N T k D := by
  obtain ⟨j, hj, hn⟩ := hr
  obtain ⟨d, hd, he⟩ := reach N (H k) j hj
  obtain ⟨m, h1, h2, h3⟩ := least (P := fun d => T ((H k + d) % N) = none ∨ ∃ p, T ((H k + d) % N) = some p ∧ p.k = k) d (Or.inl (by rw [he]; exact hn))
  refine ⟨m, by omega, h2, fun d hd => ?_⟩
  have := h3 d hd
  cases hT : T ((H k + d) % N) with
  | none => exact absurd (Or.inl hT) this
  | some p => exact ⟨p, rfl, fun e => this (Or.inr ⟨p, hT, e⟩)⟩

section
variable {H : Nat → Nat} {N : Nat} {T : Nat → Option Pk} {k D : Nat}
theorem Stop.place (s : Stop H N T k D) : (H k + D) % N < N := Nat.mod_lt _ (by have := s.lt; omega)
/-- It stops at a free place: the key is not there. -/
theorem Stop.absent (s : Stop H N T k D) (t : Tab H N T) (hn : T ((H k + D) % N) = none) : ∀ v, ¬ Has N T k v := by
  rintro v ⟨i, p, hi, hT, hk, _⟩
  obtain ⟨d, hd, he, hb⟩ := t.probe i p hi hT
  rw [hk] at he hb
  rcases Nat.lt_trichotomy d D with h | h | h
  · obtain ⟨q, hq, hne⟩ := s.before d h
    rw [he, hT] at hq
    cases hq
    exact hne hk
  · subst h; rw [he, hT] at hn; cases hn
  · have := hb D h; rw [hn] at this; cases this
theorem Stop.found (s : Stop H N T k D) {p : Pk} (hp : T ((H k + D) % N) = some p) : p.k = k ∧ Has N T k p.v := by
  rcases s.here with h | ⟨q, h, hk⟩
  · rw [hp] at h; cases h
  · rw [hp] at h; cases h
    exact ⟨hk, _, _, s.place, hp, hk, rfl⟩
theorem Stop.insert (s : Stop H N T k D) (t : Tab H N T) (hn : T ((H k + D) % N) = none) {p : Pk} (hk : p.k = k) : Tab H N (put T ((H k + D) % N) p) := by
  have hab := s.absent t hn
  refine ⟨fun i j x y hi hj hx hy e => ?_, fun i x hi hx => ?_⟩
  · by_cases h1 : i = (H k + D) % N
    · by_cases h2 : j = (H k + D) % N
      · rw [h1, h2]
      · rw [h1, put_same] at hx; cases hx
        rw [put_other h2] at hy
        exact absurd ⟨j, y, hj, hy, by rw [← e, hk], rfl⟩ (hab y.v)
    · rw [put_other h1] at hx
      by_cases h2 : j = (H k + D) % N
      · rw [h2, put_same] at hy; cases hy
        exact absurd ⟨i, x, hi, hx, by rw [e, hk], rfl⟩ (hab x.v)
      · rw [put_other h2] at hy
        exact t.uniq i j x y hi hj hx hy e
  · have keep : ∀ j, (T j).isSome = true → (put T ((H k + D) % N) p j).isSome = true := fun j h => by unfold put; split; rfl; exact h
    by_cases h1 : i = (H k + D) % N
    · rw [h1, put_same] at hx; cases hx
      refine ⟨D, s.lt, by rw [hk, h1], fun d hd => keep _ ?_⟩
      obtain ⟨q, hq, _⟩ := s.before d hd
      rw [hk, hq]; rfl
    · rw [put_other h1] at hx
      obtain ⟨d, hd, he, hb⟩ := t.probe i x hi hx
      exact ⟨d, hd, he, fun d' hd' => keep _ (hb d' hd')⟩
theorem Stop.has (s : Stop H N T k D) (hn : T ((H k + D) % N) = none) {p : Pk} (hk : p.k = k) (k' v' : Nat) : Has N (put T ((H k + D) % N) p) k' v' ↔ Has N T k' v' ∨ (k' = k ∧ v' = p.v) := by
  constructor
  · rintro ⟨i, q, hi, hq, h1, h2⟩
    by_cases e : i = (H k + D) % N
    · rw [e, put_same] at hq; cases hq
      exact Or.inr ⟨by rw [← h1, hk], h2.symm⟩
    · rw [put_other e] at hq
      exact Or.inl ⟨i, q, hi, hq, h1, h2⟩
  · rintro (⟨i, q, hi, hq, h1, h2⟩ | ⟨h1, h2⟩)
    · have e : i ≠ (H k + D) % N := fun e => by rw [e, hn] at hq; cases hq
      exact ⟨i, q, hi, by rw [put_other e]; exact hq, h1, h2⟩
    · exact ⟨_, p, s.place, put_same _ _ _, by rw [hk, h1], h2.symm⟩
end

/-- The table holds the map m. -/
def Rep (N : Nat) (T : Nat → Option Pk) (m : Nat → Option Nat) : Prop := ∀ k v, m k = some v ↔ Has N T k v
def upd (m : Nat → Option Nat) (k v : Nat) : Nat → Option Nat := fun j => if j = k then some v else m j

theorem Rep.put {H : Nat → Nat} {N : Nat} {T : Nat → Option Pk} {k D : Nat} {m : Nat → Option Nat} (s : Stop H N T k D) (t : Tab H N T) (r : Rep N T m) (hm : m k = none) {p : Pk} (hk : p.k = k) : T ((H k + D) % N) = none ∧ Rep N (put T ((H k + D) % N) p) (upd m k p.v) := by
  have hn : T ((H k + D) % N) = none := by
    cases h : T ((H k + D) % N) with
    | none => rfl
    | some q =>
      have := (r k q.v).2 (s.found h).2
      rw [hm] at this; cases this
  refine ⟨hn, fun k' v' => ?_⟩
  rw [s.has hn hk, ← r k' v']
  unfold upd
  by_cases e : k' = k
  · subst e; simp [hm, eq_comm]
  · simp [e]
/-- What the search tells: the map's value. -/
theorem Rep.some {H : Nat → Nat} {N : Nat} {T : Nat → Option Pk} {k D : Nat} {m : Nat → Option Nat} (s : Stop H N T k D) (r : Rep N T m) {p : Pk} (hp : T ((H k + D) % N) = some p) : m k = some p.v := (r k p.v).2 (s.found hp).2
theorem Rep.none {H : Nat → Nat} {N : Nat} {T : Nat → Option Pk} {k D : Nat} {m : Nat → Option Nat} (s : Stop H N T k D) (t : Tab H N T) (r : Rep N T m) (hp : T ((H k + D) % N) = none) : m k = none := by
  cases h : m k with
  | none => rfl
  | some v => exact absurd ((r k v).1 h) (s.absent t hp v)
theorem Rep.empty (N : Nat) : Rep N (fun _ => Option.none) (fun _ => Option.none) := fun k v => ⟨fun h => (by cases h), fun ⟨_, _, _, h, _⟩ => (by cases h)⟩
end Go.Proofs.Ytjliofloheellaa
