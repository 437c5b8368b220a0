/- PLAIN: what the steps on a queue say, by its sorted Keys alone. -/
import Derived.Test.YtpkeiankocimaaaDoorP
namespace Go.Proofs.YtpkeiankocimaaaDoor
set_option linter.unusedVariables false
set_option linter.unusedSimpArgs false

def srt (xs : List Int) : List Int := xs.mergeSort fun x y => decide (x ≤ y)
theorem srt_len (xs : List Int) : (srt xs).length = xs.length := by simp [srt]
theorem srt_perm (xs : List Int) : (srt xs).Perm xs := List.mergeSort_perm _ _
theorem srt_sorted (xs : List Int) : (srt xs).Pairwise (· ≤ ·) := by
  have h := List.pairwise_mergeSort (le := fun x y : Int => decide (x ≤ y)) (fun a b c h1 h2 => by simp only [decide_eq_true_eq] at *; omega) (fun a b => by simp only [Bool.or_eq_true, decide_eq_true_eq]; omega) xs
  exact h.imp fun h => by simpa using h
/-- Two sorted lists of the same numbers are one. -/
theorem sorted_eq : ∀ {xs ys : List Int}, xs.Pairwise (· ≤ ·) → ys.Pairwise (· ≤ ·) → xs.Perm ys → xs = ys
  | [], ys, _, _, h => by have := h.length_eq; cases ys <;> simp_all
  | x :: xs, [], _, _, h => by have := h.length_eq; simp_all
  | x :: xs, y :: ys, h1, h2, h => by
    have hx := List.pairwise_cons.1 h1
    have hy := List.pairwise_cons.1 h2
    have e : x = y := by
      have m1 : x ∈ y :: ys := h.subset (by simp)
      have m2 : y ∈ x :: xs := h.symm.subset (by simp)
      rcases List.mem_cons.1 m1 with e | m1
      · exact e
      · rcases List.mem_cons.1 m2 with e | m2
        · exact e.symm
        · have := hx.1 y m2
          have := hy.1 x m1
          omega
    subst e
    rw [sorted_eq hx.2 hy.2 (List.Perm.cons_inv h)]
theorem srt_eq {xs ys : List Int} (h : xs.Perm ys) : srt xs = srt ys := sorted_eq (srt_sorted xs) (srt_sorted ys) ((srt_perm xs).trans (h.trans (srt_perm ys).symm))

def keys (a : List El) : List Int := a.map Prod.fst
@[simp] theorem keys_len (a : List El) : (keys a).length = a.length := by simp [keys]
theorem keys_perm {a b : List El} (h : a.Perm b) : (keys a).Perm (keys b) := h.map _

/-- Of a came out these, so many at most; b is left. -/
structure Out (a out b : List El) (n : Nat) : Prop where
  perm : a.Perm (out ++ b)
  ks : keys out = (srt (keys a)).take n
  rest : srt (keys b) = (srt (keys a)).drop n
theorem Out.start {a b : List El} (h : a.Perm b) : Out a [] b 0 := ⟨by simpa using h, by simp [keys], by simp [srt_eq (keys_perm h)]⟩
theorem Out.step {a out b c : List El} {x : El} {m : Nat} (h : Out a out b m) (hp : b.Perm (x :: c)) (hm : ∀ y ∈ b, x.1 ≤ y.1) : Out a (out ++ [x]) c (m + 1) := by
  have e : srt (keys b) = x.1 :: srt (keys c) := by
    refine sorted_eq (srt_sorted _) (List.pairwise_cons.2 ⟨fun z hz => ?_, srt_sorted _⟩) ?_
    · have h1 := (srt_perm (keys c)).subset hz
      simp only [keys, List.mem_map] at h1
      obtain ⟨y, hy, rfl⟩ := h1
      exact hm y (hp.symm.subset (List.mem_cons_of_mem _ hy))
    · refine (srt_perm _).trans ((keys_perm hp).trans ?_)
      simp only [keys, List.map_cons]
      exact List.Perm.cons _ (srt_perm _).symm
  have hr := h.rest
  rw [e] at hr
  have hg : (srt (keys a))[m]? = some x.1 := by
    have : ((srt (keys a)).drop m)[0]? = some x.1 := by rw [← hr]; rfl
    simpa using this
  refine ⟨h.perm.trans ?_, ?_, ?_⟩
  · refine (List.Perm.append_left out hp).trans ?_
    simp
  · have e2 : keys (out ++ [x]) = keys out ++ [x.1] := by simp [keys]
    rw [e2, h.ks, List.take_add_one, hg]
    rfl
  · rw [← List.drop_drop, ← hr]
    rfl
theorem Out.stop {a out : List El} {m n : Nat} (h : Out a out [] m) (hmn : m ≤ n) : Out a out [] n := by
  have hr := h.rest
  have e0 : srt (keys ([] : List El)) = [] := by simp [keys, srt]
  rw [e0] at hr
  have hl : (srt (keys a)).length ≤ m := List.drop_eq_nil_iff.1 hr.symm
  refine ⟨h.perm, ?_, ?_⟩
  · rw [h.ks, List.take_of_length_le hl, List.take_of_length_le (by omega)]
  · rw [e0, List.drop_eq_nil_iff.2 (by omega)]

/-- A step that came in, and what a step said: with where its elements lie. -/
structure St where
  op : Int
  n : Int
  A : Option Addr
  len : Nat
  cap : Nat
  items : List El
structure Sd where
  A : Option Addr
  len : Nat
  cap : Nat
  items : List El
  n : Int
  is : Bool

def Does (a : List El) (s : St) (d : Sd) (c : List El) : Prop :=
  (s.op = 1 → c.Perm (a ++ s.items) ∧ d.items = []) ∧ (s.op = 2 → Out a d.items c s.n.toNat) ∧ (s.op = 3 → c = a ∧ ∃ x, d.items = [x] ∧ (srt (keys a)).head? = some x.1) ∧
  (s.op = 4 → c = a ∧ d.n = a.length ∧ d.items = []) ∧ (s.op = 5 → c = a ∧ d.is = decide (a.length = 0) ∧ d.items = []) ∧ (s.op = 7 → c = a ∧ d.is = false ∧ d.items = [])
def Ok (dup : Bool) (a : List El) (s : St) : Prop :=
  (s.op = 1 ∧ 0 < s.items.length ∧ a.length + s.items.length ≤ 2000 ∧ (dup = true ∨ (a ++ s.items).Nodup)) ∨ (s.op = 2 ∧ 1 ≤ s.n ∧ s.n ≤ 1000 ∧ 0 < a.length ∧ a.length ≤ 2000) ∨ (s.op = 3 ∧ 0 < a.length ∧ a.length ≤ 2000) ∨ ((s.op = 4 ∨ s.op = 5 ∨ s.op = 7) ∧ a.length ≤ 2000)
def Fine (dup : Bool) : List St → List El → Prop
  | [], _ => True
  | s :: ss, a => Ok dup a s ∧ ∀ d c, Does a s d c → Fine dup ss c
def Runs : List St → List Sd → List El → List El → Prop
  | [], [], a, b => a = b
  | s :: ss, d :: ds, a, b => ∃ c, Does a s d c ∧ Runs ss ds c b
  | _, _, _, _ => False

theorem Runs.snoc : ∀ {ss : List St} {ds : List Sd} {a b c : List El} {s : St} {d : Sd}, Runs ss ds a b → Does b s d c → Runs (ss ++ [s]) (ds ++ [d]) a c
  | [], [], a, b, c, s, d, h, hd => by
    have e : a = b := h
    subst e
    exact ⟨c, hd, rfl⟩
  | t :: ss, e :: ds, a, b, c, s, d, h, hd => by
    obtain ⟨x, h1, h2⟩ := h
    exact ⟨x, h1, Runs.snoc h2 hd⟩
  | [], _ :: _, _, _, _, _, _, h, _ => h.elim
  | _ :: _, [], _, _, _, _, _, h, _ => h.elim
theorem Runs.len : ∀ {ss : List St} {ds : List Sd} {a b : List El}, Runs ss ds a b → ds.length = ss.length
  | [], [], a, b, h => rfl
  | t :: ss, e :: ds, a, b, h => by
    obtain ⟨x, h1, h2⟩ := h
    simp [Runs.len h2]
  | [], _ :: _, _, _, h => h.elim
  | _ :: _, [], _, _, h => h.elim
theorem Runs.split : ∀ {s1 s2 : List St} {ds : List Sd} {a b : List El}, Runs (s1 ++ s2) ds a b → ∃ d1 d2 c, ds = d1 ++ d2 ∧ Runs s1 d1 a c ∧ Runs s2 d2 c b
  | [], s2, ds, a, b, h => ⟨[], ds, a, rfl, rfl, h⟩
  | s :: s1, s2, [], a, b, h => h.elim
  | s :: s1, s2, d :: ds, a, b, h => by
    obtain ⟨c, h1, h2⟩ := h
    obtain ⟨d1, d2, c', rfl, h3, h4⟩ := Runs.split h2
    exact ⟨d :: d1, d2, c', rfl, ⟨c, h1, h3⟩, h4⟩

def isPut (s : St) : Prop := s.op = 1 ∧ 0 < s.items.length
/-- All items of some steps. -/
def items (ss : List St) : List El := ss.flatMap (·.items)
theorem runs_puts : ∀ {ss : List St} {ds : List Sd} {a b : List El}, (∀ s ∈ ss, s.op = 1) → Runs ss ds a b → b.Perm (a ++ items ss)
  | [], [], a, b, _, h => by have e : a = b := h; simp [items, e]
  | s :: ss, d :: ds, a, b, hs, h => by
    obtain ⟨c, h1, h2⟩ := h
    have ih := runs_puts (fun t ht => hs t (by simp [ht])) h2
    have hc := (h1.1 (hs s (by simp))).1
    refine ih.trans ((List.Perm.append_right _ hc).trans ?_)
    simp [items]
  | [], _ :: _, _, _, _, h => h.elim
  | _ :: _, [], _, _, _, h => h.elim
theorem fine_puts (dup : Bool) (tail : List St) : ∀ (ss : List St) (a : List El), (∀ s ∈ ss, isPut s) → a.length + (items ss).length ≤ 2000 → (dup = true ∨ (a ++ items ss).Nodup) → (∀ c, c.Perm (a ++ items ss) → Fine dup tail c) → Fine dup (ss ++ tail) a
  | [], a, _, _, _, ht => ht a (by simp [items])
  | s :: ss, a, hs, hl, hd, ht => by
    have e : items (s :: ss) = s.items ++ items ss := by simp [items]
    rw [e] at hl hd ht
    simp only [List.length_append] at hl
    refine ⟨Or.inl ⟨(hs s (by simp)).1, (hs s (by simp)).2, by omega, hd.imp id fun h => ?_⟩, fun d c hdo => ?_⟩
    · rw [← List.append_assoc] at h
      exact (List.nodup_append.1 h).1
    · have hc := (hdo.1 (hs s (by simp)).1).1
      have hcl := hc.length_eq
      simp only [List.length_append] at hcl
      refine fine_puts dup tail ss c (fun t ht => hs t (by simp [ht])) (by omega) (hd.imp id fun h => ?_) (fun x hx => ht x (hx.trans ?_))
      · rw [← List.append_assoc] at h
        exact (List.Perm.append_right (items ss) hc).nodup_iff.2 h
      · refine (List.Perm.append_right _ hc).trans ?_
        simp

/-- The Keys that a script takes out. -/
def gotK : List St → List Sd → List Int
  | s :: ss, d :: ds => (if s.op = 2 then keys d.items else []) ++ gotK ss ds
  | _, _ => []
theorem gotK_append : ∀ (s1 s2 : List St) (d1 d2 : List Sd), d1.length = s1.length → gotK (s1 ++ s2) (d1 ++ d2) = gotK s1 d1 ++ gotK s2 d2
  | [], s2, [], d2, _ => rfl
  | s :: s1, s2, d :: d1, d2, h => by
    have ih := gotK_append s1 s2 d1 d2 (by simpa using h)
    simp only [List.cons_append, gotK, ih, List.append_assoc]
  | [], _, _ :: _, _, h => by simp at h
  | _ :: _, _, [], _, h => by simp at h
theorem gotK_puts : ∀ (ss : List St) (ds : List Sd), (∀ s ∈ ss, s.op = 1) → gotK ss ds = []
  | [], _, _ => by simp [gotK]
  | s :: ss, [], _ => by simp [gotK]
  | s :: ss, d :: ds, h => by
    have h1 := h s (by simp)
    simp [gotK, h1, gotK_puts ss ds (fun t ht => h t (by simp [ht]))]

/-- A step that takes n out. -/
def isGet (s : St) (n : Int) : Prop := s.op = 2 ∧ s.n = n

theorem puts_take_one {dup : Bool} {ss : List St} {s : St} {l : List El} {k : Nat} (hs : ∀ t ∈ ss, isPut t) (hi : items ss = l) (hg : isGet s k) (hk : k ≤ 1000) (hl : 0 < l.length) (hl2 : l.length ≤ k) (hd : dup = true ∨ l.Nodup) :
    Fine dup (ss ++ [s]) [] ∧ ∀ ds b, Runs (ss ++ [s]) ds [] b → gotK (ss ++ [s]) ds = srt (keys l) := by
  refine ⟨fine_puts dup _ ss [] hs (by rw [hi]; simp; omega) (by rw [hi]; simpa using hd) fun c hc => ⟨Or.inr (Or.inl ⟨hg.1, by rw [hg.2]; omega, by rw [hg.2]; omega, ?_, ?_⟩), fun _ _ _ => trivial⟩, fun ds b h => ?_⟩
  · have := hc.length_eq
    rw [hi] at this
    simp at this
    omega
  · have := hc.length_eq
    rw [hi] at this
    simp at this
    omega
  · obtain ⟨d1, d2, c, rfl, h1, h2⟩ := h.split
    have hp := runs_puts (fun t ht => (hs t ht).1) h1
    rw [hi] at hp
    match d2, h2 with
    | [d], ⟨c', h3, h4⟩ =>
      have ho := h3.2.1 hg.1
      rw [gotK_append _ _ _ _ h1.len, gotK_puts ss d1 (fun t ht => (hs t ht).1)]
      have hk : srt (keys c) = srt (keys l) := srt_eq (keys_perm (by simpa using hp))
      simp only [gotK, hg.1, if_true, List.nil_append, List.append_nil]
      rw [ho.ks, hk, hg.2, List.take_of_length_le]
      rw [srt_len, keys_len]
      show l.length ≤ _
      simpa using hl2
    | _ :: _ :: _, ⟨_, _, h⟩ => exact h.elim

theorem puts_take_two {dup : Bool} {ss : List St} {s t : St} {l : List El} {n : Nat} (hs : ∀ t ∈ ss, isPut t) (hi : items ss = l) (hg : isGet s n) (hg2 : isGet t 1000) (h0 : 0 < n) (hn : n < l.length) (hl2 : l.length ≤ 1000) (hd : dup = true ∨ l.Nodup) :
    Fine dup (ss ++ [s] ++ [t]) [] ∧ ∀ ds b, Runs (ss ++ [s] ++ [t]) ds [] b → gotK (ss ++ [s] ++ [t]) ds = srt (keys l) := by
  rw [List.append_assoc]
  refine ⟨fine_puts dup _ ss [] hs (by rw [hi]; simp; omega) (by rw [hi]; simpa using hd) fun c hc => ?_, fun ds b h => ?_⟩
  · have hcl := hc.length_eq
    rw [hi] at hcl
    simp at hcl
    refine ⟨Or.inr (Or.inl ⟨hg.1, by rw [hg.2]; omega, by rw [hg.2]; omega, by omega, by omega⟩), fun d c' hdo => ⟨Or.inr (Or.inl ⟨hg2.1, by rw [hg2.2]; decide, by rw [hg2.2]; decide, ?_, ?_⟩), fun _ _ _ => trivial⟩⟩
    all_goals
      have ho := hdo.2.1 hg.1
      have h1 := congrArg List.length ho.rest
      rw [hg.2] at h1
      simp [srt_len] at h1
      omega
  · obtain ⟨d1, d2, c, rfl, h1, h2⟩ := h.split
    have hp := runs_puts (fun t ht => (hs t ht).1) h1
    rw [hi] at hp
    match d2, h2 with
    | [d, e], ⟨c', h3, c'', h5, h6⟩ =>
      have ho := h3.2.1 hg.1
      have ho2 := h5.2.1 hg2.1
      rw [gotK_append _ _ _ _ h1.len, gotK_puts ss d1 (fun t ht => (hs t ht).1)]
      have hk : srt (keys c) = srt (keys l) := srt_eq (keys_perm (by simpa using hp))
      show [] ++ gotK [s, t] [d, e] = _
      simp only [gotK, hg.1, hg2.1, if_true, List.nil_append, List.append_nil]
      rw [ho.ks, ho2.ks, ho.rest, hk, hg.2, hg2.2, List.take_of_length_le (l := List.drop _ _), List.take_append_drop]
      rw [List.length_drop, srt_len, keys_len]
      show l.length - _ ≤ 1000
      omega
    | [_], ⟨_, _, h⟩ => exact h.elim
    | _ :: _ :: _ :: _, ⟨_, _, _, _, h⟩ => exact h.elim

theorem does_short {dup : Bool} {a c : List El} {s : St} {d : Sd} (ho : Ok dup a s) (h : Does a s d c) : d.items.length ≤ 2000 := by
  obtain ⟨h1, h2, h3, h4, h5, h7⟩ := h
  rcases ho with ⟨e, _⟩ | ⟨e, _, _, _, hl⟩ | ⟨e, _⟩ | ⟨e | e | e, _⟩
  · rw [(h1 e).2]; simp
  · have := (h2 e).perm.length_eq
    rw [List.length_append] at this
    omega
  · obtain ⟨_, x, hx, _⟩ := h3 e
    rw [hx]; simp
  · rw [(h4 e).2.2]; simp
  · rw [(h5 e).2.2]; simp
  · rw [(h7 e).2.2]; simp
theorem runs_short {dup : Bool} : ∀ {ss : List St} {ds : List Sd} {a b : List El}, Fine dup ss a → Runs ss ds a b → ∀ d ∈ ds, d.items.length ≤ 2000
  | [], [], _, _, _, _, d, hd => by cases hd
  | s :: ss, e :: ds, a, b, hf, h, d, hd => by
    obtain ⟨c, h1, h2⟩ := h
    rcases List.mem_cons.1 hd with rfl | hd
    · exact does_short hf.1 h1
    · exact runs_short (hf.2 _ _ h1) h2 d hd
  | [], _ :: _, _, _, _, h, _, _ => h.elim
  | _ :: _, [], _, _, _, h, _, _ => h.elim
/-- The five steps that look, and take one out. -/
def Five (l : List St) : Prop := ∃ s3 s5 s7 s4 s2 : St, l = [s3, s5, s7, s4, s2] ∧ s3.op = 3 ∧ s5.op = 5 ∧ s7.op = 7 ∧ s4.op = 4 ∧ isGet s2 1
/-- What they say, if these are the Keys. -/
def FiveSaid (S : List Int) (l : List Sd) : Prop := ∃ d3 d5 d7 d4 d2 : Sd, l = [d3, d5, d7, d4, d2] ∧ (∃ k t t', S.head? = some k ∧ d3.items = [(k, t)] ∧ d2.items = [(k, t')]) ∧ d5.is = false ∧ d7.is = false ∧ d4.n = S.length
def FivesSaid : List Int → List Sd → Prop
  | [], l => l = []
  | k :: S, l => ∃ l1 l2, l = l1 ++ l2 ∧ FiveSaid (k :: S) l1 ∧ FivesSaid S l2

theorem fives (dup : Bool) : ∀ (m : Nat) (fs : List (List St)) (a : List El), fs.length = m → a.length = m → m ≤ 1000 → (∀ l ∈ fs, Five l) →
    Fine dup fs.flatten a ∧ ∀ ds b, Runs fs.flatten ds a b → FivesSaid (srt (keys a)) ds
  | 0, [], a, _, ha, _, _ => by
    have : a = [] := List.eq_nil_of_length_eq_zero ha
    subst this
    refine ⟨trivial, fun ds b h => ?_⟩
    match ds, h with
    | [], _ => simp [keys, srt, FivesSaid]
  | m + 1, f :: fs, a, hf, ha, hm, hF => by
    obtain ⟨s3, s5, s7, s4, s2, rfl, h3, h5, h7, h4, h2⟩ := hF f (by simp)
    have ih := fun c hc => fives dup m fs c (by simpa using hf) hc (by omega) (fun l hl => hF l (by simp [hl]))
    have hshort : ∀ (d : Sd) c, Does a s2 d c → c.length = m := fun d c hd => by
      have ho := hd.2.1 h2.1
      have h1 := congrArg List.length ho.rest
      rw [h2.2] at h1
      simp [srt_len] at h1
      omega
    refine ⟨⟨Or.inr (Or.inr (Or.inl ⟨h3, by omega, by omega⟩)), fun d c hd => ?_⟩, fun ds b h => ?_⟩
    · obtain ⟨rfl, _⟩ := hd.2.2.1 h3
      refine ⟨Or.inr (Or.inr (Or.inr ⟨Or.inr (Or.inl h5), by omega⟩)), fun d c' hd => ?_⟩
      obtain ⟨rfl, _⟩ := hd.2.2.2.2.1 h5
      refine ⟨Or.inr (Or.inr (Or.inr ⟨Or.inr (Or.inr h7), by omega⟩)), fun d c' hd => ?_⟩
      obtain ⟨rfl, _⟩ := hd.2.2.2.2.2 h7
      refine ⟨Or.inr (Or.inr (Or.inr ⟨Or.inl h4, by omega⟩)), fun d c' hd => ?_⟩
      obtain ⟨rfl, _⟩ := hd.2.2.2.1 h4
      refine ⟨Or.inr (Or.inl ⟨h2.1, by rw [h2.2]; decide, by rw [h2.2]; decide, by omega, by omega⟩), fun d c' hd => ?_⟩
      exact (ih c' (hshort d c' hd)).1
    · obtain ⟨d1, d2, c, rfl, h1, hr⟩ := Runs.split (s1 := [s3, s5, s7, s4, s2]) h
      match d1, h1 with
      | [e3, e5, e7, e4, e2], ⟨c3, i3, c5, i5, c7, i7, c4, i4, c2, i2, i0⟩ =>
        obtain ⟨rfl, x, hx, hx2⟩ := i3.2.2.1 h3
        obtain ⟨rfl, j5, _⟩ := i5.2.2.2.2.1 h5
        obtain ⟨rfl, j7, _⟩ := i7.2.2.2.2.2 h7
        obtain ⟨rfl, j4, _⟩ := i4.2.2.2.1 h4
        have hl2 := hshort _ _ i2
        have ho := i2.2.1 h2.1
        have i0 : c2 = c := i0
        subst i0
        have hs := (ih c2 hl2).2 d2 b hr
        have hr2 := ho.rest
        have hk2 := ho.ks
        rw [h2.2] at hr2 hk2
        obtain ⟨k, S, hS⟩ : ∃ k S, srt (keys c4) = k :: S := by
          cases e : srt (keys c4) with
          | nil => rw [e] at hx2; cases hx2
          | cons k S => exact ⟨k, S, rfl⟩
        rw [hS] at hx2 hr2 hk2 ⊢
        have hx2 : k = x.1 := by simpa using hx2
        subst hx2
        have hr2 : srt (keys c2) = S := by simpa using hr2
        have hk2 : keys e2.items = [x.1] := by simpa using hk2
        rw [hr2] at hs
        refine ⟨_, d2, rfl, ⟨e3, e5, e7, e4, e2, rfl, ⟨x.1, x.2, ?_⟩, ?_, j7, ?_⟩, hs⟩
        · match hh : e2.items with
          | [] => rw [hh] at hk2; simp [keys] at hk2
          | [y] => rw [hh] at hk2; simp [keys] at hk2; exact ⟨y.2, rfl, hx, by rw [← hk2]⟩
          | _ :: _ :: _ => rw [hh] at hk2; simp [keys] at hk2
        · rw [j5, decide_eq_false_iff_not]; omega
        · rw [j4]
          have := congrArg List.length hS
          rw [srt_len, keys_len] at this
          omega
      | [], h => exact h.elim
      | [_], ⟨_, _, h⟩ => exact h.elim
      | [_, _], ⟨_, _, _, _, h⟩ => exact h.elim
      | [_, _, _], ⟨_, _, _, _, _, _, h⟩ => exact h.elim
      | [_, _, _, _], ⟨_, _, _, _, _, _, _, _, h⟩ => exact h.elim
      | _ :: _ :: _ :: _ :: _ :: _ :: _, ⟨_, _, _, _, _, _, _, _, _, _, h⟩ => exact h.elim
end Go.Proofs.YtpkeiankocimaaaDoor
