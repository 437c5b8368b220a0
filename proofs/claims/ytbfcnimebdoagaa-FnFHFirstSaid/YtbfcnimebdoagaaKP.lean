/- PLAIN: an entry whose priority is decreased below all others comes out next. -/
import Derived.Test.YtbfcnimebdoagaaFY
namespace Go.Proofs.Ytbfcnimebdoagaa
set_option linter.unusedVariables false
set_option linter.unusedSimpArgs false

def decS (k : Nat) : Hp := ⟨4, k, -131072, none, 0, 0, []⟩
def bigs (n : Nat) : List Int := List.replicate n (-262144)
/-- The priorities of xs stand first; what stands behind them is great and negative. -/
structure Bg (xs : List Int) (A : List (Option Int)) (t : Nat) : Prop where
  tk : A.take xs.length = xs.map some
  big : ∀ r, some r ∈ A.drop xs.length → r = -262144
  cnt : ((A.drop xs.length).filterMap id).length = t
theorem Bg.at {xs : List Int} {A : List (Option Int)} {t : Nat} (b : Bg xs A t) {i : Nat} (h : i < xs.length) : A[i]? = (xs[i]?).map some := by
  have : (A.take xs.length)[i]? = A[i]? := List.getElem?_take_of_lt h
  rw [← this, b.tk, List.getElem?_map]
theorem Bg.mem_drop {xs : List Int} {A : List (Option Int)} {i : Nat} {o : Option Int} (h : A[i]? = some o) (hi : xs.length ≤ i) : o ∈ A.drop xs.length := by
  refine List.mem_of_getElem? (i := i - xs.length) ?_
  rw [List.getElem?_drop, show xs.length + (i - xs.length) = i by omega]
  exact h
theorem Bg.alive {xs : List Int} {A : List (Option Int)} {t : Nat} (b : Bg xs A t) : alive A = xs.length + t := by
  unfold Go.Proofs.Ytbfcnimebdoagaa.alive
  rw [← List.take_append_drop xs.length A, List.filterMap_append, List.length_append, b.cnt, b.tk, fm_some]
theorem Bg.deq {xs : List Int} {A : List (Option Int)} {t i : Nat} {q : Int} (b : Bg xs A (t + 1)) (hx : ∀ x ∈ xs, -32768 ≤ x) (h1 : A[i]? = some (some q)) (h2 : ∀ r, some r ∈ A → q ≤ r) : Bg xs (A.set i none) t := by
  have hi : xs.length ≤ i := by
    rcases Nat.lt_or_ge i xs.length with h | h
    · exfalso
      rw [b.at h] at h1
      have hq : xs[i]? = some q := by
        cases e : xs[i]? with
        | none => rw [e] at h1; cases h1
        | some y => rw [e] at h1; simpa using h1
      have h3 := hx q (List.mem_of_getElem? hq)
      obtain ⟨r, hr⟩ : ∃ r, r ∈ (A.drop xs.length).filterMap id := List.exists_mem_of_ne_nil _ (fun e => by have := b.cnt; rw [e] at this; simp at this)
      have hr2 := fmI_mem.1 hr
      have h4 := h2 r (List.mem_of_mem_drop hr2)
      have h5 := b.big r hr2
      omega
    · exact h
  have e : (A.set i none).drop xs.length = (A.drop xs.length).set (i - xs.length) none := by
    rw [List.drop_set, if_neg (by omega)]
  have hk : (A.drop xs.length)[i - xs.length]? = some (some q) := by rw [List.getElem?_drop, show xs.length + (i - xs.length) = i by omega]; exact h1
  refine ⟨?_, fun r hr => ?_, ?_⟩
  · rw [← b.tk]
    apply List.ext_getElem?
    intro j
    by_cases hj : j < xs.length
    · rw [List.getElem?_take_of_lt hj, List.getElem?_take_of_lt hj, List.getElem?_set_ne (by omega)]
    · rw [List.getElem?_take_eq_none (by omega), List.getElem?_take_eq_none (by omega)]
  · rw [e] at hr
    rcases List.mem_or_eq_of_mem_set hr with h | h
    · exact b.big r h
    · cases h
  · rw [e]
    have := (fmI_set hk).length_eq
    rw [b.cnt] at this
    simp at this ⊢
    omega
theorem big_runs {xs : List Int} {B : List (Option Int)} {cl2 : Bool} (hx : ∀ x ∈ xs, -32768 ≤ x) : ∀ {t : Nat} {ds : List Hd} {A : List (Option Int)} {cl : Bool}, Bg xs A t → HRuns cl (deqs t) ds A B cl2 → Bg xs B 0 ∧ cl2 = cl
  | 0, [], A, cl, b, h => by obtain ⟨rfl, rfl⟩ := h; exact ⟨b, rfl⟩
  | 0, d :: ds, A, cl, b, h => h.elim
  | t + 1, [], A, cl, b, h => h.elim
  | t + 1, d :: ds, A, cl, b, h => by
    obtain ⟨A', cl', h1, h2⟩ := h
    obtain ⟨i, q, e1, e2, e3, e4, e5, e6⟩ := h1.did.d3 rfl
    subst e3
    obtain ⟨k1, k2⟩ := big_runs hx (t := t) (b.deq hx e1 e2) h2
    exact ⟨k1, k2.trans e6⟩
theorem bg_start (xs : List Int) (n : Nat) : Bg xs (([] ++ xs.map some) ++ (bigs n).map some) n := by
  have hl : (([] : List (Option Int)) ++ xs.map some).length = xs.length := by simp
  refine ⟨by rw [← hl, List.take_left]; simp, fun r hr => ?_, ?_⟩
  · rw [← hl, List.drop_left] at hr
    obtain ⟨x, hx, e⟩ := List.mem_map.1 hr
    cases e
    exact List.eq_of_mem_replicate hx
  · rw [← hl, List.drop_left, fm_some]
    simp [bigs]
/-- The last two steps. -/
theorem last_two {xs : List Int} {A A' A2 : List (Option Int)} {k : Nat} {d d2 : Hd} {cl cl' cl2 : Bool} (hx : ∀ x ∈ xs, -32768 ≤ x) (b : Bg xs A 0) (hk : k < xs.length) (h1 : HDoes cl A (decS k) d A' cl') (h2 : HDoes cl' A' deqS d2 A2 cl2) : d2.e = k ∧ d2.p = -131072 ∧ (A2.filterMap id).Perm (xs.take k ++ xs.drop (k + 1)) := by
  obtain ⟨j, e1, e2, _, _⟩ := h1.did.d4 rfl
  have ej : j = k := by have e1 : ((k : Nat) : Int) = j := e1; omega
  subst ej
  obtain ⟨i, q, f1, f2, f3, f4, f5, f6⟩ := h2.did.d3 rfl
  have e2 : A' = A.set j (some (-131072)) := e2
  have hA : A[j]? = some (some xs[j]) := by rw [b.at hk, List.getElem?_eq_getElem hk]; rfl
  have hjl := (List.getElem?_eq_some_iff.1 hA).1
  have hdec : some (-131072) ∈ A' := by
    rw [e2]
    exact List.mem_of_getElem? (i := j) (List.getElem?_set_self hjl)
  have hq := f2 _ hdec
  have hi : i = j := by
    refine Classical.byContradiction fun hne => ?_
    rw [e2, List.getElem?_set_ne (Ne.symm hne)] at f1
    rcases Nat.lt_or_ge i xs.length with h | h
    · rw [b.at h, List.getElem?_eq_getElem h] at f1
      have f1 : xs[i] = q := by simpa using f1
      have := hx _ (List.getElem_mem h)
      omega
    · have := fmI_mem.2 (Bg.mem_drop (xs := xs) f1 h)
      have hc := b.cnt
      rw [List.eq_nil_of_length_eq_zero hc] at this
      cases this
  subst hi
  rw [e2, List.getElem?_set_self hjl] at f1
  have hq2 : q = -131072 := by have := Option.some.inj (Option.some.inj f1); exact this.symm
  refine ⟨f4, by rw [f5, hq2], ?_⟩
  have e3 : A2 = A.set i none := by rw [f3, e2, List.set_set]
  have hfm : A.filterMap id = xs := by
    rw [← List.take_append_drop xs.length A, List.filterMap_append, b.tk, fm_some, List.eq_nil_of_length_eq_zero b.cnt, List.append_nil]
  have h5 := fmI_set hA
  rw [hfm, ← e3] at h5
  have hs : xs = xs.take i ++ xs[i] :: xs.drop (i + 1) := by rw [List.getElem_cons_drop, List.take_append_drop]
  have hp : xs.Perm (xs[i] :: (xs.take i ++ xs.drop (i + 1))) := by
    have := List.perm_middle (a := xs[i]) (l₁ := xs.take i) (l₂ := xs.drop (i + 1))
    rwa [← hs] at this
  exact (h5.trans hp).cons_inv
def fsteps (xs : List Int) (n k : Nat) : List Hp := ((enqOf xs ++ enqOf (bigs n)) ++ deqs n) ++ [decS k, deqS]
theorem fsteps_len (xs : List Int) (n k : Nat) : (fsteps xs n k).length = xs.length + n + n + 2 := by simp [fsteps, bigs]; omega
theorem first_core {xs : List Int} {n k : Nat} {ds : List Hd} {B : List (Option Int)} {cl : Bool} (hx : ∀ x ∈ xs, -32768 ≤ x) (hk : k < xs.length) (h : HRuns true (fsteps xs n k) ds [] B cl) : ∃ d1 d d2, ds = d1 ++ [d, d2] ∧ d2.e = (k : Int) ∧ d2.p = -131072 ∧ (B.filterMap id).Perm (xs.take k ++ xs.drop (k + 1)) := by
  obtain ⟨d1, d2, C, cl2, e, h1, h2⟩ := runs_app h
  obtain ⟨d3, d4, C2, cl3, e2, h3, h4⟩ := runs_app h1
  obtain ⟨d5, d6, C3, cl4, e3, h5, h6⟩ := runs_app h3
  obtain ⟨g1, g2⟩ := runs_enq h5
  obtain ⟨g3, g4⟩ := runs_enq h6
  subst g1
  subst g3
  obtain ⟨b, _⟩ := big_runs hx (bg_start xs n) h4
  match d2, h2 with
  | [d, d'], ⟨A', cl', k1, A2, cl5, k2, k3, _⟩ =>
    obtain ⟨l1, l2, l3⟩ := last_two hx b hk k1 k2
    rw [k3] at l3
    exact ⟨d1, d, d', e, l1, l2, l3⟩
  | [], h2 => exact h2.elim
  | [d], ⟨A', cl', k1, k2⟩ => exact k2.elim
  | d :: d' :: d'' :: t, ⟨A', cl', k1, A2, cl5, k2, k3⟩ => exact k3.elim
theorem first_fine {xs : List Int} {n k m : Nat} (hx : ∀ x ∈ xs, -32768 ≤ x ∧ x ≤ 32767) (hk : k < xs.length) (hl : xs.length ≤ 100) (hn : n ≤ 100) (hm : m + 1 ≤ xs.length) : HFine true (fsteps xs n k ++ deqs m) [] := by
  have hx1 : ∀ x ∈ xs, -32768 ≤ x := fun x h => (hx x h).1
  unfold fsteps
  rw [List.append_assoc, List.append_assoc, List.append_assoc]
  refine fine_enq (by simp; omega) (fun x h => by have := hx x h; omega) (fine_enq (by simp [bigs]; omega) (fun x h => by rw [List.eq_of_mem_replicate h]; decide) ?_)
  have b0 := bg_start xs n
  refine fine_deq (cl := true) (by rw [b0.alive]; omega) (fun B cl' ds hr => ?_)
  obtain ⟨b, rfl⟩ := big_runs hx1 b0 hr
  have hA : B[k]? = some (some xs[k]) := by rw [b.at hk, List.getElem?_eq_getElem hk]; rfl
  refine ⟨Or.inr (Or.inr (Or.inl ⟨rfl, rfl, show (-131072 : Int).natAbs < 2 ^ 53 by decide, k, xs[k], rfl, hA, ?_⟩)), fun d A' cl' hd => ?_⟩
  · have := hx1 _ (List.getElem_mem hk)
    show (-131072 : Int) < xs[k]
    omega
  have hal : alive A' = xs.length := by
    obtain ⟨j, e1, e2, _, _⟩ := hd.did.d4 rfl
    have ej : j = k := by have e1 : ((k : Nat) : Int) = j := e1; omega
    subst ej
    have h1 := fmI_set hA
    have hjl := (List.getElem?_eq_some_iff.1 hA).1
    have h2 := fmI_set (A := A') (i := j) (q := -131072) (by rw [e2]; exact List.getElem?_set_self hjl)
    have e3 : A'.set j none = B.set j none := by rw [e2, List.set_set]
    rw [e3] at h2
    have h3 := h1.length_eq
    have h4 := h2.length_eq
    have h5 := b.alive
    unfold alive at h5 ⊢
    simp only [List.length_cons] at h3 h4
    omega
  have := fine_deq (rest := []) (cl := cl') (m := m + 1) (A := A') (by omega) (fun (B : List (Option Int)) (cl' : Bool) (ds : List Hd) _ => (trivial : HFine cl' [] B))
  simpa [deqs, List.replicate_succ] using this
theorem first_out {xs : List Int} {n k : Nat} {ds : List Hd} {B : List (Option Int)} {cl : Bool} (hx : ∀ x ∈ xs, -32768 ≤ x) (hk : k < xs.length) (h : HRuns true (fsteps xs n k ++ deqs (xs.length - 1)) ds [] B cl) : (ds.drop (xs.length + n + n + 2)).map Hd.p = srt (xs.take k ++ xs.drop (k + 1)) ∧ alive B = 0 := by
  obtain ⟨d1, d2, C, cl2, e, h1, h2⟩ := runs_app h
  obtain ⟨_, _, _, _, _, _, hp⟩ := first_core hx hk h1
  have hl := h1.len
  rw [fsteps_len] at hl
  have hal : alive C = xs.length - 1 := by
    have := hp.length_eq
    unfold alive
    rw [this, List.length_append, List.length_take, List.length_drop]
    omega
  have := runs_deq h2 hal
  rw [srt_eq hp] at this
  subst e
  rw [← hl, List.drop_left]
  exact this
end Go.Proofs.Ytbfcnimebdoagaa
