/- PLAIN: what comes out of a heap. -/
import Derived.Test.YtbfcnimebdoagaaFT
import Derived.Test.YtbfcnimebdoagaaO
namespace Go.Proofs.Ytbfcnimebdoagaa
set_option linter.unusedVariables false
set_option linter.unusedSimpArgs false

def enqS (x : Int) : Hp := ⟨1, 0, x, none, 0, 0, []⟩
def enqOf (l : List Int) : List Hp := l.map enqS
def deqS : Hp := ⟨3, 0, 0, none, 0, 0, []⟩
def deqs (m : Nat) : List Hp := List.replicate m deqS
@[simp] theorem enqOf_len (l : List Int) : (enqOf l).length = l.length := by simp [enqOf]
@[simp] theorem deqs_len (m : Nat) : (deqs m).length = m := by simp [deqs]
theorem fine_enq {rest : List Hp} {cl : Bool} : ∀ {l : List Int} {A : List (Option Int)}, A.length + l.length ≤ 10000 → (∀ x ∈ l, x.natAbs < 2 ^ 53) → HFine cl rest (A ++ l.map some) → HFine cl (enqOf l ++ rest) A
  | [], A, _, _, h => by simpa [enqOf] using h
  | x :: l, A, h1, h2, h => by
    refine ⟨Or.inl ⟨rfl, h2 x (by simp), by simp at h1; omega⟩, fun d A' cl' hd => ?_⟩
    obtain ⟨e1, _, _, e2⟩ := hd.did.d1 rfl
    subst e1 e2
    refine fine_enq (l := l) (by simp at h1 ⊢; omega) (fun y hy => h2 y (by simp [hy])) ?_
    have e : A ++ [some (enqS x).p] ++ l.map some = A ++ (x :: l).map some := by simp [enqS]
    rw [e]; exact h
theorem runs_app {cl3 : Bool} {C : List (Option Int)} {tt : List Hp} : ∀ {ss : List Hp} {ds : List Hd} {A : List (Option Int)} {cl : Bool}, HRuns cl (ss ++ tt) ds A C cl3 → ∃ d1 d2 B cl2, ds = d1 ++ d2 ∧ HRuns cl ss d1 A B cl2 ∧ HRuns cl2 tt d2 B C cl3
  | [], ds, A, cl, h => ⟨[], ds, A, cl, rfl, ⟨rfl, rfl⟩, h⟩
  | s :: ss, [], A, cl, h => h.elim
  | s :: ss, d :: ds, A, cl, h => by
    obtain ⟨A', cl', h1, h2⟩ := h
    obtain ⟨d1, d2, B, cl2, e, h3, h4⟩ := runs_app (ss := ss) h2
    exact ⟨d :: d1, d2, B, cl2, by rw [e]; rfl, ⟨A', cl', h1, h3⟩, h4⟩
theorem runs_enq {B : List (Option Int)} {cl2 : Bool} : ∀ {l : List Int} {ds : List Hd} {A : List (Option Int)} {cl : Bool}, HRuns cl (enqOf l) ds A B cl2 → B = A ++ l.map some ∧ cl2 = cl
  | [], [], A, cl, h => by obtain ⟨rfl, rfl⟩ := h; simp
  | [], d :: ds, A, cl, h => h.elim
  | x :: l, [], A, cl, h => h.elim
  | x :: l, d :: ds, A, cl, h => by
    obtain ⟨A', cl', h1, h2⟩ := h
    obtain ⟨e1, _, _, e2⟩ := h1.did.d1 rfl
    obtain ⟨e3, e4⟩ := runs_enq (l := l) h2
    refine ⟨by rw [e3, e1]; simp [enqS], e4.trans e2⟩
theorem fmI_set : ∀ {A : List (Option Int)} {i : Nat} {q : Int}, A[i]? = some (some q) → (q :: (A.set i none).filterMap id).Perm (A.filterMap id)
  | [], i, m, h => by simp at h
  | none :: E, 0, m, h => by simp at h
  | none :: E, i + 1, m, h => by simpa using fmI_set (A := E) (i := i) (q := m) (by simpa using h)
  | some b :: E, 0, m, h => by simp at h; subst h; simp
  | some b :: E, i + 1, m, h => by
    have := fmI_set (A := E) (i := i) (q := m) (by simpa using h)
    simp only [List.set_cons_succ, List.filterMap_cons, id]
    exact (List.Perm.swap b m _).trans (this.cons b)
theorem fmI_mem {A : List (Option Int)} {a : Int} : a ∈ A.filterMap id ↔ some a ∈ A := by simp
theorem runs_deq {B : List (Option Int)} {cl2 : Bool} : ∀ {m : Nat} {ds : List Hd} {A : List (Option Int)} {cl : Bool}, HRuns cl (deqs m) ds A B cl2 → alive A = m → ds.map Hd.p = srt (A.filterMap id) ∧ alive B = 0
  | 0, [], A, cl, h, ha => by
    obtain ⟨rfl, rfl⟩ := h
    have : A.filterMap id = [] := List.eq_nil_of_length_eq_zero ha
    rw [this]
    exact ⟨by simp [srt], ha⟩
  | 0, d :: ds, A, cl, h, _ => h.elim
  | m + 1, [], A, cl, h, _ => h.elim
  | m + 1, d :: ds, A, cl, h, ha => by
    obtain ⟨A', cl', h1, h2⟩ := h
    obtain ⟨i, q, e1, e2, e3, e4, e5, e6⟩ := h1.did.d3 rfl
    have hp := fmI_set e1
    rw [← e3] at hp
    have hl : alive A' = m := by
      have := hp.length_eq
      unfold alive at ha ⊢
      simp at this ha ⊢
      omega
    obtain ⟨k1, k2⟩ := runs_deq (m := m) h2 hl
    refine ⟨?_, k2⟩
    rw [List.map_cons, k1, e5]
    refine sorted_eq (List.pairwise_cons.2 ⟨fun x hx => ?_, srt_sorted _⟩) (srt_sorted _) (((srt_perm _).cons q).trans (hp.trans (srt_perm _).symm))
    have hx2 := (srt_perm _).mem_iff.1 hx
    exact e2 x (fmI_mem.1 (hp.mem_iff.1 (List.mem_cons_of_mem _ hx2)))
theorem fine_deq {rest : List Hp} : ∀ {m : Nat} {A : List (Option Int)} {cl : Bool}, m ≤ alive A → (∀ B cl' ds, HRuns cl (deqs m) ds A B cl' → HFine cl' rest B) → HFine cl (deqs m ++ rest) A
  | 0, A, cl, _, h => h A cl [] ⟨rfl, rfl⟩
  | m + 1, A, cl, ha, h => by
    refine ⟨Or.inr (Or.inl ⟨rfl, by omega⟩), fun d A' cl' hd => ?_⟩
    obtain ⟨i, q, e1, e2, e3, e4, e5, e6⟩ := hd.did.d3 rfl
    have hp := fmI_set e1
    rw [← e3] at hp
    have hl : alive A' + 1 = alive A := by
      have := hp.length_eq
      unfold alive
      simp at this ⊢
      omega
    exact fine_deq (cl := cl') (m := m) (by omega) (fun B cl2 ds hr => h B cl2 (d :: ds) ⟨A', cl', hd, hr⟩)
theorem runs_is {B : List (Option Int)} {cl2 : Bool} : ∀ {ss : List Hp} {ds : List Hd} {A : List (Option Int)} {cl : Bool}, HRuns cl ss ds A B cl2 → ∀ d ∈ ds, d.is = true
  | [], [], A, cl, h, d, hd => by cases hd
  | [], d :: ds, A, cl, h, _, _ => h.elim
  | s :: ss, [], A, cl, h, _, _ => h.elim
  | s :: ss, d :: ds, A, cl, h, e, he => by
    obtain ⟨A', cl', h1, h2⟩ := h
    rcases List.mem_cons.1 he with k | k
    · subst k; exact h1.did.is
    · exact runs_is h2 e k
theorem runs_last {B : List (Option Int)} {cl2 : Bool} : ∀ {ss : List Hp} {ds : List Hd} {A : List (Option Int)} {cl : Bool} {d : Hd}, HRuns cl ss ds A B cl2 → ds[ds.length - 1]? = some d → d.empty = decide (alive B = 0)
  | [], [], A, cl, e, h, hd => by simp at hd
  | [], d :: ds, A, cl, e, h, _ => h.elim
  | s :: ss, [], A, cl, e, h, _ => h.elim
  | s :: ss, [d], A, cl, e, h, he => by
    obtain ⟨A', cl', h1, h2⟩ := h
    simp at he
    subst he
    cases ss with
    | nil => obtain ⟨rfl, rfl⟩ := h2; exact h1.empty
    | cons x t => exact h2.elim
  | s :: ss, d :: d2 :: ds, A, cl, e, h, he => by
    obtain ⟨A', cl', h1, h2⟩ := h
    exact runs_last h2 (by simpa using he)
theorem alive_some (l : List Int) : alive (l.map some) = l.length := by
  unfold alive
  rw [List.filterMap_map]
  simp [Function.comp_def]
theorem fm_some (l : List Int) : (l.map some).filterMap id = l := by
  rw [List.filterMap_map]
  simp [Function.comp_def]
/-- Priorities that are enqueued come out in order. -/
theorem plain_fine (l : List Int) (h : l.length ≤ 10000) (h2 : ∀ x ∈ l, x.natAbs < 2 ^ 53) : HFine true (enqOf l ++ deqs l.length) [] := by
  refine fine_enq (by simpa using h) h2 ?_
  have := fine_deq (rest := []) (cl := true) (m := l.length) (A := [] ++ l.map some) (by simp [alive_some]) (fun (B : List (Option Int)) (cl' : Bool) (ds : List Hd) _ => (trivial : HFine cl' [] B))
  simpa using this
theorem plain_out (l : List Int) {ds : List Hd} {B : List (Option Int)} {cl : Bool} (h : HRuns true (enqOf l ++ deqs l.length) ds [] B cl) : (ds.drop l.length).map Hd.p = srt l ∧ alive B = 0 := by
  obtain ⟨d1, d2, C, cl2, e, h1, h2⟩ := runs_app h
  obtain ⟨e1, _⟩ := runs_enq h1
  have hl := h1.len
  rw [enqOf_len] at hl
  subst e
  rw [← hl, List.drop_left]
  have := runs_deq h2 (by rw [e1]; simpa using alive_some l)
  rw [e1] at this
  simpa [fm_some] using this
def exS : List Hp := [enqS 7, enqS 4, deqS]
theorem ex_fine : HFine true exS [] := by
  have := fine_enq (l := [7, 4]) (A := []) (cl := true) (rest := [deqS]) (by decide) (by decide) (by
    have := fine_deq (rest := []) (cl := true) (m := 1) (A := [] ++ [7, 4].map some) (by decide) (fun (B : List (Option Int)) (cl' : Bool) (ds : List Hd) _ => (trivial : HFine cl' [] B))
    simpa [deqs] using this)
  exact this
theorem ex_out {ds : List Hd} {B : List (Option Int)} {cl : Bool} (h : HRuns true exS ds [] B cl) : ∃ d0 d1 d2, ds = [d0, d1, d2] ∧ d2.p = 4 ∧ d2.e = 1 ∧ d2.size = 1 := by
  obtain ⟨da, db, C, cl2, e, h1, h2⟩ := runs_app (ss := enqOf [7, 4]) (tt := [deqS]) h
  obtain ⟨e1, _⟩ := runs_enq h1
  have hl := h1.len
  have hl2 := h2.len
  match da, db, hl, hl2 with
  | [a, b], [d], _, _ =>
    obtain ⟨A', cl', h3, h4⟩ := h2
    obtain ⟨i, q, k1, k2, k3, k4, k5, _⟩ := h3.did.d3 rfl
    subst e1
    have hq := k2 4 (by simp)
    have hi : i = 1 ∧ q = 4 := by
      match i with
      | 0 => simp at k1; omega
      | 1 => simp at k1; exact ⟨rfl, k1.symm⟩
      | n + 2 => simp at k1
    obtain ⟨rfl, rfl⟩ := hi
    refine ⟨a, b, d, e, k5, k4, ?_⟩
    rw [h3.size, k3]
    rfl
end Go.Proofs.Ytbfcnimebdoagaa
