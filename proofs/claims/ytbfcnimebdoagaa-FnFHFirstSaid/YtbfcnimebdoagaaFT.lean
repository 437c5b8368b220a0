/- PLAIN AND MEMORY: what steps on a heap do and say; the heap with its entries in memory. -/
import Derived.Test.YtbfcnimebdoagaaFO
import Derived.Test.YtbfcnimebdoagaaFD
namespace Go.Proofs.Ytbfcnimebdoagaa
open Go.RowKit
set_option linter.unusedVariables false
set_option linter.unusedSimpArgs false

/-- A step; what it says. -/
structure Hp where
  op : Int
  n : Int
  p : Int
  A : Option Addr
  len : Nat
  cap : Nat
  xs : List Int
structure Hd where
  is : Bool
  e : Int
  p : Int
  size : Int
  empty : Bool
def alive (A : List (Option Int)) : Nat := (A.filterMap id).length
/-- What a step does to the priorities by their numbers, and says. -/
structure HDo (cl : Bool) (A : List (Option Int)) (s : Hp) (is : Bool) (e p : Int) (A' : List (Option Int)) (cl' : Bool) : Prop where
  is : is = true
  d1 : s.op = 1 → A' = A ++ [some s.p] ∧ e = A.length ∧ p = s.p ∧ cl' = cl
  d3 : s.op = 3 → ∃ i q, A[i]? = some (some q) ∧ (∀ r, some r ∈ A → q ≤ r) ∧ A' = A.set i none ∧ e = (i : Nat) ∧ p = q ∧ cl' = cl
  d4 : s.op = 4 → ∃ i : Nat, s.n = i ∧ A' = A.set i (some s.p) ∧ e = (i : Nat) ∧ p = s.p
  d6 : s.op = 6 → A' = A ++ s.xs.map some ∧ cl' = cl
structure HDoes (cl : Bool) (A : List (Option Int)) (s : Hp) (d : Hd) (A' : List (Option Int)) (cl' : Bool) : Prop where
  did : HDo cl A s d.is d.e d.p A' cl'
  size : d.size = alive A'
  empty : d.empty = decide (alive A' = 0)
def HOk (cl : Bool) (A : List (Option Int)) (s : Hp) : Prop :=
  (s.op = 1 ∧ s.p.natAbs < 2 ^ 53 ∧ A.length + 1 ≤ 10000) ∨ (s.op = 3 ∧ 0 < alive A) ∨
  (s.op = 4 ∧ cl = true ∧ s.p.natAbs < 2 ^ 53 ∧ ∃ (i : Nat) (q : Int), s.n = i ∧ A[i]? = some (some q) ∧ s.p < q) ∨
  (s.op = 6 ∧ A.length + s.xs.length ≤ 10000 ∧ ∀ x ∈ s.xs, x.natAbs < 2 ^ 53)
def HFine : Bool → List Hp → List (Option Int) → Prop
  | _, [], _ => True
  | cl, s :: ss, A => HOk cl A s ∧ ∀ d A' cl', HDoes cl A s d A' cl' → HFine cl' ss A'
def HRuns : Bool → List Hp → List Hd → List (Option Int) → List (Option Int) → Bool → Prop
  | cl, [], [], A, B, cl2 => A = B ∧ cl = cl2
  | cl, s :: ss, d :: ds, A, B, cl2 => ∃ A' cl', HDoes cl A s d A' cl' ∧ HRuns cl' ss ds A' B cl2
  | _, _, _, _, _, _ => False
theorem HRuns.snoc {s : Hp} {d : Hd} {C : List (Option Int)} {cl3 : Bool} : ∀ {ss : List Hp} {ds : List Hd} {A B : List (Option Int)} {cl cl2 : Bool}, HRuns cl ss ds A B cl2 → HDoes cl2 B s d C cl3 → HRuns cl (ss ++ [s]) (ds ++ [d]) A C cl3 := by
  intro ss
  induction ss with
  | nil =>
    intro ds A B cl cl2 h hd
    cases ds with
    | nil => obtain ⟨rfl, rfl⟩ := h; exact ⟨C, cl3, hd, rfl, rfl⟩
    | cons x t => exact h.elim
  | cons x t ih =>
    intro ds A B cl cl2 h hd
    cases ds with
    | nil => exact h.elim
    | cons y u =>
      obtain ⟨A', cl', h1, h2⟩ := h
      exact ⟨A', cl', h1, ih h2 hd⟩
theorem HRuns.len : ∀ {ss : List Hp} {ds : List Hd} {A B : List (Option Int)} {cl cl2 : Bool}, HRuns cl ss ds A B cl2 → ds.length = ss.length := by
  intro ss
  induction ss with
  | nil => intro ds A B cl cl2 h; cases ds with | nil => rfl | cons x t => exact h.elim
  | cons x t ih => intro ds A B cl cl2 h; cases ds with
    | nil => exact h.elim
    | cons y u => obtain ⟨A', cl', h1, h2⟩ := h; simp [ih h2]

theorem fm_len (f : Nat → Int) : ∀ E : List (Option Nat), alive (E.map (Option.map f)) = (E.filterMap id).length
  | [] => rfl
  | none :: E => by simpa [alive] using fm_len f E
  | some a :: E => by simpa [alive] using fm_len f E
theorem fm_mem {E : List (Option Nat)} {a : Nat} : a ∈ E.filterMap id ↔ some a ∈ E := by simp
theorem fm_uni : ∀ {E : List (Option Nat)} {i j a : Nat}, (E.filterMap id).Nodup → E[i]? = some (some a) → E[j]? = some (some a) → i = j
  | [], i, j, a, _, h, _ => by simp at h
  | none :: E, i, j, a, hn, h1, h2 => by
    cases i with
    | zero => simp at h1
    | succ i => cases j with
      | zero => simp at h2
      | succ j => exact congrArg (· + 1) (fm_uni (E := E) (by simpa using hn) (by simpa using h1) (by simpa using h2))
  | some b :: E, i, j, a, hn, h1, h2 => by
    have hn' : b ∉ E.filterMap id ∧ (E.filterMap id).Nodup := by simpa using hn
    cases i with
    | zero => cases j with
      | zero => rfl
      | succ j =>
        simp at h1 h2
        subst h1
        exact absurd (fm_mem.2 (List.mem_of_getElem? h2)) hn'.1
    | succ i => cases j with
      | zero =>
        simp at h1 h2
        subst h2
        exact absurd (fm_mem.2 (List.mem_of_getElem? h1)) hn'.1
      | succ j => exact congrArg (· + 1) (fm_uni (E := E) hn'.2 (by simpa using h1) (by simpa using h2))
theorem fm_set : ∀ {E : List (Option Nat)} {i m : Nat}, E[i]? = some (some m) → (m :: (E.set i none).filterMap id).Perm (E.filterMap id)
  | [], i, m, h => by simp at h
  | none :: E, 0, m, h => by simp at h
  | none :: E, i + 1, m, h => by simpa using fm_set (E := E) (i := i) (m := m) (by simpa using h)
  | some b :: E, 0, m, h => by simp at h; subst h; simp
  | some b :: E, i + 1, m, h => by
    have := fm_set (E := E) (i := i) (m := m) (by simpa using h)
    simp only [List.set_cons_succ, List.filterMap_cons, id]
    exact (List.Perm.swap b m _).trans (this.cons b)
theorem map_pr {E : List (Option Nat)} {f g : Nat → Int} (h : ∀ a, some a ∈ E → f a = g a) : E.map (Option.map f) = E.map (Option.map g) := by
  apply List.map_congr_left
  intro o ho
  cases o with
  | none => rfl
  | some a => simp [h a ho]

/-- The blocks of a heap with its entries. -/
def SetS (hh hb : Nat) (ve : Value) (N : List Nat) (k : Nat) : Prop := k = hh ∨ k = hb ∨ k ∈ N ∨ ve.ownBlock = some k
structure SesF (w : World) (base hh hb : Nat) (ve : Value) (E : List (Option Nat)) (N : List Nat) (s : FS) (G : Option Nat → List Nat) (h : Nat → Nat) (mn : Option Nat) (A : List (Option Int)) (cl : Bool) : Prop where
  hblk : Blk w hh #[.pointer (some ⟨hb, 0, none⟩), ve]
  own : w.ownsRow base 52 1 ve E.length (ovs E)
  heap : FHp w hb N s G h mn
  perm : N.Perm (E.filterMap id)
  pri : A = E.map (Option.map s.pr)
  cln : cl = true → ∀ a ∈ N, s.mr a = false
  nhh : hh ∉ N
  hne : hh ≠ hb
  vout : ∀ k, ve.ownBlock = some k → k ≠ hh ∧ k ≠ hb ∧ k ∉ N
  lo : base ≤ hh ∧ base ≤ hb ∧ ∀ a ∈ N, base ≤ a
  len : E.length ≤ 10000
def Ses (w : World) (base hh : Nat) (A : List (Option Int)) (cl : Bool) (S : Nat → Prop) : Prop := ∃ hb ve E N s G h mn, SesF w base hh hb ve E N s G h mn A cl ∧ S = SetS hh hb ve N
theorem SesF.lt {w : World} {base hh hb : Nat} {ve : Value} {E : List (Option Nat)} {N : List Nat} {s : FS} {G : Option Nat → List Nat} {h : Nat → Nat} {mn : Option Nat} {A : List (Option Int)} {cl : Bool} (f : SesF w base hh hb ve E N s G h mn A cl) {k : Nat} (hk : SetS hh hb ve N k) : base ≤ k ∧ k < w.heap.size := by
  rcases hk with e | e | e | e
  · rw [e]; exact ⟨f.lo.1, f.hblk.lt⟩
  · rw [e]; exact ⟨f.lo.2.1, f.heap.blk.lt⟩
  · exact ⟨f.lo.2.2 k e, f.heap.mem.lt e⟩
  · exact own_lt f.own k e
theorem SesF.keep {S : Nat → Prop} {w w' : World} {base hh hb : Nat} {ve : Value} {E : List (Option Nat)} {N : List Nat} {s : FS} {G : Option Nat → List Nat} {h : Nat → Nat} {mn : Option Nat} {A : List (Option Int)} {cl : Bool} (f : SesF w base hh hb ve E N s G h mn A cl) (hc : Ch S w w') (hs : ∀ k, SetS hh hb ve N k → ¬ S k) : SesF w' base hh hb ve E N s G h mn A cl :=
  ⟨f.hblk.keep hc (hs hh (Or.inl rfl)), own_keepS f.own hc (fun g e => hs g (Or.inr (Or.inr (Or.inr e)))), f.heap.keep hc (hs hb (Or.inr (Or.inl rfl))) (fun a ha => hs a (Or.inr (Or.inr (Or.inl ha)))), f.perm, f.pri, f.cln, f.nhh, f.hne, f.vout, f.lo, f.len⟩
theorem Ses.keep {S T : Nat → Prop} {w w' : World} {base hh : Nat} {A : List (Option Int)} {cl : Bool} (f : Ses w base hh A cl T) (hc : Ch S w w') (hs : ∀ k, T k → ¬ S k) : Ses w' base hh A cl T := by
  obtain ⟨hb, ve, E, N, s, G, h, mn, f, rfl⟩ := f
  exact ⟨hb, ve, E, N, s, G, h, mn, f.keep hc hs, rfl⟩
theorem Ses.lt {w : World} {base hh : Nat} {A : List (Option Int)} {cl : Bool} {S : Nat → Prop} (f : Ses w base hh A cl S) {k : Nat} (hk : S k) : base ≤ k ∧ k < w.heap.size := by
  obtain ⟨hb, ve, E, N, s, G, h, mn, f, rfl⟩ := f
  exact f.lt hk
/-- What is said of an entry, wherever it is. -/
theorem said_of {w : World} {base hh i a : Nat} {v0 ve : Value} {E : List (Option Nat)} {N : List Nat} {s : FS} (hB : Blk w hh #[v0, ve]) (hO : w.ownsRow base 52 1 ve E.length (ovs E)) (hp : N.Perm (E.filterMap id)) (hN : N.Nodup) (hM : Mem w N s) (hS : Sm N s) (hi : E[i]? = some (some a)) (hl : E.length ≤ 10000) :
    Calls Try.prog 36 #[.pointer (some ⟨hh, 0, none⟩), .pointer (some ⟨a, 0, none⟩), .nilIface] w fun r w' => r = .returned (.agg #[.bool true, .int .i64 i, .int .i64 (s.pr a), .int .i64 0, .bool false]) ∧ Ch S0 w w' := by
  obtain ⟨Ad, c, rfl, hR, _, _, _, _⟩ := own_rd hO
  have hin : ∀ b, some b ∈ E → b ∈ N := fun b hb => hp.mem_iff.2 (fm_mem.2 hb)
  have haN := hin a (List.mem_of_getElem? hi)
  exact said_any hh i a E.length c v0 Ad E (s.pr a) w hB hR rfl (by omega) hi (fun j hj => fm_uni (hp.nodup_iff.1 hN) hj hi) (fun b hb => ⟨_, hM b (hin b hb)⟩) (hM.c6 haN) (hS a haN)
end Go.Proofs.Ytbfcnimebdoagaa
