/- ROWS of elements, of steps, of what the steps say, in memory. -/
import Derived.Test.YtpkeiankocimaaaDoorF
namespace Go.Proofs.YtpkeiankocimaaaDoor
open Go.RowKit
set_option linter.unusedVariables false
set_option linter.unusedSimpArgs false

theorem elEl : EL Tryd.prog 27 38 2 16 := EL.of (z := .agg #[.int .i64 0, .int .i64 0]) Tryd.underlying27 (by kernel_rfl) rfl (by decide)
theorem elSt : EL Tryd.prog 29 32 3 40 := EL.of (z := .agg #[.int .i64 0, .int .i64 0, .slice none 0 0]) Tryd.underlying29 (by kernel_rfl) rfl (by decide)
theorem elSd : EL Tryd.prog 33 36 4 48 := EL.of (z := .agg #[.slice none 0 0, .int .i64 0, .bool false, .int .i64 0]) Tryd.underlying33 (by kernel_rfl) rfl (by decide)

def pv (a : List El) : List Value := a.flatMap fun p => [.int .i64 p.1, .int .i64 p.2]
def stC (s : St) : List Value := [.int .i64 s.op, .int .i64 s.n, .slice s.A s.len s.cap]
def sdC (d : Sd) : List Value := [.slice d.A d.len d.cap, .int .i64 d.n, .bool d.is, .int .i64 0]
def stCells (ss : List St) : List Value := ss.flatMap stC
def sdCells (ds : List Sd) : List Value := ds.flatMap sdC

theorem flat_len {α : Type} (f : α → List Value) (k : Nat) (hf : ∀ x, (f x).length = k) : ∀ xs : List α, (xs.flatMap f).length = xs.length * k
  | [] => by simp
  | x :: xs => by
    rw [List.flatMap_cons, List.length_append, hf, flat_len f k hf xs, List.length_cons, Nat.add_mul]
    omega
theorem flat_at {α : Type} (f : α → List Value) (k : Nat) (hf : ∀ x, (f x).length = k) : ∀ (xs : List α) (j : Nat) (x : α) (i : Nat) (v : Value), xs[j]? = some x → (f x)[i]? = some v → (xs.flatMap f)[j * k + i]? = some v
  | [], j, x, i, v, h, _ => by simp at h
  | y :: ys, 0, x, i, v, h, hv => by
    simp at h
    subst h
    rw [List.flatMap_cons, Nat.zero_mul, Nat.zero_add, List.getElem?_append_left (List.getElem?_eq_some_iff.1 hv).1]
    exact hv
  | y :: ys, j + 1, x, i, v, h, hv => by
    have ih := flat_at f k hf ys j x i v (by simpa using h) hv
    rw [List.flatMap_cons, List.getElem?_append_right (by rw [hf, Nat.add_mul]; omega), hf, show (j + 1) * k + i - k = j * k + i by rw [Nat.add_mul]; omega]
    exact ih
theorem pv_len (a : List El) : (pv a).length = a.length * 2 := flat_len _ 2 (fun _ => rfl) a
theorem stC_len (ss : List St) : (stCells ss).length = ss.length * 3 := flat_len _ 3 (fun _ => rfl) ss
theorem sdC_len (ds : List Sd) : (sdCells ds).length = ds.length * 4 := flat_len _ 4 (fun _ => rfl) ds
theorem pv_snoc (a : List El) (x : El) : pv (a ++ [x]) = pv a ++ [.int .i64 x.1, .int .i64 x.2] := by simp [pv]
theorem st_snoc (a : List St) (x : St) : stCells (a ++ [x]) = stCells a ++ stC x := by simp [stCells]
theorem sd_snoc (a : List Sd) (x : Sd) : sdCells (a ++ [x]) = sdCells a ++ sdC x := by simp [sdCells]
theorem pv_one (a : List El) : ∀ u ∈ pv a, u.oneCell' = true := by
  intro u hu
  simp only [pv, List.mem_flatMap] at hu
  obtain ⟨x, _, hu⟩ := hu
  simp at hu
  rcases hu with rfl | rfl <;> rfl
theorem st_one (a : List St) : ∀ u ∈ stCells a, u.oneCell' = true := by
  intro u hu
  simp only [stCells, List.mem_flatMap] at hu
  obtain ⟨x, _, hu⟩ := hu
  simp [stC] at hu
  rcases hu with rfl | rfl | rfl <;> rfl
theorem sd_one (a : List Sd) : ∀ u ∈ sdCells a, u.oneCell' = true := by
  intro u hu
  simp only [sdCells, List.mem_flatMap] at hu
  obtain ⟨x, _, hu⟩ := hu
  simp [sdC] at hu
  rcases hu with rfl | rfl | rfl | rfl <;> rfl

theorem rd_pv {w : World} {A : Option Addr} {a : List El} {j : Nat} {x : El} (h : Rd w A (pv a)) (hj : a[j]? = some x) : ∃ b o, A = some ⟨b, o, none⟩ ∧ w.cell? ⟨b, o + j * 2, none⟩ = some (.int .i64 x.1) ∧ w.cell? ⟨b, o + j * 2 + 1, none⟩ = some (.int .i64 x.2) := by
  obtain ⟨b, o, e, h0⟩ := h _ _ (flat_at _ 2 (fun _ => rfl) a j x 0 _ hj rfl)
  obtain ⟨b', o', e', h1⟩ := h _ _ (flat_at _ 2 (fun _ => rfl) a j x 1 _ hj rfl)
  rw [e] at e'
  cases e'
  exact ⟨b, o, e, h0, h1⟩
theorem rd_st {w : World} {A : Option Addr} {a : List St} {j : Nat} {x : St} (h : Rd w A (stCells a)) (hj : a[j]? = some x) : ∃ b o, A = some ⟨b, o, none⟩ ∧ w.cell? ⟨b, o + j * 3, none⟩ = some (.int .i64 x.op) ∧ w.cell? ⟨b, o + j * 3 + 1, none⟩ = some (.int .i64 x.n) ∧ w.cell? ⟨b, o + j * 3 + 2, none⟩ = some (.slice x.A x.len x.cap) := by
  obtain ⟨b, o, e, h0⟩ := h _ _ (flat_at _ 3 (fun _ => rfl) a j x 0 _ hj rfl)
  obtain ⟨b', o', e', h1⟩ := h _ _ (flat_at _ 3 (fun _ => rfl) a j x 1 _ hj rfl)
  obtain ⟨b'', o'', e'', h2⟩ := h _ _ (flat_at _ 3 (fun _ => rfl) a j x 2 _ hj rfl)
  rw [e] at e' e''
  cases e'
  cases e''
  exact ⟨b, o, e, h0, h1, h2⟩
theorem rd_sd {w : World} {A : Option Addr} {a : List Sd} {j : Nat} {x : Sd} (h : Rd w A (sdCells a)) (hj : a[j]? = some x) : ∃ b o, A = some ⟨b, o, none⟩ ∧ w.cell? ⟨b, o + j * 4, none⟩ = some (.slice x.A x.len x.cap) ∧ w.cell? ⟨b, o + j * 4 + 1, none⟩ = some (.int .i64 x.n) ∧ w.cell? ⟨b, o + j * 4 + 2, none⟩ = some (.bool x.is) ∧ w.cell? ⟨b, o + j * 4 + 3, none⟩ = some (.int .i64 0) := by
  obtain ⟨b, o, e, h0⟩ := h _ _ (flat_at _ 4 (fun _ => rfl) a j x 0 _ hj rfl)
  obtain ⟨b', o', e', h1⟩ := h _ _ (flat_at _ 4 (fun _ => rfl) a j x 1 _ hj rfl)
  obtain ⟨b'', o'', e'', h2⟩ := h _ _ (flat_at _ 4 (fun _ => rfl) a j x 2 _ hj rfl)
  obtain ⟨b3, o3, e3, h3⟩ := h _ _ (flat_at _ 4 (fun _ => rfl) a j x 3 _ hj rfl)
  rw [e] at e' e'' e3
  cases e'
  cases e''
  cases e3
  exact ⟨b, o, e, h0, h1, h2, h3⟩

/-- One step, and what one step said, in memory; these blocks will be changed. -/
def St1 (w : World) (av : Nat → Prop) (s : St) : Prop := s.items.length = s.len ∧ Rd w s.A (pv s.items) ∧ ∀ b o, s.A = some ⟨b, o, none⟩ → ¬ av b
def Sd1 (w : World) (av : Nat → Prop) (d : Sd) : Prop := d.items.length = d.len ∧ Rd w d.A (pv d.items) ∧ ∀ b o, d.A = some ⟨b, o, none⟩ → ¬ av b
theorem St1.keep {w w' : World} {S av : Nat → Prop} {s : St} (h : St1 w av s) (hc : Ch S w w') (hs : ∀ k, S k → av k) : St1 w' av s := ⟨h.1, h.2.1.keep hc (fun b o e hS => h.2.2 b o e (hs b hS)), h.2.2⟩
theorem Sd1.keep {w w' : World} {S av : Nat → Prop} {d : Sd} (h : Sd1 w av d) (hc : Ch S w w') (hs : ∀ k, S k → av k) : Sd1 w' av d := ⟨h.1, h.2.1.keep hc (fun b o e hS => h.2.2 b o e (hs b hS)), h.2.2⟩
def noB : Nat → Prop := fun _ => False
def saidV (d : Sd) : Value := .agg #[.slice d.A d.len d.cap, .int .i64 d.n, .bool d.is, .int .i64 0]
def stepV (s : St) : Value := .agg #[.int .i64 s.op, .int .i64 s.n, .slice s.A s.len s.cap]

/-- What is told of one step. -/
structure StepR (w : World) (base q g mb : Nat) (dup : Bool) (a : List El) (s : St) (r : Ending) (w' : World) (d : Sd) (g' cap' n' : Nat) (c : List El) : Prop where
  res : r = .returned (saidV d)
  len : d.items.length = d.len
  rd : Rd w' d.A (pv d.items)
  new : ∀ b o, d.A = some ⟨b, o, none⟩ → w.heap.size ≤ b ∧ b < w'.heap.size ∧ ¬ SQ q mb g' b
  qs : QS w' base q n' cap' g' mb dup c
  gg : g' = g ∨ w.heap.size ≤ g'
  does : Does a s d c
  ch : Ch (SQ q mb g) w w'
def StepX (w : World) (base q g mb : Nat) (dup : Bool) (a : List El) (s : St) (r : Ending) (w' : World) : Prop := ∃ d g' cap' n' c, StepR w base q g mb dup a s r w' d g' cap' n' c
theorem does1 {a c : List El} {s : St} {d : Sd} (h : s.op = 1) (H : c.Perm (a ++ s.items) ∧ d.items = []) : Does a s d c := ⟨fun _ => H, fun e => absurd (h.symm.trans e) (by decide), fun e => absurd (h.symm.trans e) (by decide), fun e => absurd (h.symm.trans e) (by decide), fun e => absurd (h.symm.trans e) (by decide), fun e => absurd (h.symm.trans e) (by decide)⟩
theorem does2 {a c : List El} {s : St} {d : Sd} (h : s.op = 2) (H : Out a d.items c s.n.toNat) : Does a s d c := ⟨fun e => absurd (h.symm.trans e) (by decide), fun _ => H, fun e => absurd (h.symm.trans e) (by decide), fun e => absurd (h.symm.trans e) (by decide), fun e => absurd (h.symm.trans e) (by decide), fun e => absurd (h.symm.trans e) (by decide)⟩
theorem does3 {a c : List El} {s : St} {d : Sd} (h : s.op = 3) (H : c = a ∧ ∃ x, d.items = [x] ∧ (srt (keys a)).head? = some x.1) : Does a s d c := ⟨fun e => absurd (h.symm.trans e) (by decide), fun e => absurd (h.symm.trans e) (by decide), fun _ => H, fun e => absurd (h.symm.trans e) (by decide), fun e => absurd (h.symm.trans e) (by decide), fun e => absurd (h.symm.trans e) (by decide)⟩
theorem does4 {a c : List El} {s : St} {d : Sd} (h : s.op = 4) (H : c = a ∧ d.n = a.length ∧ d.items = []) : Does a s d c := ⟨fun e => absurd (h.symm.trans e) (by decide), fun e => absurd (h.symm.trans e) (by decide), fun e => absurd (h.symm.trans e) (by decide), fun _ => H, fun e => absurd (h.symm.trans e) (by decide), fun e => absurd (h.symm.trans e) (by decide)⟩
theorem does5 {a c : List El} {s : St} {d : Sd} (h : s.op = 5) (H : c = a ∧ d.is = decide (a.length = 0) ∧ d.items = []) : Does a s d c := ⟨fun e => absurd (h.symm.trans e) (by decide), fun e => absurd (h.symm.trans e) (by decide), fun e => absurd (h.symm.trans e) (by decide), fun e => absurd (h.symm.trans e) (by decide), fun _ => H, fun e => absurd (h.symm.trans e) (by decide)⟩
theorem does7 {a c : List El} {s : St} {d : Sd} (h : s.op = 7) (H : c = a ∧ d.is = false ∧ d.items = []) : Does a s d c := ⟨fun e => absurd (h.symm.trans e) (by decide), fun e => absurd (h.symm.trans e) (by decide), fun e => absurd (h.symm.trans e) (by decide), fun e => absurd (h.symm.trans e) (by decide), fun e => absurd (h.symm.trans e) (by decide), fun _ => H⟩
theorem ch4 (w : World) (z : Nat) (a b c d : Value) : Ch (S1 z) w ((((w.setCell ⟨z, 0, none⟩ a).setCell ⟨z, 1, none⟩ b).setCell ⟨z, 2, none⟩ c).setCell ⟨z, 3, none⟩ d) :=
  ((((Ch.refl (S1 z) w).setCell ⟨z, 0, none⟩ (fun _ => rfl) _).setCell ⟨z, 1, none⟩ (fun _ => rfl) _).setCell ⟨z, 2, none⟩ (fun _ => rfl) _).setCell ⟨z, 3, none⟩ (fun _ => rfl) _
/-- The end of a step: its answer has been laid in block z. -/
theorem step_end {w w5 w6 : World} {base q g mb z g' cap' n' : Nat} {dup : Bool} {a c : List El} {s : St} {d : Sd} (hz : w.heap.size ≤ z) (hz5 : z < w5.heap.size) (hc : Ch (SQ q mb g) w w5) (hq : QS w5 base q n' cap' g' mb dup c) (hg : g' = g ∨ w.heap.size ≤ g') (hgz : g' ≠ z)
    (hql : q < w.heap.size) (hml : mb < w.heap.size) (h6 : Ch (S1 z) w5 w6) (hl : d.items.length = d.len) (hr : Rd w6 d.A (pv d.items)) (hn : ∀ b o, d.A = some ⟨b, o, none⟩ → w.heap.size ≤ b ∧ b < w5.heap.size ∧ ¬ SQ q mb g' b) (hd : Does a s d c) :
    StepX w base q g mb dup a s (.returned (saidV d)) w6 :=
  ⟨d, g', cap', n', c, ⟨rfl, hl, hr, fun b o e => ⟨(hn b o e).1, Nat.lt_of_lt_of_le (hn b o e).2.1 h6.size, (hn b o e).2.2⟩, hq.keep h6 (fun e => by have e : q = z := e; omega) (fun e => by have e : mb = z := e; omega) hgz, hg, hd, hc.trans' h6 (fun i hi e => by have e : i = z := e; omega)⟩⟩
end Go.Proofs.YtpkeiankocimaaaDoor
