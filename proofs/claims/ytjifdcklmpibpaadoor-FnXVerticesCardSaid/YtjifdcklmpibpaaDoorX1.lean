/- FnXVertices: the plain law. -/
import Derived.Test.YtjifdcklmpibpaaDoorQ
import Derived.Test.YtjifdcklmpibpaaDoorT5
namespace Go.Proofs.YtjifdcklmpibpaaDoor
open Go.RowKit
set_option linter.unusedVariables false
set_option linter.unusedSimpArgs false

def code (x y : Int) : Int := min x y * 100 + max x y
def endsL (xs : List (Int × Int)) : List Int := xs.flatMap fun x => if x.1 = x.2 then [] else [x.1, x.2]
def edgeL (xs : List (Int × Int)) : List Int := xs.flatMap fun x => if x.1 = x.2 then [] else [code x.1 x.2]
theorem endsL_snoc (xs : List (Int × Int)) (x : Int × Int) : endsL (xs ++ [x]) = endsL xs ++ (if x.1 = x.2 then [] else [x.1, x.2]) := by simp [endsL]
theorem edgeL_snoc (xs : List (Int × Int)) (x : Int × Int) : edgeL (xs ++ [x]) = edgeL xs ++ (if x.1 = x.2 then [] else [code x.1 x.2]) := by simp [edgeL]
theorem endsL_len (xs : List (Int × Int)) : (endsL xs).length ≤ 2 * xs.length := by
  induction xs with
  | nil => simp [endsL]
  | cons x xs ih =>
    have e : endsL (x :: xs) = (if x.1 = x.2 then [] else [x.1, x.2]) ++ endsL xs := by simp [endsL]
    rw [e, List.length_append, List.length_cons]
    by_cases h : x.1 = x.2
    · rw [if_pos h]; simp only [List.length_nil]; omega
    · rw [if_neg h]; simp only [List.length_cons, List.length_nil]; omega
theorem edgeL_len (xs : List (Int × Int)) : (edgeL xs).length ≤ xs.length := by
  induction xs with
  | nil => simp [edgeL]
  | cons x xs ih =>
    have e : edgeL (x :: xs) = (if x.1 = x.2 then [] else [code x.1 x.2]) ++ edgeL xs := by simp [edgeL]
    rw [e, List.length_append, List.length_cons]
    by_cases h : x.1 = x.2
    · rw [if_pos h]; simp only [List.length_nil]; omega
    · rw [if_neg h]; simp only [List.length_cons, List.length_nil]; omega

def inB (x : Int) : Prop := 0 ≤ x ∧ x ≤ 12
theorem code_eq {x y v w : Int} (hx : inB x) (hy : inB y) (hv : inB v) (hw : inB w) : (code x y == code v w) = ((x == v && y == w) || (x == w && y == v)) := by
  unfold inB at *
  unfold code
  rw [Bool.eq_iff_iff]
  simp only [beq_iff_eq, Bool.or_eq_true, Bool.and_eq_true]
  omega

/-- The graph, the ends and the edges so far. -/
structure XI (G : PG) (p q : (Int → Bool) × Nat) : Prop where
  ver : ∀ x, G.ver x = p.1 x
  nv : G.nv = p.2
  adj : ∀ x y, inB x → inB y → G.adj x y = q.1 (code x y)
  ne : G.ne = q.2

theorem XI.step {G : PG} {p q : (Int → Bool) × Nat} (h : XI G p q) {v w : Int} (hv : inB v) (hw : inB w) : XI (G.add v w) (puts p (if v = w then [] else [v, w])) (puts q (if v = w then [] else [code v w])) := by
  by_cases hvw : v = w
  · simp only [hvw, if_true, puts, List.foldl_nil, PG.add]
    exact h
  · simp only [hvw, if_false, puts, List.foldl_cons, List.foldl_nil]
    have hv2 : ∀ x, ((G.addv v).addv w).ver x = putS (putS p.1 v) w x := fun x => by simp only [PG.addv, putS, h.ver]
    have hn2 : ((G.addv v).addv w).nv = putN (putS p.1 v) (putN p.1 p.2 v) w := by
      simp only [PG.addv, putS, putN, h.ver, h.nv]
      rfl
    have hc := h.adj v w hv hw
    unfold PG.add
    rw [if_neg hvw]
    by_cases ha : G.adj v w = true
    · rw [if_pos ha]
      rw [hc] at ha
      refine ⟨hv2, hn2, fun x y hx hy => ?_, ?_⟩
      · show G.adj x y = putS q.1 (code v w) (code x y)
        rw [h.adj x y hx hy]
        unfold putS
        by_cases e : code x y = code v w
        · rw [e, ha]; rfl
        · simp [e]
      · show G.ne = putN q.1 q.2 (code v w)
        simp [putN, ha, h.ne]
    · rw [if_neg ha]
      have ha' : q.1 (code v w) = false := by rw [← hc]; simpa using ha
      refine ⟨hv2, hn2, fun x y hx hy => ?_, ?_⟩
      · show (G.adj x y || (x == v && y == w) || (x == w && y == v)) = putS q.1 (code v w) (code x y)
        unfold putS
        rw [h.adj x y hx hy, code_eq hx hy hv hw, Bool.or_assoc]
      · show G.ne + 1 = putN q.1 q.2 (code v w)
        simp [putN, ha', h.ne]
theorem puts_append (p : (Int → Bool) × Nat) (a b : List Int) : puts p (a ++ b) = puts (puts p a) b := by simp [puts]
theorem XI.all (xs : List (Int × Int)) : ∀ {G : PG} {p q : (Int → Bool) × Nat}, XI G p q → (∀ x ∈ xs, inB x.1 ∧ inB x.2) → XI (G.adds xs) (puts p (endsL xs)) (puts q (edgeL xs)) := by
  induction xs with
  | nil => intro G p q h _; exact h
  | cons x xs ih =>
    intro G p q h hx
    obtain ⟨h1, h2⟩ := hx x (by simp)
    have := ih (h.step h1 h2) (fun y hy => hx y (by simp [hy]))
    have e1 : endsL (x :: xs) = (if x.1 = x.2 then [] else [x.1, x.2]) ++ endsL xs := by simp [endsL]
    have e2 : edgeL (x :: xs) = (if x.1 = x.2 then [] else [code x.1 x.2]) ++ edgeL xs := by simp [edgeL]
    rw [e1, e2, puts_append, puts_append]
    exact this
theorem XI.nil : XI PG.nil (fun _ => false, 0) (fun _ => false, 0) := ⟨fun _ => rfl, rfl, fun _ _ _ _ => rfl, rfl⟩
end Go.Proofs.YtjifdcklmpibpaaDoor
