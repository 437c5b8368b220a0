/- PLAIN: a graph as plain data, and what adding an edge does to it. -/
import Derived.Test.YtjifdcklmpibpaaDoorRows
namespace Go.Proofs.YtjifdcklmpibpaaDoor
set_option linter.unusedVariables false
set_option linter.unusedSimpArgs false

structure PG where
  ver : Int → Bool
  adj : Int → Int → Bool
  deg : Int → Nat
  nv : Nat
  ne : Nat

def PG.nil : PG := ⟨fun _ => false, fun _ _ => false, fun _ => 0, 0, 0⟩
def PG.addv (G : PG) (k : Int) : PG := { G with ver := fun x => G.ver x || x == k, nv := if G.ver k then G.nv else G.nv + 1 }
def PG.err (G : PG) (v w : Int) : Nat := if v = w then 2 else if G.adj v w then 3 else 0
def PG.link (G : PG) (v w : Int) : PG := { G with adj := fun x y => G.adj x y || (x == v && y == w) || (x == w && y == v), deg := fun x => if x = v ∨ x = w then G.deg x + 1 else G.deg x, ne := G.ne + 1 }
def PG.add (G : PG) (v w : Int) : PG := if v = w then G else if G.adj v w then (G.addv v).addv w else ((G.addv v).addv w).link v w

structure PG.Ok (G : PG) : Prop where
  sym : ∀ x y, G.adj x y = G.adj y x
  no : ∀ k, G.ver k = false → (∀ y, G.adj k y = false) ∧ G.deg k = 0

theorem PG.Ok.nil : PG.Ok PG.nil := ⟨fun _ _ => rfl, fun _ _ => ⟨fun _ => rfl, rfl⟩⟩
theorem PG.Ok.addv {G : PG} (h : G.Ok) (k : Int) : (G.addv k).Ok := ⟨h.sym, fun x hx => h.no x (by simp only [PG.addv, Bool.or_eq_false_iff] at hx; exact hx.1)⟩
theorem PG.Ok.link {G : PG} (h : G.Ok) (v w : Int) (hv : G.ver v = true) (hw : G.ver w = true) : (G.link v w).Ok := by
  refine ⟨fun x y => ?_, fun x hx => ?_⟩
  · simp only [PG.link]
    rw [h.sym x y, Bool.or_assoc, Bool.or_assoc, Bool.or_comm (x == v && y == w), Bool.and_comm (x == w), Bool.and_comm (x == v)]
  · have hx : G.ver x = false := hx
    obtain ⟨h1, h2⟩ := h.no x hx
    have n1 : x ≠ v := fun e => by rw [e, hv] at hx; cases hx
    have n2 : x ≠ w := fun e => by rw [e, hw] at hx; cases hx
    refine ⟨fun y => ?_, ?_⟩
    · simp [PG.link, h1, n1, n2]
    · simp [PG.link, h2, n1, n2]
theorem PG.Ok.add {G : PG} (h : G.Ok) (v w : Int) : (G.add v w).Ok := by
  unfold PG.add
  split
  · exact h
  · split
    · exact (h.addv v).addv w
    · refine PG.Ok.link ((h.addv v).addv w) v w ?_ ?_ <;> simp [PG.addv]

def PG.adds (G : PG) : List (Int × Int) → PG
  | [] => G
  | x :: xs => (G.add x.1 x.2).adds xs
def PG.errs (G : PG) : List (Int × Int) → List Nat
  | [] => []
  | x :: xs => G.err x.1 x.2 :: (G.add x.1 x.2).errs xs
theorem PG.adds_snoc (G : PG) (xs : List (Int × Int)) (x : Int × Int) : G.adds (xs ++ [x]) = (G.adds xs).add x.1 x.2 := by
  induction xs generalizing G with
  | nil => rfl
  | cons y ys ih => simp [PG.adds, ih]
theorem PG.errs_snoc (G : PG) (xs : List (Int × Int)) (x : Int × Int) : G.errs (xs ++ [x]) = G.errs xs ++ [(G.adds xs).err x.1 x.2] := by
  induction xs generalizing G with
  | nil => rfl
  | cons y ys ih => simp [PG.adds, PG.errs, ih]
theorem PG.errs_len (G : PG) (xs : List (Int × Int)) : (G.errs xs).length = xs.length := by
  induction xs generalizing G with
  | nil => rfl
  | cons y ys ih => simp [PG.errs, ih]
theorem PG.Ok.adds {G : PG} (h : G.Ok) (xs : List (Int × Int)) : (G.adds xs).Ok := by
  induction xs generalizing G with
  | nil => exact h
  | cons y ys ih => exact ih (h.add _ _)
theorem PG.add_nv (G : PG) (v w : Int) : (G.add v w).nv ≤ G.nv + 2 := by
  unfold PG.add
  split
  · omega
  · have h : ∀ (G : PG) (k : Int), (G.addv k).nv ≤ G.nv + 1 := fun G k => by simp only [PG.addv]; split <;> omega
    have h1 := h G v
    have h2 := h (G.addv v) w
    split
    · omega
    · show ((G.addv v).addv w).nv ≤ _
      omega
theorem PG.add_ne (G : PG) (v w : Int) : (G.add v w).ne ≤ G.ne + 1 := by
  unfold PG.add
  split
  · omega
  · split <;> simp only [PG.link, PG.addv] <;> omega
theorem PG.adds_n (xs : List (Int × Int)) : ∀ G : PG, (G.adds xs).nv ≤ G.nv + 2 * xs.length ∧ (G.adds xs).ne ≤ G.ne + xs.length := by
  induction xs with
  | nil => intro G; simp [PG.adds]
  | cons y ys ih =>
    intro G
    obtain ⟨h1, h2⟩ := ih (G.add y.1 y.2)
    have := G.add_nv y.1 y.2
    have := G.add_ne y.1 y.2
    simp only [PG.adds, List.length_cons]
    omega
theorem PG.add_deg (G : PG) (v w x : Int) : (G.add v w).deg x = if v ≠ w ∧ G.adj v w = false ∧ (x = v ∨ x = w) then G.deg x + 1 else G.deg x := by
  unfold PG.add
  by_cases h : v = w
  · simp [h]
  · by_cases h2 : G.adj v w
    · simp [h, h2, PG.addv]
    · simp [h, h2, PG.link, PG.addv]
theorem PG.add_ver (G : PG) (v w x : Int) : (G.add v w).ver x = (G.ver x || (!decide (v = w) && (x == v || x == w))) := by
  unfold PG.add
  by_cases h : v = w
  · simp [h]
  · by_cases h2 : G.adj v w <;> simp [h, h2, PG.link, PG.addv, Bool.or_assoc]
theorem PG.deg_le (xs : List (Int × Int)) (x : Int) : ∀ G : PG, (G.adds xs).deg x ≤ G.deg x + xs.length := by
  induction xs with
  | nil => intro G; simp [PG.adds]
  | cons y ys ih =>
    intro G
    have h := ih (G.add y.1 y.2)
    rw [PG.add_deg] at h
    simp only [PG.adds, List.length_cons]
    split at h <;> omega
end Go.Proofs.YtjifdcklmpibpaaDoor
