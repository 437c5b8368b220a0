/- FnGRNamed: the plain law. -/
import Derived.Test.YtjifdcklmpibpaaDoorT
import Derived.Test.YtjifdcklmpibpaaDoorO
namespace Go.Proofs.YtjifdcklmpibpaaDoor
open Go.RowKit
set_option linter.unusedVariables false
set_option linter.unusedSimpArgs false

/-- G' is G under the names ρ. -/
structure Sim (ρ : Int → Int) (G G' : PG) : Prop where
  adj : ∀ x y, G'.adj (ρ x) (ρ y) = G.adj x y
  img : ∀ x z, G'.adj (ρ x) z = true → ∃ y, z = ρ y
  ver : ∀ x, G'.ver (ρ x) = G.ver x
  deg : ∀ x, G'.deg (ρ x) = G.deg x
  nv : G'.nv = G.nv
  ne : G'.ne = G.ne

theorem Sim.nil (ρ : Int → Int) : Sim ρ PG.nil PG.nil := ⟨fun _ _ => rfl, fun _ _ h => (by cases h), fun _ => rfl, fun _ => rfl, rfl, rfl⟩
theorem Sim.addv {ρ : Int → Int} (hρ : ∀ x y, ρ x = ρ y → x = y) {G G' : PG} (h : Sim ρ G G') (k : Int) : Sim ρ (G.addv k) (G'.addv (ρ k)) := by
  refine ⟨h.adj, h.img, fun x => ?_, h.deg, ?_, h.ne⟩
  · have e : (ρ x == ρ k) = (x == k) := by
      rw [Bool.eq_iff_iff]
      simp only [beq_iff_eq]
      exact ⟨hρ x k, fun e => by rw [e]⟩
    simp only [PG.addv, h.ver, e]
  · simp only [PG.addv, h.ver, h.nv]
theorem Sim.link {ρ : Int → Int} (hρ : ∀ x y, ρ x = ρ y → x = y) {G G' : PG} (h : Sim ρ G G') (v w : Int) : Sim ρ (G.link v w) (G'.link (ρ v) (ρ w)) := by
  have e : ∀ x k, (ρ x == ρ k) = (x == k) := fun x k => by
    rw [Bool.eq_iff_iff]
    simp only [beq_iff_eq]
    exact ⟨hρ x k, fun e => by rw [e]⟩
  have e2 : ∀ x k, (ρ x = ρ k) = (x = k) := fun x k => propext ⟨hρ x k, fun e => by rw [e]⟩
  refine ⟨fun x y => ?_, fun x z hz => ?_, h.ver, fun x => ?_, h.nv, ?_⟩
  · simp only [PG.link, h.adj, e]
  · simp only [PG.link, Bool.or_eq_true, Bool.and_eq_true, beq_iff_eq] at hz
    rcases hz with (hz | ⟨_, rfl⟩) | ⟨_, rfl⟩
    · exact h.img x z hz
    · exact ⟨_, rfl⟩
    · exact ⟨_, rfl⟩
  · simp only [PG.link, h.deg, e2]
  · simp only [PG.link, h.ne]
theorem Sim.err {ρ : Int → Int} (hρ : ∀ x y, ρ x = ρ y → x = y) {G G' : PG} (h : Sim ρ G G') (v w : Int) : G'.err (ρ v) (ρ w) = G.err v w := by
  have e2 : (ρ v = ρ w) = (v = w) := propext ⟨hρ v w, fun e => by rw [e]⟩
  simp only [PG.err, e2, h.adj]
theorem Sim.add {ρ : Int → Int} (hρ : ∀ x y, ρ x = ρ y → x = y) {G G' : PG} (h : Sim ρ G G') (v w : Int) : Sim ρ (G.add v w) (G'.add (ρ v) (ρ w)) := by
  unfold PG.add
  by_cases hv : v = w
  · simp only [hv, if_true]; exact h
  · have hv' : ¬ ρ v = ρ w := fun e => hv (hρ _ _ e)
    simp only [hv, hv', if_false, h.adj]
    split
    · exact (h.addv hρ v).addv hρ w
    · exact ((h.addv hρ v).addv hρ w).link hρ v w
theorem Sim.adds {ρ : Int → Int} (hρ : ∀ x y, ρ x = ρ y → x = y) (xs : List (Int × Int)) : ∀ {G G' : PG}, Sim ρ G G' → Sim ρ (G.adds xs) (G'.adds (xs.map fun x => (ρ x.1, ρ x.2))) := by
  induction xs with
  | nil => intro G G' h; exact h
  | cons x xs ih => intro G G' h; exact ih (h.add hρ x.1 x.2)
theorem Sim.errs {ρ : Int → Int} (hρ : ∀ x y, ρ x = ρ y → x = y) (xs : List (Int × Int)) : ∀ {G G' : PG}, Sim ρ G G' → G'.errI (xs.map fun x => (ρ x.1, ρ x.2)) = G.errI xs := by
  have h1 : ∀ (xs : List (Int × Int)) {G G' : PG}, Sim ρ G G' → G'.errs (xs.map fun x => (ρ x.1, ρ x.2)) = G.errs xs := by
    intro xs
    induction xs with
    | nil => intro G G' h; rfl
    | cons x xs ih => intro G G' h; simp only [List.map_cons, PG.errs, h.err hρ, ih (h.add hρ x.1 x.2)]
  intro G G' h
  simp only [PG.errI, h1 xs h]

theorem PG.adj_in {p : Int → Prop} (xs : List (Int × Int)) : ∀ (G : PG), (∀ x ∈ xs, p x.1 ∧ p x.2) → (∀ x y, G.adj x y = true → p x ∧ p y) → ∀ x y, (G.adds xs).adj x y = true → p x ∧ p y := by
  induction xs with
  | nil => intro G _ h; exact h
  | cons e es ih =>
    intro G hx h
    refine ih _ (fun x hm => hx x (by simp [hm])) ?_
    intro x y ha
    have he := hx e (by simp)
    unfold PG.add at ha
    by_cases h1 : e.1 = e.2
    · rw [if_pos h1] at ha; exact h x y ha
    · rw [if_neg h1] at ha
      by_cases h2 : G.adj e.1 e.2 = true
      · rw [if_pos h2] at ha; exact h x y ha
      · rw [if_neg h2] at ha
        simp only [PG.link, PG.addv, Bool.or_eq_true, Bool.and_eq_true, beq_iff_eq] at ha
        rcases ha with (ha | ⟨rfl, rfl⟩) | ⟨rfl, rfl⟩
        · exact h x y ha
        · exact he
        · exact ⟨he.2, he.1⟩

/-- The neighbours under their other names. -/
theorem named_sorted {ρ : Int → Int} (hρ : ∀ x y, ρ x = ρ y → x = y) {G G' : PG} (h : Sim ρ G G') (v : Int) {d d' : List Int} (hd : d.Nodup) (hm : ∀ y, y ∈ d ↔ G.adj v y = true) (hd' : d'.Nodup) (hm' : ∀ y, y ∈ d' ↔ G'.adj (ρ v) y = true) : srt (d.map ρ) = srt d' := by
  apply srt_eq
  have hn : (d.map ρ).Nodup := by
    unfold List.Nodup
    rw [List.pairwise_map]
    exact hd.imp fun hne e => hne (hρ _ _ e)
  refine (List.perm_ext_iff_of_nodup hn hd').2 fun z => ?_
  rw [hm', List.mem_map]
  constructor
  · rintro ⟨y, hy, rfl⟩
    rw [h.adj]
    exact (hm y).1 hy
  · intro hz
    obtain ⟨y, rfl⟩ := h.img v z hz
    rw [h.adj] at hz
    exact ⟨y, (hm y).2 hz, rfl⟩
end Go.Proofs.YtjifdcklmpibpaaDoor
