import Derived.Test.YtbfcnimebdoagaaFM
import Derived.Deep.CutBlock
import Derived.Deep.Cut
namespace Go.Proofs.Ytbfcnimebdoagaa
open Go.RowKit
set_option linter.unusedVariables false
set_option linter.unusedSimpArgs false

set_option maxHeartbeats 4000000 in
set_option maxRecDepth 100000 in
theorem merge_two (N : List Nat) (s : FS) (a b : Nat) (w : World) (hM : Mem w N s) (hS : Sm N s) (ha : a ∈ N) (hb : b ∈ N) (hab : a ≠ b) (hna : s.nx a ∈ N) (hnb : s.nx b ∈ N) :
    Calls Try.prog 50 #[.pointer (some ⟨a, 0, none⟩), .pointer (some ⟨b, 0, none⟩)] w fun r w' => r = .returned (op (mres s (some a) (some b))) ∧ Mem w' N (mst s (some a) (some b)) ∧ Ch (SN N) w w' := by
  have c1 := (hM a ha).cell 2
  have c2 := (hM b hb).cell 2
  have f1 := (hM a ha).free 2
  obtain ⟨na, hna'⟩ : ∃ x, x = s.nx a := ⟨_, rfl⟩
  obtain ⟨nb, hnb'⟩ : ∃ x, x = s.nx b := ⟨_, rfl⟩
  have M1 := hM.set2 a nb
  have f2 := (M1 nb (hnb' ▸ hnb)).free 3
  have d2 := (M1 nb (hnb' ▸ hnb)).cell 3
  have M2 := M1.set3 nb a
  have f3 := (M2 b hb).free 2
  have d3 := (M2 b hb).cell 2
  have M3 := M2.set2 b na
  have f4 := (M3 na (hna' ▸ hna)).free 3
  have d4 := (M3 na (hna' ▸ hna)).cell 3
  have M4 := M3.set3 na b
  have p1 := (M4 a ha).cell 6
  have p2 := (M4 b hb).cell 6
  have hC : Ch (SN N) w ((((w.setCell ⟨a, 2, none⟩ (.pointer (some ⟨nb, 0, none⟩))).setCell ⟨nb, 3, none⟩ (.pointer (some ⟨a, 0, none⟩))).setCell ⟨b, 2, none⟩ (.pointer (some ⟨na, 0, none⟩))).setCell ⟨na, 3, none⟩ (.pointer (some ⟨b, 0, none⟩))) :=
    Ch.setCell (p := ⟨na, 3, none⟩) (Ch.setCell (p := ⟨b, 2, none⟩) (Ch.setCell (p := ⟨nb, 3, none⟩) (Ch.setCell (p := ⟨a, 2, none⟩) (Ch.refl _ w) (fun _ => ha) _) (fun _ => hnb' ▸ hnb) _) (fun _ => hb) _) (fun _ => hna' ▸ hna) _
  have HM : Hid (Mem _ N (mst s (some a) (some b))) := Lib.hid (by
    have e : mst s (some a) (some b) = { s with nx := upd (upd s.nx a nb) b na, pv := upd (upd s.pv nb a) na b } := by rw [hna', hnb']; rfl
    rw [e]; exact M4)
  have HC := Lib.hid hC
  have HS := Lib.hid (show mres s (some a) (some b) = if s.pr a < s.pr b then some a else some b from rfl)
  have hlt := fl_lt (s.pr a) (s.pr b) (hS a ha) (hS b hb)
  obtain ⟨pa, hpa⟩ : ∃ x, x = s.pr a := ⟨_, rfl⟩
  obtain ⟨pb, hpb⟩ : ∃ x, x = s.pr b := ⟨_, rfl⟩
  simp only [cells, List.getElem?_toArray, List.getElem?_cons_zero, List.getElem?_cons_succ] at c1 c2 p1 p2 d2 d3 d4
  rw [← hna'] at c1
  rw [← hnb'] at c2
  rw [← hpa] at p1 hlt HS
  rw [← hpb] at p2 hlt HS
  clear M1 M2 M3 M4 hM hS hC hna' hnb' hpa hpb hna hnb
  by_cases hc : pa < pb
  · rw [decide_eq_true hc] at hlt
    rw [if_pos hc] at HS
    have HCc := Lib.hid hc
    clear hc
    go_enter Try.func50, Try.ntmps50
    go_wp2_with fail
    go_quiet (fail)
    go_wp2_with fail
    go_ret
    exact ⟨by rw [HS.out]; rfl, HM.out, HC.out.drewN _⟩
  · rw [decide_eq_false hc] at hlt
    rw [if_neg hc] at HS
    have HCc := Lib.hid hc
    clear hc
    go_enter Try.func50, Try.ntmps50
    go_wp2_with fail
    go_quiet (fail)
    go_wp2_with fail
    go_ret
    exact ⟨by rw [HS.out]; rfl, HM.out, HC.out.drewN _⟩
/-- Two rings become one, whichever of them are there. -/
theorem merge_any (N : List Nat) (s : FS) (o1 o2 : Option Nat) (w : World) (hM : Mem w N s) (hS : Sm N s) (h1 : ∀ a, o1 = some a → a ∈ N ∧ s.nx a ∈ N) (h2 : ∀ a, o2 = some a → a ∈ N ∧ s.nx a ∈ N) (hd : ∀ a b, o1 = some a → o2 = some b → a ≠ b) :
    Calls Try.prog 50 #[op o1, op o2] w fun r w' => r = .returned (op (mres s o1 o2)) ∧ Mem w' N (mst s o1 o2) ∧ Ch (SN N) w w' := by
  cases o1 with
  | none =>
    refine (merge_nil o2 w).mono ?_
    rintro r w' ⟨rfl, rfl⟩
    exact ⟨rfl, by rw [show mst s none o2 = s by unfold mst; split <;> simp_all]; exact hM, Ch.refl _ _⟩
  | some a =>
    cases o2 with
    | none =>
      refine (merge_one a w).mono ?_
      rintro r w' ⟨rfl, rfl⟩
      exact ⟨rfl, by rw [show mst s (some a) none = s by unfold mst; split <;> simp_all]; exact hM, Ch.refl _ _⟩
    | some b => exact merge_two N s a b w hM hS (h1 a rfl).1 (h2 b rfl).1 (hd a b rfl rfl) (h1 a rfl).2 (h2 b rfl).2
theorem merge_in (N : List Nat) (s : FS) (o1 : Option Nat) (b : Nat) (w : World) (hM : Mem w N s) (hS : Sm N s) (h1 : ∀ a, o1 = some a → a ∈ N ∧ s.nx a ∈ N) (h2 : b ∈ N ∧ s.nx b ∈ N) (hd : ∀ a, o1 = some a → a ≠ b) :
    Calls Try.prog 50 #[op o1, .pointer (some ⟨b, 0, none⟩)] w fun r w' => r = .returned (op (mres s o1 (some b))) ∧ Mem w' N (mst s o1 (some b)) ∧ Ch (SN N) w w' :=
  merge_any N s o1 (some b) w hM hS h1 (fun a e => by cases e; exact h2) (fun a c e e2 => by cases e2; exact hd a e)
theorem mres_some (s : FS) (o : Option Nat) (b : Nat) : ∃ y, mres s o (some b) = some y ∧ (y = b ∨ o = some y) := by
  rcases mres_or s o b with e | ⟨c, e1, e⟩
  · exact ⟨b, e, Or.inl rfl⟩
  · exact ⟨c, e, Or.inr e1⟩
theorem merge_to (N : List Nat) (s : FS) (o1 : Option Nat) (b y : Nat) (hy : mres s o1 (some b) = some y) (w : World) (hM : Mem w N s) (hS : Sm N s) (h1 : ∀ a, o1 = some a → a ∈ N ∧ s.nx a ∈ N) (h2 : b ∈ N ∧ s.nx b ∈ N) (hd : ∀ a, o1 = some a → a ≠ b) :
    Calls Try.prog 50 #[op o1, .pointer (some ⟨b, 0, none⟩)] w fun r w' => r = .returned (.pointer (some ⟨y, 0, none⟩)) ∧ Mem w' N (mst s o1 (some b)) ∧ Ch (SN N) w w' := by
  refine (merge_in N s o1 b w hM hS h1 h2 hd).mono ?_
  rintro r w' ⟨rfl, h⟩
  exact ⟨by rw [hy]; rfl, h⟩
end Go.Proofs.Ytbfcnimebdoagaa
