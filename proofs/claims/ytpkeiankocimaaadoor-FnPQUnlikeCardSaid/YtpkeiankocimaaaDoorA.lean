/- WALKS: elements in memory, their order, two of them swapped. -/
import Derived.Test.YtpkeiankocimaaaDoorP
import Derived.Test.YtpkeiankocimaaaDoorS
import Derived.Laws.OwnMore
import Derived.Deep.RegionLaw
import Derived.BigRegion
namespace Go.Proofs.YtpkeiankocimaaaDoor
open Go.RowKit
set_option linter.unusedVariables false
set_option linter.unusedSimpArgs false

/-- An element as a value. -/
def en (p : El) : Value := .iface 54 (.agg #[.int .i64 p.1, .int .i64 p.2])
def ev (a : List El) : List Value := a.map en
@[simp] theorem ev_length (a : List El) : (ev a).length = a.length := by simp [ev]
theorem ev_at {a : List El} {j : Nat} (h : j < a.length) : (ev a)[j]? = some (en (a.getD j (0, 0))) := by simp [ev, List.getD, h]
theorem ev_one (a : List El) : ∀ u ∈ ev a, u.oneCell' = true := by
  intro u hu
  simp only [ev, List.mem_map] at hu
  obtain ⟨x, _, rfl⟩ := hu
  rfl
theorem ev_swap (a : List El) (i j : Nat) : ev (swapL a i j) = ((ev a).set i (en (a.getD j (0, 0)))).set j (en (a.getD i (0, 0))) := by
  simp [ev, swapL, List.map_set]
def ord (x y : Int) : Int := if x < y then -1 else if y < x then 1 else 0
theorem ord_neg {x y : Int} : ord x y < 0 ↔ x < y := by
  unfold ord
  split
  · simp; assumption
  · split <;> simp <;> omega
theorem ord_pos {x y : Int} : 0 < ord x y ↔ y < x := by
  unfold ord
  split
  · simp; omega
  · split <;> simp <;> omega

theorem order_any (x y : Int) (w : World) : Calls Tryd.prog 46 #[.int .i64 x, .int .i64 y] w fun r w' => r = .returned (.int .i64 (ord x y)) ∧ w' = w := by
  by_cases h1 : x < y
  · have HO : Hid (ord x y = -1) := Lib.hid (by simp [ord, h1])
    go_enter Tryd.func46, Tryd.ntmps46
    go_wp2_with fail
    go_ret
    exact ⟨by rw [HO.out]; rfl, rfl⟩
  · by_cases h2 : y < x
    · have HO : Hid (ord x y = 1) := Lib.hid (by simp [ord, h1, h2])
      go_enter Tryd.func46, Tryd.ntmps46
      go_wp2_with fail
      go_ret
      exact ⟨by rw [HO.out]; rfl, rfl⟩
    · have HO : Hid (ord x y = 0) := Lib.hid (by simp [ord, h1, h2])
      go_enter Tryd.func46, Tryd.ntmps46
      go_wp2_with fail
      go_ret
      exact ⟨by rw [HO.out]; rfl, rfl⟩

theorem compare_any (p q : El) (w : World) : Calls Tryd.prog 45 #[.agg #[.int .i64 p.1, .int .i64 p.2], en q] w fun r w' => r = .returned (.int .i64 (ord p.1 q.1)) ∧ Ch S0 w w' := by
  have hB := Blk.new w #[.int .i64 p.1, .int .i64 p.2] 54
  have c0 := hB.cell 0
  simp only [List.getElem?_toArray, List.getElem?_cons_zero] at c0
  have hty : ∀ w, (Instr.typeAssert (.iface 54 (.agg #[.int .i64 q.1, .int .i64 q.2])) 63 54 false).run Tryd.prog w = .ok (.agg #[.int .i64 q.1, .int .i64 q.2]) w := fun _ => by kernel_rfl
  have hf1 : ∀ w, (Instr.field 54 (.agg #[.int .i64 q.1, .int .i64 q.2]) 0).run Tryd.prog w = .ok (.agg #[.int .i64 q.1, .int .i64 q.2]) w := fun _ => by kernel_rfl
  have hf2 : ∀ w, (Instr.field 38 (.agg #[.int .i64 q.1, .int .i64 q.2]) 0).run Tryd.prog w = .ok (.int .i64 q.1) w := fun _ => by kernel_rfl
  unfold en
  clear hB
  go_enter Tryd.func45, Tryd.ntmps45
  go_wp2_with fail
  go_region_law (go_simp; go_at_call 46; (with_reducible refine (order_any p.1 q.1 _).mono ?_); rintro r w4 ⟨rfl, rfl⟩)
  all_goals go_wp2_with fail
  all_goals go_ret
  all_goals exact ⟨rfl, ((Ch.refl _ _).alloc _).drew⟩

/-- The places of a queue: its own block, the row of its elements. -/
structure QM (w : World) (base qb n cap g : Nat) (vm vd vp : Value) (a : List El) : Prop where
  blk : Blk w qb #[.slice (some ⟨g, 0, none⟩) n cap, vm, vd, vp]
  row : w.ownsRow base 63 1 (.slice (some ⟨g, 0, none⟩) n cap) n (ev a)
  ne : g ≠ qb
theorem QM.drew {w : World} {base qb n cap g : Nat} {vm vd vp : Value} {a : List El} (h : QM w base qb n cap g vm vd vp a) : QM w.drew base qb n cap g vm vd vp a := ⟨h.blk, h.row, h.ne⟩
theorem QM.len {w : World} {base qb n cap g : Nat} {vm vd vp : Value} {a : List El} (h : QM w base qb n cap g vm vd vp a) : a.length = n := by
  have := h.row.1
  simpa using this

set_option maxHeartbeats 8000000 in
set_option maxRecDepth 100000 in
theorem swap_any (base qb n cap g i j : Nat) (vm vd vp : Value) (a : List El) (w : World) (h : QM w base qb n cap g vm vd vp a) (hi : i < n) (hj : j < n) :
    Calls Tryd.prog 28 #[.pointer (some ⟨qb, 0, none⟩), .int .i64 i, .int .i64 j] w fun r w' => r = .returned (.tuple #[]) ∧ QM w' base qb n cap g vm vd vp (swapL a i j) ∧ Ch (fun k => k = g) w w' := by
  have hl := h.len
  have ci := (h.row.cellAt i (by omega)).trans (ev_at (by omega))
  have cj := (h.row.cellAt j (by omega)).trans (ev_at (by omega))
  have fi := h.row.frozenAt i
  have fj := h.row.frozenAt j
  have q0 := h.blk.cell 0
  simp only [List.getElem?_toArray, List.getElem?_cons_zero] at q0
  obtain ⟨vi, hvi⟩ : ∃ x, en (a.getD i (0, 0)) = .iface 54 x := ⟨_, rfl⟩
  obtain ⟨vj, hvj⟩ : ∃ x, en (a.getD j (0, 0)) = .iface 54 x := ⟨_, rfl⟩
  rw [hvi] at ci
  rw [hvj] at cj
  have hi0 : (0 : Int) ≤ (i : Nat) := by omega
  have hj0 : (0 : Int) ≤ (j : Nat) := by omega
  have hin : (i : Int) < (n : Nat) := by omega
  have hjn : (j : Int) < (n : Nat) := by omega
  have h1 := h.row.stored i (.iface 54 vj)
  have h2 := h1.1.stored j (.iface 54 vi)
  have f2 := h1.1.frozenAt j
  have c2 := h1.1.cellAt j (by omega)
  have HF : Hid (QM ((w.setCell ⟨g, i, none⟩ (.iface 54 vj)).setCell ⟨g, j, none⟩ (.iface 54 vi)) base qb n cap g vm vd vp (swapL a i j)) := Lib.hid ⟨(h.blk.setOther h.ne _).setOther h.ne _, by rw [ev_swap, hvi, hvj]; exact h2.1, h.ne⟩
  have HC : Hid (Ch (fun k => k = g) w ((w.setCell ⟨g, i, none⟩ (.iface 54 vj)).setCell ⟨g, j, none⟩ (.iface 54 vi))) := Lib.hid (((Ch.refl (fun k => k = g) w).setCell ⟨g, i, none⟩ (fun _ => rfl) (.iface 54 vj)).setCell ⟨g, j, none⟩ (fun _ => rfl) (.iface 54 vi))
  obtain ⟨y2, hy2⟩ : ∃ y, ((ev a).set i (Value.iface 54 vj))[j]? = some y := ⟨((ev a).set i (Value.iface 54 vj))[j]'(by simp; omega), by simp [hl, hj]⟩
  rw [hy2] at c2
  clear h h1 h2 hvi hvj hy2
  go_enter Tryd.func28, Tryd.ntmps28
  go_wp2_with fail
  go_region
  all_goals go_wp2
  refine bodyPost_end (results_none rfl _ _ _) rfl ?_
  exact ⟨rfl, HF.out.drew, HC.out.drew⟩
end Go.Proofs.YtpkeiankocimaaaDoor
