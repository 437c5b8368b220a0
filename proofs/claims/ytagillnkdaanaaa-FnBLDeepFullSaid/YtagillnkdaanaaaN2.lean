/- WALKS: BLClearAll and BLNew once more, with where the words of the result lie. -/
import Derived.Test.YtagillnkdaanaaaZ
import Derived.Test.YtagillnkdaanaaaN1
import Derived.Test.YtagillnkdaanaaaRG
namespace Go.Proofs.Ytagillnkdaanaaa
open Go.RowKit
set_option linter.unusedVariables false
set_option linter.unusedSimpArgs false

/-- The words of a filter lie in a block from B on. -/
def Newer (B : Nat) (v : Value) : Prop := ∀ x y q n c, v = .agg #[x, y, .slice (some q) n c] → B ≤ q.block
theorem Newer.mk {B : Nat} {x y : Value} {q : Addr} {n c : Nat} (h : B ≤ q.block) : Newer B (.agg #[x, y, .slice (some q) n c]) := by
  intro x' y' q' n' c' e
  simp only [Value.agg.injEq, Array.mk.injEq, List.cons.injEq, Value.slice.injEq, Option.some.injEq, and_true] at e
  obtain ⟨_, _, rfl, _⟩ := e
  exact h

/-- A filter as plain data hangs on the block of its words. -/
theorem IsF.fresh {w w2 : World} {v : Value} {M K n : Nat} {g : Nat → Bool} (B0 : Nat) (h : IsF w2 v M K n g) (hq : Newer w.heap.size v) : Fresh B0 w w2 (fun w' => IsF w' v M K n g) := by
  obtain ⟨h1, h2, A, cap, rfl, h3⟩ := h
  refine ⟨fun b => ∃ q, A = some q ∧ q.block = b ∧ q.block < w2.heap.size, fun b ⟨q, e, hb, hl⟩ => ?_, fun w' hs hb => ⟨h1, h2, A, cap, rfl, fun j hj => ?_⟩⟩
  · subst e hb
    exact ⟨hl, Or.inr (hq _ _ q _ _ rfl)⟩
  · obtain ⟨q, o, e, hc⟩ := h3 j hj
    refine ⟨q, o, e, ?_⟩
    have hl := World.block_lt_of_cell? w2 _ hc
    rw [World.cell?_of_block (w := w2) (hb q ⟨_, e, rfl, hl⟩)]
    exact hc

set_option maxRecDepth 100000 in
set_option maxHeartbeats 1000000 in
theorem blclear_new (v : Value) (M K n : Nat) (g : Nat → Bool) (w : World) (h : IsF w v M K n g) :
    Calls Try.prog 11 #[v] w fun e w' => ∃ v', e = .returned v' ∧ (IsF w' v' M K n (fun _ => false) ∧ Newer w.heap.size v') ∧ Ch S0 w w' := by
  have hp := h.pos
  obtain ⟨A, cap, rfl⟩ := h.shape
  have hc : Ch S0 w ((w.alloc (Obj.cells #[Value.int .u64 (M : Nat), .int .u64 (K : Nat), .slice A n cap] 27)).alloc (Obj.cells #[Value.int .u64 0, .int .u64 0, .slice none 0 0] 27)) := ((Ch.refl _ _).alloc _).alloc _
  have hr : Blk ((w.alloc (Obj.cells #[Value.int .u64 (M : Nat), .int .u64 (K : Nat), .slice A n cap] 27)).alloc (Obj.cells #[Value.int .u64 0, .int .u64 0, .slice none 0 0] 27)) (w.heap.size + 1) #[Value.int .u64 0, .int .u64 0, .slice none 0 0] := by
    have := Blk.new (w.alloc (Obj.cells #[Value.int .u64 (M : Nat), .int .u64 (K : Nat), .slice A n cap] 27)) #[Value.int .u64 0, .int .u64 0, .slice none 0 0] 27
    simpa using this
  have HF := Lib.hid (h.keep hc)
  have HC := Lib.hid hc
  have HP := Lib.hid hp
  have HR := Lib.hid hr
  clear h hc hp hr
  go_enter Try.func11, Try.ntmps11
  go_wp2_with fail
  refine (filter_any _ M K n g _ HF.out).mono ?_
  rintro e w1 ⟨fb, b, sb, rfl, hF, k1, k2, k3, hC1⟩
  have HFl := Lib.hid hF
  have HC1 := Lib.hid (HC.out.trans hC1)
  have HR1 := Lib.hid (HR.out.keep hC1 (fun h => h))
  have hrl := HR.out.lt
  have k2' : w.heap.size + 1 < b := by omega
  have k3' : w.heap.size + 1 < sb := by omega
  clear hF hC1 k1 k2 k3 hrl
  go_wp2_with fail
  refine (fclear_any fb b sb M K n g _ HFl.out HP.out.2.1).mono ?_
  rintro e w2 ⟨rfl, hF2, hC2⟩
  have HFl2 := Lib.hid hF2
  have HC2 := Lib.hid (HC1.out.trans' hC2 (fun k hk hs => by rcases hs with rfl | rfl <;> omega))
  have HR2 := Lib.hid (HR1.out.keep hC2 (fun hs => by rcases hs with hs | hs <;> omega))

  have hrl2 := HR2.out.lt
  clear hF2 hC2
  go_wp2_with fail
  refine (told_any fb b sb M K n _ _ HFl2.out HP.out).mono ?_
  rintro e w3 ⟨s1, c, rfl, k4, hw3, hC3⟩
  have hne : w.heap.size + 1 ≠ s1 := by omega
  have hBR := HR2.out.keep hC3 (fun h => h)
  have b0 := hBR.cell 0
  have b1 := hBR.cell 1
  have b2 := hBR.cell 2
  have g0 := hBR.free 0
  have g1 := hBR.free 1
  have g2 := hBR.free 2
  simp only [List.getElem?_toArray, List.getElem?_cons_zero, List.getElem?_cons_succ] at b0 b1 b2
  have HW3 := Lib.hid hw3
  have HC3 := Lib.hid (HC2.out.trans hC3)
  clear hw3 hC3 hBR
  go_wp2_with fail
  refine bodyPost_ret (v := .agg #[.int .u64 (M : Nat), .int .u64 (K : Nat), .slice (some ⟨s1, 0, none⟩) n c]) (by simp [results, Try.results11, go_sem, b0, b1, b2, g0, g1, g2]) rfl ⟨_, rfl, ⟨⟨HP.out, fun _ _ => rfl, _, _, rfl, fun j hj => ⟨s1, 0, rfl, ?_⟩⟩, Newer.mk (show w.heap.size ≤ s1 by have := HC.out.size; omega)⟩, ?_⟩
  · rw [World.cell?_setCell_other _ _ _ _ (by intro e; injection e; omega), World.cell?_setCell_other _ _ _ _ (by intro e; injection e; omega), World.cell?_setCell_other _ _ _ _ (by intro e; injection e; omega), Nat.zero_add]
    exact HW3.out j hj
  · exact ((HC3.out.setCell _ (fun h => absurd h (by simp)) _).setCell _ (fun h => absurd h (by simp)) _).setCell _ (fun h => absurd h (by simp)) _


set_option maxRecDepth 100000 in
set_option maxHeartbeats 2000000 in
/-- BLNew: no bit is set. -/
theorem blnew_new (M K : Nat) (w : World) (h1 : 0 < M ∧ M ≤ 1000) (h2 : 0 < K ∧ K ≤ 8) :
    Calls Try.prog 12 #[.int .u64 M, .int .u64 K] w fun e w' => ∃ v, e = .returned v ∧ (IsF w' v M K ((M + 63) / 64) (fun _ => false) ∧ Newer w.heap.size v) ∧ Ch S0 w w' := by
  obtain ⟨n, hn⟩ : ∃ n, n = (M + 63) / 64 := ⟨_, rfl⟩
  rw [← hn]
  have hp : 0 < n ∧ n ≤ 1000 ∧ 0 < M ∧ M ≤ 64 * n ∧ 0 < K ∧ K ≤ 8 := by omega
  have hL : nw M = n := hn.symm
  have HP := Lib.hid hp
  have HL := Lib.hid hL
  have HR := Lib.hid (Blk.new w #[Value.int .u64 0, .int .u64 0, .slice none 0 0] 27)
  have HC0 := Lib.hid ((Ch.refl S0 w).alloc (Obj.cells #[Value.int .u64 0, .int .u64 0, .slice none 0 0] 27))
  clear hp hL hn
  go_enter Try.func12, Try.ntmps12
  go_wp2_with fail
  refine (bnew_any M K _ h1 h2).mono ?_
  rintro e w1 ⟨fb, b, sb, rfl, hB, hS, hC⟩
  have HB := Lib.hid hB
  have HS := Lib.hid hS
  have HC1 := Lib.hid (HC0.out.trans hC)
  have HR1 := Lib.hid (HR.out.keep hC (fun h => h))
  clear hB hS hC
  go_wp2_with fail
  refine (told_len fb b sb M K n M _ _ HL.out HB.out HS.out HP.out).mono ?_
  rintro e w2 ⟨s1, c, rfl, k1, hw, hC⟩
  have HW := Lib.hid hw
  have HC2 := Lib.hid (HC1.out.trans hC)
  have hBR := HR1.out.keep hC (fun h => h)
  have b0 := hBR.cell 0
  have b1 := hBR.cell 1
  have b2 := hBR.cell 2
  have g0 := hBR.free 0
  have g1 := hBR.free 1
  have g2 := hBR.free 2
  have hlt := HR1.out.lt
  simp only [List.getElem?_toArray, List.getElem?_cons_zero, List.getElem?_cons_succ] at b0 b1 b2
  have hs1 : w.heap.size ≠ s1 := by omega
  clear hw hC hBR
  go_wp2_with fail
  refine bodyPost_ret (v := .agg #[.int .u64 (M : Nat), .int .u64 (K : Nat), .slice (some ⟨s1, 0, none⟩) n c]) (by simp [results, Try.results12, go_sem, b0, b1, b2, g0, g1, g2]) rfl ⟨_, rfl, ⟨⟨HP.out, fun _ _ => rfl, _, _, rfl, fun j hj => ⟨s1, 0, rfl, ?_⟩⟩, Newer.mk (show w.heap.size ≤ s1 by have := HC1.out.size; omega)⟩, ?_⟩
  · have hh := HW.out j hj
    simp only [Nat.zero_add]
    simp [World.cell?_setCell_other, hs1, hh]
  · exact ((HC2.out.setCell _ (fun h => absurd h (Nat.lt_irrefl _)) _).setCell _ (fun h => absurd h (Nat.lt_irrefl _)) _).setCell _ (fun h => absurd h (Nat.lt_irrefl _)) _


end Go.Proofs.Ytagillnkdaanaaa
