/- WALKS: BLClearAll. -/
import Derived.Test.YtagillnkdaanaaaY
namespace Go.Proofs.Ytagillnkdaanaaa
open Go.RowKit
set_option linter.unusedVariables false
set_option linter.unusedSimpArgs false

set_option maxRecDepth 100000 in
theorem fclear_any (fb b sb M K n : Nat) (g : Nat → Bool) (w : World) (h : Fl w fb b sb M K n g) (hn : n ≤ 1000) :
    Calls Try.prog 19 #[.pointer (some ⟨fb, 0, none⟩)] w fun e w' => e = .returned (.pointer (some ⟨fb, 0, none⟩)) ∧ Fl w' fb b sb M K n (fun _ => false) ∧ Ch (S2 b sb) w w' := by
  have x2 := h.blk.cell 2
  simp only [List.getElem?_toArray, List.getElem?_cons_zero, List.getElem?_cons_succ] at x2
  have H := Lib.hid h
  clear h
  go_enter Try.func19, Try.ntmps19
  go_wp2_with fail
  refine (clearAll_any b sb (64 * n) g _ H.out.bs (by omega)).mono ?_
  rintro e w1 ⟨rfl, hB, hC⟩
  have hne := H.out.ne
  have HF := Lib.hid (show Fl w1 fb b sb M K n (fun _ => false) from ⟨H.out.blk.keep hC (fun hs => by rcases hs with hs | hs; exact hne.1 hs; exact hne.2 hs), hB, hne⟩)
  have HC := Lib.hid hC
  clear hB hC hne x2
  go_wp2_with fail
  go_ret
  exact ⟨rfl, HF.out, HC.out⟩

set_option maxRecDepth 100000 in
set_option maxHeartbeats 1000000 in
theorem blclear_any (v : Value) (M K n : Nat) (g : Nat → Bool) (w : World) (h : IsF w v M K n g) :
    Calls Try.prog 11 #[v] w fun e w' => ∃ v', e = .returned v' ∧ IsF w' v' M K n (fun _ => false) ∧ Ch S0 w w' := by
  have hp := h.pos
  obtain ⟨A, cap, rfl⟩ := h.shape
  have hc : Ch S0 w ((w.alloc (Obj.cells #[Value.int .u64 (M : Nat), .int .u64 (K : Nat), .slice A n cap] 27)).alloc (Obj.cells #[Value.int .u64 0, .int .u64 0, .slice none 0 0] 27)) := ((Ch.refl _ _).alloc _).alloc _
  have hr : Blk ((w.alloc (Obj.cells #[Value.int .u64 (M : Nat), .int .u64 (K : Nat), .slice A n cap] 27)).alloc (Obj.cells #[Value.int .u64 0, .int .u64 0, .slice none 0 0] 27)) (w.heap.size + 1) #[Value.int .u64 0, .int .u64 0, .slice none 0 0] := by
    have := Blk.new (w.alloc (Obj.cells #[Value.int .u64 (M : Nat), .int .u64 (K : Nat), .slice A n cap] 27)) #[Value.int .u64 0, .int .u64 0, .slice none 0 0] 27
    simpa using this
  have HF := Lib.hid (h.keep hc)
  have HC := Lib.hid hc
  have HP := Lib.hid hp
  have HR := Lib.hid hr
  clear h hc hp hr
  go_enter Try.func11, Try.ntmps11
  go_wp2_with fail
  refine (filter_any _ M K n g _ HF.out).mono ?_
  rintro e w1 ⟨fb, b, sb, rfl, hF, k1, k2, k3, hC1⟩
  have HFl := Lib.hid hF
  have HC1 := Lib.hid (HC.out.trans hC1)
  have HR1 := Lib.hid (HR.out.keep hC1 (fun h => h))
  have hrl := HR.out.lt
  have k2' : w.heap.size + 1 < b := by omega
  have k3' : w.heap.size + 1 < sb := by omega
  clear hF hC1 k1 k2 k3 hrl
  go_wp2_with fail
  refine (fclear_any fb b sb M K n g _ HFl.out HP.out.2.1).mono ?_
  rintro e w2 ⟨rfl, hF2, hC2⟩
  have HFl2 := Lib.hid hF2
  have HC2 := Lib.hid (HC1.out.trans' hC2 (fun k hk hs => by rcases hs with rfl | rfl <;> omega))
  have HR2 := Lib.hid (HR1.out.keep hC2 (fun hs => by rcases hs with hs | hs <;> omega))

  have hrl2 := HR2.out.lt
  clear hF2 hC2
  go_wp2_with fail
  refine (told_any fb b sb M K n _ _ HFl2.out HP.out).mono ?_
  rintro e w3 ⟨s1, c, rfl, k4, hw3, hC3⟩
  have hne : w.heap.size + 1 ≠ s1 := by omega
  have hBR := HR2.out.keep hC3 (fun h => h)
  have b0 := hBR.cell 0
  have b1 := hBR.cell 1
  have b2 := hBR.cell 2
  have g0 := hBR.free 0
  have g1 := hBR.free 1
  have g2 := hBR.free 2
  simp only [List.getElem?_toArray, List.getElem?_cons_zero, List.getElem?_cons_succ] at b0 b1 b2
  have HW3 := Lib.hid hw3
  have HC3 := Lib.hid (HC2.out.trans hC3)
  clear hw3 hC3 hBR
  go_wp2_with fail
  refine bodyPost_ret (v := .agg #[.int .u64 (M : Nat), .int .u64 (K : Nat), .slice (some ⟨s1, 0, none⟩) n c]) (by simp [results, Try.results11, go_sem, b0, b1, b2, g0, g1, g2]) rfl ⟨_, rfl, ⟨HP.out, fun _ _ => rfl, _, _, rfl, fun j hj => ⟨s1, 0, rfl, ?_⟩⟩, ?_⟩
  · rw [World.cell?_setCell_other _ _ _ _ (by intro e; injection e; omega), World.cell?_setCell_other _ _ _ _ (by intro e; injection e; omega), World.cell?_setCell_other _ _ _ _ (by intro e; injection e; omega), Nat.zero_add]
    exact HW3.out j hj
  · exact ((HC3.out.setCell _ (fun h => absurd h (by simp)) _).setCell _ (fun h => absurd h (by simp)) _).setCell _ (fun h => absurd h (by simp)) _
end Go.Proofs.Ytagillnkdaanaaa
