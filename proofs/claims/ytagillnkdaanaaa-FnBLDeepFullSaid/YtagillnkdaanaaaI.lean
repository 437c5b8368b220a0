/- WALKS: BLTest, BLAdd. -/
import Derived.Test.YtagillnkdaanaaaG
namespace Go.Proofs.Ytagillnkdaanaaa
open Go.RowKit
set_option linter.unusedVariables false
set_option linter.unusedSimpArgs false

theorem IsF.shape {w : World} {v : Value} {M K n : Nat} {g : Nat → Bool} (h : IsF w v M K n g) : ∃ A cap, v = .agg #[.int .u64 M, .int .u64 K, .slice A n cap] := by
  obtain ⟨_, _, A, cap, h2, _⟩ := h
  exact ⟨A, cap, h2⟩

set_option maxRecDepth 100000 in
set_option maxHeartbeats 1000000 in
theorem bltest_any (v vd : Value) (M K n nd : Nat) (g : Nat → Bool) (f : Nat → Int) (loc : Nat → Nat) (w : World) (h : IsF w v M K n g) (hd : Dat w vd nd f) (hl : IsLoc nd f M loc) :
    Calls Try.prog 9 #[v, vd] w fun e w' => e = .returned (.bool (allTo g loc K)) ∧ Ch S0 w w' := by
  have hp := h.pos
  obtain ⟨A, cap, rfl⟩ := h.shape
  obtain ⟨Ad, capd, rfl⟩ : ∃ A cap, vd = .slice A nd cap := by obtain ⟨_, A, cap, h1, _⟩ := hd; exact ⟨A, cap, h1⟩
  have hc : Ch S0 w (w.alloc (Obj.cells #[Value.int .u64 (M : Nat), .int .u64 (K : Nat), .slice A n cap] 27)) := (Ch.refl _ _).alloc _
  have HF := Lib.hid (h.keep hc)
  have HD := Lib.hid (hd.keep hc)
  have HL := Lib.hid hl
  have HC := Lib.hid hc
  have HP := Lib.hid hp
  clear h hd hl hc hp
  go_enter Try.func9, Try.ntmps9
  go_wp2_with fail
  refine (filter_any _ M K n g _ HF.out).mono ?_
  rintro e w1 ⟨fb, b, sb, rfl, hF, k1, k2, k3, hC1⟩
  have HFl := Lib.hid hF
  have HD1 := Lib.hid (HD.out.keep hC1)
  have HC1 := Lib.hid (HC.out.trans hC1)
  clear hF hC1
  go_wp2_with fail
  refine (ftest_any fb b sb M K n nd g f loc _ _ HFl.out HP.out HD1.out HL.out).mono ?_
  rintro e w2 ⟨rfl, hC2⟩
  have HC2 := Lib.hid (HC1.out.trans hC2)
  clear hC2
  go_wp2_with fail
  go_ret
  exact ⟨rfl, HC2.out⟩

set_option maxRecDepth 100000 in
set_option maxHeartbeats 1000000 in
theorem bladd_any (v vd : Value) (M K n nd : Nat) (g : Nat → Bool) (f : Nat → Int) (loc : Nat → Nat) (w : World) (h : IsF w v M K n g) (hd : Dat w vd nd f) (hl : IsLoc nd f M loc) :
    Calls Try.prog 10 #[v, vd] w fun e w' => ∃ v', e = .returned v' ∧ IsF w' v' M K n (addTo g loc K) ∧ Ch S0 w w' := by
  have hp := h.pos
  obtain ⟨A, cap, rfl⟩ := h.shape
  obtain ⟨Ad, capd, rfl⟩ : ∃ A cap, vd = .slice A nd cap := by obtain ⟨_, A, cap, h1, _⟩ := hd; exact ⟨A, cap, h1⟩
  have hc : Ch S0 w ((w.alloc (Obj.cells #[Value.int .u64 (M : Nat), .int .u64 (K : Nat), .slice A n cap] 27)).alloc (Obj.cells #[Value.int .u64 0, .int .u64 0, .slice none 0 0] 27)) := ((Ch.refl _ _).alloc _).alloc _
  have hr : Blk ((w.alloc (Obj.cells #[Value.int .u64 (M : Nat), .int .u64 (K : Nat), .slice A n cap] 27)).alloc (Obj.cells #[Value.int .u64 0, .int .u64 0, .slice none 0 0] 27)) (w.heap.size + 1) #[Value.int .u64 0, .int .u64 0, .slice none 0 0] := by
    have := Blk.new (w.alloc (Obj.cells #[Value.int .u64 (M : Nat), .int .u64 (K : Nat), .slice A n cap] 27)) #[Value.int .u64 0, .int .u64 0, .slice none 0 0] 27
    simpa using this
  have HF := Lib.hid (h.keep hc)
  have HD := Lib.hid (hd.keep hc)
  have HL := Lib.hid hl
  have HC := Lib.hid hc
  have HP := Lib.hid hp
  have HR := Lib.hid hr
  clear h hd hl hc hp hr
  go_enter Try.func10, Try.ntmps10
  go_wp2_with fail
  refine (filter_any _ M K n g _ HF.out).mono ?_
  rintro e w1 ⟨fb, b, sb, rfl, hF, k1, k2, k3, hC1⟩
  have HFl := Lib.hid hF
  have HD1 := Lib.hid (HD.out.keep hC1)
  have HC1 := Lib.hid (HC.out.trans hC1)
  have HR1 := Lib.hid (HR.out.keep hC1 (fun h => h))
  have hrl := HR.out.lt
  have k2' : w.heap.size + 1 < b := by omega
  have k3' : w.heap.size + 1 < sb := by omega
  clear hF hC1 k1 k2 k3 hrl
  go_wp2_with fail
  refine (fadd_any fb b sb M K n nd g f loc _ _ HFl.out HP.out HD1.out HL.out).mono ?_
  rintro e w2 ⟨rfl, hF2, hC2⟩
  have HFl2 := Lib.hid hF2
  have HC2 := Lib.hid (HC1.out.trans' hC2 (fun k hk hs => by rcases hs with rfl | rfl <;> omega))
  have HR2 := Lib.hid (HR1.out.keep hC2 (fun hs => by rcases hs with hs | hs <;> omega))
  have HO2 := Lib.hid hF2.bs.off
  have hrl2 := HR2.out.lt
  clear hF2 hC2
  go_wp2_with fail
  refine (told_any fb b sb M K n _ _ HFl2.out HP.out).mono ?_
  rintro e w3 ⟨s1, c, rfl, k4, hw3, hC3⟩
  have hne : w.heap.size + 1 ≠ s1 := by omega
  have hBR := HR2.out.keep hC3 (fun h => h)
  have b0 := hBR.cell 0
  have b1 := hBR.cell 1
  have b2 := hBR.cell 2
  have g0 := hBR.free 0
  have g1 := hBR.free 1
  have g2 := hBR.free 2
  simp only [List.getElem?_toArray, List.getElem?_cons_zero, List.getElem?_cons_succ] at b0 b1 b2
  have HW3 := Lib.hid hw3
  have HC3 := Lib.hid (HC2.out.trans hC3)
  clear hw3 hC3 hBR
  go_wp2_with fail
  refine bodyPost_ret (v := .agg #[.int .u64 (M : Nat), .int .u64 (K : Nat), .slice (some ⟨s1, 0, none⟩) n c]) (by simp [results, Try.results10, go_sem, b0, b1, b2, g0, g1, g2]) rfl ⟨_, rfl, ⟨HP.out, HO2.out, _, _, rfl, fun j hj => ⟨s1, 0, rfl, ?_⟩⟩, ?_⟩
  · rw [World.cell?_setCell_other _ _ _ _ (by intro e; injection e; omega), World.cell?_setCell_other _ _ _ _ (by intro e; injection e; omega), World.cell?_setCell_other _ _ _ _ (by intro e; injection e; omega), Nat.zero_add]
    exact HW3.out j hj
  · exact ((HC3.out.setCell _ (fun h => absurd h (by simp)) _).setCell _ (fun h => absurd h (by simp)) _).setCell _ (fun h => absurd h (by simp)) _
end Go.Proofs.Ytagillnkdaanaaa
