/- WALKS: BLMerge. -/
import Derived.Test.YtagillnkdaanaaaV
namespace Go.Proofs.Ytagillnkdaanaaa
open Go.RowKit
set_option linter.unusedVariables false
set_option linter.unusedSimpArgs false

set_option maxRecDepth 100000 in
set_option maxHeartbeats 2000000 in
theorem blmerge_any (v1 v2 : Value) (M K n : Nat) (g1 g2 : Nat → Bool) (w : World) (h1 : IsF w v1 M K n g1) (h2 : IsF w v2 M K n g2) :
    Calls Try.prog 8 #[v1, v2] w fun e w' => ∃ v', e = .returned (.tuple #[v', .bool true]) ∧ IsF w' v' M K n (fun k => g1 k || g2 k) ∧ Ch S0 w w' := by
  have hp := h1.pos
  obtain ⟨A1, c1, rfl⟩ := h1.shape
  obtain ⟨A2, c2, rfl⟩ := h2.shape
  obtain ⟨w0, hw0⟩ : ∃ w0, w0 = ((w.alloc (Obj.cells #[Value.int .u64 (M : Nat), .int .u64 (K : Nat), .slice A1 n c1] 27)).alloc (Obj.cells #[Value.int .u64 (M : Nat), .int .u64 (K : Nat), .slice A2 n c2] 27)).alloc (Obj.cells #[Value.int .u64 0, .int .u64 0, .slice none 0 0] 27) := ⟨_, rfl⟩
  have hc : Ch S0 w w0 := by rw [hw0]; exact (((Ch.refl _ _).alloc _).alloc _).alloc _
  have hb2 : Blk w0 (w.heap.size + 1) #[Value.int .u64 (M : Nat), .int .u64 (K : Nat), .slice A2 n c2] := by
    rw [hw0]
    have := (Blk.new (w.alloc (Obj.cells #[Value.int .u64 (M : Nat), .int .u64 (K : Nat), .slice A1 n c1] 27)) #[Value.int .u64 (M : Nat), .int .u64 (K : Nat), .slice A2 n c2] 27).alloc (Obj.cells #[Value.int .u64 0, .int .u64 0, .slice none 0 0] 27)
    simpa using this
  have hr : Blk w0 (w.heap.size + 1 + 1) #[Value.int .u64 0, .int .u64 0, .slice none 0 0] := by
    rw [hw0]
    have := Blk.new ((w.alloc (Obj.cells #[Value.int .u64 (M : Nat), .int .u64 (K : Nat), .slice A1 n c1] 27)).alloc (Obj.cells #[Value.int .u64 (M : Nat), .int .u64 (K : Nat), .slice A2 n c2] 27)) #[Value.int .u64 0, .int .u64 0, .slice none 0 0] 27
    simpa using this
  have HF1 := Lib.hid (h1.keep hc)
  have HF2 := Lib.hid (h2.keep hc)
  have HC := Lib.hid hc
  have HP := Lib.hid hp
  have HB2 := Lib.hid hb2
  have HR := Lib.hid hr
  have hrl := hr.lt
  have HW := Lib.hid hw0
  clear h1 h2 hc hp hb2 hr hw0
  go_enter Try.func8, Try.ntmps8
  go_wp2_with fail
  rw [← HW.out]
  refine (filter_any _ M K n g1 _ HF1.out).mono ?_
  rintro e w1 ⟨f1, b1, s1, rfl, hF, k1, k2, k3, hC1⟩
  have HFl := Lib.hid hF
  have HG2 := Lib.hid (HF2.out.keep hC1)
  have HC1 := Lib.hid (HC.out.trans hC1)
  have HR1 := Lib.hid (HR.out.keep hC1 (fun h => h))
  have hB21 := HB2.out.keep hC1 (fun h => h)
  have y0 := hB21.cell 0
  have y1 := hB21.cell 1
  have y2 := hB21.cell 2
  simp only [List.getElem?_toArray, List.getElem?_cons_zero, List.getElem?_cons_succ] at y0 y1 y2
  have l1 := hF.blk.lt
  have l2 := hF.bs.lt
  clear hF hC1 hB21
  go_wp2_with fail
  refine (filter_any _ M K n g2 _ HG2.out).mono ?_
  rintro e w2 ⟨f2, b2, s2, rfl, hF2, k4, k5, k6, hC2⟩
  have HFm := Lib.hid hF2
  have HFl2 := Lib.hid (HFl.out.keep hC2 (fun h => h) (fun h => h) (fun h => h))
  have HC2 := Lib.hid (HC1.out.trans hC2)
  have HR2 := Lib.hid (HR1.out.keep hC2 (fun h => h))
  clear hF2 hC2 y0 y1 y2
  go_wp2_with fail
  refine (merge_any f1 b1 s1 f2 b2 s2 M K n g1 g2 _ HFl2.out HFm.out HP.out.1 HP.out.2.1 (by omega) (by omega) (by omega) (by omega) (by omega) (by omega)).mono ?_
  rintro e w3 ⟨rfl, hF3, hC3⟩
  have HFl3 := Lib.hid hF3
  have HO3 := Lib.hid hF3.bs.off
  have HC3 := Lib.hid (HC2.out.trans' hC3 (fun k hk hs => by have := HC.out.size; rcases hs with rfl | rfl <;> omega))
  have HR3 := Lib.hid (HR2.out.keep hC3 (fun hs => by rcases hs with hs | hs <;> omega))
  clear hF3 hC3
  go_wp2_with fail
  have r0 := HR3.out.cell 0
  have r1 := HR3.out.cell 1
  have r2 := HR3.out.cell 2
  have q0 := HR3.out.free 0
  have q1 := HR3.out.free 1
  have q2 := HR3.out.free 2
  have hrl3 := HR3.out.lt
  simp only [List.getElem?_toArray, List.getElem?_cons_zero, List.getElem?_cons_succ] at r0 r1 r2
  go_region_held3 (fun _ => True)
    (trivial)
    (first
      | (go_at_call 16
         (with_reducible refine (told_any f1 b1 s1 M K n _ _ (Fl.keep (S := S0) HFl3.out (by first | exact Ch.refl S0 _ | exact (Ch.refl S0 _).drew | exact ((Ch.refl S0 _).drew).drew | exact Ch.drewQ _ _) (fun h => h) (fun h => h) (fun h => h)) HP.out).mono ?_)
         rintro e w4 ⟨s4, c4, rfl, k7, hw4, hC4⟩
         have hCC : Ch S0 w3 w4 := Ch.trans (by first | exact Ch.refl S0 _ | exact (Ch.refl S0 _).drew | exact ((Ch.refl S0 _).drew).drew | exact Ch.drewQ _ _) hC4
         have HCC := Lib.hid hCC
         have k8 : w3.heap.size ≤ s4 := k7
         have HR4 := Lib.hid (HR3.out.keep hCC (fun h => h))
         have HW4 := Lib.hid hw4
         clear r0 r1 r2 q0 q1 q2 hC4 hCC hw4 k7
         have r0 := HR4.out.cell 0
         have r1 := HR4.out.cell 1
         have r2 := HR4.out.cell 2
         have q0 := HR4.out.free 0
         have q1 := HR4.out.free 1
         have q2 := HR4.out.free 2
         simp only [List.getElem?_toArray, List.getElem?_cons_zero, List.getElem?_cons_succ] at r0 r1 r2))
  all_goals
    have hne : w.heap.size + 1 + 1 ≠ s4 := by omega
    go_wp2_with fail
    refine bodyPost_ret (v := .tuple #[.agg #[.int .u64 (M : Nat), .int .u64 (K : Nat), .slice (some ⟨s4, 0, none⟩) n c4], .bool true]) (by simp [results, Try.results8, go_sem, r0, r1, r2, q0, q1, q2]) rfl ⟨_, rfl, ⟨HP.out, HO3.out, _, _, rfl, fun j hj => ⟨s4, 0, rfl, ?_⟩⟩, ?_⟩
    · have hh := HW4.out j hj
      simp only [Nat.zero_add]
      simp [World.cell?_setCell_other, hne, hh]
    · exact ((((HC3.out.trans HCC.out).setCell _ (fun h => absurd h (by simp; omega)) _).setCell _ (fun h => absurd h (by simp; omega)) _).setCell _ (fun h => absurd h (by simp; omega)) _)
end Go.Proofs.Ytagillnkdaanaaa
