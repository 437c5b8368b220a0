/- WALKS: BLEqual. -/
import Derived.Test.YtagillnkdaanaaaZa
namespace Go.Proofs.Ytagillnkdaanaaa
open Go.RowKit
set_option linter.unusedVariables false
set_option linter.unusedSimpArgs false

set_option maxRecDepth 100000 in
set_option maxHeartbeats 2000000 in
theorem blequal_true (v1 v2 : Value) (M K n : Nat) (g : Nat → Bool) (w : World) (h1 : IsF w v1 M K n g) (h2 : IsF w v2 M K n g) :
    Calls Try.prog 13 #[v1, v2] w fun e w' => e = .returned (.bool true) ∧ Ch S0 w w' := by
  have hp := h1.pos
  obtain ⟨A1, c1, rfl⟩ := h1.shape
  obtain ⟨A2, c2, rfl⟩ := h2.shape
  obtain ⟨w0, hw0⟩ : ∃ w0, w0 = (w.alloc (Obj.cells #[Value.int .u64 (M : Nat), .int .u64 (K : Nat), .slice A1 n c1] 27)).alloc (Obj.cells #[Value.int .u64 (M : Nat), .int .u64 (K : Nat), .slice A2 n c2] 27) := ⟨_, rfl⟩
  have hc : Ch S0 w w0 := by rw [hw0]; exact ((Ch.refl _ _).alloc _).alloc _
  have hb1 : Blk w0 w.heap.size #[Value.int .u64 (M : Nat), .int .u64 (K : Nat), .slice A1 n c1] := by
    rw [hw0]
    exact (Blk.new _ _ _).alloc _
  have hb2 : Blk w0 (w.heap.size + 1) #[Value.int .u64 (M : Nat), .int .u64 (K : Nat), .slice A2 n c2] := by
    rw [hw0]
    have := Blk.new (w.alloc (Obj.cells #[Value.int .u64 (M : Nat), .int .u64 (K : Nat), .slice A1 n c1] 27)) #[Value.int .u64 (M : Nat), .int .u64 (K : Nat), .slice A2 n c2] 27
    simpa using this
  have HF1 := Lib.hid (h1.keep hc)
  have HF2 := Lib.hid (h2.keep hc)
  have HC := Lib.hid hc
  have HP := Lib.hid hp
  have HB1 := Lib.hid hb1
  have HB2 := Lib.hid hb2
  have HW := Lib.hid hw0
  clear h1 h2 hc hp hb1 hb2 hw0
  go_enter Try.func13, Try.ntmps13
  go_wp2_with fail
  rw [← HW.out]
  have x0 := HB1.out.cell 0
  have x1 := HB1.out.cell 1
  have x2 := HB1.out.cell 2
  have y0 := HB2.out.cell 0
  have y1 := HB2.out.cell 1
  have y2 := HB2.out.cell 2
  simp only [List.getElem?_toArray, List.getElem?_cons_zero, List.getElem?_cons_succ] at x0 x1 x2 y0 y1 y2
  go_region_held3 (fun w' => w'.cell? ⟨w.heap.size, 0, none⟩ = some (.int .u64 (M : Nat)) ∧ w'.cell? ⟨w.heap.size, 1, none⟩ = some (.int .u64 (K : Nat)) ∧ w'.cell? ⟨w.heap.size, 2, none⟩ = some (.slice A1 n c1) ∧ w'.cell? ⟨w.heap.size + 1, 0, none⟩ = some (.int .u64 (M : Nat)) ∧ w'.cell? ⟨w.heap.size + 1, 1, none⟩ = some (.int .u64 (K : Nat)) ∧ w'.cell? ⟨w.heap.size + 1, 2, none⟩ = some (.slice A2 n c2))
    (first | ((try dsimp only); (repeat' apply And.intro) <;> assumption) | (go_keep; done))
    (first
      | (go_at_call 14
         (with_reducible refine (filter_any (.agg #[.int .u64 (M : Nat), .int .u64 (K : Nat), .slice A1 n c1]) M K n g _ (HF1.out.keep (by first | exact Ch.refl S0 _ | exact (Ch.refl S0 _).drew | exact ((Ch.refl S0 _).drew).drew | exact Ch.drewQ _ _))).mono ?_)
         rintro e w1 ⟨f1, b1, s1, rfl, hF, k1, k2, k3, hC1⟩
         have hCC : Ch S0 w0 w1 := Ch.trans (by first | exact Ch.refl S0 _ | exact (Ch.refl S0 _).drew | exact ((Ch.refl S0 _).drew).drew | exact Ch.drewQ _ _) hC1
         have HCA := Lib.hid hCC
         have HFa := Lib.hid hF
         have q1 := HB1.out.keep hCC (fun h => h)
         have q2 := HB2.out.keep hCC (fun h => h)
         clear x0 x1 x2 y0 y1 y2
         have x0 := q1.cell 0
         have x1 := q1.cell 1
         have x2 := q1.cell 2
         have y0 := q2.cell 0
         have y1 := q2.cell 1
         have y2 := q2.cell 2
         simp only [List.getElem?_toArray, List.getElem?_cons_zero, List.getElem?_cons_succ] at x0 x1 x2 y0 y1 y2
         clear q1 q2
         clear hF hC1 hCC k1 k2 k3)
      | (go_at_call 14
         (with_reducible refine (filter_any (.agg #[.int .u64 (M : Nat), .int .u64 (K : Nat), .slice A2 n c2]) M K n g _ (HF2.out.keep (HCA.out.trans (by first | exact Ch.refl S0 _ | exact (Ch.refl S0 _).drew | exact ((Ch.refl S0 _).drew).drew | exact Ch.drewQ _ _)))).mono ?_)
         rintro e w2 ⟨f2, b2, s2, rfl, hF, k1, k2, k3, hC1⟩
         have hCD : Ch S0 w1 w2 := Ch.trans (by first | exact Ch.refl S0 _ | exact (Ch.refl S0 _).drew | exact ((Ch.refl S0 _).drew).drew | exact Ch.drewQ _ _) hC1
         have hCC : Ch S0 w0 w2 := HCA.out.trans hCD
         have HCB := Lib.hid hCC
         have HFb := Lib.hid hF
         have HFa2 := Lib.hid (HFa.out.keep hCD (fun h => h) (fun h => h) (fun h => h))
         have q1 := HB1.out.keep hCC (fun h => h)
         have q2 := HB2.out.keep hCC (fun h => h)
         clear x0 x1 x2 y0 y1 y2
         have x0 := q1.cell 0
         have x1 := q1.cell 1
         have x2 := q1.cell 2
         have y0 := q2.cell 0
         have y1 := q2.cell 1
         have y2 := q2.cell 2
         simp only [List.getElem?_toArray, List.getElem?_cons_zero, List.getElem?_cons_succ] at x0 x1 x2 y0 y1 y2
         clear q1 q2
         clear hF hC1 hCC hCD k1 k2 k3)
      | (go_at_call 21
         (with_reducible refine (fequal_true f1 b1 s1 f2 b2 s2 M K n g _ (Fl.keep (S := S0) HFa2.out (by first | exact Ch.refl S0 _ | exact (Ch.refl S0 _).drew | exact ((Ch.refl S0 _).drew).drew | exact Ch.drewQ _ _) (fun h => h) (fun h => h) (fun h => h)) (Fl.keep (S := S0) HFb.out (by first | exact Ch.refl S0 _ | exact (Ch.refl S0 _).drew | exact ((Ch.refl S0 _).drew).drew | exact Ch.drewQ _ _) (fun h => h) (fun h => h) (fun h => h)) HP.out.2.1).mono ?_)
         rintro e w3 ⟨rfl, hC1⟩
         have hCC : Ch S0 w0 w3 := HCB.out.trans (Ch.trans (by first | exact Ch.refl S0 _ | exact (Ch.refl S0 _).drew | exact ((Ch.refl S0 _).drew).drew | exact Ch.drewQ _ _) hC1)
         have HCC := Lib.hid hCC
         have q1 := HB1.out.keep hCC (fun h => h)
         have q2 := HB2.out.keep hCC (fun h => h)
         clear x0 x1 x2 y0 y1 y2
         have x0 := q1.cell 0
         have x1 := q1.cell 1
         have x2 := q1.cell 2
         have y0 := q2.cell 0
         have y1 := q2.cell 1
         have y2 := q2.cell 2
         simp only [List.getElem?_toArray, List.getElem?_cons_zero, List.getElem?_cons_succ] at x0 x1 x2 y0 y1 y2
         clear q1 q2
         clear hC1 hCC))
  all_goals
    go_wp2_with fail
    go_ret
    exact ⟨rfl, HC.out.trans (HCC.out.trans (by first | exact Ch.refl S0 _ | exact (Ch.refl S0 _).drew | exact ((Ch.refl S0 _).drew).drew | exact Ch.drewQ _ _))⟩
end Go.Proofs.Ytagillnkdaanaaa
