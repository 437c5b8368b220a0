/- WALKS: the thin package's functions on two bitsets. -/
import Derived.Test.YtgnhmgnpmbmjcaaWh
import Derived.Deep.RegionHeld3
namespace Go.Proofs.Ytgnhmgnpmbmjcaa
open Go.RowKit
set_option linter.unusedVariables false
set_option linter.unusedSimpArgs false

set_option maxRecDepth 100000 in
set_option maxHeartbeats 2000000 in
theorem bsunion_any {base1 base2 : Nat} (v1 v2 : Value) (L1 L2 : Nat) (g1 g2 : Nat → Bool) (w : World) (h1 : IsB base1 w v1 L1 g1) (h2 : IsB base2 w v2 L2 g2) :
    Calls Try.prog 18 #[v1, v2] w fun e w' => ∃ v', e = .returned v' ∧ IsB w.heap.size w' v' (max L1 L2) (fun k => g1 k || g2 k) ∧ Ch S0 w w' := by
  obtain ⟨A1, n1, k1, rfl⟩ := h1.shape
  obtain ⟨A2, n2, k2, rfl⟩ := h2.shape
  have hL1 := h1.small
  have hL2 := h2.small
  obtain ⟨L, hLe⟩ : ∃ x, x = max L1 L2 := ⟨_, rfl⟩
  have hL : L ≤ 20000 := by omega
  have hch : Ch S0 w (((w.alloc (Obj.cells #[.int .u64 L1, .slice A1 n1 k1] 25)).alloc (Obj.cells #[.int .u64 L2, .slice A2 n2 k2] 25)).alloc (Obj.cells #[Value.int .u64 0, Value.slice none 0 0] 25)) := (((Ch.refl _ _).alloc _).alloc _).alloc _
  have hr1 : Blk (((w.alloc (Obj.cells #[.int .u64 L1, .slice A1 n1 k1] 25)).alloc (Obj.cells #[.int .u64 L2, .slice A2 n2 k2] 25)).alloc (Obj.cells #[Value.int .u64 0, Value.slice none 0 0] 25)) w.heap.size #[.int .u64 L1, .slice A1 n1 k1] := ((Blk.new _ _ _).alloc _).alloc _
  have hr2 : Blk (((w.alloc (Obj.cells #[.int .u64 L1, .slice A1 n1 k1] 25)).alloc (Obj.cells #[.int .u64 L2, .slice A2 n2 k2] 25)).alloc (Obj.cells #[Value.int .u64 0, Value.slice none 0 0] 25)) (w.heap.size + 1) #[.int .u64 L2, .slice A2 n2 k2] := by
    have := (Blk.new (w.alloc (Obj.cells #[.int .u64 L1, .slice A1 n1 k1] 25)) #[.int .u64 L2, .slice A2 n2 k2] 25).alloc (Obj.cells #[Value.int .u64 0, Value.slice none 0 0] 25)
    simpa using this
  have hr3 : Blk (((w.alloc (Obj.cells #[.int .u64 L1, .slice A1 n1 k1] 25)).alloc (Obj.cells #[.int .u64 L2, .slice A2 n2 k2] 25)).alloc (Obj.cells #[Value.int .u64 0, Value.slice none 0 0] 25)) (w.heap.size + 1 + 1) #[Value.int .u64 0, Value.slice none 0 0] := by
    have := Blk.new ((w.alloc (Obj.cells #[.int .u64 L1, .slice A1 n1 k1] 25)).alloc (Obj.cells #[.int .u64 L2, .slice A2 n2 k2] 25)) #[Value.int .u64 0, Value.slice none 0 0] 25
    simpa using this
  have H1 := Lib.hid (h1.keep hch)
  have H2 := Lib.hid (h2.keep hch)
  have HR1 := Lib.hid hr1
  have HR2 := Lib.hid hr2
  have HR3 := Lib.hid hr3
  have HC := Lib.hid hch
  have HE := Lib.hid hLe
  clear h1 h2 hch hr1 hr2 hr3 hLe
  go_enter Try.func18, Try.ntmps18
  go_wp2_with fail
  generalize (((w.alloc (Obj.cells #[.int .u64 L1, .slice A1 n1 k1] 25)).alloc (Obj.cells #[.int .u64 L2, .slice A2 n2 k2] 25)).alloc (Obj.cells #[Value.int .u64 0, Value.slice none 0 0] 25)) = w0 at *
  have x0 := HR1.out.cell 0
  have x1 := HR1.out.cell 1
  have y0 := HR2.out.cell 0
  have y1 := HR2.out.cell 1
  have z0 := HR3.out.cell 0
  have z1 := HR3.out.cell 1
  have f0 := HR3.out.free 0
  have f1 := HR3.out.free 1
  have hsz := HR3.out.lt
  simp only [List.getElem?_toArray, List.getElem?_cons_zero, List.getElem?_cons_succ] at x0 x1 y0 y1 z0 z1
  go_region_held3 (fun w' => w'.cell? ⟨w.heap.size, 0, none⟩ = some (.int .u64 L1) ∧ w'.cell? ⟨w.heap.size, 1, none⟩ = some (.slice A1 n1 k1) ∧ w'.cell? ⟨w.heap.size + 1, 0, none⟩ = some (.int .u64 L2) ∧ w'.cell? ⟨w.heap.size + 1, 1, none⟩ = some (.slice A2 n2 k2))
    (first | (go_keep; done) | (refine ⟨?_, ?_, ?_, ?_⟩ <;> assumption) | ((try dsimp only); (repeat' apply And.intro) <;> (rw [World.cell?_setCell_other _ _ _ _ (by intro e; injection e; omega), World.cell?_setCell_other _ _ _ _ (by intro e; injection e; omega)]; assumption)))
    (first
      | (go_at_call 42
         (with_reducible refine (set64_any (.agg #[.int .u64 L1, .slice A1 n1 k1]) L1 g1 _ (H1.out.keep (by first | exact Ch.refl _ _ | exact (Ch.refl _ _).drew | exact (Ch.refl _ _).alloc _ | exact ((Ch.refl _ _).alloc _).alloc _ | exact (((Ch.refl _ _).alloc _).alloc _).alloc _ | exact ((((Ch.refl _ _).alloc _).alloc _).alloc _).drew))).mono ?_)
         rintro e w1 ⟨b1, s1, rfl, hB1, hb1, hs1, hC⟩
         have hCC : Ch S0 w0 w1 := Ch.trans (by first | exact Ch.refl _ _ | exact (Ch.refl _ _).drew | exact (Ch.refl _ _).alloc _ | exact ((Ch.refl _ _).alloc _).alloc _ | exact (((Ch.refl _ _).alloc _).alloc _).alloc _ | exact ((((Ch.refl _ _).alloc _).alloc _).alloc _).drew) hC
         have HC1 := Lib.hid (HC.out.trans hCC)
         have HB1 := Lib.hid hB1
         have H2b := Lib.hid (H2.out.keep hCC)
         have HR1b := Lib.hid (HR1.out.keep hCC (fun h => h))
         have HR2b := Lib.hid (HR2.out.keep hCC (fun h => h))
         have HR3b := Lib.hid (HR3.out.keep hCC (fun h => h))
         clear x0 x1 y0 y1 z0 z1 f0 f1 hC hCC hB1
         have x0 := HR1b.out.cell 0
         have x1 := HR1b.out.cell 1
         have y0 := HR2b.out.cell 0
         have y1 := HR2b.out.cell 1
         simp only [List.getElem?_toArray, List.getElem?_cons_zero, List.getElem?_cons_succ] at x0 x1 y0 y1)
      | (go_at_call 42
         (with_reducible refine (set64_any (.agg #[.int .u64 L2, .slice A2 n2 k2]) L2 g2 _ (H2b.out.keep (by first | exact Ch.refl _ _ | exact (Ch.refl _ _).drew | exact (Ch.refl _ _).alloc _ | exact ((Ch.refl _ _).alloc _).alloc _ | exact (((Ch.refl _ _).alloc _).alloc _).alloc _ | exact ((((Ch.refl _ _).alloc _).alloc _).alloc _).drew))).mono ?_)
         rintro e w2 ⟨b2, s2, rfl, hB2, hb2, hs2, hC⟩
         have hCC : Ch S0 w1 w2 := Ch.trans (by first | exact Ch.refl _ _ | exact (Ch.refl _ _).drew | exact (Ch.refl _ _).alloc _ | exact ((Ch.refl _ _).alloc _).alloc _ | exact (((Ch.refl _ _).alloc _).alloc _).alloc _ | exact ((((Ch.refl _ _).alloc _).alloc _).alloc _).drew) hC
         have HC2 := Lib.hid (HC1.out.trans hCC)
         have HB2 := Lib.hid hB2
         have HB1b := Lib.hid (HB1.out.keep hCC (fun h => h) (fun h => h))
         have HR1c := Lib.hid (HR1b.out.keep hCC (fun h => h))
         have HR2c := Lib.hid (HR2b.out.keep hCC (fun h => h))
         have HR3c := Lib.hid (HR3b.out.keep hCC (fun h => h))
         clear x0 x1 y0 y1 hC hCC hB2
         have x0 := HR1c.out.cell 0
         have x1 := HR1c.out.cell 1
         have y0 := HR2c.out.cell 0
         have y1 := HR2c.out.cell 1
         simp only [List.getElem?_toArray, List.getElem?_cons_zero, List.getElem?_cons_succ] at x0 x1 y0 y1)
      | (go_at_call 47
         (with_reducible refine (union_any b1 s1 b2 s2 L1 L2 g1 g2 _ (BS.keep (S := S0) HB1b.out (by first | exact Ch.refl _ _ | exact (Ch.refl _ _).drew | exact (Ch.refl _ _).alloc _ | exact ((Ch.refl _ _).alloc _).alloc _ | exact (((Ch.refl _ _).alloc _).alloc _).alloc _ | exact ((((Ch.refl _ _).alloc _).alloc _).alloc _).drew) (fun h => h) (fun h => h)) (BS.keep (S := S0) HB2.out (by first | exact Ch.refl _ _ | exact (Ch.refl _ _).drew | exact (Ch.refl _ _).alloc _ | exact ((Ch.refl _ _).alloc _).alloc _ | exact (((Ch.refl _ _).alloc _).alloc _).alloc _ | exact ((((Ch.refl _ _).alloc _).alloc _).alloc _).drew) (fun h => h) (fun h => h)) (by omega) (by omega)).mono ?_)
         rintro e w3 ⟨b3, s3, rfl, hB3, hb3, hs3, hC⟩
         have hCC : Ch S0 w2 w3 := Ch.trans (by first | exact Ch.refl _ _ | exact (Ch.refl _ _).drew | exact (Ch.refl _ _).alloc _ | exact ((Ch.refl _ _).alloc _).alloc _ | exact (((Ch.refl _ _).alloc _).alloc _).alloc _ | exact ((((Ch.refl _ _).alloc _).alloc _).alloc _).drew) hC
         have HC3 := Lib.hid (HC2.out.trans hCC)
         rw [← HE.out] at hB3
         have HB3 := Lib.hid hB3
         have HR1d := Lib.hid (HR1c.out.keep hCC (fun h => h))
         have HR2d := Lib.hid (HR2c.out.keep hCC (fun h => h))
         have HR3d := Lib.hid (HR3c.out.keep hCC (fun h => h))
         clear x0 x1 y0 y1 hC hCC hB3
         have x0 := HR1d.out.cell 0
         have x1 := HR1d.out.cell 1
         have y0 := HR2d.out.cell 0
         have y1 := HR2d.out.cell 1
         have hsz3 := HR3d.out.lt
         simp only [List.getElem?_toArray, List.getElem?_cons_zero, List.getElem?_cons_succ] at x0 x1 y0 y1)
      | (go_at_call 44
         (with_reducible refine (said64_any b3 s3 L _ _ (BS.keep (S := S0) HB3.out (by first | exact Ch.refl _ _ | exact (Ch.refl _ _).drew | exact (Ch.refl _ _).alloc _ | exact ((Ch.refl _ _).alloc _).alloc _ | exact (((Ch.refl _ _).alloc _).alloc _).alloc _ | exact ((((Ch.refl _ _).alloc _).alloc _).alloc _).drew) (fun h => h) (fun h => h)) hL).mono ?_)
         rintro e w4 ⟨v4, rfl, hV, hC⟩
         obtain ⟨A', n', cap', rfl⟩ := hV.shape
         have hCC : Ch S0 w3 w4 := Ch.trans (by first | exact Ch.refl _ _ | exact (Ch.refl _ _).drew | exact (Ch.refl _ _).alloc _ | exact ((Ch.refl _ _).alloc _).alloc _ | exact (((Ch.refl _ _).alloc _).alloc _).alloc _ | exact ((((Ch.refl _ _).alloc _).alloc _).alloc _).drew) hC
         have HC4 := Lib.hid (HC3.out.trans hCC)
         have HR1e := Lib.hid (HR1d.out.keep hCC (fun h => h))
         have HR2e := Lib.hid (HR2d.out.keep hCC (fun h => h))
         have HR3e := Lib.hid (HR3d.out.keep hCC (fun h => h))
         have hsz3b := hsz3
         try simp only [World.size_drew] at hV
         have HV := Lib.hid hV
         clear x0 x1 y0 y1 hC hCC hV
         have x0 := HR1e.out.cell 0
         have x1 := HR1e.out.cell 1
         have y0 := HR2e.out.cell 0
         have y1 := HR2e.out.cell 1
         have z0 := HR3e.out.cell 0
         have z1 := HR3e.out.cell 1
         have f0 := HR3e.out.free 0
         have f1 := HR3e.out.free 1
         simp only [List.getElem?_toArray, List.getElem?_cons_zero, List.getElem?_cons_succ] at x0 x1 y0 y1 z0 z1))
  have hfin := (HV.out.set (a := ⟨w.heap.size + 1 + 1, 0, none⟩) (by simp; omega) (.int .u64 (L : Nat))).set (a := ⟨w.heap.size + 1 + 1, 1, none⟩) (by simp; omega) (.slice A' n' cap')
  have hch3 := (HC4.out.setCell ⟨w.heap.size + 1 + 1, 0, none⟩ (by simp; omega) (.int .u64 (L : Nat))).setCell ⟨w.heap.size + 1 + 1, 1, none⟩ (by simp; omega) (.slice A' n' cap')
  have hlast : w.heap.size ≤ w3.heap.size := by omega
  have HF := Lib.hid (hfin.mono (base' := w.heap.size) (by first | exact hlast | (simp; exact hlast)))
  have HCF := Lib.hid hch3
  have g0 : ((w4.setCell ⟨w.heap.size + 1 + 1, 0, none⟩ (.int .u64 (L : Nat))).setCell ⟨w.heap.size + 1 + 1, 1, none⟩ (.slice A' n' cap')).cell? ⟨w.heap.size + 1 + 1, 0, none⟩ = some (.int .u64 (L : Nat)) := by simp [go_sem, z0, z1]
  have g1 : ((w4.setCell ⟨w.heap.size + 1 + 1, 0, none⟩ (.int .u64 (L : Nat))).setCell ⟨w.heap.size + 1 + 1, 1, none⟩ (.slice A' n' cap')).cell? ⟨w.heap.size + 1 + 1, 1, none⟩ = some (.slice A' n' cap') := by simp [go_sem, z0, z1]
  clear hfin hch3
  go_wp2
  exact bodyPost_ret (v := .agg #[.int .u64 (L : Nat), .slice A' n' cap']) (by simp [results, Try.results18, go_sem, g0, g1]) rfl ⟨_, rfl, by rw [← HE.out]; exact HF.out, HCF.out⟩

set_option maxRecDepth 100000 in
set_option maxHeartbeats 2000000 in
theorem bssymdiff_any {base1 base2 : Nat} (v1 v2 : Value) (L1 L2 : Nat) (g1 g2 : Nat → Bool) (w : World) (h1 : IsB base1 w v1 L1 g1) (h2 : IsB base2 w v2 L2 g2) :
    Calls Try.prog 19 #[v1, v2] w fun e w' => ∃ v', e = .returned v' ∧ IsB w.heap.size w' v' (max L1 L2) (fun k => g1 k ^^ g2 k) ∧ Ch S0 w w' := by
  obtain ⟨A1, n1, k1, rfl⟩ := h1.shape
  obtain ⟨A2, n2, k2, rfl⟩ := h2.shape
  have hL1 := h1.small
  have hL2 := h2.small
  obtain ⟨L, hLe⟩ : ∃ x, x = max L1 L2 := ⟨_, rfl⟩
  have hL : L ≤ 20000 := by omega
  have hch : Ch S0 w (((w.alloc (Obj.cells #[.int .u64 L1, .slice A1 n1 k1] 25)).alloc (Obj.cells #[.int .u64 L2, .slice A2 n2 k2] 25)).alloc (Obj.cells #[Value.int .u64 0, Value.slice none 0 0] 25)) := (((Ch.refl _ _).alloc _).alloc _).alloc _
  have hr1 : Blk (((w.alloc (Obj.cells #[.int .u64 L1, .slice A1 n1 k1] 25)).alloc (Obj.cells #[.int .u64 L2, .slice A2 n2 k2] 25)).alloc (Obj.cells #[Value.int .u64 0, Value.slice none 0 0] 25)) w.heap.size #[.int .u64 L1, .slice A1 n1 k1] := ((Blk.new _ _ _).alloc _).alloc _
  have hr2 : Blk (((w.alloc (Obj.cells #[.int .u64 L1, .slice A1 n1 k1] 25)).alloc (Obj.cells #[.int .u64 L2, .slice A2 n2 k2] 25)).alloc (Obj.cells #[Value.int .u64 0, Value.slice none 0 0] 25)) (w.heap.size + 1) #[.int .u64 L2, .slice A2 n2 k2] := by
    have := (Blk.new (w.alloc (Obj.cells #[.int .u64 L1, .slice A1 n1 k1] 25)) #[.int .u64 L2, .slice A2 n2 k2] 25).alloc (Obj.cells #[Value.int .u64 0, Value.slice none 0 0] 25)
    simpa using this
  have hr3 : Blk (((w.alloc (Obj.cells #[.int .u64 L1, .slice A1 n1 k1] 25)).alloc (Obj.cells #[.int .u64 L2, .slice A2 n2 k2] 25)).alloc (Obj.cells #[Value.int .u64 0, Value.slice none 0 0] 25)) (w.heap.size + 1 + 1) #[Value.int .u64 0, Value.slice none 0 0] := by
    have := Blk.new ((w.alloc (Obj.cells #[.int .u64 L1, .slice A1 n1 k1] 25)).alloc (Obj.cells #[.int .u64 L2, .slice A2 n2 k2] 25)) #[Value.int .u64 0, Value.slice none 0 0] 25
    simpa using this
  have H1 := Lib.hid (h1.keep hch)
  have H2 := Lib.hid (h2.keep hch)
  have HR1 := Lib.hid hr1
  have HR2 := Lib.hid hr2
  have HR3 := Lib.hid hr3
  have HC := Lib.hid hch
  have HE := Lib.hid hLe
  clear h1 h2 hch hr1 hr2 hr3 hLe
  go_enter Try.func19, Try.ntmps19
  go_wp2_with fail
  generalize (((w.alloc (Obj.cells #[.int .u64 L1, .slice A1 n1 k1] 25)).alloc (Obj.cells #[.int .u64 L2, .slice A2 n2 k2] 25)).alloc (Obj.cells #[Value.int .u64 0, Value.slice none 0 0] 25)) = w0 at *
  have x0 := HR1.out.cell 0
  have x1 := HR1.out.cell 1
  have y0 := HR2.out.cell 0
  have y1 := HR2.out.cell 1
  have z0 := HR3.out.cell 0
  have z1 := HR3.out.cell 1
  have f0 := HR3.out.free 0
  have f1 := HR3.out.free 1
  have hsz := HR3.out.lt
  simp only [List.getElem?_toArray, List.getElem?_cons_zero, List.getElem?_cons_succ] at x0 x1 y0 y1 z0 z1
  go_region_held3 (fun w' => w'.cell? ⟨w.heap.size, 0, none⟩ = some (.int .u64 L1) ∧ w'.cell? ⟨w.heap.size, 1, none⟩ = some (.slice A1 n1 k1) ∧ w'.cell? ⟨w.heap.size + 1, 0, none⟩ = some (.int .u64 L2) ∧ w'.cell? ⟨w.heap.size + 1, 1, none⟩ = some (.slice A2 n2 k2))
    (first | (go_keep; done) | (refine ⟨?_, ?_, ?_, ?_⟩ <;> assumption) | ((try dsimp only); (repeat' apply And.intro) <;> (rw [World.cell?_setCell_other _ _ _ _ (by intro e; injection e; omega), World.cell?_setCell_other _ _ _ _ (by intro e; injection e; omega)]; assumption)))
    (first
      | (go_at_call 42
         (with_reducible refine (set64_any (.agg #[.int .u64 L1, .slice A1 n1 k1]) L1 g1 _ (H1.out.keep (by first | exact Ch.refl _ _ | exact (Ch.refl _ _).drew | exact (Ch.refl _ _).alloc _ | exact ((Ch.refl _ _).alloc _).alloc _ | exact (((Ch.refl _ _).alloc _).alloc _).alloc _ | exact ((((Ch.refl _ _).alloc _).alloc _).alloc _).drew))).mono ?_)
         rintro e w1 ⟨b1, s1, rfl, hB1, hb1, hs1, hC⟩
         have hCC : Ch S0 w0 w1 := Ch.trans (by first | exact Ch.refl _ _ | exact (Ch.refl _ _).drew | exact (Ch.refl _ _).alloc _ | exact ((Ch.refl _ _).alloc _).alloc _ | exact (((Ch.refl _ _).alloc _).alloc _).alloc _ | exact ((((Ch.refl _ _).alloc _).alloc _).alloc _).drew) hC
         have HC1 := Lib.hid (HC.out.trans hCC)
         have HB1 := Lib.hid hB1
         have H2b := Lib.hid (H2.out.keep hCC)
         have HR1b := Lib.hid (HR1.out.keep hCC (fun h => h))
         have HR2b := Lib.hid (HR2.out.keep hCC (fun h => h))
         have HR3b := Lib.hid (HR3.out.keep hCC (fun h => h))
         clear x0 x1 y0 y1 z0 z1 f0 f1 hC hCC hB1
         have x0 := HR1b.out.cell 0
         have x1 := HR1b.out.cell 1
         have y0 := HR2b.out.cell 0
         have y1 := HR2b.out.cell 1
         simp only [List.getElem?_toArray, List.getElem?_cons_zero, List.getElem?_cons_succ] at x0 x1 y0 y1)
      | (go_at_call 42
         (with_reducible refine (set64_any (.agg #[.int .u64 L2, .slice A2 n2 k2]) L2 g2 _ (H2b.out.keep (by first | exact Ch.refl _ _ | exact (Ch.refl _ _).drew | exact (Ch.refl _ _).alloc _ | exact ((Ch.refl _ _).alloc _).alloc _ | exact (((Ch.refl _ _).alloc _).alloc _).alloc _ | exact ((((Ch.refl _ _).alloc _).alloc _).alloc _).drew))).mono ?_)
         rintro e w2 ⟨b2, s2, rfl, hB2, hb2, hs2, hC⟩
         have hCC : Ch S0 w1 w2 := Ch.trans (by first | exact Ch.refl _ _ | exact (Ch.refl _ _).drew | exact (Ch.refl _ _).alloc _ | exact ((Ch.refl _ _).alloc _).alloc _ | exact (((Ch.refl _ _).alloc _).alloc _).alloc _ | exact ((((Ch.refl _ _).alloc _).alloc _).alloc _).drew) hC
         have HC2 := Lib.hid (HC1.out.trans hCC)
         have HB2 := Lib.hid hB2
         have HB1b := Lib.hid (HB1.out.keep hCC (fun h => h) (fun h => h))
         have HR1c := Lib.hid (HR1b.out.keep hCC (fun h => h))
         have HR2c := Lib.hid (HR2b.out.keep hCC (fun h => h))
         have HR3c := Lib.hid (HR3b.out.keep hCC (fun h => h))
         clear x0 x1 y0 y1 hC hCC hB2
         have x0 := HR1c.out.cell 0
         have x1 := HR1c.out.cell 1
         have y0 := HR2c.out.cell 0
         have y1 := HR2c.out.cell 1
         simp only [List.getElem?_toArray, List.getElem?_cons_zero, List.getElem?_cons_succ] at x0 x1 y0 y1)
      | (go_at_call 48
         (with_reducible refine (symdiff_any b1 s1 b2 s2 L1 L2 g1 g2 _ (BS.keep (S := S0) HB1b.out (by first | exact Ch.refl _ _ | exact (Ch.refl _ _).drew | exact (Ch.refl _ _).alloc _ | exact ((Ch.refl _ _).alloc _).alloc _ | exact (((Ch.refl _ _).alloc _).alloc _).alloc _ | exact ((((Ch.refl _ _).alloc _).alloc _).alloc _).drew) (fun h => h) (fun h => h)) (BS.keep (S := S0) HB2.out (by first | exact Ch.refl _ _ | exact (Ch.refl _ _).drew | exact (Ch.refl _ _).alloc _ | exact ((Ch.refl _ _).alloc _).alloc _ | exact (((Ch.refl _ _).alloc _).alloc _).alloc _ | exact ((((Ch.refl _ _).alloc _).alloc _).alloc _).drew) (fun h => h) (fun h => h)) (by omega) (by omega)).mono ?_)
         rintro e w3 ⟨b3, s3, rfl, hB3, hb3, hs3, hC⟩
         have hCC : Ch S0 w2 w3 := Ch.trans (by first | exact Ch.refl _ _ | exact (Ch.refl _ _).drew | exact (Ch.refl _ _).alloc _ | exact ((Ch.refl _ _).alloc _).alloc _ | exact (((Ch.refl _ _).alloc _).alloc _).alloc _ | exact ((((Ch.refl _ _).alloc _).alloc _).alloc _).drew) hC
         have HC3 := Lib.hid (HC2.out.trans hCC)
         rw [← HE.out] at hB3
         have HB3 := Lib.hid hB3
         have HR1d := Lib.hid (HR1c.out.keep hCC (fun h => h))
         have HR2d := Lib.hid (HR2c.out.keep hCC (fun h => h))
         have HR3d := Lib.hid (HR3c.out.keep hCC (fun h => h))
         clear x0 x1 y0 y1 hC hCC hB3
         have x0 := HR1d.out.cell 0
         have x1 := HR1d.out.cell 1
         have y0 := HR2d.out.cell 0
         have y1 := HR2d.out.cell 1
         have hsz3 := HR3d.out.lt
         simp only [List.getElem?_toArray, List.getElem?_cons_zero, List.getElem?_cons_succ] at x0 x1 y0 y1)
      | (go_at_call 44
         (with_reducible refine (said64_any b3 s3 L _ _ (BS.keep (S := S0) HB3.out (by first | exact Ch.refl _ _ | exact (Ch.refl _ _).drew | exact (Ch.refl _ _).alloc _ | exact ((Ch.refl _ _).alloc _).alloc _ | exact (((Ch.refl _ _).alloc _).alloc _).alloc _ | exact ((((Ch.refl _ _).alloc _).alloc _).alloc _).drew) (fun h => h) (fun h => h)) hL).mono ?_)
         rintro e w4 ⟨v4, rfl, hV, hC⟩
         obtain ⟨A', n', cap', rfl⟩ := hV.shape
         have hCC : Ch S0 w3 w4 := Ch.trans (by first | exact Ch.refl _ _ | exact (Ch.refl _ _).drew | exact (Ch.refl _ _).alloc _ | exact ((Ch.refl _ _).alloc _).alloc _ | exact (((Ch.refl _ _).alloc _).alloc _).alloc _ | exact ((((Ch.refl _ _).alloc _).alloc _).alloc _).drew) hC
         have HC4 := Lib.hid (HC3.out.trans hCC)
         have HR1e := Lib.hid (HR1d.out.keep hCC (fun h => h))
         have HR2e := Lib.hid (HR2d.out.keep hCC (fun h => h))
         have HR3e := Lib.hid (HR3d.out.keep hCC (fun h => h))
         have hsz3b := hsz3
         try simp only [World.size_drew] at hV
         have HV := Lib.hid hV
         clear x0 x1 y0 y1 hC hCC hV
         have x0 := HR1e.out.cell 0
         have x1 := HR1e.out.cell 1
         have y0 := HR2e.out.cell 0
         have y1 := HR2e.out.cell 1
         have z0 := HR3e.out.cell 0
         have z1 := HR3e.out.cell 1
         have f0 := HR3e.out.free 0
         have f1 := HR3e.out.free 1
         simp only [List.getElem?_toArray, List.getElem?_cons_zero, List.getElem?_cons_succ] at x0 x1 y0 y1 z0 z1))
  have hfin := (HV.out.set (a := ⟨w.heap.size + 1 + 1, 0, none⟩) (by simp; omega) (.int .u64 (L : Nat))).set (a := ⟨w.heap.size + 1 + 1, 1, none⟩) (by simp; omega) (.slice A' n' cap')
  have hch3 := (HC4.out.setCell ⟨w.heap.size + 1 + 1, 0, none⟩ (by simp; omega) (.int .u64 (L : Nat))).setCell ⟨w.heap.size + 1 + 1, 1, none⟩ (by simp; omega) (.slice A' n' cap')
  have hlast : w.heap.size ≤ w3.heap.size := by omega
  have HF := Lib.hid (hfin.mono (base' := w.heap.size) (by first | exact hlast | (simp; exact hlast)))
  have HCF := Lib.hid hch3
  have g0 : ((w4.setCell ⟨w.heap.size + 1 + 1, 0, none⟩ (.int .u64 (L : Nat))).setCell ⟨w.heap.size + 1 + 1, 1, none⟩ (.slice A' n' cap')).cell? ⟨w.heap.size + 1 + 1, 0, none⟩ = some (.int .u64 (L : Nat)) := by simp [go_sem, z0, z1]
  have g1 : ((w4.setCell ⟨w.heap.size + 1 + 1, 0, none⟩ (.int .u64 (L : Nat))).setCell ⟨w.heap.size + 1 + 1, 1, none⟩ (.slice A' n' cap')).cell? ⟨w.heap.size + 1 + 1, 1, none⟩ = some (.slice A' n' cap') := by simp [go_sem, z0, z1]
  clear hfin hch3
  go_wp2
  exact bodyPost_ret (v := .agg #[.int .u64 (L : Nat), .slice A' n' cap']) (by simp [results, Try.results19, go_sem, g0, g1]) rfl ⟨_, rfl, by rw [← HE.out]; exact HF.out, HCF.out⟩

set_option maxRecDepth 100000 in
set_option maxHeartbeats 2000000 in
theorem bsinter_any {base1 base2 : Nat} (v1 v2 : Value) (L1 L2 : Nat) (g1 g2 : Nat → Bool) (w : World) (h1 : IsB base1 w v1 L1 g1) (h2 : IsB base2 w v2 L2 g2) :
    Calls Try.prog 21 #[v1, v2] w fun e w' => ∃ v', e = .returned v' ∧ IsB w.heap.size w' v' (min L1 L2) (fun k => g1 k && g2 k) ∧ Ch S0 w w' := by
  obtain ⟨A1, n1, k1, rfl⟩ := h1.shape
  obtain ⟨A2, n2, k2, rfl⟩ := h2.shape
  have hL1 := h1.small
  have hL2 := h2.small
  obtain ⟨L, hLe⟩ : ∃ x, x = min L1 L2 := ⟨_, rfl⟩
  have hL : L ≤ 20000 := by omega
  have hch : Ch S0 w (((w.alloc (Obj.cells #[.int .u64 L1, .slice A1 n1 k1] 25)).alloc (Obj.cells #[.int .u64 L2, .slice A2 n2 k2] 25)).alloc (Obj.cells #[Value.int .u64 0, Value.slice none 0 0] 25)) := (((Ch.refl _ _).alloc _).alloc _).alloc _
  have hr1 : Blk (((w.alloc (Obj.cells #[.int .u64 L1, .slice A1 n1 k1] 25)).alloc (Obj.cells #[.int .u64 L2, .slice A2 n2 k2] 25)).alloc (Obj.cells #[Value.int .u64 0, Value.slice none 0 0] 25)) w.heap.size #[.int .u64 L1, .slice A1 n1 k1] := ((Blk.new _ _ _).alloc _).alloc _
  have hr2 : Blk (((w.alloc (Obj.cells #[.int .u64 L1, .slice A1 n1 k1] 25)).alloc (Obj.cells #[.int .u64 L2, .slice A2 n2 k2] 25)).alloc (Obj.cells #[Value.int .u64 0, Value.slice none 0 0] 25)) (w.heap.size + 1) #[.int .u64 L2, .slice A2 n2 k2] := by
    have := (Blk.new (w.alloc (Obj.cells #[.int .u64 L1, .slice A1 n1 k1] 25)) #[.int .u64 L2, .slice A2 n2 k2] 25).alloc (Obj.cells #[Value.int .u64 0, Value.slice none 0 0] 25)
    simpa using this
  have hr3 : Blk (((w.alloc (Obj.cells #[.int .u64 L1, .slice A1 n1 k1] 25)).alloc (Obj.cells #[.int .u64 L2, .slice A2 n2 k2] 25)).alloc (Obj.cells #[Value.int .u64 0, Value.slice none 0 0] 25)) (w.heap.size + 1 + 1) #[Value.int .u64 0, Value.slice none 0 0] := by
    have := Blk.new ((w.alloc (Obj.cells #[.int .u64 L1, .slice A1 n1 k1] 25)).alloc (Obj.cells #[.int .u64 L2, .slice A2 n2 k2] 25)) #[Value.int .u64 0, Value.slice none 0 0] 25
    simpa using this
  have H1 := Lib.hid (h1.keep hch)
  have H2 := Lib.hid (h2.keep hch)
  have HR1 := Lib.hid hr1
  have HR2 := Lib.hid hr2
  have HR3 := Lib.hid hr3
  have HC := Lib.hid hch
  have HE := Lib.hid hLe
  clear h1 h2 hch hr1 hr2 hr3 hLe
  go_enter Try.func21, Try.ntmps21
  go_wp2_with fail
  generalize (((w.alloc (Obj.cells #[.int .u64 L1, .slice A1 n1 k1] 25)).alloc (Obj.cells #[.int .u64 L2, .slice A2 n2 k2] 25)).alloc (Obj.cells #[Value.int .u64 0, Value.slice none 0 0] 25)) = w0 at *
  have x0 := HR1.out.cell 0
  have x1 := HR1.out.cell 1
  have y0 := HR2.out.cell 0
  have y1 := HR2.out.cell 1
  have z0 := HR3.out.cell 0
  have z1 := HR3.out.cell 1
  have f0 := HR3.out.free 0
  have f1 := HR3.out.free 1
  have hsz := HR3.out.lt
  simp only [List.getElem?_toArray, List.getElem?_cons_zero, List.getElem?_cons_succ] at x0 x1 y0 y1 z0 z1
  go_region_held3 (fun w' => w'.cell? ⟨w.heap.size, 0, none⟩ = some (.int .u64 L1) ∧ w'.cell? ⟨w.heap.size, 1, none⟩ = some (.slice A1 n1 k1) ∧ w'.cell? ⟨w.heap.size + 1, 0, none⟩ = some (.int .u64 L2) ∧ w'.cell? ⟨w.heap.size + 1, 1, none⟩ = some (.slice A2 n2 k2))
    (first | (go_keep; done) | (refine ⟨?_, ?_, ?_, ?_⟩ <;> assumption) | ((try dsimp only); (repeat' apply And.intro) <;> (rw [World.cell?_setCell_other _ _ _ _ (by intro e; injection e; omega), World.cell?_setCell_other _ _ _ _ (by intro e; injection e; omega)]; assumption)))
    (first
      | (go_at_call 42
         (with_reducible refine (set64_any (.agg #[.int .u64 L1, .slice A1 n1 k1]) L1 g1 _ (H1.out.keep (by first | exact Ch.refl _ _ | exact (Ch.refl _ _).drew | exact (Ch.refl _ _).alloc _ | exact ((Ch.refl _ _).alloc _).alloc _ | exact (((Ch.refl _ _).alloc _).alloc _).alloc _ | exact ((((Ch.refl _ _).alloc _).alloc _).alloc _).drew))).mono ?_)
         rintro e w1 ⟨b1, s1, rfl, hB1, hb1, hs1, hC⟩
         have hCC : Ch S0 w0 w1 := Ch.trans (by first | exact Ch.refl _ _ | exact (Ch.refl _ _).drew | exact (Ch.refl _ _).alloc _ | exact ((Ch.refl _ _).alloc _).alloc _ | exact (((Ch.refl _ _).alloc _).alloc _).alloc _ | exact ((((Ch.refl _ _).alloc _).alloc _).alloc _).drew) hC
         have HC1 := Lib.hid (HC.out.trans hCC)
         have HB1 := Lib.hid hB1
         have H2b := Lib.hid (H2.out.keep hCC)
         have HR1b := Lib.hid (HR1.out.keep hCC (fun h => h))
         have HR2b := Lib.hid (HR2.out.keep hCC (fun h => h))
         have HR3b := Lib.hid (HR3.out.keep hCC (fun h => h))
         clear x0 x1 y0 y1 z0 z1 f0 f1 hC hCC hB1
         have x0 := HR1b.out.cell 0
         have x1 := HR1b.out.cell 1
         have y0 := HR2b.out.cell 0
         have y1 := HR2b.out.cell 1
         simp only [List.getElem?_toArray, List.getElem?_cons_zero, List.getElem?_cons_succ] at x0 x1 y0 y1)
      | (go_at_call 42
         (with_reducible refine (set64_any (.agg #[.int .u64 L2, .slice A2 n2 k2]) L2 g2 _ (H2b.out.keep (by first | exact Ch.refl _ _ | exact (Ch.refl _ _).drew | exact (Ch.refl _ _).alloc _ | exact ((Ch.refl _ _).alloc _).alloc _ | exact (((Ch.refl _ _).alloc _).alloc _).alloc _ | exact ((((Ch.refl _ _).alloc _).alloc _).alloc _).drew))).mono ?_)
         rintro e w2 ⟨b2, s2, rfl, hB2, hb2, hs2, hC⟩
         have hCC : Ch S0 w1 w2 := Ch.trans (by first | exact Ch.refl _ _ | exact (Ch.refl _ _).drew | exact (Ch.refl _ _).alloc _ | exact ((Ch.refl _ _).alloc _).alloc _ | exact (((Ch.refl _ _).alloc _).alloc _).alloc _ | exact ((((Ch.refl _ _).alloc _).alloc _).alloc _).drew) hC
         have HC2 := Lib.hid (HC1.out.trans hCC)
         have HB2 := Lib.hid hB2
         have HB1b := Lib.hid (HB1.out.keep hCC (fun h => h) (fun h => h))
         have HR1c := Lib.hid (HR1b.out.keep hCC (fun h => h))
         have HR2c := Lib.hid (HR2b.out.keep hCC (fun h => h))
         have HR3c := Lib.hid (HR3b.out.keep hCC (fun h => h))
         clear x0 x1 y0 y1 hC hCC hB2
         have x0 := HR1c.out.cell 0
         have x1 := HR1c.out.cell 1
         have y0 := HR2c.out.cell 0
         have y1 := HR2c.out.cell 1
         simp only [List.getElem?_toArray, List.getElem?_cons_zero, List.getElem?_cons_succ] at x0 x1 y0 y1)
      | (go_at_call 49
         (with_reducible refine (inter_any b1 s1 b2 s2 L1 L2 g1 g2 _ (BS.keep (S := S0) HB1b.out (by first | exact Ch.refl _ _ | exact (Ch.refl _ _).drew | exact (Ch.refl _ _).alloc _ | exact ((Ch.refl _ _).alloc _).alloc _ | exact (((Ch.refl _ _).alloc _).alloc _).alloc _ | exact ((((Ch.refl _ _).alloc _).alloc _).alloc _).drew) (fun h => h) (fun h => h)) (BS.keep (S := S0) HB2.out (by first | exact Ch.refl _ _ | exact (Ch.refl _ _).drew | exact (Ch.refl _ _).alloc _ | exact ((Ch.refl _ _).alloc _).alloc _ | exact (((Ch.refl _ _).alloc _).alloc _).alloc _ | exact ((((Ch.refl _ _).alloc _).alloc _).alloc _).drew) (fun h => h) (fun h => h)) (by omega) (by omega)).mono ?_)
         rintro e w3 ⟨b3, s3, rfl, hB3, hb3, hs3, hC⟩
         have hCC : Ch S0 w2 w3 := Ch.trans (by first | exact Ch.refl _ _ | exact (Ch.refl _ _).drew | exact (Ch.refl _ _).alloc _ | exact ((Ch.refl _ _).alloc _).alloc _ | exact (((Ch.refl _ _).alloc _).alloc _).alloc _ | exact ((((Ch.refl _ _).alloc _).alloc _).alloc _).drew) hC
         have HC3 := Lib.hid (HC2.out.trans hCC)
         rw [← HE.out] at hB3
         have HB3 := Lib.hid hB3
         have HR1d := Lib.hid (HR1c.out.keep hCC (fun h => h))
         have HR2d := Lib.hid (HR2c.out.keep hCC (fun h => h))
         have HR3d := Lib.hid (HR3c.out.keep hCC (fun h => h))
         clear x0 x1 y0 y1 hC hCC hB3
         have x0 := HR1d.out.cell 0
         have x1 := HR1d.out.cell 1
         have y0 := HR2d.out.cell 0
         have y1 := HR2d.out.cell 1
         have hsz3 := HR3d.out.lt
         simp only [List.getElem?_toArray, List.getElem?_cons_zero, List.getElem?_cons_succ] at x0 x1 y0 y1)
      | (go_at_call 44
         (with_reducible refine (said64_any b3 s3 L _ _ (BS.keep (S := S0) HB3.out (by first | exact Ch.refl _ _ | exact (Ch.refl _ _).drew | exact (Ch.refl _ _).alloc _ | exact ((Ch.refl _ _).alloc _).alloc _ | exact (((Ch.refl _ _).alloc _).alloc _).alloc _ | exact ((((Ch.refl _ _).alloc _).alloc _).alloc _).drew) (fun h => h) (fun h => h)) hL).mono ?_)
         rintro e w4 ⟨v4, rfl, hV, hC⟩
         obtain ⟨A', n', cap', rfl⟩ := hV.shape
         have hCC : Ch S0 w3 w4 := Ch.trans (by first | exact Ch.refl _ _ | exact (Ch.refl _ _).drew | exact (Ch.refl _ _).alloc _ | exact ((Ch.refl _ _).alloc _).alloc _ | exact (((Ch.refl _ _).alloc _).alloc _).alloc _ | exact ((((Ch.refl _ _).alloc _).alloc _).alloc _).drew) hC
         have HC4 := Lib.hid (HC3.out.trans hCC)
         have HR1e := Lib.hid (HR1d.out.keep hCC (fun h => h))
         have HR2e := Lib.hid (HR2d.out.keep hCC (fun h => h))
         have HR3e := Lib.hid (HR3d.out.keep hCC (fun h => h))
         have hsz3b := hsz3
         try simp only [World.size_drew] at hV
         have HV := Lib.hid hV
         clear x0 x1 y0 y1 hC hCC hV
         have x0 := HR1e.out.cell 0
         have x1 := HR1e.out.cell 1
         have y0 := HR2e.out.cell 0
         have y1 := HR2e.out.cell 1
         have z0 := HR3e.out.cell 0
         have z1 := HR3e.out.cell 1
         have f0 := HR3e.out.free 0
         have f1 := HR3e.out.free 1
         simp only [List.getElem?_toArray, List.getElem?_cons_zero, List.getElem?_cons_succ] at x0 x1 y0 y1 z0 z1))
  have hfin := (HV.out.set (a := ⟨w.heap.size + 1 + 1, 0, none⟩) (by simp; omega) (.int .u64 (L : Nat))).set (a := ⟨w.heap.size + 1 + 1, 1, none⟩) (by simp; omega) (.slice A' n' cap')
  have hch3 := (HC4.out.setCell ⟨w.heap.size + 1 + 1, 0, none⟩ (by simp; omega) (.int .u64 (L : Nat))).setCell ⟨w.heap.size + 1 + 1, 1, none⟩ (by simp; omega) (.slice A' n' cap')
  have hlast : w.heap.size ≤ w3.heap.size := by omega
  have HF := Lib.hid (hfin.mono (base' := w.heap.size) (by first | exact hlast | (simp; exact hlast)))
  have HCF := Lib.hid hch3
  have g0 : ((w4.setCell ⟨w.heap.size + 1 + 1, 0, none⟩ (.int .u64 (L : Nat))).setCell ⟨w.heap.size + 1 + 1, 1, none⟩ (.slice A' n' cap')).cell? ⟨w.heap.size + 1 + 1, 0, none⟩ = some (.int .u64 (L : Nat)) := by simp [go_sem, z0, z1]
  have g1 : ((w4.setCell ⟨w.heap.size + 1 + 1, 0, none⟩ (.int .u64 (L : Nat))).setCell ⟨w.heap.size + 1 + 1, 1, none⟩ (.slice A' n' cap')).cell? ⟨w.heap.size + 1 + 1, 1, none⟩ = some (.slice A' n' cap') := by simp [go_sem, z0, z1]
  clear hfin hch3
  go_wp2
  exact bodyPost_ret (v := .agg #[.int .u64 (L : Nat), .slice A' n' cap']) (by simp [results, Try.results21, go_sem, g0, g1]) rfl ⟨_, rfl, by rw [← HE.out]; exact HF.out, HCF.out⟩

set_option maxRecDepth 100000 in
set_option maxHeartbeats 2000000 in
theorem bsdiff_any {base1 base2 : Nat} (v1 v2 : Value) (L1 L2 : Nat) (g1 g2 : Nat → Bool) (w : World) (h1 : IsB base1 w v1 L1 g1) (h2 : IsB base2 w v2 L2 g2) :
    Calls Try.prog 22 #[v1, v2] w fun e w' => ∃ v', e = .returned v' ∧ IsB w.heap.size w' v' (L1) (fun k => g1 k && !g2 k) ∧ Ch S0 w w' := by
  obtain ⟨A1, n1, k1, rfl⟩ := h1.shape
  obtain ⟨A2, n2, k2, rfl⟩ := h2.shape
  have hL1 := h1.small
  have hL2 := h2.small
  obtain ⟨L, hLe⟩ : ∃ x, x = L1 := ⟨_, rfl⟩
  have hL : L ≤ 20000 := by omega
  have hch : Ch S0 w (((w.alloc (Obj.cells #[.int .u64 L1, .slice A1 n1 k1] 25)).alloc (Obj.cells #[.int .u64 L2, .slice A2 n2 k2] 25)).alloc (Obj.cells #[Value.int .u64 0, Value.slice none 0 0] 25)) := (((Ch.refl _ _).alloc _).alloc _).alloc _
  have hr1 : Blk (((w.alloc (Obj.cells #[.int .u64 L1, .slice A1 n1 k1] 25)).alloc (Obj.cells #[.int .u64 L2, .slice A2 n2 k2] 25)).alloc (Obj.cells #[Value.int .u64 0, Value.slice none 0 0] 25)) w.heap.size #[.int .u64 L1, .slice A1 n1 k1] := ((Blk.new _ _ _).alloc _).alloc _
  have hr2 : Blk (((w.alloc (Obj.cells #[.int .u64 L1, .slice A1 n1 k1] 25)).alloc (Obj.cells #[.int .u64 L2, .slice A2 n2 k2] 25)).alloc (Obj.cells #[Value.int .u64 0, Value.slice none 0 0] 25)) (w.heap.size + 1) #[.int .u64 L2, .slice A2 n2 k2] := by
    have := (Blk.new (w.alloc (Obj.cells #[.int .u64 L1, .slice A1 n1 k1] 25)) #[.int .u64 L2, .slice A2 n2 k2] 25).alloc (Obj.cells #[Value.int .u64 0, Value.slice none 0 0] 25)
    simpa using this
  have hr3 : Blk (((w.alloc (Obj.cells #[.int .u64 L1, .slice A1 n1 k1] 25)).alloc (Obj.cells #[.int .u64 L2, .slice A2 n2 k2] 25)).alloc (Obj.cells #[Value.int .u64 0, Value.slice none 0 0] 25)) (w.heap.size + 1 + 1) #[Value.int .u64 0, Value.slice none 0 0] := by
    have := Blk.new ((w.alloc (Obj.cells #[.int .u64 L1, .slice A1 n1 k1] 25)).alloc (Obj.cells #[.int .u64 L2, .slice A2 n2 k2] 25)) #[Value.int .u64 0, Value.slice none 0 0] 25
    simpa using this
  have H1 := Lib.hid (h1.keep hch)
  have H2 := Lib.hid (h2.keep hch)
  have HR1 := Lib.hid hr1
  have HR2 := Lib.hid hr2
  have HR3 := Lib.hid hr3
  have HC := Lib.hid hch
  have HE := Lib.hid hLe
  clear h1 h2 hch hr1 hr2 hr3 hLe
  go_enter Try.func22, Try.ntmps22
  go_wp2_with fail
  generalize (((w.alloc (Obj.cells #[.int .u64 L1, .slice A1 n1 k1] 25)).alloc (Obj.cells #[.int .u64 L2, .slice A2 n2 k2] 25)).alloc (Obj.cells #[Value.int .u64 0, Value.slice none 0 0] 25)) = w0 at *
  have x0 := HR1.out.cell 0
  have x1 := HR1.out.cell 1
  have y0 := HR2.out.cell 0
  have y1 := HR2.out.cell 1
  have z0 := HR3.out.cell 0
  have z1 := HR3.out.cell 1
  have f0 := HR3.out.free 0
  have f1 := HR3.out.free 1
  have hsz := HR3.out.lt
  simp only [List.getElem?_toArray, List.getElem?_cons_zero, List.getElem?_cons_succ] at x0 x1 y0 y1 z0 z1
  go_region_held3 (fun w' => w'.cell? ⟨w.heap.size, 0, none⟩ = some (.int .u64 L1) ∧ w'.cell? ⟨w.heap.size, 1, none⟩ = some (.slice A1 n1 k1) ∧ w'.cell? ⟨w.heap.size + 1, 0, none⟩ = some (.int .u64 L2) ∧ w'.cell? ⟨w.heap.size + 1, 1, none⟩ = some (.slice A2 n2 k2))
    (first | (go_keep; done) | (refine ⟨?_, ?_, ?_, ?_⟩ <;> assumption) | ((try dsimp only); (repeat' apply And.intro) <;> (rw [World.cell?_setCell_other _ _ _ _ (by intro e; injection e; omega), World.cell?_setCell_other _ _ _ _ (by intro e; injection e; omega)]; assumption)))
    (first
      | (go_at_call 42
         (with_reducible refine (set64_any (.agg #[.int .u64 L1, .slice A1 n1 k1]) L1 g1 _ (H1.out.keep (by first | exact Ch.refl _ _ | exact (Ch.refl _ _).drew | exact (Ch.refl _ _).alloc _ | exact ((Ch.refl _ _).alloc _).alloc _ | exact (((Ch.refl _ _).alloc _).alloc _).alloc _ | exact ((((Ch.refl _ _).alloc _).alloc _).alloc _).drew))).mono ?_)
         rintro e w1 ⟨b1, s1, rfl, hB1, hb1, hs1, hC⟩
         have hCC : Ch S0 w0 w1 := Ch.trans (by first | exact Ch.refl _ _ | exact (Ch.refl _ _).drew | exact (Ch.refl _ _).alloc _ | exact ((Ch.refl _ _).alloc _).alloc _ | exact (((Ch.refl _ _).alloc _).alloc _).alloc _ | exact ((((Ch.refl _ _).alloc _).alloc _).alloc _).drew) hC
         have HC1 := Lib.hid (HC.out.trans hCC)
         have HB1 := Lib.hid hB1
         have H2b := Lib.hid (H2.out.keep hCC)
         have HR1b := Lib.hid (HR1.out.keep hCC (fun h => h))
         have HR2b := Lib.hid (HR2.out.keep hCC (fun h => h))
         have HR3b := Lib.hid (HR3.out.keep hCC (fun h => h))
         clear x0 x1 y0 y1 z0 z1 f0 f1 hC hCC hB1
         have x0 := HR1b.out.cell 0
         have x1 := HR1b.out.cell 1
         have y0 := HR2b.out.cell 0
         have y1 := HR2b.out.cell 1
         simp only [List.getElem?_toArray, List.getElem?_cons_zero, List.getElem?_cons_succ] at x0 x1 y0 y1)
      | (go_at_call 42
         (with_reducible refine (set64_any (.agg #[.int .u64 L2, .slice A2 n2 k2]) L2 g2 _ (H2b.out.keep (by first | exact Ch.refl _ _ | exact (Ch.refl _ _).drew | exact (Ch.refl _ _).alloc _ | exact ((Ch.refl _ _).alloc _).alloc _ | exact (((Ch.refl _ _).alloc _).alloc _).alloc _ | exact ((((Ch.refl _ _).alloc _).alloc _).alloc _).drew))).mono ?_)
         rintro e w2 ⟨b2, s2, rfl, hB2, hb2, hs2, hC⟩
         have hCC : Ch S0 w1 w2 := Ch.trans (by first | exact Ch.refl _ _ | exact (Ch.refl _ _).drew | exact (Ch.refl _ _).alloc _ | exact ((Ch.refl _ _).alloc _).alloc _ | exact (((Ch.refl _ _).alloc _).alloc _).alloc _ | exact ((((Ch.refl _ _).alloc _).alloc _).alloc _).drew) hC
         have HC2 := Lib.hid (HC1.out.trans hCC)
         have HB2 := Lib.hid hB2
         have HB1b := Lib.hid (HB1.out.keep hCC (fun h => h) (fun h => h))
         have HR1c := Lib.hid (HR1b.out.keep hCC (fun h => h))
         have HR2c := Lib.hid (HR2b.out.keep hCC (fun h => h))
         have HR3c := Lib.hid (HR3b.out.keep hCC (fun h => h))
         clear x0 x1 y0 y1 hC hCC hB2
         have x0 := HR1c.out.cell 0
         have x1 := HR1c.out.cell 1
         have y0 := HR2c.out.cell 0
         have y1 := HR2c.out.cell 1
         simp only [List.getElem?_toArray, List.getElem?_cons_zero, List.getElem?_cons_succ] at x0 x1 y0 y1)
      | (go_at_call 50
         (with_reducible refine (diff_any b1 s1 b2 s2 L1 L2 g1 g2 _ (BS.keep (S := S0) HB1b.out (by first | exact Ch.refl _ _ | exact (Ch.refl _ _).drew | exact (Ch.refl _ _).alloc _ | exact ((Ch.refl _ _).alloc _).alloc _ | exact (((Ch.refl _ _).alloc _).alloc _).alloc _ | exact ((((Ch.refl _ _).alloc _).alloc _).alloc _).drew) (fun h => h) (fun h => h)) (BS.keep (S := S0) HB2.out (by first | exact Ch.refl _ _ | exact (Ch.refl _ _).drew | exact (Ch.refl _ _).alloc _ | exact ((Ch.refl _ _).alloc _).alloc _ | exact (((Ch.refl _ _).alloc _).alloc _).alloc _ | exact ((((Ch.refl _ _).alloc _).alloc _).alloc _).drew) (fun h => h) (fun h => h)) (by omega) (by omega)).mono ?_)
         rintro e w3 ⟨b3, s3, rfl, hB3, hb3, hs3, hC⟩
         have hCC : Ch S0 w2 w3 := Ch.trans (by first | exact Ch.refl _ _ | exact (Ch.refl _ _).drew | exact (Ch.refl _ _).alloc _ | exact ((Ch.refl _ _).alloc _).alloc _ | exact (((Ch.refl _ _).alloc _).alloc _).alloc _ | exact ((((Ch.refl _ _).alloc _).alloc _).alloc _).drew) hC
         have HC3 := Lib.hid (HC2.out.trans hCC)
         rw [← HE.out] at hB3
         have HB3 := Lib.hid hB3
         have HR1d := Lib.hid (HR1c.out.keep hCC (fun h => h))
         have HR2d := Lib.hid (HR2c.out.keep hCC (fun h => h))
         have HR3d := Lib.hid (HR3c.out.keep hCC (fun h => h))
         clear x0 x1 y0 y1 hC hCC hB3
         have x0 := HR1d.out.cell 0
         have x1 := HR1d.out.cell 1
         have y0 := HR2d.out.cell 0
         have y1 := HR2d.out.cell 1
         have hsz3 := HR3d.out.lt
         simp only [List.getElem?_toArray, List.getElem?_cons_zero, List.getElem?_cons_succ] at x0 x1 y0 y1)
      | (go_at_call 44
         (with_reducible refine (said64_any b3 s3 L _ _ (BS.keep (S := S0) HB3.out (by first | exact Ch.refl _ _ | exact (Ch.refl _ _).drew | exact (Ch.refl _ _).alloc _ | exact ((Ch.refl _ _).alloc _).alloc _ | exact (((Ch.refl _ _).alloc _).alloc _).alloc _ | exact ((((Ch.refl _ _).alloc _).alloc _).alloc _).drew) (fun h => h) (fun h => h)) hL).mono ?_)
         rintro e w4 ⟨v4, rfl, hV, hC⟩
         obtain ⟨A', n', cap', rfl⟩ := hV.shape
         have hCC : Ch S0 w3 w4 := Ch.trans (by first | exact Ch.refl _ _ | exact (Ch.refl _ _).drew | exact (Ch.refl _ _).alloc _ | exact ((Ch.refl _ _).alloc _).alloc _ | exact (((Ch.refl _ _).alloc _).alloc _).alloc _ | exact ((((Ch.refl _ _).alloc _).alloc _).alloc _).drew) hC
         have HC4 := Lib.hid (HC3.out.trans hCC)
         have HR1e := Lib.hid (HR1d.out.keep hCC (fun h => h))
         have HR2e := Lib.hid (HR2d.out.keep hCC (fun h => h))
         have HR3e := Lib.hid (HR3d.out.keep hCC (fun h => h))
         have hsz3b := hsz3
         try simp only [World.size_drew] at hV
         have HV := Lib.hid hV
         clear x0 x1 y0 y1 hC hCC hV
         have x0 := HR1e.out.cell 0
         have x1 := HR1e.out.cell 1
         have y0 := HR2e.out.cell 0
         have y1 := HR2e.out.cell 1
         have z0 := HR3e.out.cell 0
         have z1 := HR3e.out.cell 1
         have f0 := HR3e.out.free 0
         have f1 := HR3e.out.free 1
         simp only [List.getElem?_toArray, List.getElem?_cons_zero, List.getElem?_cons_succ] at x0 x1 y0 y1 z0 z1))
  have hfin := (HV.out.set (a := ⟨w.heap.size + 1 + 1, 0, none⟩) (by simp; omega) (.int .u64 (L : Nat))).set (a := ⟨w.heap.size + 1 + 1, 1, none⟩) (by simp; omega) (.slice A' n' cap')
  have hch3 := (HC4.out.setCell ⟨w.heap.size + 1 + 1, 0, none⟩ (by simp; omega) (.int .u64 (L : Nat))).setCell ⟨w.heap.size + 1 + 1, 1, none⟩ (by simp; omega) (.slice A' n' cap')
  have hlast : w.heap.size ≤ w3.heap.size := by omega
  have HF := Lib.hid (hfin.mono (base' := w.heap.size) (by first | exact hlast | (simp; exact hlast)))
  have HCF := Lib.hid hch3
  have g0 : ((w4.setCell ⟨w.heap.size + 1 + 1, 0, none⟩ (.int .u64 (L : Nat))).setCell ⟨w.heap.size + 1 + 1, 1, none⟩ (.slice A' n' cap')).cell? ⟨w.heap.size + 1 + 1, 0, none⟩ = some (.int .u64 (L : Nat)) := by simp [go_sem, z0, z1]
  have g1 : ((w4.setCell ⟨w.heap.size + 1 + 1, 0, none⟩ (.int .u64 (L : Nat))).setCell ⟨w.heap.size + 1 + 1, 1, none⟩ (.slice A' n' cap')).cell? ⟨w.heap.size + 1 + 1, 1, none⟩ = some (.slice A' n' cap') := by simp [go_sem, z0, z1]
  clear hfin hch3
  go_wp2
  exact bodyPost_ret (v := .agg #[.int .u64 (L : Nat), .slice A' n' cap']) (by simp [results, Try.results22, go_sem, g0, g1]) rfl ⟨_, rfl, by rw [← HE.out]; exact HF.out, HCF.out⟩

end Go.Proofs.Ytgnhmgnpmbmjcaa
