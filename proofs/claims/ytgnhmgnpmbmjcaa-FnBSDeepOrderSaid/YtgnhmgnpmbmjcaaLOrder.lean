/- THE WALK of FnBSDeepOrder. -/
import Derived.Test.YtgnhmgnpmbmjcaaWg
import Derived.Deep.RegionHeld3
namespace Go.Proofs.Ytgnhmgnpmbmjcaa
open Go.RowKit

set_option maxRecDepth 100000 in
set_option maxHeartbeats 2000000 in
theorem order_small {base : Nat} (l : Nat) (A : Option Addr) (n cap one two : Nat) (xs : List Nat) (w : World) (h : Lst base w (.slice A n cap) xs) (hx : ∀ j (hj : j < xs.length), xs[j] < 18446744073709551616) (hxl : xs.length = n) (hn : n ≤ 2147483647)
    (h1 : one < 65536) (h2 : two < 65536) :
    Calls Try.prog 3 #[.agg #[.int .u64 l, .slice A n cap], .int .u16 one, .int .u16 two] w fun e w' => e = .returned (.bool true) ∧ Ch S0 w w' := by
  have HX := Lib.hid hx
  have HL := Lib.hid hxl
  have H := Lib.hid h
  have HC0 := Lib.hid (Ch.refl S0 w)
  clear hx hxl h
  go_enter Try.func3, Try.ntmps3
  go_wp2_with fail
  refine (fits_yes l n cap A _ hn).mono ?_
  rintro e w1 ⟨rfl, hC⟩
  have hCC : Ch S0 w w1 := Ch.trans (by first | exact Ch.refl _ _ | exact (Ch.refl _ _).alloc _ | exact (Ch.refl _ _).drew | exact ((Ch.refl _ _).alloc _).alloc _ | exact ((Ch.refl _ _).alloc _).drew | exact (((Ch.refl _ _).alloc _).alloc _).alloc _ | exact (((Ch.refl _ _).alloc _).alloc _).drew | exact ((((Ch.refl _ _).alloc _).alloc _).alloc _).drew | exact ((((Ch.refl _ _).alloc _).alloc _).alloc _).alloc _ | exact (((((Ch.refl _ _).alloc _).alloc _).alloc _).alloc _).drew) hC
  have HC1 := Lib.hid (HC0.out.trans hCC)
  clear HC0
  have Bp : Hid (Blk w1 (w.heap.size) #[.int .u64 (l : Nat), .slice A n cap]) := Lib.hid (Blk.keep (S := S0) (by first | exact Blk.new _ _ _ | exact (Blk.new _ _ _).alloc _ | exact ((Blk.new _ _ _).alloc _).alloc _ | (have hq := Blk.new; simpa using (hq _ _ _)) ) hC (fun h => h))
  clear hC hCC
  try clear xp0 xp1
  have xp0 := Bp.out.cell 0
  have xp1 := Bp.out.cell 1
  simp only [List.getElem?_toArray, List.getElem?_cons_zero, List.getElem?_cons_succ] at xp0 xp1
  go_wp2_with fail
  refine (bits_any l _ xs _ (H.out.keep (HC1.out.trans (by first | exact Ch.refl _ _ | exact (Ch.refl _ _).alloc _ | exact (Ch.refl _ _).drew | exact ((Ch.refl _ _).alloc _).alloc _ | exact ((Ch.refl _ _).alloc _).drew | exact (((Ch.refl _ _).alloc _).alloc _).alloc _ | exact (((Ch.refl _ _).alloc _).alloc _).drew | exact ((((Ch.refl _ _).alloc _).alloc _).alloc _).drew | exact ((((Ch.refl _ _).alloc _).alloc _).alloc _).alloc _ | exact (((((Ch.refl _ _).alloc _).alloc _).alloc _).alloc _).drew))) HX.out (by rw [HL.out]; omega)).mono ?_
  rintro e w2 ⟨va, La, ga, rfl, hLa, hV, hC⟩
  obtain ⟨Aa, na, ca, rfl⟩ := hV.shape
  have hCC : Ch S0 w1 w2 := Ch.trans (by first | exact Ch.refl _ _ | exact (Ch.refl _ _).alloc _ | exact (Ch.refl _ _).drew | exact ((Ch.refl _ _).alloc _).alloc _ | exact ((Ch.refl _ _).alloc _).drew | exact (((Ch.refl _ _).alloc _).alloc _).alloc _ | exact (((Ch.refl _ _).alloc _).alloc _).drew | exact ((((Ch.refl _ _).alloc _).alloc _).alloc _).drew | exact ((((Ch.refl _ _).alloc _).alloc _).alloc _).alloc _ | exact (((((Ch.refl _ _).alloc _).alloc _).alloc _).alloc _).drew) hC
  have HC2 := Lib.hid (HC1.out.trans hCC)
  clear HC1
  have Bx := Lib.hid (Bp.out.keep hCC (fun h => h))
  clear Bp
  have Bp := Bx
  clear Bx
  have Ha := Lib.hid (hV.mono (base' := 0) (Nat.zero_le _))
  clear hV
  clear hC hCC
  try clear xp0 xp1
  have xp0 := Bp.out.cell 0
  have xp1 := Bp.out.cell 1
  simp only [List.getElem?_toArray, List.getElem?_cons_zero, List.getElem?_cons_succ] at xp0 xp1
  go_wp2_with fail
  refine (bsset_any _ _ _ _ (Ha.out.keep (by first | exact Ch.refl _ _ | exact (Ch.refl _ _).alloc _ | exact (Ch.refl _ _).drew | exact ((Ch.refl _ _).alloc _).alloc _ | exact ((Ch.refl _ _).alloc _).drew | exact (((Ch.refl _ _).alloc _).alloc _).alloc _ | exact (((Ch.refl _ _).alloc _).alloc _).drew | exact ((((Ch.refl _ _).alloc _).alloc _).alloc _).drew | exact ((((Ch.refl _ _).alloc _).alloc _).alloc _).alloc _ | exact (((((Ch.refl _ _).alloc _).alloc _).alloc _).alloc _).drew)) (one % 1000) _ (by omega) (by omega)).mono ?_
  rintro e w3 ⟨vi, rfl, hV, hC⟩
  obtain ⟨Li, hE⟩ : ∃ x, x = max La ((one % 1000) + 1) := ⟨_, rfl⟩
  rw [← hE] at hV
  have Ei := Lib.hid hE
  clear hE
  obtain ⟨Ai, ni, ci, rfl⟩ := hV.shape
  have hCC : Ch S0 w2 w3 := Ch.trans (by first | exact Ch.refl _ _ | exact (Ch.refl _ _).alloc _ | exact (Ch.refl _ _).drew | exact ((Ch.refl _ _).alloc _).alloc _ | exact ((Ch.refl _ _).alloc _).drew | exact (((Ch.refl _ _).alloc _).alloc _).alloc _ | exact (((Ch.refl _ _).alloc _).alloc _).drew | exact ((((Ch.refl _ _).alloc _).alloc _).alloc _).drew | exact ((((Ch.refl _ _).alloc _).alloc _).alloc _).alloc _ | exact (((((Ch.refl _ _).alloc _).alloc _).alloc _).alloc _).drew) hC
  have HC3 := Lib.hid (HC2.out.trans hCC)
  clear HC2
  have Hx := Lib.hid (Ha.out.keep hCC)
  clear Ha
  have Ha := Hx
  clear Hx
  have Bx := Lib.hid (Bp.out.keep hCC (fun h => h))
  clear Bp
  have Bp := Bx
  clear Bx
  have Ba : Hid (Blk w3 (w2.heap.size) #[.int .u64 (La : Nat), .slice Aa na ca]) := Lib.hid (Blk.keep (S := S0) (by first | exact Blk.new _ _ _ | exact (Blk.new _ _ _).alloc _ | exact ((Blk.new _ _ _).alloc _).alloc _ | (have hq := Blk.new; simpa using (hq _ _ _)) ) hC (fun h => h))
  have Hi := Lib.hid (hV.mono (base' := 0) (Nat.zero_le _))
  clear hV
  clear hC hCC
  try clear xp0 xp1
  have xp0 := Bp.out.cell 0
  have xp1 := Bp.out.cell 1
  simp only [List.getElem?_toArray, List.getElem?_cons_zero, List.getElem?_cons_succ] at xp0 xp1
  try clear xa0 xa1
  have xa0 := Ba.out.cell 0
  have xa1 := Ba.out.cell 1
  simp only [List.getElem?_toArray, List.getElem?_cons_zero, List.getElem?_cons_succ] at xa0 xa1
  go_wp2_with fail
  refine (bsset_any _ _ _ _ (Hi.out.keep (by first | exact Ch.refl _ _ | exact (Ch.refl _ _).alloc _ | exact (Ch.refl _ _).drew | exact ((Ch.refl _ _).alloc _).alloc _ | exact ((Ch.refl _ _).alloc _).drew | exact (((Ch.refl _ _).alloc _).alloc _).alloc _ | exact (((Ch.refl _ _).alloc _).alloc _).drew | exact ((((Ch.refl _ _).alloc _).alloc _).alloc _).drew | exact ((((Ch.refl _ _).alloc _).alloc _).alloc _).alloc _ | exact (((((Ch.refl _ _).alloc _).alloc _).alloc _).alloc _).drew)) (two % 1000) _ (by omega) (by omega)).mono ?_
  rintro e w4 ⟨vb, rfl, hV, hC⟩
  obtain ⟨Lb, hE⟩ : ∃ x, x = max Li ((two % 1000) + 1) := ⟨_, rfl⟩
  rw [← hE] at hV
  have Eb := Lib.hid hE
  clear hE
  obtain ⟨Ab, nb, cb, rfl⟩ := hV.shape
  have hCC : Ch S0 w3 w4 := Ch.trans (by first | exact Ch.refl _ _ | exact (Ch.refl _ _).alloc _ | exact (Ch.refl _ _).drew | exact ((Ch.refl _ _).alloc _).alloc _ | exact ((Ch.refl _ _).alloc _).drew | exact (((Ch.refl _ _).alloc _).alloc _).alloc _ | exact (((Ch.refl _ _).alloc _).alloc _).drew | exact ((((Ch.refl _ _).alloc _).alloc _).alloc _).drew | exact ((((Ch.refl _ _).alloc _).alloc _).alloc _).alloc _ | exact (((((Ch.refl _ _).alloc _).alloc _).alloc _).alloc _).drew) hC
  have HC4 := Lib.hid (HC3.out.trans hCC)
  clear HC3
  have Hx := Lib.hid (Ha.out.keep hCC)
  clear Ha
  have Ha := Hx
  clear Hx
  have Hx := Lib.hid (Hi.out.keep hCC)
  clear Hi
  have Hi := Hx
  clear Hx
  have Bx := Lib.hid (Bp.out.keep hCC (fun h => h))
  clear Bp
  have Bp := Bx
  clear Bx
  have Bx := Lib.hid (Ba.out.keep hCC (fun h => h))
  clear Ba
  have Ba := Bx
  clear Bx
  have Hb := Lib.hid (hV.mono (base' := 0) (Nat.zero_le _))
  clear hV
  clear hC hCC
  try clear xp0 xp1
  have xp0 := Bp.out.cell 0
  have xp1 := Bp.out.cell 1
  simp only [List.getElem?_toArray, List.getElem?_cons_zero, List.getElem?_cons_succ] at xp0 xp1
  try clear xa0 xa1
  have xa0 := Ba.out.cell 0
  have xa1 := Ba.out.cell 1
  simp only [List.getElem?_toArray, List.getElem?_cons_zero, List.getElem?_cons_succ] at xa0 xa1
  go_wp2_with fail
  have Bb : Hid (Blk (w4.alloc (Obj.cells #[.int .u64 (Lb : Nat), .slice Ab nb cb] 25)) w4.heap.size #[.int .u64 (Lb : Nat), .slice Ab nb cb]) := Lib.hid (Blk.new _ _ _)
  have hCC : Ch S0 w4 (w4.alloc (Obj.cells #[.int .u64 (Lb : Nat), .slice Ab nb cb] 25)) := (Ch.refl _ _).alloc _
  have HC5 := Lib.hid (HC4.out.trans hCC)
  have Hx := Lib.hid (Ha.out.keep hCC)
  clear Ha
  have Ha := Hx
  clear Hx
  have Hx := Lib.hid (Hi.out.keep hCC)
  clear Hi
  have Hi := Hx
  clear Hx
  have Hx := Lib.hid (Hb.out.keep hCC)
  clear Hb
  have Hb := Hx
  clear Hx
  have Bx := Lib.hid (Bp.out.keep hCC (fun h => h))
  clear Bp
  have Bp := Bx
  clear Bx
  have Bx := Lib.hid (Ba.out.keep hCC (fun h => h))
  clear Ba
  have Ba := Bx
  clear Bx
  clear hCC HC4 xp0 xp1 xa0 xa1
  generalize w4.alloc (Obj.cells #[.int .u64 (Lb : Nat), .slice Ab nb cb] 25) = w5 at *
  generalize w4.heap.size = B10 at *
  have xp0 := Bp.out.cell 0
  have xp1 := Bp.out.cell 1
  simp only [List.getElem?_toArray, List.getElem?_cons_zero, List.getElem?_cons_succ] at xp0 xp1
  have xa0 := Ba.out.cell 0
  have xa1 := Ba.out.cell 1
  simp only [List.getElem?_toArray, List.getElem?_cons_zero, List.getElem?_cons_succ] at xa0 xa1
  have xb0 := Bb.out.cell 0
  have xb1 := Bb.out.cell 1
  simp only [List.getElem?_toArray, List.getElem?_cons_zero, List.getElem?_cons_succ] at xb0 xb1
  go_wp2_with fail
  go_region_held3 (fun w' => w'.cell? ⟨w2.heap.size, 0, none⟩ = some (.int .u64 (La : Nat)) ∧ w'.cell? ⟨w2.heap.size, 1, none⟩ = some (.slice Aa na ca) ∧ w'.cell? ⟨B10, 0, none⟩ = some (.int .u64 (Lb : Nat)) ∧ w'.cell? ⟨B10, 1, none⟩ = some (.slice Ab nb cb))
    (first | go_keep | (refine ⟨?_, ?_⟩ <;> assumption) | (refine ⟨?_, ?_, ?_, ?_⟩ <;> assumption) | (refine ⟨?_, ?_, ?_, ?_, ?_, ?_⟩ <;> assumption))
    (first
      | (go_at_call 15
         (with_reducible refine (bsset_any _ _ _ _ (Ha.out.keep (by first | exact Ch.refl _ _ | exact (Ch.refl _ _).alloc _ | exact (Ch.refl _ _).drew | exact ((Ch.refl _ _).alloc _).alloc _ | exact ((Ch.refl _ _).alloc _).drew | exact (((Ch.refl _ _).alloc _).alloc _).alloc _ | exact (((Ch.refl _ _).alloc _).alloc _).drew | exact ((((Ch.refl _ _).alloc _).alloc _).alloc _).drew | exact ((((Ch.refl _ _).alloc _).alloc _).alloc _).alloc _ | exact (((((Ch.refl _ _).alloc _).alloc _).alloc _).alloc _).drew)) (two % 1000) _ (by omega) (by omega)).mono ?_)
         rintro e w6 ⟨vc, rfl, hV, hC⟩
         obtain ⟨Lc, hE⟩ : ∃ x, x = max La ((two % 1000) + 1) := ⟨_, rfl⟩
         rw [← hE] at hV
         have Ec := Lib.hid hE
         clear hE
         obtain ⟨Ac, nc, cc, rfl⟩ := hV.shape
         have hCC : Ch S0 w5 w6 := Ch.trans (by first | exact Ch.refl _ _ | exact (Ch.refl _ _).alloc _ | exact (Ch.refl _ _).drew | exact ((Ch.refl _ _).alloc _).alloc _ | exact ((Ch.refl _ _).alloc _).drew | exact (((Ch.refl _ _).alloc _).alloc _).alloc _ | exact (((Ch.refl _ _).alloc _).alloc _).drew | exact ((((Ch.refl _ _).alloc _).alloc _).alloc _).drew | exact ((((Ch.refl _ _).alloc _).alloc _).alloc _).alloc _ | exact (((((Ch.refl _ _).alloc _).alloc _).alloc _).alloc _).drew) hC
         have HC6 := Lib.hid (HC5.out.trans hCC)
         clear HC5
         have Hx := Lib.hid (Ha.out.keep hCC)
         clear Ha
         have Ha := Hx
         clear Hx
         have Hx := Lib.hid (Hi.out.keep hCC)
         clear Hi
         have Hi := Hx
         clear Hx
         have Hx := Lib.hid (Hb.out.keep hCC)
         clear Hb
         have Hb := Hx
         clear Hx
         have Bx := Lib.hid (Bp.out.keep hCC (fun h => h))
         clear Bp
         have Bp := Bx
         clear Bx
         have Bx := Lib.hid (Ba.out.keep hCC (fun h => h))
         clear Ba
         have Ba := Bx
         clear Bx
         have Bx := Lib.hid (Bb.out.keep hCC (fun h => h))
         clear Bb
         have Bb := Bx
         clear Bx
         have Hc := Lib.hid (hV.mono (base' := 0) (Nat.zero_le _))
         clear hV
         clear hC hCC
         try clear xp0 xp1
         have xp0 := Bp.out.cell 0
         have xp1 := Bp.out.cell 1
         simp only [List.getElem?_toArray, List.getElem?_cons_zero, List.getElem?_cons_succ] at xp0 xp1
         try clear xa0 xa1
         have xa0 := Ba.out.cell 0
         have xa1 := Ba.out.cell 1
         simp only [List.getElem?_toArray, List.getElem?_cons_zero, List.getElem?_cons_succ] at xa0 xa1
         try clear xb0 xb1
         have xb0 := Bb.out.cell 0
         have xb1 := Bb.out.cell 1
         simp only [List.getElem?_toArray, List.getElem?_cons_zero, List.getElem?_cons_succ] at xb0 xb1)
      | (go_at_call 15
         (with_reducible refine (bsset_any _ _ _ _ (Hc.out.keep (by first | exact Ch.refl _ _ | exact (Ch.refl _ _).alloc _ | exact (Ch.refl _ _).drew | exact ((Ch.refl _ _).alloc _).alloc _ | exact ((Ch.refl _ _).alloc _).drew | exact (((Ch.refl _ _).alloc _).alloc _).alloc _ | exact (((Ch.refl _ _).alloc _).alloc _).drew | exact ((((Ch.refl _ _).alloc _).alloc _).alloc _).drew | exact ((((Ch.refl _ _).alloc _).alloc _).alloc _).alloc _ | exact (((((Ch.refl _ _).alloc _).alloc _).alloc _).alloc _).drew)) (one % 1000) _ (by omega) (by omega)).mono ?_)
         rintro e w7 ⟨vd, rfl, hV, hC⟩
         obtain ⟨Ld, hE⟩ : ∃ x, x = max Lc ((one % 1000) + 1) := ⟨_, rfl⟩
         rw [← hE] at hV
         have Ed := Lib.hid hE
         clear hE
         obtain ⟨Ad, nd, cd, rfl⟩ := hV.shape
         have hCC : Ch S0 w6 w7 := Ch.trans (by first | exact Ch.refl _ _ | exact (Ch.refl _ _).alloc _ | exact (Ch.refl _ _).drew | exact ((Ch.refl _ _).alloc _).alloc _ | exact ((Ch.refl _ _).alloc _).drew | exact (((Ch.refl _ _).alloc _).alloc _).alloc _ | exact (((Ch.refl _ _).alloc _).alloc _).drew | exact ((((Ch.refl _ _).alloc _).alloc _).alloc _).drew | exact ((((Ch.refl _ _).alloc _).alloc _).alloc _).alloc _ | exact (((((Ch.refl _ _).alloc _).alloc _).alloc _).alloc _).drew) hC
         have HC7 := Lib.hid (HC6.out.trans hCC)
         clear HC6
         have Hx := Lib.hid (Ha.out.keep hCC)
         clear Ha
         have Ha := Hx
         clear Hx
         have Hx := Lib.hid (Hi.out.keep hCC)
         clear Hi
         have Hi := Hx
         clear Hx
         have Hx := Lib.hid (Hb.out.keep hCC)
         clear Hb
         have Hb := Hx
         clear Hx
         have Hx := Lib.hid (Hc.out.keep hCC)
         clear Hc
         have Hc := Hx
         clear Hx
         have Bx := Lib.hid (Bp.out.keep hCC (fun h => h))
         clear Bp
         have Bp := Bx
         clear Bx
         have Bx := Lib.hid (Ba.out.keep hCC (fun h => h))
         clear Ba
         have Ba := Bx
         clear Bx
         have Bx := Lib.hid (Bb.out.keep hCC (fun h => h))
         clear Bb
         have Bb := Bx
         clear Bx
         have Hd := Lib.hid (hV.mono (base' := 0) (Nat.zero_le _))
         clear hV
         clear hC hCC
         try clear xp0 xp1
         have xp0 := Bp.out.cell 0
         have xp1 := Bp.out.cell 1
         simp only [List.getElem?_toArray, List.getElem?_cons_zero, List.getElem?_cons_succ] at xp0 xp1
         try clear xa0 xa1
         have xa0 := Ba.out.cell 0
         have xa1 := Ba.out.cell 1
         simp only [List.getElem?_toArray, List.getElem?_cons_zero, List.getElem?_cons_succ] at xa0 xa1
         try clear xb0 xb1
         have xb0 := Bb.out.cell 0
         have xb1 := Bb.out.cell 1
         simp only [List.getElem?_toArray, List.getElem?_cons_zero, List.getElem?_cons_succ] at xb0 xb1)
      | (go_at_call 16
         (with_reducible refine (bssame_true _ _ _ _ _ (Hb.out.keep (by first | exact Ch.refl _ _ | exact (Ch.refl _ _).alloc _ | exact (Ch.refl _ _).drew | exact ((Ch.refl _ _).alloc _).alloc _ | exact ((Ch.refl _ _).alloc _).drew | exact (((Ch.refl _ _).alloc _).alloc _).alloc _ | exact (((Ch.refl _ _).alloc _).alloc _).drew | exact ((((Ch.refl _ _).alloc _).alloc _).alloc _).drew | exact ((((Ch.refl _ _).alloc _).alloc _).alloc _).alloc _ | exact (((((Ch.refl _ _).alloc _).alloc _).alloc _).alloc _).drew)) ((Hd.out.keep (by first | exact Ch.refl _ _ | exact (Ch.refl _ _).alloc _ | exact (Ch.refl _ _).drew | exact ((Ch.refl _ _).alloc _).alloc _ | exact ((Ch.refl _ _).alloc _).drew | exact (((Ch.refl _ _).alloc _).alloc _).alloc _ | exact (((Ch.refl _ _).alloc _).alloc _).drew | exact ((((Ch.refl _ _).alloc _).alloc _).alloc _).drew | exact ((((Ch.refl _ _).alloc _).alloc _).alloc _).alloc _ | exact (((((Ch.refl _ _).alloc _).alloc _).alloc _).alloc _).drew)).cast (by have e1 := Ei.out; have e2 := Eb.out; have e3 := Ec.out; have e4 := Ed.out; omega) (fun k => by unfold Bit.put; split <;> split <;> rfl))).mono ?_)
         rintro e w8 ⟨rfl, hC⟩
         have hCC : Ch S0 w7 w8 := Ch.trans (by first | exact Ch.refl _ _ | exact (Ch.refl _ _).alloc _ | exact (Ch.refl _ _).drew | exact ((Ch.refl _ _).alloc _).alloc _ | exact ((Ch.refl _ _).alloc _).drew | exact (((Ch.refl _ _).alloc _).alloc _).alloc _ | exact (((Ch.refl _ _).alloc _).alloc _).drew | exact ((((Ch.refl _ _).alloc _).alloc _).alloc _).drew | exact ((((Ch.refl _ _).alloc _).alloc _).alloc _).alloc _ | exact (((((Ch.refl _ _).alloc _).alloc _).alloc _).alloc _).drew) hC
         have HC8 := Lib.hid (HC7.out.trans hCC)
         clear HC7
         have Hx := Lib.hid (Ha.out.keep hCC)
         clear Ha
         have Ha := Hx
         clear Hx
         have Hx := Lib.hid (Hi.out.keep hCC)
         clear Hi
         have Hi := Hx
         clear Hx
         have Hx := Lib.hid (Hb.out.keep hCC)
         clear Hb
         have Hb := Hx
         clear Hx
         have Hx := Lib.hid (Hc.out.keep hCC)
         clear Hc
         have Hc := Hx
         clear Hx
         have Hx := Lib.hid (Hd.out.keep hCC)
         clear Hd
         have Hd := Hx
         clear Hx
         have Bx := Lib.hid (Bp.out.keep hCC (fun h => h))
         clear Bp
         have Bp := Bx
         clear Bx
         have Bx := Lib.hid (Ba.out.keep hCC (fun h => h))
         clear Ba
         have Ba := Bx
         clear Bx
         have Bx := Lib.hid (Bb.out.keep hCC (fun h => h))
         clear Bb
         have Bb := Bx
         clear Bx
         clear hC hCC
         try clear xp0 xp1
         have xp0 := Bp.out.cell 0
         have xp1 := Bp.out.cell 1
         simp only [List.getElem?_toArray, List.getElem?_cons_zero, List.getElem?_cons_succ] at xp0 xp1
         try clear xa0 xa1
         have xa0 := Ba.out.cell 0
         have xa1 := Ba.out.cell 1
         simp only [List.getElem?_toArray, List.getElem?_cons_zero, List.getElem?_cons_succ] at xa0 xa1
         try clear xb0 xb1
         have xb0 := Bb.out.cell 0
         have xb1 := Bb.out.cell 1
         simp only [List.getElem?_toArray, List.getElem?_cons_zero, List.getElem?_cons_succ] at xb0 xb1)
      | (go_at_call 15
         (with_reducible refine (bsset_any _ _ _ _ (Hb.out.keep (by first | exact Ch.refl _ _ | exact (Ch.refl _ _).alloc _ | exact (Ch.refl _ _).drew | exact ((Ch.refl _ _).alloc _).alloc _ | exact ((Ch.refl _ _).alloc _).drew | exact (((Ch.refl _ _).alloc _).alloc _).alloc _ | exact (((Ch.refl _ _).alloc _).alloc _).drew | exact ((((Ch.refl _ _).alloc _).alloc _).alloc _).drew | exact ((((Ch.refl _ _).alloc _).alloc _).alloc _).alloc _ | exact (((((Ch.refl _ _).alloc _).alloc _).alloc _).alloc _).drew)) (one % 1000) _ (by omega) (by omega)).mono ?_)
         rintro e w9 ⟨vf, rfl, hV, hC⟩
         obtain ⟨Lf, hE⟩ : ∃ x, x = max Lb ((one % 1000) + 1) := ⟨_, rfl⟩
         rw [← hE] at hV
         have Ef := Lib.hid hE
         clear hE
         obtain ⟨Af, nf, cf, rfl⟩ := hV.shape
         have hCC : Ch S0 w8 w9 := Ch.trans (by first | exact Ch.refl _ _ | exact (Ch.refl _ _).alloc _ | exact (Ch.refl _ _).drew | exact ((Ch.refl _ _).alloc _).alloc _ | exact ((Ch.refl _ _).alloc _).drew | exact (((Ch.refl _ _).alloc _).alloc _).alloc _ | exact (((Ch.refl _ _).alloc _).alloc _).drew | exact ((((Ch.refl _ _).alloc _).alloc _).alloc _).drew | exact ((((Ch.refl _ _).alloc _).alloc _).alloc _).alloc _ | exact (((((Ch.refl _ _).alloc _).alloc _).alloc _).alloc _).drew) hC
         have HC9 := Lib.hid (HC8.out.trans hCC)
         clear HC8
         have Hx := Lib.hid (Ha.out.keep hCC)
         clear Ha
         have Ha := Hx
         clear Hx
         have Hx := Lib.hid (Hi.out.keep hCC)
         clear Hi
         have Hi := Hx
         clear Hx
         have Hx := Lib.hid (Hb.out.keep hCC)
         clear Hb
         have Hb := Hx
         clear Hx
         have Hx := Lib.hid (Hc.out.keep hCC)
         clear Hc
         have Hc := Hx
         clear Hx
         have Hx := Lib.hid (Hd.out.keep hCC)
         clear Hd
         have Hd := Hx
         clear Hx
         have Bx := Lib.hid (Bp.out.keep hCC (fun h => h))
         clear Bp
         have Bp := Bx
         clear Bx
         have Bx := Lib.hid (Ba.out.keep hCC (fun h => h))
         clear Ba
         have Ba := Bx
         clear Bx
         have Bx := Lib.hid (Bb.out.keep hCC (fun h => h))
         clear Bb
         have Bb := Bx
         clear Bx
         have Hf := Lib.hid (hV.mono (base' := 0) (Nat.zero_le _))
         clear hV
         clear hC hCC
         try clear xp0 xp1
         have xp0 := Bp.out.cell 0
         have xp1 := Bp.out.cell 1
         simp only [List.getElem?_toArray, List.getElem?_cons_zero, List.getElem?_cons_succ] at xp0 xp1
         try clear xa0 xa1
         have xa0 := Ba.out.cell 0
         have xa1 := Ba.out.cell 1
         simp only [List.getElem?_toArray, List.getElem?_cons_zero, List.getElem?_cons_succ] at xa0 xa1
         try clear xb0 xb1
         have xb0 := Bb.out.cell 0
         have xb1 := Bb.out.cell 1
         simp only [List.getElem?_toArray, List.getElem?_cons_zero, List.getElem?_cons_succ] at xb0 xb1)
      | (go_at_call 16
         (with_reducible refine (bssame_true _ _ _ _ _ (Hb.out.keep (by first | exact Ch.refl _ _ | exact (Ch.refl _ _).alloc _ | exact (Ch.refl _ _).drew | exact ((Ch.refl _ _).alloc _).alloc _ | exact ((Ch.refl _ _).alloc _).drew | exact (((Ch.refl _ _).alloc _).alloc _).alloc _ | exact (((Ch.refl _ _).alloc _).alloc _).drew | exact ((((Ch.refl _ _).alloc _).alloc _).alloc _).drew | exact ((((Ch.refl _ _).alloc _).alloc _).alloc _).alloc _ | exact (((((Ch.refl _ _).alloc _).alloc _).alloc _).alloc _).drew)) ((Hf.out.keep (by first | exact Ch.refl _ _ | exact (Ch.refl _ _).alloc _ | exact (Ch.refl _ _).drew | exact ((Ch.refl _ _).alloc _).alloc _ | exact ((Ch.refl _ _).alloc _).drew | exact (((Ch.refl _ _).alloc _).alloc _).alloc _ | exact (((Ch.refl _ _).alloc _).alloc _).drew | exact ((((Ch.refl _ _).alloc _).alloc _).alloc _).drew | exact ((((Ch.refl _ _).alloc _).alloc _).alloc _).alloc _ | exact (((((Ch.refl _ _).alloc _).alloc _).alloc _).alloc _).drew)).cast (by have e1 := Ei.out; have e2 := Eb.out; have e3 := Ef.out; omega) (fun k => by unfold Bit.put; split <;> split <;> rfl))).mono ?_)
         rintro e w10 ⟨rfl, hC⟩
         have hCC : Ch S0 w9 w10 := Ch.trans (by first | exact Ch.refl _ _ | exact (Ch.refl _ _).alloc _ | exact (Ch.refl _ _).drew | exact ((Ch.refl _ _).alloc _).alloc _ | exact ((Ch.refl _ _).alloc _).drew | exact (((Ch.refl _ _).alloc _).alloc _).alloc _ | exact (((Ch.refl _ _).alloc _).alloc _).drew | exact ((((Ch.refl _ _).alloc _).alloc _).alloc _).drew | exact ((((Ch.refl _ _).alloc _).alloc _).alloc _).alloc _ | exact (((((Ch.refl _ _).alloc _).alloc _).alloc _).alloc _).drew) hC
         have HC10 := Lib.hid (HC9.out.trans hCC)
         clear HC9
         have Hx := Lib.hid (Ha.out.keep hCC)
         clear Ha
         have Ha := Hx
         clear Hx
         have Hx := Lib.hid (Hi.out.keep hCC)
         clear Hi
         have Hi := Hx
         clear Hx
         have Hx := Lib.hid (Hb.out.keep hCC)
         clear Hb
         have Hb := Hx
         clear Hx
         have Hx := Lib.hid (Hc.out.keep hCC)
         clear Hc
         have Hc := Hx
         clear Hx
         have Hx := Lib.hid (Hd.out.keep hCC)
         clear Hd
         have Hd := Hx
         clear Hx
         have Hx := Lib.hid (Hf.out.keep hCC)
         clear Hf
         have Hf := Hx
         clear Hx
         have Bx := Lib.hid (Bp.out.keep hCC (fun h => h))
         clear Bp
         have Bp := Bx
         clear Bx
         have Bx := Lib.hid (Ba.out.keep hCC (fun h => h))
         clear Ba
         have Ba := Bx
         clear Bx
         have Bx := Lib.hid (Bb.out.keep hCC (fun h => h))
         clear Bb
         have Bb := Bx
         clear Bx
         clear hC hCC
         try clear xp0 xp1
         have xp0 := Bp.out.cell 0
         have xp1 := Bp.out.cell 1
         simp only [List.getElem?_toArray, List.getElem?_cons_zero, List.getElem?_cons_succ] at xp0 xp1
         try clear xa0 xa1
         have xa0 := Ba.out.cell 0
         have xa1 := Ba.out.cell 1
         simp only [List.getElem?_toArray, List.getElem?_cons_zero, List.getElem?_cons_succ] at xa0 xa1
         try clear xb0 xb1
         have xb0 := Bb.out.cell 0
         have xb1 := Bb.out.cell 1
         simp only [List.getElem?_toArray, List.getElem?_cons_zero, List.getElem?_cons_succ] at xb0 xb1)
      | (go_at_call 17
         (with_reducible refine (bstest_true _ _ _ _ (Hb.out.keep (by first | exact Ch.refl _ _ | exact (Ch.refl _ _).alloc _ | exact (Ch.refl _ _).drew | exact ((Ch.refl _ _).alloc _).alloc _ | exact ((Ch.refl _ _).alloc _).drew | exact (((Ch.refl _ _).alloc _).alloc _).alloc _ | exact (((Ch.refl _ _).alloc _).alloc _).drew | exact ((((Ch.refl _ _).alloc _).alloc _).alloc _).drew | exact ((((Ch.refl _ _).alloc _).alloc _).alloc _).alloc _ | exact (((((Ch.refl _ _).alloc _).alloc _).alloc _).alloc _).drew)) (one % 1000) _ (by omega) (by unfold Bit.put; simp)).mono ?_)
         rintro e w11 ⟨rfl, hC⟩
         have hCC : Ch S0 w10 w11 := Ch.trans (by first | exact Ch.refl _ _ | exact (Ch.refl _ _).alloc _ | exact (Ch.refl _ _).drew | exact ((Ch.refl _ _).alloc _).alloc _ | exact ((Ch.refl _ _).alloc _).drew | exact (((Ch.refl _ _).alloc _).alloc _).alloc _ | exact (((Ch.refl _ _).alloc _).alloc _).drew | exact ((((Ch.refl _ _).alloc _).alloc _).alloc _).drew | exact ((((Ch.refl _ _).alloc _).alloc _).alloc _).alloc _ | exact (((((Ch.refl _ _).alloc _).alloc _).alloc _).alloc _).drew) hC
         have HC11 := Lib.hid (HC10.out.trans hCC)
         clear HC10
         have Hx := Lib.hid (Ha.out.keep hCC)
         clear Ha
         have Ha := Hx
         clear Hx
         have Hx := Lib.hid (Hi.out.keep hCC)
         clear Hi
         have Hi := Hx
         clear Hx
         have Hx := Lib.hid (Hb.out.keep hCC)
         clear Hb
         have Hb := Hx
         clear Hx
         have Hx := Lib.hid (Hc.out.keep hCC)
         clear Hc
         have Hc := Hx
         clear Hx
         have Hx := Lib.hid (Hd.out.keep hCC)
         clear Hd
         have Hd := Hx
         clear Hx
         have Hx := Lib.hid (Hf.out.keep hCC)
         clear Hf
         have Hf := Hx
         clear Hx
         have Bx := Lib.hid (Bp.out.keep hCC (fun h => h))
         clear Bp
         have Bp := Bx
         clear Bx
         have Bx := Lib.hid (Ba.out.keep hCC (fun h => h))
         clear Ba
         have Ba := Bx
         clear Bx
         have Bx := Lib.hid (Bb.out.keep hCC (fun h => h))
         clear Bb
         have Bb := Bx
         clear Bx
         clear hC hCC
         try clear xp0 xp1
         have xp0 := Bp.out.cell 0
         have xp1 := Bp.out.cell 1
         simp only [List.getElem?_toArray, List.getElem?_cons_zero, List.getElem?_cons_succ] at xp0 xp1
         try clear xa0 xa1
         have xa0 := Ba.out.cell 0
         have xa1 := Ba.out.cell 1
         simp only [List.getElem?_toArray, List.getElem?_cons_zero, List.getElem?_cons_succ] at xa0 xa1
         try clear xb0 xb1
         have xb0 := Bb.out.cell 0
         have xb1 := Bb.out.cell 1
         simp only [List.getElem?_toArray, List.getElem?_cons_zero, List.getElem?_cons_succ] at xb0 xb1)
      | (go_at_call 17
         (with_reducible refine (bstest_true _ _ _ _ (Hb.out.keep (by first | exact Ch.refl _ _ | exact (Ch.refl _ _).alloc _ | exact (Ch.refl _ _).drew | exact ((Ch.refl _ _).alloc _).alloc _ | exact ((Ch.refl _ _).alloc _).drew | exact (((Ch.refl _ _).alloc _).alloc _).alloc _ | exact (((Ch.refl _ _).alloc _).alloc _).drew | exact ((((Ch.refl _ _).alloc _).alloc _).alloc _).drew | exact ((((Ch.refl _ _).alloc _).alloc _).alloc _).alloc _ | exact (((((Ch.refl _ _).alloc _).alloc _).alloc _).alloc _).drew)) (two % 1000) _ (by omega) (by unfold Bit.put; simp)).mono ?_)
         rintro e w12 ⟨rfl, hC⟩
         have hCC : Ch S0 w11 w12 := Ch.trans (by first | exact Ch.refl _ _ | exact (Ch.refl _ _).alloc _ | exact (Ch.refl _ _).drew | exact ((Ch.refl _ _).alloc _).alloc _ | exact ((Ch.refl _ _).alloc _).drew | exact (((Ch.refl _ _).alloc _).alloc _).alloc _ | exact (((Ch.refl _ _).alloc _).alloc _).drew | exact ((((Ch.refl _ _).alloc _).alloc _).alloc _).drew | exact ((((Ch.refl _ _).alloc _).alloc _).alloc _).alloc _ | exact (((((Ch.refl _ _).alloc _).alloc _).alloc _).alloc _).drew) hC
         have HC12 := Lib.hid (HC11.out.trans hCC)
         clear HC11
         have Hx := Lib.hid (Ha.out.keep hCC)
         clear Ha
         have Ha := Hx
         clear Hx
         have Hx := Lib.hid (Hi.out.keep hCC)
         clear Hi
         have Hi := Hx
         clear Hx
         have Hx := Lib.hid (Hb.out.keep hCC)
         clear Hb
         have Hb := Hx
         clear Hx
         have Hx := Lib.hid (Hc.out.keep hCC)
         clear Hc
         have Hc := Hx
         clear Hx
         have Hx := Lib.hid (Hd.out.keep hCC)
         clear Hd
         have Hd := Hx
         clear Hx
         have Hx := Lib.hid (Hf.out.keep hCC)
         clear Hf
         have Hf := Hx
         clear Hx
         have Bx := Lib.hid (Bp.out.keep hCC (fun h => h))
         clear Bp
         have Bp := Bx
         clear Bx
         have Bx := Lib.hid (Ba.out.keep hCC (fun h => h))
         clear Ba
         have Ba := Bx
         clear Bx
         have Bx := Lib.hid (Bb.out.keep hCC (fun h => h))
         clear Bb
         have Bb := Bx
         clear Bx
         clear hC hCC
         try clear xp0 xp1
         have xp0 := Bp.out.cell 0
         have xp1 := Bp.out.cell 1
         simp only [List.getElem?_toArray, List.getElem?_cons_zero, List.getElem?_cons_succ] at xp0 xp1
         try clear xa0 xa1
         have xa0 := Ba.out.cell 0
         have xa1 := Ba.out.cell 1
         simp only [List.getElem?_toArray, List.getElem?_cons_zero, List.getElem?_cons_succ] at xa0 xa1
         try clear xb0 xb1
         have xb0 := Bb.out.cell 0
         have xb1 := Bb.out.cell 1
         simp only [List.getElem?_toArray, List.getElem?_cons_zero, List.getElem?_cons_succ] at xb0 xb1))
  go_wp2
  go_ret
  exact ⟨rfl, HC12.out⟩

set_option maxRecDepth 100000 in
set_option maxHeartbeats 2000000 in
theorem order_great (l : Nat) (A : Option Addr) (n cap : Nat) (x y : Value) (w : World) (hn : 2147483648 ≤ n) (hn2 : n ≤ 9223372036854775807) :
    Calls Try.prog 3 #[.agg #[.int .u64 l, .slice A n cap], x, y] w fun e w' => e = .returned (.bool true) ∧ Ch S0 w w' := by
  have HC0 := Lib.hid (Ch.refl S0 w)
  go_enter Try.func3, Try.ntmps3
  go_wp2_with fail
  refine (fits_no l n cap A _ hn hn2).mono ?_
  rintro e w1 ⟨rfl, hC⟩
  have HC1 := Lib.hid (HC0.out.trans (Ch.trans ((Ch.refl S0 _).alloc _) hC))
  clear hC HC0
  go_wp2_with fail
  go_ret
  exact ⟨rfl, HC1.out⟩

end Go.Proofs.Ytgnhmgnpmbmjcaa
