/- THE WALK of FnBSDeepOne. -/
import Derived.Test.YtgnhmgnpmbmjcaaWm
import Derived.Test.YtgnhmgnpmbmjcaaWj
namespace Go.Proofs.Ytgnhmgnpmbmjcaa
open Go.RowKit

set_option maxRecDepth 100000 in
set_option maxHeartbeats 4000000 in
theorem one_small (l1 : Nat) (P1 : Option Addr) (m1 r1 : Nat) (xs1 : List Nat) (u1 : Nat) (w : World) (hl1 : Lst 0 w (.slice P1 m1 r1) xs1) (hx1 : ∀ j (hj : j < xs1.length), xs1[j] < 18446744073709551616) (hn1 : xs1.length = m1) (hm1 : m1 ≤ 2147483647) (hu1 : u1 < 65536) :
    Calls Try.prog 6 #[.agg #[.int .u64 l1, .slice P1 m1 r1], .int .u16 u1] w fun e w' => e = .returned (.bool true) ∧ Ch S0 w w' := by
  have HX1 := Lib.hid hx1
  have LX1 := Lib.hid hn1
  have IX1 := Lib.hid hl1
  have HC0 := Lib.hid (Ch.refl S0 w)
  clear hx1 hn1 hl1
  go_enter Try.func6, Try.ntmps6
  go_wp2_with fail
  refine (fits_yes l1 m1 r1 P1 _ hm1).mono ?_
  rintro e w1 ⟨rfl, hC⟩
  have hCC : Ch S0 w w1 := Ch.trans (by first | exact Ch.refl _ _ | exact (Ch.refl _ _).alloc _ | exact (Ch.refl _ _).drew | exact ((Ch.refl _ _).alloc _).alloc _ | exact ((Ch.refl _ _).alloc _).drew | exact (((Ch.refl _ _).alloc _).alloc _).alloc _ | exact (((Ch.refl _ _).alloc _).alloc _).drew | exact ((((Ch.refl _ _).alloc _).alloc _).alloc _).drew | exact ((((Ch.refl _ _).alloc _).alloc _).alloc _).alloc _ | exact (((((Ch.refl _ _).alloc _).alloc _).alloc _).alloc _).drew) hC
  have HC1 := Lib.hid (HC0.out.trans hCC)
  clear HC0
  have Bp1 : Hid (Blk w1 (w.heap.size) #[.int .u64 (l1 : Nat), .slice P1 m1 r1]) := Lib.hid (Blk.keep (S := S0) (by first | exact Blk.newAt _ _ (by simp) | exact (Blk.newAt _ _ (by simp)).alloc _ | exact ((Blk.newAt _ _ (by simp)).alloc _).alloc _ | exact (((Blk.newAt _ _ (by simp)).alloc _).alloc _).alloc _) hC (fun h => h))
  clear hC hCC
  try clear xp10 xp11
  try clear xp1z
  have xp1z := Bp1.out.lt
  have xp10 := Bp1.out.cell 0
  have xp11 := Bp1.out.cell 1
  simp only [List.getElem?_toArray, List.getElem?_cons_zero, List.getElem?_cons_succ] at xp10 xp11
  go_wp2_with fail
  refine (bits_any l1 _ xs1 _ (IX1.out.keep (HC1.out.trans (by first | exact Ch.refl _ _ | exact (Ch.refl _ _).alloc _ | exact (Ch.refl _ _).drew | exact ((Ch.refl _ _).alloc _).alloc _ | exact ((Ch.refl _ _).alloc _).drew | exact (((Ch.refl _ _).alloc _).alloc _).alloc _ | exact (((Ch.refl _ _).alloc _).alloc _).drew | exact ((((Ch.refl _ _).alloc _).alloc _).alloc _).drew | exact ((((Ch.refl _ _).alloc _).alloc _).alloc _).alloc _ | exact (((((Ch.refl _ _).alloc _).alloc _).alloc _).alloc _).drew))) HX1.out (by rw [LX1.out]; omega)).mono ?_
  rintro e w2 ⟨va, La, ga, rfl, hLa, hV, hC⟩
  obtain ⟨Aa, na, ca, rfl⟩ := hV.shape
  have hCC : Ch S0 w1 w2 := Ch.trans (by first | exact Ch.refl _ _ | exact (Ch.refl _ _).alloc _ | exact (Ch.refl _ _).drew | exact ((Ch.refl _ _).alloc _).alloc _ | exact ((Ch.refl _ _).alloc _).drew | exact (((Ch.refl _ _).alloc _).alloc _).alloc _ | exact (((Ch.refl _ _).alloc _).alloc _).drew | exact ((((Ch.refl _ _).alloc _).alloc _).alloc _).drew | exact ((((Ch.refl _ _).alloc _).alloc _).alloc _).alloc _ | exact (((((Ch.refl _ _).alloc _).alloc _).alloc _).alloc _).drew) hC
  have HC2 := Lib.hid (HC1.out.trans hCC)
  clear HC1
  have Bx := Lib.hid (Bp1.out.keep hCC (fun h => h))
  clear Bp1
  have Bp1 := Bx
  clear Bx
  have Ha := Lib.hid (hV.mono (base' := 0) (Nat.zero_le _))
  clear hV
  clear hC hCC
  try clear xp10 xp11
  try clear xp1z
  have xp1z := Bp1.out.lt
  have xp10 := Bp1.out.cell 0
  have xp11 := Bp1.out.cell 1
  simp only [List.getElem?_toArray, List.getElem?_cons_zero, List.getElem?_cons_succ] at xp10 xp11
  go_wp2_with fail
  refine (bssetrange_any _ _ _ _ (Ha.out.keep (by first | exact Ch.refl _ _ | exact (Ch.refl _ _).alloc _ | exact (Ch.refl _ _).drew | exact ((Ch.refl _ _).alloc _).alloc _ | exact ((Ch.refl _ _).alloc _).drew | exact (((Ch.refl _ _).alloc _).alloc _).alloc _ | exact (((Ch.refl _ _).alloc _).alloc _).drew | exact ((((Ch.refl _ _).alloc _).alloc _).alloc _).drew | exact ((((Ch.refl _ _).alloc _).alloc _).alloc _).alloc _ | exact (((((Ch.refl _ _).alloc _).alloc _).alloc _).alloc _).drew)) (u1 % 1000) ((u1 % 1000) + 1) _ _ (by omega) (by first | omega | (rw [IntKind.wrap_u64]; omega)) (by omega) (by omega)).mono ?_
  rintro e w3 ⟨vb, rfl, hV, hC⟩
  obtain ⟨Lb, hE⟩ : ∃ x, x = max La ((u1 % 1000) + 1) := ⟨_, rfl⟩
  rw [← hE] at hV
  have Eb := Lib.hid hE
  clear hE
  obtain ⟨Ab, nb, cb, rfl⟩ := hV.shape
  have hCC : Ch S0 w2 w3 := Ch.trans (by first | exact Ch.refl _ _ | exact (Ch.refl _ _).alloc _ | exact (Ch.refl _ _).drew | exact ((Ch.refl _ _).alloc _).alloc _ | exact ((Ch.refl _ _).alloc _).drew | exact (((Ch.refl _ _).alloc _).alloc _).alloc _ | exact (((Ch.refl _ _).alloc _).alloc _).drew | exact ((((Ch.refl _ _).alloc _).alloc _).alloc _).drew | exact ((((Ch.refl _ _).alloc _).alloc _).alloc _).alloc _ | exact (((((Ch.refl _ _).alloc _).alloc _).alloc _).alloc _).drew) hC
  have HC3 := Lib.hid (HC2.out.trans hCC)
  clear HC2
  have Hx := Lib.hid (Ha.out.keep hCC)
  clear Ha
  have Ha := Hx
  clear Hx
  have Bx := Lib.hid (Bp1.out.keep hCC (fun h => h))
  clear Bp1
  have Bp1 := Bx
  clear Bx
  have Ba : Hid (Blk w3 (w2.heap.size) #[.int .u64 (La : Nat), .slice Aa na ca]) := Lib.hid (Blk.keep (S := S0) (by first | exact Blk.newAt _ _ (by simp) | exact (Blk.newAt _ _ (by simp)).alloc _ | exact ((Blk.newAt _ _ (by simp)).alloc _).alloc _ | exact (((Blk.newAt _ _ (by simp)).alloc _).alloc _).alloc _) hC (fun h => h))
  have Hb := Lib.hid (hV.mono (base' := 0) (Nat.zero_le _))
  clear hV
  clear hC hCC
  try clear xp10 xp11
  try clear xp1z
  have xp1z := Bp1.out.lt
  have xp10 := Bp1.out.cell 0
  have xp11 := Bp1.out.cell 1
  simp only [List.getElem?_toArray, List.getElem?_cons_zero, List.getElem?_cons_succ] at xp10 xp11
  try clear xa0 xa1
  try clear xaz
  have xaz := Ba.out.lt
  have xa0 := Ba.out.cell 0
  have xa1 := Ba.out.cell 1
  simp only [List.getElem?_toArray, List.getElem?_cons_zero, List.getElem?_cons_succ] at xa0 xa1
  go_wp2_with fail
  have Bb : Hid (Blk (w3.alloc (Obj.cells #[.int .u64 (Lb : Nat), .slice Ab nb cb] 25)) (w3.heap.size) #[.int .u64 (Lb : Nat), .slice Ab nb cb]) := Lib.hid (Blk.new _ _ _)
  have hCC : Ch S0 w3 (w3.alloc (Obj.cells #[.int .u64 (Lb : Nat), .slice Ab nb cb] 25)) := (Ch.refl _ _).alloc _
  have HC4 := Lib.hid (HC3.out.trans hCC)
  have Hx := Lib.hid (Ha.out.keep hCC)
  clear Ha
  have Ha := Hx
  clear Hx
  have Hx := Lib.hid (Hb.out.keep hCC)
  clear Hb
  have Hb := Hx
  clear Hx
  have Bx := Lib.hid (Bp1.out.keep hCC (fun h => h))
  clear Bp1
  have Bp1 := Bx
  clear Bx
  have Bx := Lib.hid (Ba.out.keep hCC (fun h => h))
  clear Ba
  have Ba := Bx
  clear Bx
  clear hCC HC3
  try clear xp10 xp11
  try clear xa0 xa1
  try clear xp1z
  try clear xaz
  generalize w3.alloc (Obj.cells #[.int .u64 (Lb : Nat), .slice Ab nb cb] 25) = w4 at *
  generalize w3.heap.size = bb at *
  have xp10 := Bp1.out.cell 0
  have xp11 := Bp1.out.cell 1
  simp only [List.getElem?_toArray, List.getElem?_cons_zero, List.getElem?_cons_succ] at xp10 xp11
  have xa0 := Ba.out.cell 0
  have xa1 := Ba.out.cell 1
  simp only [List.getElem?_toArray, List.getElem?_cons_zero, List.getElem?_cons_succ] at xa0 xa1
  have xb0 := Bb.out.cell 0
  have xb1 := Bb.out.cell 1
  simp only [List.getElem?_toArray, List.getElem?_cons_zero, List.getElem?_cons_succ] at xb0 xb1
  go_wp2_with fail
  go_region_held3 (fun w' => w'.cell? ⟨w2.heap.size, 0, none⟩ = some (.int .u64 (La : Nat)) ∧ w'.cell? ⟨w2.heap.size, 1, none⟩ = some (.slice Aa na ca) ∧ w'.cell? ⟨bb, 0, none⟩ = some (.int .u64 (Lb : Nat)) ∧ w'.cell? ⟨bb, 1, none⟩ = some (.slice Ab nb cb))
    (first | ((try dsimp only); (repeat' apply And.intro) <;> assumption) | (go_keep; done))
    (first
      | (go_at_call 15
         (with_reducible refine (bsset_any _ _ _ _ (Ha.out.keep (by first | exact Ch.refl _ _ | exact (Ch.refl _ _).alloc _ | exact (Ch.refl _ _).drew | exact ((Ch.refl _ _).alloc _).alloc _ | exact ((Ch.refl _ _).alloc _).drew | exact (((Ch.refl _ _).alloc _).alloc _).alloc _ | exact (((Ch.refl _ _).alloc _).alloc _).drew | exact ((((Ch.refl _ _).alloc _).alloc _).alloc _).drew | exact ((((Ch.refl _ _).alloc _).alloc _).alloc _).alloc _ | exact (((((Ch.refl _ _).alloc _).alloc _).alloc _).alloc _).drew)) (u1 % 1000) _ (by omega) (by omega)).mono ?_)
         rintro e w5 ⟨vc, rfl, hV, hC⟩
         obtain ⟨Lc, hE⟩ : ∃ x, x = max La ((u1 % 1000) + 1) := ⟨_, rfl⟩
         rw [← hE] at hV
         have Ec := Lib.hid hE
         clear hE
         obtain ⟨Ac, nc, cc, rfl⟩ := hV.shape
         have hCC : Ch S0 w4 w5 := Ch.trans (by first | exact Ch.refl _ _ | exact (Ch.refl _ _).alloc _ | exact (Ch.refl _ _).drew | exact ((Ch.refl _ _).alloc _).alloc _ | exact ((Ch.refl _ _).alloc _).drew | exact (((Ch.refl _ _).alloc _).alloc _).alloc _ | exact (((Ch.refl _ _).alloc _).alloc _).drew | exact ((((Ch.refl _ _).alloc _).alloc _).alloc _).drew | exact ((((Ch.refl _ _).alloc _).alloc _).alloc _).alloc _ | exact (((((Ch.refl _ _).alloc _).alloc _).alloc _).alloc _).drew) hC
         have HC5 := Lib.hid (HC4.out.trans hCC)
         clear HC4
         have Hx := Lib.hid (Ha.out.keep hCC)
         clear Ha
         have Ha := Hx
         clear Hx
         have Hx := Lib.hid (Hb.out.keep hCC)
         clear Hb
         have Hb := Hx
         clear Hx
         have Bx := Lib.hid (Bp1.out.keep hCC (fun h => h))
         clear Bp1
         have Bp1 := Bx
         clear Bx
         have Bx := Lib.hid (Ba.out.keep hCC (fun h => h))
         clear Ba
         have Ba := Bx
         clear Bx
         have Bx := Lib.hid (Bb.out.keep hCC (fun h => h))
         clear Bb
         have Bb := Bx
         clear Bx
         have Hc := Lib.hid (hV.mono (base' := 0) (Nat.zero_le _))
         clear hV
         clear hC hCC
         try clear xp10 xp11
         try clear xp1z
         have xp1z := Bp1.out.lt
         have xp10 := Bp1.out.cell 0
         have xp11 := Bp1.out.cell 1
         simp only [List.getElem?_toArray, List.getElem?_cons_zero, List.getElem?_cons_succ] at xp10 xp11
         try clear xa0 xa1
         try clear xaz
         have xaz := Ba.out.lt
         have xa0 := Ba.out.cell 0
         have xa1 := Ba.out.cell 1
         simp only [List.getElem?_toArray, List.getElem?_cons_zero, List.getElem?_cons_succ] at xa0 xa1
         try clear xb0 xb1
         try clear xbz
         have xbz := Bb.out.lt
         have xb0 := Bb.out.cell 0
         have xb1 := Bb.out.cell 1
         simp only [List.getElem?_toArray, List.getElem?_cons_zero, List.getElem?_cons_succ] at xb0 xb1)
      | (go_at_call 16
         (with_reducible refine (bssame_true _ _ _ _ _ (Hb.out.keep (by first | exact Ch.refl _ _ | exact (Ch.refl _ _).alloc _ | exact (Ch.refl _ _).drew | exact ((Ch.refl _ _).alloc _).alloc _ | exact ((Ch.refl _ _).alloc _).drew | exact (((Ch.refl _ _).alloc _).alloc _).alloc _ | exact (((Ch.refl _ _).alloc _).alloc _).drew | exact ((((Ch.refl _ _).alloc _).alloc _).alloc _).drew | exact ((((Ch.refl _ _).alloc _).alloc _).alloc _).alloc _ | exact (((((Ch.refl _ _).alloc _).alloc _).alloc _).alloc _).drew)) ((Hc.out.keep (by first | exact Ch.refl _ _ | exact (Ch.refl _ _).alloc _ | exact (Ch.refl _ _).drew | exact ((Ch.refl _ _).alloc _).alloc _ | exact ((Ch.refl _ _).alloc _).drew | exact (((Ch.refl _ _).alloc _).alloc _).alloc _ | exact (((Ch.refl _ _).alloc _).alloc _).drew | exact ((((Ch.refl _ _).alloc _).alloc _).alloc _).drew | exact ((((Ch.refl _ _).alloc _).alloc _).alloc _).alloc _ | exact (((((Ch.refl _ _).alloc _).alloc _).alloc _).alloc _).drew)).cast (by have e1 := Eb.out; have e2 := Ec.out; omega) (fun k => (congrFun (setR_one ga (u1 % 1000)) k).symm))).mono ?_)
         rintro e w6 ⟨rfl, hC⟩
         have hCC : Ch S0 w5 w6 := Ch.trans (by first | exact Ch.refl _ _ | exact (Ch.refl _ _).alloc _ | exact (Ch.refl _ _).drew | exact ((Ch.refl _ _).alloc _).alloc _ | exact ((Ch.refl _ _).alloc _).drew | exact (((Ch.refl _ _).alloc _).alloc _).alloc _ | exact (((Ch.refl _ _).alloc _).alloc _).drew | exact ((((Ch.refl _ _).alloc _).alloc _).alloc _).drew | exact ((((Ch.refl _ _).alloc _).alloc _).alloc _).alloc _ | exact (((((Ch.refl _ _).alloc _).alloc _).alloc _).alloc _).drew) hC
         have HC6 := Lib.hid (HC5.out.trans hCC)
         clear HC5
         have Hx := Lib.hid (Ha.out.keep hCC)
         clear Ha
         have Ha := Hx
         clear Hx
         have Hx := Lib.hid (Hb.out.keep hCC)
         clear Hb
         have Hb := Hx
         clear Hx
         have Hx := Lib.hid (Hc.out.keep hCC)
         clear Hc
         have Hc := Hx
         clear Hx
         have Bx := Lib.hid (Bp1.out.keep hCC (fun h => h))
         clear Bp1
         have Bp1 := Bx
         clear Bx
         have Bx := Lib.hid (Ba.out.keep hCC (fun h => h))
         clear Ba
         have Ba := Bx
         clear Bx
         have Bx := Lib.hid (Bb.out.keep hCC (fun h => h))
         clear Bb
         have Bb := Bx
         clear Bx
         clear hC hCC
         try clear xp10 xp11
         try clear xp1z
         have xp1z := Bp1.out.lt
         have xp10 := Bp1.out.cell 0
         have xp11 := Bp1.out.cell 1
         simp only [List.getElem?_toArray, List.getElem?_cons_zero, List.getElem?_cons_succ] at xp10 xp11
         try clear xa0 xa1
         try clear xaz
         have xaz := Ba.out.lt
         have xa0 := Ba.out.cell 0
         have xa1 := Ba.out.cell 1
         simp only [List.getElem?_toArray, List.getElem?_cons_zero, List.getElem?_cons_succ] at xa0 xa1
         try clear xb0 xb1
         try clear xbz
         have xbz := Bb.out.lt
         have xb0 := Bb.out.cell 0
         have xb1 := Bb.out.cell 1
         simp only [List.getElem?_toArray, List.getElem?_cons_zero, List.getElem?_cons_succ] at xb0 xb1)
      | (go_at_call 24
         (with_reducible refine (bsfliprange_any _ _ _ _ (Ha.out.keep (by first | exact Ch.refl _ _ | exact (Ch.refl _ _).alloc _ | exact (Ch.refl _ _).drew | exact ((Ch.refl _ _).alloc _).alloc _ | exact ((Ch.refl _ _).alloc _).drew | exact (((Ch.refl _ _).alloc _).alloc _).alloc _ | exact (((Ch.refl _ _).alloc _).alloc _).drew | exact ((((Ch.refl _ _).alloc _).alloc _).alloc _).drew | exact ((((Ch.refl _ _).alloc _).alloc _).alloc _).alloc _ | exact (((((Ch.refl _ _).alloc _).alloc _).alloc _).alloc _).drew)) (u1 % 1000) ((u1 % 1000) + 1) _ _ (by omega) (by first | omega | (rw [IntKind.wrap_u64]; omega)) (by omega) (by omega)).mono ?_)
         rintro e w7 ⟨vd, rfl, hV, hC⟩
         obtain ⟨Ld, hE⟩ : ∃ x, x = max La ((u1 % 1000) + 1) := ⟨_, rfl⟩
         rw [← hE] at hV
         have Ed := Lib.hid hE
         clear hE
         obtain ⟨Ad, nd, cd, rfl⟩ := hV.shape
         have hCC : Ch S0 w6 w7 := Ch.trans (by first | exact Ch.refl _ _ | exact (Ch.refl _ _).alloc _ | exact (Ch.refl _ _).drew | exact ((Ch.refl _ _).alloc _).alloc _ | exact ((Ch.refl _ _).alloc _).drew | exact (((Ch.refl _ _).alloc _).alloc _).alloc _ | exact (((Ch.refl _ _).alloc _).alloc _).drew | exact ((((Ch.refl _ _).alloc _).alloc _).alloc _).drew | exact ((((Ch.refl _ _).alloc _).alloc _).alloc _).alloc _ | exact (((((Ch.refl _ _).alloc _).alloc _).alloc _).alloc _).drew) hC
         have HC7 := Lib.hid (HC6.out.trans hCC)
         clear HC6
         have Hx := Lib.hid (Ha.out.keep hCC)
         clear Ha
         have Ha := Hx
         clear Hx
         have Hx := Lib.hid (Hb.out.keep hCC)
         clear Hb
         have Hb := Hx
         clear Hx
         have Hx := Lib.hid (Hc.out.keep hCC)
         clear Hc
         have Hc := Hx
         clear Hx
         have Bx := Lib.hid (Bp1.out.keep hCC (fun h => h))
         clear Bp1
         have Bp1 := Bx
         clear Bx
         have Bx := Lib.hid (Ba.out.keep hCC (fun h => h))
         clear Ba
         have Ba := Bx
         clear Bx
         have Bx := Lib.hid (Bb.out.keep hCC (fun h => h))
         clear Bb
         have Bb := Bx
         clear Bx
         have Hd := Lib.hid (hV.mono (base' := 0) (Nat.zero_le _))
         clear hV
         clear hC hCC
         try clear xp10 xp11
         try clear xp1z
         have xp1z := Bp1.out.lt
         have xp10 := Bp1.out.cell 0
         have xp11 := Bp1.out.cell 1
         simp only [List.getElem?_toArray, List.getElem?_cons_zero, List.getElem?_cons_succ] at xp10 xp11
         try clear xa0 xa1
         try clear xaz
         have xaz := Ba.out.lt
         have xa0 := Ba.out.cell 0
         have xa1 := Ba.out.cell 1
         simp only [List.getElem?_toArray, List.getElem?_cons_zero, List.getElem?_cons_succ] at xa0 xa1
         try clear xb0 xb1
         try clear xbz
         have xbz := Bb.out.lt
         have xb0 := Bb.out.cell 0
         have xb1 := Bb.out.cell 1
         simp only [List.getElem?_toArray, List.getElem?_cons_zero, List.getElem?_cons_succ] at xb0 xb1)
      | (go_at_call 25
         (with_reducible refine (bsflip_any _ _ _ _ (Ha.out.keep (by first | exact Ch.refl _ _ | exact (Ch.refl _ _).alloc _ | exact (Ch.refl _ _).drew | exact ((Ch.refl _ _).alloc _).alloc _ | exact ((Ch.refl _ _).alloc _).drew | exact (((Ch.refl _ _).alloc _).alloc _).alloc _ | exact (((Ch.refl _ _).alloc _).alloc _).drew | exact ((((Ch.refl _ _).alloc _).alloc _).alloc _).drew | exact ((((Ch.refl _ _).alloc _).alloc _).alloc _).alloc _ | exact (((((Ch.refl _ _).alloc _).alloc _).alloc _).alloc _).drew)) (u1 % 1000) _ (by omega) (by omega)).mono ?_)
         rintro e w8 ⟨vf, rfl, hV, hC⟩
         obtain ⟨Lf, hE⟩ : ∃ x, x = max La ((u1 % 1000) + 1) := ⟨_, rfl⟩
         rw [← hE] at hV
         have Ef := Lib.hid hE
         clear hE
         obtain ⟨Af, nf, cf, rfl⟩ := hV.shape
         have hCC : Ch S0 w7 w8 := Ch.trans (by first | exact Ch.refl _ _ | exact (Ch.refl _ _).alloc _ | exact (Ch.refl _ _).drew | exact ((Ch.refl _ _).alloc _).alloc _ | exact ((Ch.refl _ _).alloc _).drew | exact (((Ch.refl _ _).alloc _).alloc _).alloc _ | exact (((Ch.refl _ _).alloc _).alloc _).drew | exact ((((Ch.refl _ _).alloc _).alloc _).alloc _).drew | exact ((((Ch.refl _ _).alloc _).alloc _).alloc _).alloc _ | exact (((((Ch.refl _ _).alloc _).alloc _).alloc _).alloc _).drew) hC
         have HC8 := Lib.hid (HC7.out.trans hCC)
         clear HC7
         have Hx := Lib.hid (Ha.out.keep hCC)
         clear Ha
         have Ha := Hx
         clear Hx
         have Hx := Lib.hid (Hb.out.keep hCC)
         clear Hb
         have Hb := Hx
         clear Hx
         have Hx := Lib.hid (Hc.out.keep hCC)
         clear Hc
         have Hc := Hx
         clear Hx
         have Hx := Lib.hid (Hd.out.keep hCC)
         clear Hd
         have Hd := Hx
         clear Hx
         have Bx := Lib.hid (Bp1.out.keep hCC (fun h => h))
         clear Bp1
         have Bp1 := Bx
         clear Bx
         have Bx := Lib.hid (Ba.out.keep hCC (fun h => h))
         clear Ba
         have Ba := Bx
         clear Bx
         have Bx := Lib.hid (Bb.out.keep hCC (fun h => h))
         clear Bb
         have Bb := Bx
         clear Bx
         have Hf := Lib.hid (hV.mono (base' := 0) (Nat.zero_le _))
         clear hV
         clear hC hCC
         try clear xp10 xp11
         try clear xp1z
         have xp1z := Bp1.out.lt
         have xp10 := Bp1.out.cell 0
         have xp11 := Bp1.out.cell 1
         simp only [List.getElem?_toArray, List.getElem?_cons_zero, List.getElem?_cons_succ] at xp10 xp11
         try clear xa0 xa1
         try clear xaz
         have xaz := Ba.out.lt
         have xa0 := Ba.out.cell 0
         have xa1 := Ba.out.cell 1
         simp only [List.getElem?_toArray, List.getElem?_cons_zero, List.getElem?_cons_succ] at xa0 xa1
         try clear xb0 xb1
         try clear xbz
         have xbz := Bb.out.lt
         have xb0 := Bb.out.cell 0
         have xb1 := Bb.out.cell 1
         simp only [List.getElem?_toArray, List.getElem?_cons_zero, List.getElem?_cons_succ] at xb0 xb1)
      | (go_at_call 16
         (with_reducible refine (bssame_true _ _ _ _ _ (Hd.out.keep (by first | exact Ch.refl _ _ | exact (Ch.refl _ _).alloc _ | exact (Ch.refl _ _).drew | exact ((Ch.refl _ _).alloc _).alloc _ | exact ((Ch.refl _ _).alloc _).drew | exact (((Ch.refl _ _).alloc _).alloc _).alloc _ | exact (((Ch.refl _ _).alloc _).alloc _).drew | exact ((((Ch.refl _ _).alloc _).alloc _).alloc _).drew | exact ((((Ch.refl _ _).alloc _).alloc _).alloc _).alloc _ | exact (((((Ch.refl _ _).alloc _).alloc _).alloc _).alloc _).drew)) ((Hf.out.keep (by first | exact Ch.refl _ _ | exact (Ch.refl _ _).alloc _ | exact (Ch.refl _ _).drew | exact ((Ch.refl _ _).alloc _).alloc _ | exact ((Ch.refl _ _).alloc _).drew | exact (((Ch.refl _ _).alloc _).alloc _).alloc _ | exact (((Ch.refl _ _).alloc _).alloc _).drew | exact ((((Ch.refl _ _).alloc _).alloc _).alloc _).drew | exact ((((Ch.refl _ _).alloc _).alloc _).alloc _).alloc _ | exact (((((Ch.refl _ _).alloc _).alloc _).alloc _).alloc _).drew)).cast (by have e1 := Ed.out; have e2 := Ef.out; omega) (fun k => (congrFun (flipR_one ga (u1 % 1000)) k).symm))).mono ?_)
         rintro e w9 ⟨rfl, hC⟩
         have hCC : Ch S0 w8 w9 := Ch.trans (by first | exact Ch.refl _ _ | exact (Ch.refl _ _).alloc _ | exact (Ch.refl _ _).drew | exact ((Ch.refl _ _).alloc _).alloc _ | exact ((Ch.refl _ _).alloc _).drew | exact (((Ch.refl _ _).alloc _).alloc _).alloc _ | exact (((Ch.refl _ _).alloc _).alloc _).drew | exact ((((Ch.refl _ _).alloc _).alloc _).alloc _).drew | exact ((((Ch.refl _ _).alloc _).alloc _).alloc _).alloc _ | exact (((((Ch.refl _ _).alloc _).alloc _).alloc _).alloc _).drew) hC
         have HC9 := Lib.hid (HC8.out.trans hCC)
         clear HC8
         have Hx := Lib.hid (Ha.out.keep hCC)
         clear Ha
         have Ha := Hx
         clear Hx
         have Hx := Lib.hid (Hb.out.keep hCC)
         clear Hb
         have Hb := Hx
         clear Hx
         have Hx := Lib.hid (Hc.out.keep hCC)
         clear Hc
         have Hc := Hx
         clear Hx
         have Hx := Lib.hid (Hd.out.keep hCC)
         clear Hd
         have Hd := Hx
         clear Hx
         have Hx := Lib.hid (Hf.out.keep hCC)
         clear Hf
         have Hf := Hx
         clear Hx
         have Bx := Lib.hid (Bp1.out.keep hCC (fun h => h))
         clear Bp1
         have Bp1 := Bx
         clear Bx
         have Bx := Lib.hid (Ba.out.keep hCC (fun h => h))
         clear Ba
         have Ba := Bx
         clear Bx
         have Bx := Lib.hid (Bb.out.keep hCC (fun h => h))
         clear Bb
         have Bb := Bx
         clear Bx
         clear hC hCC
         try clear xp10 xp11
         try clear xp1z
         have xp1z := Bp1.out.lt
         have xp10 := Bp1.out.cell 0
         have xp11 := Bp1.out.cell 1
         simp only [List.getElem?_toArray, List.getElem?_cons_zero, List.getElem?_cons_succ] at xp10 xp11
         try clear xa0 xa1
         try clear xaz
         have xaz := Ba.out.lt
         have xa0 := Ba.out.cell 0
         have xa1 := Ba.out.cell 1
         simp only [List.getElem?_toArray, List.getElem?_cons_zero, List.getElem?_cons_succ] at xa0 xa1
         try clear xb0 xb1
         try clear xbz
         have xbz := Bb.out.lt
         have xb0 := Bb.out.cell 0
         have xb1 := Bb.out.cell 1
         simp only [List.getElem?_toArray, List.getElem?_cons_zero, List.getElem?_cons_succ] at xb0 xb1)
      | (go_at_call 17
         (with_reducible refine (bstest_true _ _ _ _ (Hb.out.keep (by first | exact Ch.refl _ _ | exact (Ch.refl _ _).alloc _ | exact (Ch.refl _ _).drew | exact ((Ch.refl _ _).alloc _).alloc _ | exact ((Ch.refl _ _).alloc _).drew | exact (((Ch.refl _ _).alloc _).alloc _).alloc _ | exact (((Ch.refl _ _).alloc _).alloc _).drew | exact ((((Ch.refl _ _).alloc _).alloc _).alloc _).drew | exact ((((Ch.refl _ _).alloc _).alloc _).alloc _).alloc _ | exact (((((Ch.refl _ _).alloc _).alloc _).alloc _).alloc _).drew)) (u1 % 1000) _ (by omega) (by rw [setR_one]; simp [Bit.put])).mono ?_)
         rintro e w10 ⟨rfl, hC⟩
         have hCC : Ch S0 w9 w10 := Ch.trans (by first | exact Ch.refl _ _ | exact (Ch.refl _ _).alloc _ | exact (Ch.refl _ _).drew | exact ((Ch.refl _ _).alloc _).alloc _ | exact ((Ch.refl _ _).alloc _).drew | exact (((Ch.refl _ _).alloc _).alloc _).alloc _ | exact (((Ch.refl _ _).alloc _).alloc _).drew | exact ((((Ch.refl _ _).alloc _).alloc _).alloc _).drew | exact ((((Ch.refl _ _).alloc _).alloc _).alloc _).alloc _ | exact (((((Ch.refl _ _).alloc _).alloc _).alloc _).alloc _).drew) hC
         have HC10 := Lib.hid (HC9.out.trans hCC)
         clear HC9
         have Hx := Lib.hid (Ha.out.keep hCC)
         clear Ha
         have Ha := Hx
         clear Hx
         have Hx := Lib.hid (Hb.out.keep hCC)
         clear Hb
         have Hb := Hx
         clear Hx
         have Hx := Lib.hid (Hc.out.keep hCC)
         clear Hc
         have Hc := Hx
         clear Hx
         have Hx := Lib.hid (Hd.out.keep hCC)
         clear Hd
         have Hd := Hx
         clear Hx
         have Hx := Lib.hid (Hf.out.keep hCC)
         clear Hf
         have Hf := Hx
         clear Hx
         have Bx := Lib.hid (Bp1.out.keep hCC (fun h => h))
         clear Bp1
         have Bp1 := Bx
         clear Bx
         have Bx := Lib.hid (Ba.out.keep hCC (fun h => h))
         clear Ba
         have Ba := Bx
         clear Bx
         have Bx := Lib.hid (Bb.out.keep hCC (fun h => h))
         clear Bb
         have Bb := Bx
         clear Bx
         clear hC hCC
         try clear xp10 xp11
         try clear xp1z
         have xp1z := Bp1.out.lt
         have xp10 := Bp1.out.cell 0
         have xp11 := Bp1.out.cell 1
         simp only [List.getElem?_toArray, List.getElem?_cons_zero, List.getElem?_cons_succ] at xp10 xp11
         try clear xa0 xa1
         try clear xaz
         have xaz := Ba.out.lt
         have xa0 := Ba.out.cell 0
         have xa1 := Ba.out.cell 1
         simp only [List.getElem?_toArray, List.getElem?_cons_zero, List.getElem?_cons_succ] at xa0 xa1
         try clear xb0 xb1
         try clear xbz
         have xbz := Bb.out.lt
         have xb0 := Bb.out.cell 0
         have xb1 := Bb.out.cell 1
         simp only [List.getElem?_toArray, List.getElem?_cons_zero, List.getElem?_cons_succ] at xb0 xb1))
  go_wp2
  go_ret
  exact ⟨rfl, HC10.out⟩

end Go.Proofs.Ytgnhmgnpmbmjcaa
