/- THE WALK of FnBSDeepBack. -/
import Derived.Test.YtgnhmgnpmbmjcaaWy
import Derived.Test.YtgnhmgnpmbmjcaaWp
import Derived.Test.YtgnhmgnpmbmjcaaWj

namespace Go.Proofs.Ytgnhmgnpmbmjcaa
open Go.RowKit

theorem bsbetween_t {base : Nat} (v : Value) (L : Nat) (g : Nat → Bool) (w : World) (h : IsB base w v L g) (s f : Nat) (x y : Int) (hx : x = s) (hy : y = f) (hs : s ≤ 10000) (hf : f ≤ 10000) (t : Nat) (ht : Bit.ones g s f = t) :
    Calls Try.prog 27 #[v, .int .u64 x, .int .u64 y] w fun e w' => e = .returned (.int .u64 (t : Nat)) ∧ Ch S0 w w' := by
  subst ht
  exact bsbetween_any v L g w h s f x y hx hy hs hf
theorem bstest_false {base : Nat} (v : Value) (L : Nat) (g : Nat → Bool) (w : World) (h : IsB base w v L g) (i : Nat) (x : Int) (hx : x = i) (hg : g i = false) :
    Calls Try.prog 17 #[v, .int .u64 x] w fun e w' => e = .returned (.bool false) ∧ Ch S0 w w' := by
  have := bstest_any v L g w h i x hx
  rwa [hg] at this
set_option maxRecDepth 100000 in
set_option maxHeartbeats 4000000 in
theorem back_small (l1 : Nat) (P1 : Option Addr) (m1 r1 : Nat) (xs1 : List Nat) (u1 : Nat) (w : World) (hl1 : Lst 0 w (.slice P1 m1 r1) xs1) (hx1 : ∀ j (hj : j < xs1.length), xs1[j] < 18446744073709551616) (hn1 : xs1.length = m1) (hm1 : m1 ≤ 2147483647) (hu1 : u1 < 65536) :
    Calls Try.prog 10 #[.agg #[.int .u64 l1, .slice P1 m1 r1], .int .u16 u1] w fun e w' => e = .returned (.bool true) ∧ Ch S0 w w' := by
  have HX1 := Lib.hid hx1
  have LX1 := Lib.hid hn1
  have IX1 := Lib.hid hl1
  have HC0 := Lib.hid (Ch.refl S0 w)
  clear hx1 hn1 hl1
  go_enter Try.func10, Try.ntmps10
  go_wp2_with fail
  refine (fits_yes l1 m1 r1 P1 _ hm1).mono ?_
  rintro e w1 ⟨rfl, hC⟩
  have hCC : Ch S0 w w1 := Ch.trans (by first | exact Ch.refl _ _ | exact (Ch.refl _ _).alloc _ | exact (Ch.refl _ _).drew | exact ((Ch.refl _ _).alloc _).alloc _ | exact ((Ch.refl _ _).alloc _).drew | exact (((Ch.refl _ _).alloc _).alloc _).alloc _ | exact (((Ch.refl _ _).alloc _).alloc _).drew | exact ((((Ch.refl _ _).alloc _).alloc _).alloc _).drew | exact ((((Ch.refl _ _).alloc _).alloc _).alloc _).alloc _ | exact (((((Ch.refl _ _).alloc _).alloc _).alloc _).alloc _).drew) hC
  have HC1 := Lib.hid (HC0.out.trans hCC)
  clear HC0
  have Bp1 : Hid (Blk w1 (w.heap.size) #[.int .u64 (l1 : Nat), .slice P1 m1 r1]) := Lib.hid (Blk.keep (S := S0) (by first | exact Blk.newAt _ _ (by simp) | exact (Blk.newAt _ _ (by simp)).alloc _ | exact ((Blk.newAt _ _ (by simp)).alloc _).alloc _ | exact (((Blk.newAt _ _ (by simp)).alloc _).alloc _).alloc _) hC (fun h => h))
  clear hC hCC
  try clear xp10 xp11
  try clear xp1z
  have xp1z := Bp1.out.lt
  have xp10 := Bp1.out.cell 0
  have xp11 := Bp1.out.cell 1
  simp only [List.getElem?_toArray, List.getElem?_cons_zero, List.getElem?_cons_succ] at xp10 xp11
  go_wp2_with fail
  refine (bits_any l1 _ xs1 _ (IX1.out.keep (HC1.out.trans (by first | exact Ch.refl _ _ | exact (Ch.refl _ _).alloc _ | exact (Ch.refl _ _).drew | exact ((Ch.refl _ _).alloc _).alloc _ | exact ((Ch.refl _ _).alloc _).drew | exact (((Ch.refl _ _).alloc _).alloc _).alloc _ | exact (((Ch.refl _ _).alloc _).alloc _).drew | exact ((((Ch.refl _ _).alloc _).alloc _).alloc _).drew | exact ((((Ch.refl _ _).alloc _).alloc _).alloc _).alloc _ | exact (((((Ch.refl _ _).alloc _).alloc _).alloc _).alloc _).drew))) HX1.out (by rw [LX1.out]; omega)).mono ?_
  rintro e w2 ⟨va, La, ga, rfl, hLa, hV, hC⟩
  obtain ⟨Aa, na, ca, rfl⟩ := hV.shape
  have hCC : Ch S0 w1 w2 := Ch.trans (by first | exact Ch.refl _ _ | exact (Ch.refl _ _).alloc _ | exact (Ch.refl _ _).drew | exact ((Ch.refl _ _).alloc _).alloc _ | exact ((Ch.refl _ _).alloc _).drew | exact (((Ch.refl _ _).alloc _).alloc _).alloc _ | exact (((Ch.refl _ _).alloc _).alloc _).drew | exact ((((Ch.refl _ _).alloc _).alloc _).alloc _).drew | exact ((((Ch.refl _ _).alloc _).alloc _).alloc _).alloc _ | exact (((((Ch.refl _ _).alloc _).alloc _).alloc _).alloc _).drew) hC
  have HC2 := Lib.hid (HC1.out.trans hCC)
  clear HC1
  have Bx := Lib.hid (Bp1.out.keep hCC (fun h => h))
  clear Bp1
  have Bp1 := Bx
  clear Bx
  have Ha := Lib.hid (hV.mono (base' := 0) (Nat.zero_le _))
  clear hV
  clear hC hCC
  try clear xp10 xp11
  try clear xp1z
  have xp1z := Bp1.out.lt
  have xp10 := Bp1.out.cell 0
  have xp11 := Bp1.out.cell 1
  simp only [List.getElem?_toArray, List.getElem?_cons_zero, List.getElem?_cons_succ] at xp10 xp11
  go_wp2_with fail
  refine (bsset_any _ _ _ _ (Ha.out.keep (by first | exact Ch.refl _ _ | exact (Ch.refl _ _).alloc _ | exact (Ch.refl _ _).drew | exact ((Ch.refl _ _).alloc _).alloc _ | exact ((Ch.refl _ _).alloc _).drew | exact (((Ch.refl _ _).alloc _).alloc _).alloc _ | exact (((Ch.refl _ _).alloc _).alloc _).drew | exact ((((Ch.refl _ _).alloc _).alloc _).alloc _).drew | exact ((((Ch.refl _ _).alloc _).alloc _).alloc _).alloc _ | exact (((((Ch.refl _ _).alloc _).alloc _).alloc _).alloc _).drew)) 401 _ (by omega) (by omega)).mono ?_
  rintro e w3 ⟨vb, rfl, hV, hC⟩
  obtain ⟨Lb, hE⟩ : ∃ x, x = max La (401 + 1) := ⟨_, rfl⟩
  rw [← hE] at hV
  have Eb := Lib.hid hE
  clear hE
  obtain ⟨Ab, nb, cb, rfl⟩ := hV.shape
  have hCC : Ch S0 w2 w3 := Ch.trans (by first | exact Ch.refl _ _ | exact (Ch.refl _ _).alloc _ | exact (Ch.refl _ _).drew | exact ((Ch.refl _ _).alloc _).alloc _ | exact ((Ch.refl _ _).alloc _).drew | exact (((Ch.refl _ _).alloc _).alloc _).alloc _ | exact (((Ch.refl _ _).alloc _).alloc _).drew | exact ((((Ch.refl _ _).alloc _).alloc _).alloc _).drew | exact ((((Ch.refl _ _).alloc _).alloc _).alloc _).alloc _ | exact (((((Ch.refl _ _).alloc _).alloc _).alloc _).alloc _).drew) hC
  have HC3 := Lib.hid (HC2.out.trans hCC)
  clear HC2
  have Hx := Lib.hid (Ha.out.keep hCC)
  clear Ha
  have Ha := Hx
  clear Hx
  have Bx := Lib.hid (Bp1.out.keep hCC (fun h => h))
  clear Bp1
  have Bp1 := Bx
  clear Bx
  have Hb := Lib.hid (hV.mono (base' := 0) (Nat.zero_le _))
  clear hV
  clear hC hCC
  try clear xp10 xp11
  try clear xp1z
  have xp1z := Bp1.out.lt
  have xp10 := Bp1.out.cell 0
  have xp11 := Bp1.out.cell 1
  simp only [List.getElem?_toArray, List.getElem?_cons_zero, List.getElem?_cons_succ] at xp10 xp11
  go_wp2_with fail
  refine (bsset_any _ _ _ _ (Hb.out.keep (by first | exact Ch.refl _ _ | exact (Ch.refl _ _).alloc _ | exact (Ch.refl _ _).drew | exact ((Ch.refl _ _).alloc _).alloc _ | exact ((Ch.refl _ _).alloc _).drew | exact (((Ch.refl _ _).alloc _).alloc _).alloc _ | exact (((Ch.refl _ _).alloc _).alloc _).drew | exact ((((Ch.refl _ _).alloc _).alloc _).alloc _).drew | exact ((((Ch.refl _ _).alloc _).alloc _).alloc _).alloc _ | exact (((((Ch.refl _ _).alloc _).alloc _).alloc _).alloc _).drew)) 0 _ (by omega) (by omega)).mono ?_
  rintro e w4 ⟨vc, rfl, hV, hC⟩
  obtain ⟨Lc, hE⟩ : ∃ x, x = max Lb (0 + 1) := ⟨_, rfl⟩
  rw [← hE] at hV
  have Ec := Lib.hid hE
  clear hE
  obtain ⟨Ac, nc, cc, rfl⟩ := hV.shape
  have hCC : Ch S0 w3 w4 := Ch.trans (by first | exact Ch.refl _ _ | exact (Ch.refl _ _).alloc _ | exact (Ch.refl _ _).drew | exact ((Ch.refl _ _).alloc _).alloc _ | exact ((Ch.refl _ _).alloc _).drew | exact (((Ch.refl _ _).alloc _).alloc _).alloc _ | exact (((Ch.refl _ _).alloc _).alloc _).drew | exact ((((Ch.refl _ _).alloc _).alloc _).alloc _).drew | exact ((((Ch.refl _ _).alloc _).alloc _).alloc _).alloc _ | exact (((((Ch.refl _ _).alloc _).alloc _).alloc _).alloc _).drew) hC
  have HC4 := Lib.hid (HC3.out.trans hCC)
  clear HC3
  have Hx := Lib.hid (Ha.out.keep hCC)
  clear Ha
  have Ha := Hx
  clear Hx
  have Hx := Lib.hid (Hb.out.keep hCC)
  clear Hb
  have Hb := Hx
  clear Hx
  have Bx := Lib.hid (Bp1.out.keep hCC (fun h => h))
  clear Bp1
  have Bp1 := Bx
  clear Bx
  have Hc := Lib.hid (hV.mono (base' := 0) (Nat.zero_le _))
  clear hV
  clear hC hCC
  try clear xp10 xp11
  try clear xp1z
  have xp1z := Bp1.out.lt
  have xp10 := Bp1.out.cell 0
  have xp11 := Bp1.out.cell 1
  simp only [List.getElem?_toArray, List.getElem?_cons_zero, List.getElem?_cons_succ] at xp10 xp11
  go_wp2_with fail
  refine (bsclear_any _ _ _ _ (Hc.out.keep (by first | exact Ch.refl _ _ | exact (Ch.refl _ _).alloc _ | exact (Ch.refl _ _).drew | exact ((Ch.refl _ _).alloc _).alloc _ | exact ((Ch.refl _ _).alloc _).drew | exact (((Ch.refl _ _).alloc _).alloc _).alloc _ | exact (((Ch.refl _ _).alloc _).alloc _).drew | exact ((((Ch.refl _ _).alloc _).alloc _).alloc _).drew | exact ((((Ch.refl _ _).alloc _).alloc _).alloc _).alloc _ | exact (((((Ch.refl _ _).alloc _).alloc _).alloc _).alloc _).drew)) 1 _ (by omega)).mono ?_
  rintro e w5 ⟨vd, rfl, hV, hC⟩
  obtain ⟨Ld, hE⟩ : ∃ x, x = Lc := ⟨_, rfl⟩
  rw [← hE] at hV
  have Ed := Lib.hid hE
  clear hE
  obtain ⟨Ad, nd, cd, rfl⟩ := hV.shape
  have hCC : Ch S0 w4 w5 := Ch.trans (by first | exact Ch.refl _ _ | exact (Ch.refl _ _).alloc _ | exact (Ch.refl _ _).drew | exact ((Ch.refl _ _).alloc _).alloc _ | exact ((Ch.refl _ _).alloc _).drew | exact (((Ch.refl _ _).alloc _).alloc _).alloc _ | exact (((Ch.refl _ _).alloc _).alloc _).drew | exact ((((Ch.refl _ _).alloc _).alloc _).alloc _).drew | exact ((((Ch.refl _ _).alloc _).alloc _).alloc _).alloc _ | exact (((((Ch.refl _ _).alloc _).alloc _).alloc _).alloc _).drew) hC
  have HC5 := Lib.hid (HC4.out.trans hCC)
  clear HC4
  have Hx := Lib.hid (Ha.out.keep hCC)
  clear Ha
  have Ha := Hx
  clear Hx
  have Hx := Lib.hid (Hb.out.keep hCC)
  clear Hb
  have Hb := Hx
  clear Hx
  have Hx := Lib.hid (Hc.out.keep hCC)
  clear Hc
  have Hc := Hx
  clear Hx
  have Bx := Lib.hid (Bp1.out.keep hCC (fun h => h))
  clear Bp1
  have Bp1 := Bx
  clear Bx
  have Hd := Lib.hid (hV.mono (base' := 0) (Nat.zero_le _))
  clear hV
  clear hC hCC
  try clear xp10 xp11
  try clear xp1z
  have xp1z := Bp1.out.lt
  have xp10 := Bp1.out.cell 0
  have xp11 := Bp1.out.cell 1
  simp only [List.getElem?_toArray, List.getElem?_cons_zero, List.getElem?_cons_succ] at xp10 xp11
  obtain ⟨gd, hgd⟩ : ∃ f, f = Bit.put (Bit.put (Bit.put ga 401 true) 0 true) 1 false := ⟨_, rfl⟩
  rw [← hgd] at Hd
  have hLd : Ld = 402 := by have e1 := Eb.out; have e2 := Ec.out; have e3 := Ed.out; omega
  have hg0 : gd 0 = true := by rw [hgd]; simp [Bit.put]
  have hg1 : gd 1 = false := by rw [hgd]; simp [Bit.put]
  have HL := Lib.hid hLd
  have HG0 := Lib.hid hg0
  have HG1 := Lib.hid hg1
  clear hgd hLd hg0 hg1
  go_wp2_with fail
  refine (bsprevset_any _ _ _ _ (Hd.out.keep (by first | exact Ch.refl _ _ | exact (Ch.refl _ _).alloc _ | exact (Ch.refl _ _).drew | exact ((Ch.refl _ _).alloc _).alloc _ | exact ((Ch.refl _ _).alloc _).drew | exact (((Ch.refl _ _).alloc _).alloc _).alloc _ | exact (((Ch.refl _ _).alloc _).alloc _).drew | exact ((((Ch.refl _ _).alloc _).alloc _).alloc _).drew | exact ((((Ch.refl _ _).alloc _).alloc _).alloc _).alloc _ | exact (((((Ch.refl _ _).alloc _).alloc _).alloc _).alloc _).drew)) (2 + u1 % 400) 0 _ (by omega) (by have h := HL.out; omega) (by omega) HG0.out).mono ?_
  rintro e w6 ⟨⟨n, hn1, hn2, hn3, rfl⟩, hC⟩
  have Hn2 := Lib.hid hn2
  have Hn3 := Lib.hid hn3
  clear hn2 hn3
  have hCC : Ch S0 w5 w6 := Ch.trans (by first | exact Ch.refl _ _ | exact (Ch.refl _ _).alloc _ | exact (Ch.refl _ _).drew | exact ((Ch.refl _ _).alloc _).alloc _ | exact ((Ch.refl _ _).alloc _).drew | exact (((Ch.refl _ _).alloc _).alloc _).alloc _ | exact (((Ch.refl _ _).alloc _).alloc _).drew | exact ((((Ch.refl _ _).alloc _).alloc _).alloc _).drew | exact ((((Ch.refl _ _).alloc _).alloc _).alloc _).alloc _ | exact (((((Ch.refl _ _).alloc _).alloc _).alloc _).alloc _).drew) hC
  have HC6 := Lib.hid (HC5.out.trans hCC)
  clear HC5
  have Hx := Lib.hid (Ha.out.keep hCC)
  clear Ha
  have Ha := Hx
  clear Hx
  have Hx := Lib.hid (Hb.out.keep hCC)
  clear Hb
  have Hb := Hx
  clear Hx
  have Hx := Lib.hid (Hc.out.keep hCC)
  clear Hc
  have Hc := Hx
  clear Hx
  have Hx := Lib.hid (Hd.out.keep hCC)
  clear Hd
  have Hd := Hx
  clear Hx
  have Bx := Lib.hid (Bp1.out.keep hCC (fun h => h))
  clear Bp1
  have Bp1 := Bx
  clear Bx
  have Bd : Hid (Blk w6 (w5.heap.size) #[.int .u64 (Ld : Nat), .slice Ad nd cd]) := Lib.hid (Blk.keep (S := S0) (by first | exact Blk.newAt _ _ (by simp) | exact (Blk.newAt _ _ (by simp)).alloc _ | exact ((Blk.newAt _ _ (by simp)).alloc _).alloc _ | exact (((Blk.newAt _ _ (by simp)).alloc _).alloc _).alloc _) hC (fun h => h))
  clear hC hCC
  try clear xp10 xp11
  try clear xp1z
  have xp1z := Bp1.out.lt
  have xp10 := Bp1.out.cell 0
  have xp11 := Bp1.out.cell 1
  simp only [List.getElem?_toArray, List.getElem?_cons_zero, List.getElem?_cons_succ] at xp10 xp11
  try clear xd0 xd1
  try clear xdz
  have xdz := Bd.out.lt
  have xd0 := Bd.out.cell 0
  have xd1 := Bd.out.cell 1
  simp only [List.getElem?_toArray, List.getElem?_cons_zero, List.getElem?_cons_succ] at xd0 xd1
  go_wp2_with fail
  refine (bsprevclear_any _ _ _ _ (Hd.out.keep (by first | exact Ch.refl _ _ | exact (Ch.refl _ _).alloc _ | exact (Ch.refl _ _).drew | exact ((Ch.refl _ _).alloc _).alloc _ | exact ((Ch.refl _ _).alloc _).drew | exact (((Ch.refl _ _).alloc _).alloc _).alloc _ | exact (((Ch.refl _ _).alloc _).alloc _).drew | exact ((((Ch.refl _ _).alloc _).alloc _).alloc _).drew | exact ((((Ch.refl _ _).alloc _).alloc _).alloc _).alloc _ | exact (((((Ch.refl _ _).alloc _).alloc _).alloc _).alloc _).drew)) (2 + u1 % 400) 1 _ (by omega) (by have h := HL.out; omega) (by omega) HG1.out).mono ?_
  rintro e w7 ⟨⟨m, hm1, hm2, hm3, rfl⟩, hC⟩
  have Hm2 := Lib.hid hm2
  have Hm3 := Lib.hid hm3
  clear hm2 hm3
  have hCC : Ch S0 w6 w7 := Ch.trans (by first | exact Ch.refl _ _ | exact (Ch.refl _ _).alloc _ | exact (Ch.refl _ _).drew | exact ((Ch.refl _ _).alloc _).alloc _ | exact ((Ch.refl _ _).alloc _).drew | exact (((Ch.refl _ _).alloc _).alloc _).alloc _ | exact (((Ch.refl _ _).alloc _).alloc _).drew | exact ((((Ch.refl _ _).alloc _).alloc _).alloc _).drew | exact ((((Ch.refl _ _).alloc _).alloc _).alloc _).alloc _ | exact (((((Ch.refl _ _).alloc _).alloc _).alloc _).alloc _).drew) hC
  have HC7 := Lib.hid (HC6.out.trans hCC)
  clear HC6
  have Hx := Lib.hid (Ha.out.keep hCC)
  clear Ha
  have Ha := Hx
  clear Hx
  have Hx := Lib.hid (Hb.out.keep hCC)
  clear Hb
  have Hb := Hx
  clear Hx
  have Hx := Lib.hid (Hc.out.keep hCC)
  clear Hc
  have Hc := Hx
  clear Hx
  have Hx := Lib.hid (Hd.out.keep hCC)
  clear Hd
  have Hd := Hx
  clear Hx
  have Bx := Lib.hid (Bp1.out.keep hCC (fun h => h))
  clear Bp1
  have Bp1 := Bx
  clear Bx
  have Bx := Lib.hid (Bd.out.keep hCC (fun h => h))
  clear Bd
  have Bd := Bx
  clear Bx
  clear hC hCC
  try clear xp10 xp11
  try clear xp1z
  have xp1z := Bp1.out.lt
  have xp10 := Bp1.out.cell 0
  have xp11 := Bp1.out.cell 1
  simp only [List.getElem?_toArray, List.getElem?_cons_zero, List.getElem?_cons_succ] at xp10 xp11
  try clear xd0 xd1
  try clear xdz
  have xdz := Bd.out.lt
  have xd0 := Bd.out.cell 0
  have xd1 := Bd.out.cell 1
  simp only [List.getElem?_toArray, List.getElem?_cons_zero, List.getElem?_cons_succ] at xd0 xd1
  obtain ⟨t, ht⟩ : ∃ t, t = (2 + u1 % 400) - m := ⟨_, rfl⟩
  have hz1 : Bit.ones gd (n + 1) ((2 + u1 % 400) + 1) = 0 := Bit.ones_none fun k k1 k2 => Hn3.out k (by omega) (by omega)
  have hz2 : Bit.ones gd (m + 1) ((2 + u1 % 400) + 1) = t := by rw [Bit.ones_all fun k k1 k2 => Hm3.out k (by omega) (by omega)]; omega
  have HZ1 := Lib.hid hz1
  have HZ2 := Lib.hid hz2
  clear hz1 hz2
  have hdn : decide ((n : Int) ≤ 2 + (u1 : Int) % 400) = true := by simp; omega
  have hdm : decide ((m : Int) ≤ 2 + (u1 : Int) % 400) = true := by simp; omega
  have htt : ((t : Int) == 2 + (u1 : Int) % 400 - m) = true := beq_iff_eq.2 (by omega)
  go_wp2_with fail
  refine (bsbetween_t _ _ _ _ (Hd.out.keep (by first | exact Ch.refl _ _ | exact (Ch.refl _ _).alloc _ | exact (Ch.refl _ _).drew | exact ((Ch.refl _ _).alloc _).alloc _ | exact ((Ch.refl _ _).alloc _).drew | exact (((Ch.refl _ _).alloc _).alloc _).alloc _ | exact (((Ch.refl _ _).alloc _).alloc _).drew | exact ((((Ch.refl _ _).alloc _).alloc _).alloc _).drew | exact ((((Ch.refl _ _).alloc _).alloc _).alloc _).alloc _ | exact (((((Ch.refl _ _).alloc _).alloc _).alloc _).alloc _).drew)) (n + 1) ((2 + u1 % 400) + 1) _ _ (by omega) (by omega) (by omega) (by omega) 0 HZ1.out).mono ?_
  rintro e w8 ⟨rfl, hC⟩
  have hCC : Ch S0 w7 w8 := Ch.trans (by first | exact Ch.refl _ _ | exact (Ch.refl _ _).alloc _ | exact (Ch.refl _ _).drew | exact ((Ch.refl _ _).alloc _).alloc _ | exact ((Ch.refl _ _).alloc _).drew | exact (((Ch.refl _ _).alloc _).alloc _).alloc _ | exact (((Ch.refl _ _).alloc _).alloc _).drew | exact ((((Ch.refl _ _).alloc _).alloc _).alloc _).drew | exact ((((Ch.refl _ _).alloc _).alloc _).alloc _).alloc _ | exact (((((Ch.refl _ _).alloc _).alloc _).alloc _).alloc _).drew) hC
  have HC8 := Lib.hid (HC7.out.trans hCC)
  clear HC7
  have Hx := Lib.hid (Ha.out.keep hCC)
  clear Ha
  have Ha := Hx
  clear Hx
  have Hx := Lib.hid (Hb.out.keep hCC)
  clear Hb
  have Hb := Hx
  clear Hx
  have Hx := Lib.hid (Hc.out.keep hCC)
  clear Hc
  have Hc := Hx
  clear Hx
  have Hx := Lib.hid (Hd.out.keep hCC)
  clear Hd
  have Hd := Hx
  clear Hx
  have Bx := Lib.hid (Bp1.out.keep hCC (fun h => h))
  clear Bp1
  have Bp1 := Bx
  clear Bx
  have Bx := Lib.hid (Bd.out.keep hCC (fun h => h))
  clear Bd
  have Bd := Bx
  clear Bx
  clear hC hCC
  try clear xp10 xp11
  try clear xp1z
  have xp1z := Bp1.out.lt
  have xp10 := Bp1.out.cell 0
  have xp11 := Bp1.out.cell 1
  simp only [List.getElem?_toArray, List.getElem?_cons_zero, List.getElem?_cons_succ] at xp10 xp11
  try clear xd0 xd1
  try clear xdz
  have xdz := Bd.out.lt
  have xd0 := Bd.out.cell 0
  have xd1 := Bd.out.cell 1
  simp only [List.getElem?_toArray, List.getElem?_cons_zero, List.getElem?_cons_succ] at xd0 xd1
  go_wp2_with fail
  refine (bsbetween_t _ _ _ _ (Hd.out.keep (by first | exact Ch.refl _ _ | exact (Ch.refl _ _).alloc _ | exact (Ch.refl _ _).drew | exact ((Ch.refl _ _).alloc _).alloc _ | exact ((Ch.refl _ _).alloc _).drew | exact (((Ch.refl _ _).alloc _).alloc _).alloc _ | exact (((Ch.refl _ _).alloc _).alloc _).drew | exact ((((Ch.refl _ _).alloc _).alloc _).alloc _).drew | exact ((((Ch.refl _ _).alloc _).alloc _).alloc _).alloc _ | exact (((((Ch.refl _ _).alloc _).alloc _).alloc _).alloc _).drew)) (m + 1) ((2 + u1 % 400) + 1) _ _ (by omega) (by omega) (by omega) (by omega) t HZ2.out).mono ?_
  rintro e w9 ⟨rfl, hC⟩
  have hCC : Ch S0 w8 w9 := Ch.trans (by first | exact Ch.refl _ _ | exact (Ch.refl _ _).alloc _ | exact (Ch.refl _ _).drew | exact ((Ch.refl _ _).alloc _).alloc _ | exact ((Ch.refl _ _).alloc _).drew | exact (((Ch.refl _ _).alloc _).alloc _).alloc _ | exact (((Ch.refl _ _).alloc _).alloc _).drew | exact ((((Ch.refl _ _).alloc _).alloc _).alloc _).drew | exact ((((Ch.refl _ _).alloc _).alloc _).alloc _).alloc _ | exact (((((Ch.refl _ _).alloc _).alloc _).alloc _).alloc _).drew) hC
  have HC9 := Lib.hid (HC8.out.trans hCC)
  clear HC8
  have Hx := Lib.hid (Ha.out.keep hCC)
  clear Ha
  have Ha := Hx
  clear Hx
  have Hx := Lib.hid (Hb.out.keep hCC)
  clear Hb
  have Hb := Hx
  clear Hx
  have Hx := Lib.hid (Hc.out.keep hCC)
  clear Hc
  have Hc := Hx
  clear Hx
  have Hx := Lib.hid (Hd.out.keep hCC)
  clear Hd
  have Hd := Hx
  clear Hx
  have Bx := Lib.hid (Bp1.out.keep hCC (fun h => h))
  clear Bp1
  have Bp1 := Bx
  clear Bx
  have Bx := Lib.hid (Bd.out.keep hCC (fun h => h))
  clear Bd
  have Bd := Bx
  clear Bx
  clear hC hCC
  try clear xp10 xp11
  try clear xp1z
  have xp1z := Bp1.out.lt
  have xp10 := Bp1.out.cell 0
  have xp11 := Bp1.out.cell 1
  simp only [List.getElem?_toArray, List.getElem?_cons_zero, List.getElem?_cons_succ] at xp10 xp11
  try clear xd0 xd1
  try clear xdz
  have xdz := Bd.out.lt
  have xd0 := Bd.out.cell 0
  have xd1 := Bd.out.cell 1
  simp only [List.getElem?_toArray, List.getElem?_cons_zero, List.getElem?_cons_succ] at xd0 xd1
  go_wp2_with fail
  refine (bstest_true _ _ _ _ (Hd.out.keep (by first | exact Ch.refl _ _ | exact (Ch.refl _ _).alloc _ | exact (Ch.refl _ _).drew | exact ((Ch.refl _ _).alloc _).alloc _ | exact ((Ch.refl _ _).alloc _).drew | exact (((Ch.refl _ _).alloc _).alloc _).alloc _ | exact (((Ch.refl _ _).alloc _).alloc _).drew | exact ((((Ch.refl _ _).alloc _).alloc _).alloc _).drew | exact ((((Ch.refl _ _).alloc _).alloc _).alloc _).alloc _ | exact (((((Ch.refl _ _).alloc _).alloc _).alloc _).alloc _).drew)) n _ (by omega) Hn2.out).mono ?_
  rintro e w10 ⟨rfl, hC⟩
  have hCC : Ch S0 w9 w10 := Ch.trans (by first | exact Ch.refl _ _ | exact (Ch.refl _ _).alloc _ | exact (Ch.refl _ _).drew | exact ((Ch.refl _ _).alloc _).alloc _ | exact ((Ch.refl _ _).alloc _).drew | exact (((Ch.refl _ _).alloc _).alloc _).alloc _ | exact (((Ch.refl _ _).alloc _).alloc _).drew | exact ((((Ch.refl _ _).alloc _).alloc _).alloc _).drew | exact ((((Ch.refl _ _).alloc _).alloc _).alloc _).alloc _ | exact (((((Ch.refl _ _).alloc _).alloc _).alloc _).alloc _).drew) hC
  have HC10 := Lib.hid (HC9.out.trans hCC)
  clear HC9
  have Hx := Lib.hid (Ha.out.keep hCC)
  clear Ha
  have Ha := Hx
  clear Hx
  have Hx := Lib.hid (Hb.out.keep hCC)
  clear Hb
  have Hb := Hx
  clear Hx
  have Hx := Lib.hid (Hc.out.keep hCC)
  clear Hc
  have Hc := Hx
  clear Hx
  have Hx := Lib.hid (Hd.out.keep hCC)
  clear Hd
  have Hd := Hx
  clear Hx
  have Bx := Lib.hid (Bp1.out.keep hCC (fun h => h))
  clear Bp1
  have Bp1 := Bx
  clear Bx
  have Bx := Lib.hid (Bd.out.keep hCC (fun h => h))
  clear Bd
  have Bd := Bx
  clear Bx
  clear hC hCC
  try clear xp10 xp11
  try clear xp1z
  have xp1z := Bp1.out.lt
  have xp10 := Bp1.out.cell 0
  have xp11 := Bp1.out.cell 1
  simp only [List.getElem?_toArray, List.getElem?_cons_zero, List.getElem?_cons_succ] at xp10 xp11
  try clear xd0 xd1
  try clear xdz
  have xdz := Bd.out.lt
  have xd0 := Bd.out.cell 0
  have xd1 := Bd.out.cell 1
  simp only [List.getElem?_toArray, List.getElem?_cons_zero, List.getElem?_cons_succ] at xd0 xd1
  go_wp2_with fail
  refine (bstest_false _ _ _ _ (Hd.out.keep (by first | exact Ch.refl _ _ | exact (Ch.refl _ _).alloc _ | exact (Ch.refl _ _).drew | exact ((Ch.refl _ _).alloc _).alloc _ | exact ((Ch.refl _ _).alloc _).drew | exact (((Ch.refl _ _).alloc _).alloc _).alloc _ | exact (((Ch.refl _ _).alloc _).alloc _).drew | exact ((((Ch.refl _ _).alloc _).alloc _).alloc _).drew | exact ((((Ch.refl _ _).alloc _).alloc _).alloc _).alloc _ | exact (((((Ch.refl _ _).alloc _).alloc _).alloc _).alloc _).drew)) m _ (by omega) Hm2.out).mono ?_
  rintro e w11 ⟨rfl, hC⟩
  have hCC : Ch S0 w10 w11 := Ch.trans (by first | exact Ch.refl _ _ | exact (Ch.refl _ _).alloc _ | exact (Ch.refl _ _).drew | exact ((Ch.refl _ _).alloc _).alloc _ | exact ((Ch.refl _ _).alloc _).drew | exact (((Ch.refl _ _).alloc _).alloc _).alloc _ | exact (((Ch.refl _ _).alloc _).alloc _).drew | exact ((((Ch.refl _ _).alloc _).alloc _).alloc _).drew | exact ((((Ch.refl _ _).alloc _).alloc _).alloc _).alloc _ | exact (((((Ch.refl _ _).alloc _).alloc _).alloc _).alloc _).drew) hC
  have HC11 := Lib.hid (HC10.out.trans hCC)
  clear HC10
  have Hx := Lib.hid (Ha.out.keep hCC)
  clear Ha
  have Ha := Hx
  clear Hx
  have Hx := Lib.hid (Hb.out.keep hCC)
  clear Hb
  have Hb := Hx
  clear Hx
  have Hx := Lib.hid (Hc.out.keep hCC)
  clear Hc
  have Hc := Hx
  clear Hx
  have Hx := Lib.hid (Hd.out.keep hCC)
  clear Hd
  have Hd := Hx
  clear Hx
  have Bx := Lib.hid (Bp1.out.keep hCC (fun h => h))
  clear Bp1
  have Bp1 := Bx
  clear Bx
  have Bx := Lib.hid (Bd.out.keep hCC (fun h => h))
  clear Bd
  have Bd := Bx
  clear Bx
  clear hC hCC
  try clear xp10 xp11
  try clear xp1z
  have xp1z := Bp1.out.lt
  have xp10 := Bp1.out.cell 0
  have xp11 := Bp1.out.cell 1
  simp only [List.getElem?_toArray, List.getElem?_cons_zero, List.getElem?_cons_succ] at xp10 xp11
  try clear xd0 xd1
  try clear xdz
  have xdz := Bd.out.lt
  have xd0 := Bd.out.cell 0
  have xd1 := Bd.out.cell 1
  simp only [List.getElem?_toArray, List.getElem?_cons_zero, List.getElem?_cons_succ] at xd0 xd1
  go_wp2
  go_ret
  exact ⟨rfl, HC11.out⟩

end Go.Proofs.Ytgnhmgnpmbmjcaa
