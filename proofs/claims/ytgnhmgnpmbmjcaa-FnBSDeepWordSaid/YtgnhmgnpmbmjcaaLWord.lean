/- THE WALK of FnBSDeepWord. -/
import Derived.Test.YtgnhmgnpmbmjcaaWp
import Derived.Test.YtgnhmgnpmbmjcaaWj
namespace Go.Proofs.Ytgnhmgnpmbmjcaa
open Go.RowKit

theorem bsbetween_t {base : Nat} (v : Value) (L : Nat) (g : Nat → Bool) (w : World) (h : IsB base w v L g) (s f : Nat) (x y : Int) (hx : x = s) (hy : y = f) (hs : s ≤ 10000) (hf : f ≤ 10000) (t : Nat) (ht : Bit.ones g s f = t) :
    Calls Try.prog 27 #[v, .int .u64 x, .int .u64 y] w fun e w' => e = .returned (.int .u64 (t : Nat)) ∧ Ch S0 w w' := by
  subst ht
  exact bsbetween_any v L g w h s f x y hx hy hs hf
theorem bsword_t {base : Nat} (v : Value) (L : Nat) (g : Nat → Bool) (w : World) (h : IsB base w v L g) (i : Nat) (x : Int) (hx : x = i) (hi : i ≤ 10000) (t : Nat) (ht : Bit.at64 g i = t) :
    Calls Try.prog 26 #[v, .int .u64 x] w fun e w' => e = .returned (.int .u64 (t : Nat)) ∧ Ch S0 w w' := by
  subst ht
  exact bsword_any v L g w h i x hx hi
set_option maxRecDepth 100000 in
set_option maxHeartbeats 4000000 in
theorem word_small (l1 : Nat) (P1 : Option Addr) (m1 r1 : Nat) (xs1 : List Nat) (u1 : Nat) (w : World) (hl1 : Lst 0 w (.slice P1 m1 r1) xs1) (hx1 : ∀ j (hj : j < xs1.length), xs1[j] < 18446744073709551616) (hn1 : xs1.length = m1) (hm1 : m1 ≤ 2147483647) (hu1 : u1 < 65536) :
    Calls Try.prog 7 #[.agg #[.int .u64 l1, .slice P1 m1 r1], .int .u16 u1] w fun e w' => e = .returned (.bool true) ∧ Ch S0 w w' := by
  have HX1 := Lib.hid hx1
  have LX1 := Lib.hid hn1
  have IX1 := Lib.hid hl1
  have HC0 := Lib.hid (Ch.refl S0 w)
  clear hx1 hn1 hl1
  go_enter Try.func7, Try.ntmps7
  go_wp2_with fail
  refine (fits_yes l1 m1 r1 P1 _ hm1).mono ?_
  rintro e w1 ⟨rfl, hC⟩
  have hCC : Ch S0 w w1 := Ch.trans (by first | exact Ch.refl _ _ | exact (Ch.refl _ _).alloc _ | exact (Ch.refl _ _).drew | exact ((Ch.refl _ _).alloc _).alloc _ | exact ((Ch.refl _ _).alloc _).drew | exact (((Ch.refl _ _).alloc _).alloc _).alloc _ | exact (((Ch.refl _ _).alloc _).alloc _).drew | exact ((((Ch.refl _ _).alloc _).alloc _).alloc _).drew | exact ((((Ch.refl _ _).alloc _).alloc _).alloc _).alloc _ | exact (((((Ch.refl _ _).alloc _).alloc _).alloc _).alloc _).drew) hC
  have HC1 := Lib.hid (HC0.out.trans hCC)
  clear HC0
  have Bp1 : Hid (Blk w1 (w.heap.size) #[.int .u64 (l1 : Nat), .slice P1 m1 r1]) := Lib.hid (Blk.keep (S := S0) (by first | exact Blk.newAt _ _ (by simp) | exact (Blk.newAt _ _ (by simp)).alloc _ | exact ((Blk.newAt _ _ (by simp)).alloc _).alloc _ | exact (((Blk.newAt _ _ (by simp)).alloc _).alloc _).alloc _) hC (fun h => h))
  clear hC hCC
  try clear xp10 xp11
  try clear xp1z
  have xp1z := Bp1.out.lt
  have xp10 := Bp1.out.cell 0
  have xp11 := Bp1.out.cell 1
  simp only [List.getElem?_toArray, List.getElem?_cons_zero, List.getElem?_cons_succ] at xp10 xp11
  go_wp2_with fail
  refine (bits_any l1 _ xs1 _ (IX1.out.keep (HC1.out.trans (by first | exact Ch.refl _ _ | exact (Ch.refl _ _).alloc _ | exact (Ch.refl _ _).drew | exact ((Ch.refl _ _).alloc _).alloc _ | exact ((Ch.refl _ _).alloc _).drew | exact (((Ch.refl _ _).alloc _).alloc _).alloc _ | exact (((Ch.refl _ _).alloc _).alloc _).drew | exact ((((Ch.refl _ _).alloc _).alloc _).alloc _).drew | exact ((((Ch.refl _ _).alloc _).alloc _).alloc _).alloc _ | exact (((((Ch.refl _ _).alloc _).alloc _).alloc _).alloc _).drew))) HX1.out (by rw [LX1.out]; omega)).mono ?_
  rintro e w2 ⟨va, La, ga, rfl, hLa, hV, hC⟩
  obtain ⟨Aa, na, ca, rfl⟩ := hV.shape
  have hCC : Ch S0 w1 w2 := Ch.trans (by first | exact Ch.refl _ _ | exact (Ch.refl _ _).alloc _ | exact (Ch.refl _ _).drew | exact ((Ch.refl _ _).alloc _).alloc _ | exact ((Ch.refl _ _).alloc _).drew | exact (((Ch.refl _ _).alloc _).alloc _).alloc _ | exact (((Ch.refl _ _).alloc _).alloc _).drew | exact ((((Ch.refl _ _).alloc _).alloc _).alloc _).drew | exact ((((Ch.refl _ _).alloc _).alloc _).alloc _).alloc _ | exact (((((Ch.refl _ _).alloc _).alloc _).alloc _).alloc _).drew) hC
  have HC2 := Lib.hid (HC1.out.trans hCC)
  clear HC1
  have Bx := Lib.hid (Bp1.out.keep hCC (fun h => h))
  clear Bp1
  have Bp1 := Bx
  clear Bx
  have Ha := Lib.hid (hV.mono (base' := 0) (Nat.zero_le _))
  clear hV
  clear hC hCC
  try clear xp10 xp11
  try clear xp1z
  have xp1z := Bp1.out.lt
  have xp10 := Bp1.out.cell 0
  have xp11 := Bp1.out.cell 1
  simp only [List.getElem?_toArray, List.getElem?_cons_zero, List.getElem?_cons_succ] at xp10 xp11
  go_wp2_with fail
  refine (bsset_any _ _ _ _ (Ha.out.keep (by first | exact Ch.refl _ _ | exact (Ch.refl _ _).alloc _ | exact (Ch.refl _ _).drew | exact ((Ch.refl _ _).alloc _).alloc _ | exact ((Ch.refl _ _).alloc _).drew | exact (((Ch.refl _ _).alloc _).alloc _).alloc _ | exact (((Ch.refl _ _).alloc _).alloc _).drew | exact ((((Ch.refl _ _).alloc _).alloc _).alloc _).drew | exact ((((Ch.refl _ _).alloc _).alloc _).alloc _).alloc _ | exact (((((Ch.refl _ _).alloc _).alloc _).alloc _).alloc _).drew)) (u1 % 500) _ (by omega) (by omega)).mono ?_
  rintro e w3 ⟨vb, rfl, hV, hC⟩
  obtain ⟨Lb, hE⟩ : ∃ x, x = max La ((u1 % 500) + 1) := ⟨_, rfl⟩
  rw [← hE] at hV
  have Eb := Lib.hid hE
  clear hE
  obtain ⟨Ab, nb, cb, rfl⟩ := hV.shape
  have hCC : Ch S0 w2 w3 := Ch.trans (by first | exact Ch.refl _ _ | exact (Ch.refl _ _).alloc _ | exact (Ch.refl _ _).drew | exact ((Ch.refl _ _).alloc _).alloc _ | exact ((Ch.refl _ _).alloc _).drew | exact (((Ch.refl _ _).alloc _).alloc _).alloc _ | exact (((Ch.refl _ _).alloc _).alloc _).drew | exact ((((Ch.refl _ _).alloc _).alloc _).alloc _).drew | exact ((((Ch.refl _ _).alloc _).alloc _).alloc _).alloc _ | exact (((((Ch.refl _ _).alloc _).alloc _).alloc _).alloc _).drew) hC
  have HC3 := Lib.hid (HC2.out.trans hCC)
  clear HC2
  have Hx := Lib.hid (Ha.out.keep hCC)
  clear Ha
  have Ha := Hx
  clear Hx
  have Bx := Lib.hid (Bp1.out.keep hCC (fun h => h))
  clear Bp1
  have Bp1 := Bx
  clear Bx
  have Hb := Lib.hid (hV.mono (base' := 0) (Nat.zero_le _))
  clear hV
  clear hC hCC
  try clear xp10 xp11
  try clear xp1z
  have xp1z := Bp1.out.lt
  have xp10 := Bp1.out.cell 0
  have xp11 := Bp1.out.cell 1
  simp only [List.getElem?_toArray, List.getElem?_cons_zero, List.getElem?_cons_succ] at xp10 xp11
  obtain ⟨t, ht⟩ : ∃ t, Bit.at64 (Bit.put ga (u1 % 500) true) (u1 % 500) = t := ⟨_, rfl⟩
  have HT := Lib.hid ht
  have ht64 : t < 18446744073709551616 := by rw [← ht]; exact Bit.at64_lt _ _
  have HT64 := Lib.hid ht64
  have hT1 : bits BinOp.and IntKind.u64 (t : Int) 1 = 1 := by rw [show (1 : Int) = ((1 : Nat) : Int) from rfl, u64_and_nat _ _ ht64 (by decide), nat_mask1, ← ht, Bit.at64_bit]; simp [Bit.put]
  have HT1 := Lib.hid hT1
  clear ht ht64 hT1
  go_wp2_with fail
  refine (bsword_t _ _ _ _ (Hb.out.keep (by first | exact Ch.refl _ _ | exact (Ch.refl _ _).alloc _ | exact (Ch.refl _ _).drew | exact ((Ch.refl _ _).alloc _).alloc _ | exact ((Ch.refl _ _).alloc _).drew | exact (((Ch.refl _ _).alloc _).alloc _).alloc _ | exact (((Ch.refl _ _).alloc _).alloc _).drew | exact ((((Ch.refl _ _).alloc _).alloc _).alloc _).drew | exact ((((Ch.refl _ _).alloc _).alloc _).alloc _).alloc _ | exact (((((Ch.refl _ _).alloc _).alloc _).alloc _).alloc _).drew)) (u1 % 500) _ (by omega) (by omega) t HT.out).mono ?_
  rintro e w4 ⟨rfl, hC⟩
  have hCC : Ch S0 w3 w4 := Ch.trans (by first | exact Ch.refl _ _ | exact (Ch.refl _ _).alloc _ | exact (Ch.refl _ _).drew | exact ((Ch.refl _ _).alloc _).alloc _ | exact ((Ch.refl _ _).alloc _).drew | exact (((Ch.refl _ _).alloc _).alloc _).alloc _ | exact (((Ch.refl _ _).alloc _).alloc _).drew | exact ((((Ch.refl _ _).alloc _).alloc _).alloc _).drew | exact ((((Ch.refl _ _).alloc _).alloc _).alloc _).alloc _ | exact (((((Ch.refl _ _).alloc _).alloc _).alloc _).alloc _).drew) hC
  have HC4 := Lib.hid (HC3.out.trans hCC)
  clear HC3
  have Hx := Lib.hid (Ha.out.keep hCC)
  clear Ha
  have Ha := Hx
  clear Hx
  have Hx := Lib.hid (Hb.out.keep hCC)
  clear Hb
  have Hb := Hx
  clear Hx
  have Bx := Lib.hid (Bp1.out.keep hCC (fun h => h))
  clear Bp1
  have Bp1 := Bx
  clear Bx
  have Bb : Hid (Blk w4 (w3.heap.size) #[.int .u64 (Lb : Nat), .slice Ab nb cb]) := Lib.hid (Blk.keep (S := S0) (by first | exact Blk.newAt _ _ (by simp) | exact (Blk.newAt _ _ (by simp)).alloc _ | exact ((Blk.newAt _ _ (by simp)).alloc _).alloc _ | exact (((Blk.newAt _ _ (by simp)).alloc _).alloc _).alloc _) hC (fun h => h))
  clear hC hCC
  try clear xp10 xp11
  try clear xp1z
  have xp1z := Bp1.out.lt
  have xp10 := Bp1.out.cell 0
  have xp11 := Bp1.out.cell 1
  simp only [List.getElem?_toArray, List.getElem?_cons_zero, List.getElem?_cons_succ] at xp10 xp11
  try clear xb0 xb1
  try clear xbz
  have xbz := Bb.out.lt
  have xb0 := Bb.out.cell 0
  have xb1 := Bb.out.cell 1
  simp only [List.getElem?_toArray, List.getElem?_cons_zero, List.getElem?_cons_succ] at xb0 xb1
  go_wp2_with fail
  go_loopw [8, 9] (fun v8 v9 wr => ∃ m c : Nat, m ≤ 64 ∧ v8 = .int .u64 c ∧ v9 = .int .i64 m ∧ c ≤ m ∧ Hid (Bit.cnt t.testBit m = c) ∧ w4 = wr) (fun _ k _ => 64 - (intOf k).toNat)
  case atStart => exact ⟨0, 0, by omega, rfl, rfl, Nat.le_refl _, Lib.hid rfl, rfl⟩
  case round =>
    obtain ⟨m, c, hm, rfl, rfl, hcm, HS, rfl⟩ := hrel
    by_cases hlt : m < 64
    · obtain ⟨q, hq⟩ : ∃ q, t / 2 ^ m % 2 = q := ⟨_, rfl⟩
      have hq2 : q < 2 := by rw [← hq]; exact Nat.mod_lt _ (by decide)
      have hbit : bits BinOp.and IntKind.u64 ((t : Int) / 2 ^ m) 1 = (q : Int) := by
        have e1 : (t : Int) / 2 ^ m = ((t / 2 ^ m : Nat) : Int) := by rw [show (2 : Int) ^ m = ((2 ^ m : Nat) : Int) from (Int.natCast_pow 2 m).symm]; rfl
        rw [e1, show (1 : Int) = ((1 : Nat) : Int) from rfl, u64_and_nat _ _ (Nat.lt_of_le_of_lt (Nat.div_le_self _ _) HT64.out) (by decide), nat_mask1, hq]
      have HQ := Lib.hid hq
      clear hq
      go_wp2_with fail
      go_roundw
      case rel => exact ⟨m + 1, c + q, by omega, by go_num, by go_num, by omega, Lib.hid (by rw [Bit.cnt_bit, HS.out, HQ.out]), trivial⟩
      case measure => simp [intOf]; omega
    · obtain rfl : m = 64 := by omega
      have hT1 := HT1.out
      go_wp2_with fail
      refine (bsbetween_t _ _ _ _ Hb.out (u1 % 500) ((u1 % 500) + 64) _ _ (by omega) (by omega) (by omega) (by omega) c (by rw [← Bit.at64_pc, HT.out]; exact HS.out)).mono ?_
      rintro e w5 ⟨rfl, hC⟩
      have HC5 := Lib.hid (HC4.out.trans hC)
      clear hC
      go_wp2
      go_ret
      exact ⟨rfl, HC5.out⟩
end Go.Proofs.Ytgnhmgnpmbmjcaa
