/- THE WALK of FnBSDeepShifts. -/
import Derived.Test.YtgnhmgnpmbmjcaaWw
import Derived.Test.YtgnhmgnpmbmjcaaWr
import Derived.Test.YtgnhmgnpmbmjcaaG2
import Derived.Test.YtgnhmgnpmbmjcaaWj
namespace Go.Proofs.Ytgnhmgnpmbmjcaa
open Go.RowKit

set_option maxRecDepth 100000 in
set_option maxHeartbeats 4000000 in
theorem shifts_small (l1 : Nat) (P1 : Option Addr) (m1 r1 : Nat) (xs1 : List Nat) (l2 : Nat) (P2 : Option Addr) (m2 r2 : Nat) (xs2 : List Nat) (u1 : Nat) (u2 : Nat) (w : World) (hl1 : Lst 0 w (.slice P1 m1 r1) xs1) (hx1 : ∀ j (hj : j < xs1.length), xs1[j] < 18446744073709551616) (hn1 : xs1.length = m1) (hm1 : m1 ≤ 2147483647) (hl2 : Lst 0 w (.slice P2 m2 r2) xs2) (hx2 : ∀ j (hj : j < xs2.length), xs2[j] < 18446744073709551616) (hn2 : xs2.length = m2) (hm2 : m2 ≤ 2147483647) (hu1 : u1 < 65536) (hu2 : u2 < 65536) :
    Calls Try.prog 9 #[.agg #[.int .u64 l1, .slice P1 m1 r1], .agg #[.int .u64 l2, .slice P2 m2 r2], .int .u16 u1, .int .u16 u2] w fun e w' => e = .returned (.bool true) ∧ Ch S0 w w' := by
  have HX1 := Lib.hid hx1
  have LX1 := Lib.hid hn1
  have IX1 := Lib.hid hl1
  have HX2 := Lib.hid hx2
  have LX2 := Lib.hid hn2
  have IX2 := Lib.hid hl2
  have HC0 := Lib.hid (Ch.refl S0 w)
  clear hx1 hn1 hl1 hx2 hn2 hl2
  go_enter Try.func9, Try.ntmps9
  go_wp2_with fail
  refine (fits_yes l1 m1 r1 P1 _ hm1).mono ?_
  rintro e w1 ⟨rfl, hC⟩
  have hCC : Ch S0 w w1 := Ch.trans (by first | exact Ch.refl _ _ | exact (Ch.refl _ _).alloc _ | exact (Ch.refl _ _).drew | exact ((Ch.refl _ _).alloc _).alloc _ | exact ((Ch.refl _ _).alloc _).drew | exact (((Ch.refl _ _).alloc _).alloc _).alloc _ | exact (((Ch.refl _ _).alloc _).alloc _).drew | exact ((((Ch.refl _ _).alloc _).alloc _).alloc _).drew | exact ((((Ch.refl _ _).alloc _).alloc _).alloc _).alloc _ | exact (((((Ch.refl _ _).alloc _).alloc _).alloc _).alloc _).drew) hC
  have HC1 := Lib.hid (HC0.out.trans hCC)
  clear HC0
  have Bp1 : Hid (Blk w1 (w.heap.size) #[.int .u64 (l1 : Nat), .slice P1 m1 r1]) := Lib.hid (Blk.keep (S := S0) (by first | exact Blk.newAt _ _ (by simp) | exact (Blk.newAt _ _ (by simp)).alloc _ | exact ((Blk.newAt _ _ (by simp)).alloc _).alloc _ | exact (((Blk.newAt _ _ (by simp)).alloc _).alloc _).alloc _) hC (fun h => h))
  have Bp2 : Hid (Blk w1 (w.heap.size + 1) #[.int .u64 (l2 : Nat), .slice P2 m2 r2]) := Lib.hid (Blk.keep (S := S0) (by first | exact Blk.newAt _ _ (by simp) | exact (Blk.newAt _ _ (by simp)).alloc _ | exact ((Blk.newAt _ _ (by simp)).alloc _).alloc _ | exact (((Blk.newAt _ _ (by simp)).alloc _).alloc _).alloc _) hC (fun h => h))
  clear hC hCC
  try clear xp10 xp11
  try clear xp1z
  have xp1z := Bp1.out.lt
  have xp10 := Bp1.out.cell 0
  have xp11 := Bp1.out.cell 1
  simp only [List.getElem?_toArray, List.getElem?_cons_zero, List.getElem?_cons_succ] at xp10 xp11
  try clear xp20 xp21
  try clear xp2z
  have xp2z := Bp2.out.lt
  have xp20 := Bp2.out.cell 0
  have xp21 := Bp2.out.cell 1
  simp only [List.getElem?_toArray, List.getElem?_cons_zero, List.getElem?_cons_succ] at xp20 xp21
  go_wp2_with fail
  refine (fits_yes l2 m2 r2 P2 _ hm2).mono ?_
  rintro e w2 ⟨rfl, hC⟩
  have hCC : Ch S0 w1 w2 := Ch.trans (by first | exact Ch.refl _ _ | exact (Ch.refl _ _).alloc _ | exact (Ch.refl _ _).drew | exact ((Ch.refl _ _).alloc _).alloc _ | exact ((Ch.refl _ _).alloc _).drew | exact (((Ch.refl _ _).alloc _).alloc _).alloc _ | exact (((Ch.refl _ _).alloc _).alloc _).drew | exact ((((Ch.refl _ _).alloc _).alloc _).alloc _).drew | exact ((((Ch.refl _ _).alloc _).alloc _).alloc _).alloc _ | exact (((((Ch.refl _ _).alloc _).alloc _).alloc _).alloc _).drew) hC
  have HC2 := Lib.hid (HC1.out.trans hCC)
  clear HC1
  have Bx := Lib.hid (Bp1.out.keep hCC (fun h => h))
  clear Bp1
  have Bp1 := Bx
  clear Bx
  have Bx := Lib.hid (Bp2.out.keep hCC (fun h => h))
  clear Bp2
  have Bp2 := Bx
  clear Bx
  clear hC hCC
  try clear xp10 xp11
  try clear xp1z
  have xp1z := Bp1.out.lt
  have xp10 := Bp1.out.cell 0
  have xp11 := Bp1.out.cell 1
  simp only [List.getElem?_toArray, List.getElem?_cons_zero, List.getElem?_cons_succ] at xp10 xp11
  try clear xp20 xp21
  try clear xp2z
  have xp2z := Bp2.out.lt
  have xp20 := Bp2.out.cell 0
  have xp21 := Bp2.out.cell 1
  simp only [List.getElem?_toArray, List.getElem?_cons_zero, List.getElem?_cons_succ] at xp20 xp21
  go_wp2_with fail
  obtain ⟨I0, hI0⟩ : ∃ I0 : (Nat → Bool) → Act → World → Prop, I0 = (fun D a' w' => (∃ x23 x24 x25 x26 x27 x28 x29 x30 x31 x32 x33 x9 x10 x11 : Value, a' = ({ tmps := #[(Value.agg #[Value.int IntKind.u64 ↑l1, Value.slice P1 m1 r1]), (Value.agg #[Value.int IntKind.u64 ↑l2, Value.slice P2 m2 r2]), (Value.int IntKind.u16 ↑u1), (Value.int IntKind.u16 ↑u2), (Value.pointer (some { block := w.heap.size, off := 0 })), (Value.pointer (some { block := w.heap.size + 1, off := 0 })), undef, undef, (Value.bool false), x9, x10, x11, undef, undef, undef, (Value.agg #[Value.int IntKind.u64 ↑l1, Value.slice P1 m1 r1]), (Value.bool true), (Value.bool false), (Value.bool false), (Value.agg #[Value.int IntKind.u64 ↑l2, Value.slice P2 m2 r2]), (Value.bool true), (Value.bool false), (Value.bool false), x23, x24, x25, x26, x27, x28, x29, x30, x31, x32, x33, undef, undef, undef, undef, undef, undef, undef, undef, undef, undef, undef, undef, undef, undef, undef, undef, undef, undef, undef, undef, undef, undef, undef, undef, undef, undef, undef, undef, undef, undef, undef, undef, undef, undef, undef, undef, undef, undef, undef, undef, undef, undef, undef, undef, undef, undef, undef], defers := [] } : Act) ∧ RM w2 w' D [x23, x24, x25, x26, x27, x28, x29, x30, x31, x32, x33, x9, x10, undef, undef, x11] [(fun _ _ => True), (fun L g => L ≤ 400), (fun _ _ => True), (fun _ _ => True), (fun _ _ => True), (fun L g => L ≤ 400 ∧ ∃ g0, g = Bit.put g0 (u1 % 400) true), (fun _ _ => True), (fun L g => L ≤ 400), (fun _ _ => True), (fun _ _ => True), (fun _ _ => True), (fun _ _ => True), (fun _ _ => True), (fun _ _ => True), (fun _ _ => True), (fun _ _ => True)] [1, 5, 7] [11, 12] [0, 0, 0, 0, 0, 0, 0, 0, 0, 0, 0, 13, 14, 0, 0, 0] [0, 0, 0, 0, 0, 0, 0, 0, 0, 0, 0, 5, 7, 0, 0, 0] ∧ (D 0 = true → x23 = .agg #[.int .u64 (l1 : Nat), .slice P1 m1 r1]) ∧ (D 2 = true → x25 = .int .u16 (u1 : Int)) ∧ (D 3 = true → x26 = .int .u64 (u1 : Int)) ∧ (D 4 = true → x27 = .int .u64 ((u1 : Int) % 400)) ∧ (D 6 = true → x29 = .agg #[.int .u64 (l2 : Nat), .slice P2 m2 r2]) ∧ (D 8 = true → x31 = .int .u16 (u2 : Int)) ∧ (D 9 = true → x32 = .int .u64 (u2 : Int)) ∧ (D 10 = true → x33 = .int .u64 ((u2 : Int) % 201)) ∧ (D 15 = true → x11 = .int .u64 ((u2 : Int) % 201)) ∧ (D 5 = true → D 1 = true) ∧ (D 7 = true → D 5 = true))) := ⟨_, rfl⟩
  have HI := Lib.hid hI0
  clear hI0
  refine region_inv2 (by kernel_rfl) (by kernel_rfl) I0 ?_ ?_ ?_
  · rw [HI.out]; exact ⟨_, _, _, _, _, _, _, _, _, _, _, _, _, _, rfl, ⟨(Ch.refl S0 w2).drew, (fun _ _ h => by cases h), (fun _ _ h => by cases h), (fun _ _ _ _ h => by cases h), (fun _ _ _ _ _ h => by cases h), (fun _ _ h => by cases h)⟩, (fun h => by cases h), (fun h => by cases h), (fun h => by cases h), (fun h => by cases h), (fun h => by cases h), (fun h => by cases h), (fun h => by cases h), (fun h => by cases h), (fun h => by cases h), (fun h => by cases h), (fun h => by cases h)⟩
  · refine ⟨?_, ?_, ?_, ?_, ?_, ?_, ?_, ?_, ?_, ?_, ?_, ?_, ?_, ?_, ?_, ?_, trivial⟩
    · intro D a' w' hD hdep hI KK hKK
      rw [HI.out] at hI
      obtain ⟨x23, x24, x25, x26, x27, x28, x29, x30, x31, x32, x33, x9, x10, x11, rfl, hM, f0, f2, f3, f4, f6, f8, f9, f10, f15, k5, k7⟩ := hI
      simp [Region.binds] at hdep
      have K5 := Lib.hid k5
      clear k5
      have K7 := Lib.hid k7
      clear k7
      have HM := Lib.hid hM
      clear hM
      have F0 := Lib.hid f0
      clear f0
      have F2 := Lib.hid f2
      clear f2
      have F3 := Lib.hid f3
      clear f3
      have F4 := Lib.hid f4
      clear f4
      have F6 := Lib.hid f6
      clear f6
      have F8 := Lib.hid f8
      clear f8
      have F9 := Lib.hid f9
      clear f9
      have F10 := Lib.hid f10
      clear f10
      have F15 := Lib.hid f15
      clear f15
      have Bx := Bp1.out.keep HM.out.ch (fun h => h)
      have c0 : w'.cell? ⟨w.heap.size, 0, none⟩ = some (.int .u64 (l1 : Nat)) := by rw [Bx.cell]; rfl
      have c1 : w'.cell? ⟨w.heap.size, 1, none⟩ = some (.slice P1 m1 r1) := by rw [Bx.cell]; rfl
      clear Bx hdep
      go_wp2_with fail
      rw [HI.out]; exact ⟨_, _, _, _, _, _, _, _, _, _, _, _, _, _, rfl, HM.out.other (k := 0) (.agg #[.int .u64 (l1 : Nat), .slice P1 m1 r1]) (by decide) (by decide) (by decide) (by decide), fun _ => rfl, fun h => F2.out (upd_out h (by decide)), fun h => F3.out (upd_out h (by decide)), fun h => F4.out (upd_out h (by decide)), fun h => F6.out (upd_out h (by decide)), fun h => F8.out (upd_out h (by decide)), fun h => F9.out (upd_out h (by decide)), fun h => F10.out (upd_out h (by decide)), fun h => F15.out (upd_out h (by decide)), fun h => upd_mono (K5.out (upd_out h (by decide))), fun h => upd_mono (K7.out (upd_out h (by decide)))⟩
    · intro D a' w' hD hdep hI KK hKK
      rw [HI.out] at hI
      obtain ⟨x23, x24, x25, x26, x27, x28, x29, x30, x31, x32, x33, x9, x10, x11, rfl, hM, f0, f2, f3, f4, f6, f8, f9, f10, f15, k5, k7⟩ := hI
      simp [Region.binds] at hdep
      have K5 := Lib.hid k5
      clear k5
      have K7 := Lib.hid k7
      clear k7
      have d0 : D 0 = true := by simp_all
      have HM := Lib.hid hM
      clear hM
      have F0 := Lib.hid f0
      clear f0
      have F2 := Lib.hid f2
      clear f2
      have F3 := Lib.hid f3
      clear f3
      have F4 := Lib.hid f4
      clear f4
      have F6 := Lib.hid f6
      clear f6
      have F8 := Lib.hid f8
      clear f8
      have F9 := Lib.hid f9
      clear f9
      have F10 := Lib.hid f10
      clear f10
      have F15 := Lib.hid f15
      clear f15
      have e23 := F0.out d0
      subst e23
      clear hdep d0
      have HC := Lib.hid (HC2.out.trans HM.out.ch)
      go_wp2_with fail
      refine (bits_any l1 _ xs1 _ (IX1.out.keep HC.out) HX1.out (by rw [LX1.out]; omega)).mono ?_
      rintro e w2 ⟨v2, L2, g2, rfl, hL2, hV2, hC2⟩
      have HV2 := Lib.hid hV2
      have HC2 := Lib.hid hC2
      clear hV2 hC2
      go_wp2_with fail
      rw [HI.out]; exact ⟨_, _, _, _, _, _, _, _, _, _, _, _, _, _, rfl, HM.out.call (k := 1) (by simp) (by decide) (by decide) (by decide) hD HC2.out HV2.out (hL2), fun _ => rfl, fun h => F2.out (upd_out h (by decide)), fun h => F3.out (upd_out h (by decide)), fun h => F4.out (upd_out h (by decide)), fun h => F6.out (upd_out h (by decide)), fun h => F8.out (upd_out h (by decide)), fun h => F9.out (upd_out h (by decide)), fun h => F10.out (upd_out h (by decide)), fun h => F15.out (upd_out h (by decide)), fun h => upd_mono (K5.out (upd_out h (by decide))), fun h => upd_mono (K7.out (upd_out h (by decide)))⟩
    · intro D a' w' hD hdep hI KK hKK
      rw [HI.out] at hI
      obtain ⟨x23, x24, x25, x26, x27, x28, x29, x30, x31, x32, x33, x9, x10, x11, rfl, hM, f0, f2, f3, f4, f6, f8, f9, f10, f15, k5, k7⟩ := hI
      simp [Region.binds] at hdep
      have K5 := Lib.hid k5
      clear k5
      have K7 := Lib.hid k7
      clear k7
      have HM := Lib.hid hM
      clear hM
      have F0 := Lib.hid f0
      clear f0
      have F2 := Lib.hid f2
      clear f2
      have F3 := Lib.hid f3
      clear f3
      have F4 := Lib.hid f4
      clear f4
      have F6 := Lib.hid f6
      clear f6
      have F8 := Lib.hid f8
      clear f8
      have F9 := Lib.hid f9
      clear f9
      have F10 := Lib.hid f10
      clear f10
      have F15 := Lib.hid f15
      clear f15
      clear hdep
      go_wp2_with fail
      rw [HI.out]; exact ⟨_, _, _, _, _, _, _, _, _, _, _, _, _, _, rfl, HM.out.other (k := 2) (.int .u16 (u1 : Int)) (by decide) (by decide) (by decide) (by decide), fun h => F0.out (upd_out h (by decide)), fun _ => rfl, fun h => F3.out (upd_out h (by decide)), fun h => F4.out (upd_out h (by decide)), fun h => F6.out (upd_out h (by decide)), fun h => F8.out (upd_out h (by decide)), fun h => F9.out (upd_out h (by decide)), fun h => F10.out (upd_out h (by decide)), fun h => F15.out (upd_out h (by decide)), fun h => upd_mono (K5.out (upd_out h (by decide))), fun h => upd_mono (K7.out (upd_out h (by decide)))⟩
    · intro D a' w' hD hdep hI KK hKK
      rw [HI.out] at hI
      obtain ⟨x23, x24, x25, x26, x27, x28, x29, x30, x31, x32, x33, x9, x10, x11, rfl, hM, f0, f2, f3, f4, f6, f8, f9, f10, f15, k5, k7⟩ := hI
      simp [Region.binds] at hdep
      have K5 := Lib.hid k5
      clear k5
      have K7 := Lib.hid k7
      clear k7
      have d2 : D 2 = true := by simp_all
      have HM := Lib.hid hM
      clear hM
      have F0 := Lib.hid f0
      clear f0
      have F2 := Lib.hid f2
      clear f2
      have F3 := Lib.hid f3
      clear f3
      have F4 := Lib.hid f4
      clear f4
      have F6 := Lib.hid f6
      clear f6
      have F8 := Lib.hid f8
      clear f8
      have F9 := Lib.hid f9
      clear f9
      have F10 := Lib.hid f10
      clear f10
      have F15 := Lib.hid f15
      clear f15
      have e25 := F2.out d2
      subst e25
      clear d2
      clear hdep
      go_wp2_with fail
      rw [HI.out]; exact ⟨_, _, _, _, _, _, _, _, _, _, _, _, _, _, rfl, HM.out.other (k := 3) (.int .u64 (u1 : Int)) (by decide) (by decide) (by decide) (by decide), fun h => F0.out (upd_out h (by decide)), fun _ => rfl, fun _ => rfl, fun h => F4.out (upd_out h (by decide)), fun h => F6.out (upd_out h (by decide)), fun h => F8.out (upd_out h (by decide)), fun h => F9.out (upd_out h (by decide)), fun h => F10.out (upd_out h (by decide)), fun h => F15.out (upd_out h (by decide)), fun h => upd_mono (K5.out (upd_out h (by decide))), fun h => upd_mono (K7.out (upd_out h (by decide)))⟩
    · intro D a' w' hD hdep hI KK hKK
      rw [HI.out] at hI
      obtain ⟨x23, x24, x25, x26, x27, x28, x29, x30, x31, x32, x33, x9, x10, x11, rfl, hM, f0, f2, f3, f4, f6, f8, f9, f10, f15, k5, k7⟩ := hI
      simp [Region.binds] at hdep
      have K5 := Lib.hid k5
      clear k5
      have K7 := Lib.hid k7
      clear k7
      have d3 : D 3 = true := by simp_all
      have HM := Lib.hid hM
      clear hM
      have F0 := Lib.hid f0
      clear f0
      have F2 := Lib.hid f2
      clear f2
      have F3 := Lib.hid f3
      clear f3
      have F4 := Lib.hid f4
      clear f4
      have F6 := Lib.hid f6
      clear f6
      have F8 := Lib.hid f8
      clear f8
      have F9 := Lib.hid f9
      clear f9
      have F10 := Lib.hid f10
      clear f10
      have F15 := Lib.hid f15
      clear f15
      have e26 := F3.out d3
      subst e26
      clear d3
      clear hdep
      go_wp2_with fail
      rw [HI.out]; exact ⟨_, _, _, _, _, _, _, _, _, _, _, _, _, _, rfl, HM.out.other (k := 4) (.int .u64 ((u1 : Int) % 400)) (by decide) (by decide) (by decide) (by decide), fun h => F0.out (upd_out h (by decide)), fun h => F2.out (upd_out h (by decide)), fun _ => rfl, fun _ => rfl, fun h => F6.out (upd_out h (by decide)), fun h => F8.out (upd_out h (by decide)), fun h => F9.out (upd_out h (by decide)), fun h => F10.out (upd_out h (by decide)), fun h => F15.out (upd_out h (by decide)), fun h => upd_mono (K5.out (upd_out h (by decide))), fun h => upd_mono (K7.out (upd_out h (by decide)))⟩
    · intro D a' w' hD hdep hI KK hKK
      rw [HI.out] at hI
      obtain ⟨x23, x24, x25, x26, x27, x28, x29, x30, x31, x32, x33, x9, x10, x11, rfl, hM, f0, f2, f3, f4, f6, f8, f9, f10, f15, k5, k7⟩ := hI
      simp [Region.binds] at hdep
      have K5 := Lib.hid k5
      clear k5
      have K7 := Lib.hid k7
      clear k7
      have ce : D 1 = true := by simp_all
      have CE := Lib.hid ce
      clear ce
      have d1 : D 1 = true := by simp_all
      have d4 : D 4 = true := by simp_all
      have HM := Lib.hid hM
      clear hM
      have F0 := Lib.hid f0
      clear f0
      have F2 := Lib.hid f2
      clear f2
      have F3 := Lib.hid f3
      clear f3
      have F4 := Lib.hid f4
      clear f4
      have F6 := Lib.hid f6
      clear f6
      have F8 := Lib.hid f8
      clear f8
      have F9 := Lib.hid f9
      clear f9
      have F10 := Lib.hid f10
      clear f10
      have F15 := Lib.hid f15
      clear f15
      obtain ⟨L24, g24, hR24, hV24⟩ := HM.out.val 1 (by decide) d1
      have V24 : Hid (IsB 0 w' x24 L24 g24) := Lib.hid hV24
      have R24 : Hid ((fun (L : Nat) (g : Nat → Bool) => (fun L g => L ≤ 400) L g) L24 g24) := Lib.hid hR24
      clear hV24 hR24
      have e27 := F4.out d4
      subst e27
      clear hdep d1 d4
      have HC := Lib.hid (HC2.out.trans HM.out.ch)
      go_wp2_with fail
      refine (bsset_any x24 L24 g24 _ V24.out (u1 % 400) _ (by omega) (by omega)).mono ?_
      rintro e w2 ⟨v2, rfl, hV2, hC2⟩
      have HV2 := Lib.hid hV2
      have HC2 := Lib.hid hC2
      clear hV2 hC2
      go_wp2_with fail
      rw [HI.out]; exact ⟨_, _, _, _, _, _, _, _, _, _, _, _, _, _, rfl, HM.out.call (k := 5) (by simp) (by decide) (by decide) (by decide) hD HC2.out HV2.out (⟨by have h : L24 ≤ 400 := R24.out; omega, g24, rfl⟩), fun h => F0.out (upd_out h (by decide)), fun h => F2.out (upd_out h (by decide)), fun h => F3.out (upd_out h (by decide)), fun _ => rfl, fun h => F6.out (upd_out h (by decide)), fun h => F8.out (upd_out h (by decide)), fun h => F9.out (upd_out h (by decide)), fun h => F10.out (upd_out h (by decide)), fun h => F15.out (upd_out h (by decide)), fun _ => upd_mono CE.out, fun h => upd_mono (K7.out (upd_out h (by decide)))⟩
    · intro D a' w' hD hdep hI KK hKK
      rw [HI.out] at hI
      obtain ⟨x23, x24, x25, x26, x27, x28, x29, x30, x31, x32, x33, x9, x10, x11, rfl, hM, f0, f2, f3, f4, f6, f8, f9, f10, f15, k5, k7⟩ := hI
      simp [Region.binds] at hdep
      have K5 := Lib.hid k5
      clear k5
      have K7 := Lib.hid k7
      clear k7
      have HM := Lib.hid hM
      clear hM
      have F0 := Lib.hid f0
      clear f0
      have F2 := Lib.hid f2
      clear f2
      have F3 := Lib.hid f3
      clear f3
      have F4 := Lib.hid f4
      clear f4
      have F6 := Lib.hid f6
      clear f6
      have F8 := Lib.hid f8
      clear f8
      have F9 := Lib.hid f9
      clear f9
      have F10 := Lib.hid f10
      clear f10
      have F15 := Lib.hid f15
      clear f15
      have Bx := Bp2.out.keep HM.out.ch (fun h => h)
      have c0 : w'.cell? ⟨w.heap.size + 1, 0, none⟩ = some (.int .u64 (l2 : Nat)) := by rw [Bx.cell]; rfl
      have c1 : w'.cell? ⟨w.heap.size + 1, 1, none⟩ = some (.slice P2 m2 r2) := by rw [Bx.cell]; rfl
      clear Bx hdep
      go_wp2_with fail
      rw [HI.out]; exact ⟨_, _, _, _, _, _, _, _, _, _, _, _, _, _, rfl, HM.out.other (k := 6) (.agg #[.int .u64 (l2 : Nat), .slice P2 m2 r2]) (by decide) (by decide) (by decide) (by decide), fun h => F0.out (upd_out h (by decide)), fun h => F2.out (upd_out h (by decide)), fun h => F3.out (upd_out h (by decide)), fun h => F4.out (upd_out h (by decide)), fun _ => rfl, fun h => F8.out (upd_out h (by decide)), fun h => F9.out (upd_out h (by decide)), fun h => F10.out (upd_out h (by decide)), fun h => F15.out (upd_out h (by decide)), fun h => upd_mono (K5.out (upd_out h (by decide))), fun h => upd_mono (K7.out (upd_out h (by decide)))⟩
    · intro D a' w' hD hdep hI KK hKK
      rw [HI.out] at hI
      obtain ⟨x23, x24, x25, x26, x27, x28, x29, x30, x31, x32, x33, x9, x10, x11, rfl, hM, f0, f2, f3, f4, f6, f8, f9, f10, f15, k5, k7⟩ := hI
      simp [Region.binds] at hdep
      have K5 := Lib.hid k5
      clear k5
      have K7 := Lib.hid k7
      clear k7
      have ce : D 5 = true := by simp_all
      have CE := Lib.hid ce
      clear ce
      have d6 : D 6 = true := by simp_all
      have HM := Lib.hid hM
      clear hM
      have F0 := Lib.hid f0
      clear f0
      have F2 := Lib.hid f2
      clear f2
      have F3 := Lib.hid f3
      clear f3
      have F4 := Lib.hid f4
      clear f4
      have F6 := Lib.hid f6
      clear f6
      have F8 := Lib.hid f8
      clear f8
      have F9 := Lib.hid f9
      clear f9
      have F10 := Lib.hid f10
      clear f10
      have F15 := Lib.hid f15
      clear f15
      have e29 := F6.out d6
      subst e29
      clear hdep d6
      have HC := Lib.hid (HC2.out.trans HM.out.ch)
      go_wp2_with fail
      refine (bits_any l2 _ xs2 _ (IX2.out.keep HC.out) HX2.out (by rw [LX2.out]; omega)).mono ?_
      rintro e w2 ⟨v2, L2, g2, rfl, hL2, hV2, hC2⟩
      have HV2 := Lib.hid hV2
      have HC2 := Lib.hid hC2
      clear hV2 hC2
      go_wp2_with fail
      rw [HI.out]; exact ⟨_, _, _, _, _, _, _, _, _, _, _, _, _, _, rfl, HM.out.call (k := 7) (by simp) (by decide) (by decide) (by decide) hD HC2.out HV2.out (hL2), fun h => F0.out (upd_out h (by decide)), fun h => F2.out (upd_out h (by decide)), fun h => F3.out (upd_out h (by decide)), fun h => F4.out (upd_out h (by decide)), fun _ => rfl, fun h => F8.out (upd_out h (by decide)), fun h => F9.out (upd_out h (by decide)), fun h => F10.out (upd_out h (by decide)), fun h => F15.out (upd_out h (by decide)), fun h => upd_mono (K5.out (upd_out h (by decide))), fun _ => upd_mono CE.out⟩
    · intro D a' w' hD hdep hI KK hKK
      rw [HI.out] at hI
      obtain ⟨x23, x24, x25, x26, x27, x28, x29, x30, x31, x32, x33, x9, x10, x11, rfl, hM, f0, f2, f3, f4, f6, f8, f9, f10, f15, k5, k7⟩ := hI
      simp [Region.binds] at hdep
      have K5 := Lib.hid k5
      clear k5
      have K7 := Lib.hid k7
      clear k7
      have HM := Lib.hid hM
      clear hM
      have F0 := Lib.hid f0
      clear f0
      have F2 := Lib.hid f2
      clear f2
      have F3 := Lib.hid f3
      clear f3
      have F4 := Lib.hid f4
      clear f4
      have F6 := Lib.hid f6
      clear f6
      have F8 := Lib.hid f8
      clear f8
      have F9 := Lib.hid f9
      clear f9
      have F10 := Lib.hid f10
      clear f10
      have F15 := Lib.hid f15
      clear f15
      clear hdep
      go_wp2_with fail
      rw [HI.out]; exact ⟨_, _, _, _, _, _, _, _, _, _, _, _, _, _, rfl, HM.out.other (k := 8) (.int .u16 (u2 : Int)) (by decide) (by decide) (by decide) (by decide), fun h => F0.out (upd_out h (by decide)), fun h => F2.out (upd_out h (by decide)), fun h => F3.out (upd_out h (by decide)), fun h => F4.out (upd_out h (by decide)), fun h => F6.out (upd_out h (by decide)), fun _ => rfl, fun h => F9.out (upd_out h (by decide)), fun h => F10.out (upd_out h (by decide)), fun h => F15.out (upd_out h (by decide)), fun h => upd_mono (K5.out (upd_out h (by decide))), fun h => upd_mono (K7.out (upd_out h (by decide)))⟩
    · intro D a' w' hD hdep hI KK hKK
      rw [HI.out] at hI
      obtain ⟨x23, x24, x25, x26, x27, x28, x29, x30, x31, x32, x33, x9, x10, x11, rfl, hM, f0, f2, f3, f4, f6, f8, f9, f10, f15, k5, k7⟩ := hI
      simp [Region.binds] at hdep
      have K5 := Lib.hid k5
      clear k5
      have K7 := Lib.hid k7
      clear k7
      have d8 : D 8 = true := by simp_all
      have HM := Lib.hid hM
      clear hM
      have F0 := Lib.hid f0
      clear f0
      have F2 := Lib.hid f2
      clear f2
      have F3 := Lib.hid f3
      clear f3
      have F4 := Lib.hid f4
      clear f4
      have F6 := Lib.hid f6
      clear f6
      have F8 := Lib.hid f8
      clear f8
      have F9 := Lib.hid f9
      clear f9
      have F10 := Lib.hid f10
      clear f10
      have F15 := Lib.hid f15
      clear f15
      have e31 := F8.out d8
      subst e31
      clear d8
      clear hdep
      go_wp2_with fail
      rw [HI.out]; exact ⟨_, _, _, _, _, _, _, _, _, _, _, _, _, _, rfl, HM.out.other (k := 9) (.int .u64 (u2 : Int)) (by decide) (by decide) (by decide) (by decide), fun h => F0.out (upd_out h (by decide)), fun h => F2.out (upd_out h (by decide)), fun h => F3.out (upd_out h (by decide)), fun h => F4.out (upd_out h (by decide)), fun h => F6.out (upd_out h (by decide)), fun _ => rfl, fun _ => rfl, fun h => F10.out (upd_out h (by decide)), fun h => F15.out (upd_out h (by decide)), fun h => upd_mono (K5.out (upd_out h (by decide))), fun h => upd_mono (K7.out (upd_out h (by decide)))⟩
    · intro D a' w' hD hdep hI KK hKK
      rw [HI.out] at hI
      obtain ⟨x23, x24, x25, x26, x27, x28, x29, x30, x31, x32, x33, x9, x10, x11, rfl, hM, f0, f2, f3, f4, f6, f8, f9, f10, f15, k5, k7⟩ := hI
      simp [Region.binds] at hdep
      have K5 := Lib.hid k5
      clear k5
      have K7 := Lib.hid k7
      clear k7
      have d9 : D 9 = true := by simp_all
      have HM := Lib.hid hM
      clear hM
      have F0 := Lib.hid f0
      clear f0
      have F2 := Lib.hid f2
      clear f2
      have F3 := Lib.hid f3
      clear f3
      have F4 := Lib.hid f4
      clear f4
      have F6 := Lib.hid f6
      clear f6
      have F8 := Lib.hid f8
      clear f8
      have F9 := Lib.hid f9
      clear f9
      have F10 := Lib.hid f10
      clear f10
      have F15 := Lib.hid f15
      clear f15
      have e32 := F9.out d9
      subst e32
      clear d9
      clear hdep
      go_wp2_with fail
      rw [HI.out]; exact ⟨_, _, _, _, _, _, _, _, _, _, _, _, _, _, rfl, HM.out.other (k := 10) (.int .u64 ((u2 : Int) % 201)) (by decide) (by decide) (by decide) (by decide), fun h => F0.out (upd_out h (by decide)), fun h => F2.out (upd_out h (by decide)), fun h => F3.out (upd_out h (by decide)), fun h => F4.out (upd_out h (by decide)), fun h => F6.out (upd_out h (by decide)), fun h => F8.out (upd_out h (by decide)), fun _ => rfl, fun _ => rfl, fun h => F15.out (upd_out h (by decide)), fun h => upd_mono (K5.out (upd_out h (by decide))), fun h => upd_mono (K7.out (upd_out h (by decide)))⟩
    · intro D a' w' hD hdep hI KK hKK
      rw [HI.out] at hI
      obtain ⟨x23, x24, x25, x26, x27, x28, x29, x30, x31, x32, x33, x9, x10, x11, rfl, hM, f0, f2, f3, f4, f6, f8, f9, f10, f15, k5, k7⟩ := hI
      simp [Region.binds] at hdep
      have K5 := Lib.hid k5
      clear k5
      have K7 := Lib.hid k7
      clear k7
      have HM := Lib.hid hM
      clear hM
      have F0 := Lib.hid f0
      clear f0
      have F2 := Lib.hid f2
      clear f2
      have F3 := Lib.hid f3
      clear f3
      have F4 := Lib.hid f4
      clear f4
      have F6 := Lib.hid f6
      clear f6
      have F8 := Lib.hid f8
      clear f8
      have F9 := Lib.hid f9
      clear f9
      have F10 := Lib.hid f10
      clear f10
      have F15 := Lib.hid f15
      clear f15
      clear hdep
      go_wp2_with fail
      rw [HI.out]; exact ⟨_, _, _, _, _, _, _, _, _, _, _, _, _, _, rfl, HM.out.alloc (k := 11) (by simp) (by decide) (by decide) (by decide) hD (by decide) 25, fun h => F0.out (upd_out h (by decide)), fun h => F2.out (upd_out h (by decide)), fun h => F3.out (upd_out h (by decide)), fun h => F4.out (upd_out h (by decide)), fun h => F6.out (upd_out h (by decide)), fun h => F8.out (upd_out h (by decide)), fun h => F9.out (upd_out h (by decide)), fun h => F10.out (upd_out h (by decide)), fun h => F15.out (upd_out h (by decide)), fun h => upd_mono (K5.out (upd_out h (by decide))), fun h => upd_mono (K7.out (upd_out h (by decide)))⟩
    · intro D a' w' hD hdep hI KK hKK
      rw [HI.out] at hI
      obtain ⟨x23, x24, x25, x26, x27, x28, x29, x30, x31, x32, x33, x9, x10, x11, rfl, hM, f0, f2, f3, f4, f6, f8, f9, f10, f15, k5, k7⟩ := hI
      simp [Region.binds] at hdep
      have K5 := Lib.hid k5
      clear k5
      have K7 := Lib.hid k7
      clear k7
      have HM := Lib.hid hM
      clear hM
      have F0 := Lib.hid f0
      clear f0
      have F2 := Lib.hid f2
      clear f2
      have F3 := Lib.hid f3
      clear f3
      have F4 := Lib.hid f4
      clear f4
      have F6 := Lib.hid f6
      clear f6
      have F8 := Lib.hid f8
      clear f8
      have F9 := Lib.hid f9
      clear f9
      have F10 := Lib.hid f10
      clear f10
      have F15 := Lib.hid f15
      clear f15
      clear hdep
      go_wp2_with fail
      rw [HI.out]; exact ⟨_, _, _, _, _, _, _, _, _, _, _, _, _, _, rfl, HM.out.alloc (k := 12) (by simp) (by decide) (by decide) (by decide) hD (by decide) 25, fun h => F0.out (upd_out h (by decide)), fun h => F2.out (upd_out h (by decide)), fun h => F3.out (upd_out h (by decide)), fun h => F4.out (upd_out h (by decide)), fun h => F6.out (upd_out h (by decide)), fun h => F8.out (upd_out h (by decide)), fun h => F9.out (upd_out h (by decide)), fun h => F10.out (upd_out h (by decide)), fun h => F15.out (upd_out h (by decide)), fun h => upd_mono (K5.out (upd_out h (by decide))), fun h => upd_mono (K7.out (upd_out h (by decide)))⟩
    · intro D a' w' hD hdep hI KK hKK
      rw [HI.out] at hI
      obtain ⟨x23, x24, x25, x26, x27, x28, x29, x30, x31, x32, x33, x9, x10, x11, rfl, hM, f0, f2, f3, f4, f6, f8, f9, f10, f15, k5, k7⟩ := hI
      simp [Region.binds] at hdep
      have K5 := Lib.hid k5
      clear k5
      have K7 := Lib.hid k7
      clear k7
      have d7 : D 7 = true := by simp_all
      have d11 : D 11 = true := by simp_all
      have d12 : D 12 = true := by simp_all
      have d5 := K7.out d7
      have d1 := K5.out d5
      have HM := Lib.hid hM
      clear hM
      have F0 := Lib.hid f0
      clear f0
      have F2 := Lib.hid f2
      clear f2
      have F3 := Lib.hid f3
      clear f3
      have F4 := Lib.hid f4
      clear f4
      have F6 := Lib.hid f6
      clear f6
      have F8 := Lib.hid f8
      clear f8
      have F9 := Lib.hid f9
      clear f9
      have F10 := Lib.hid f10
      clear f10
      have F15 := Lib.hid f15
      clear f15
      have hall : ∀ j, j ∈ [1, 5, 7] ∨ j ∈ [11, 12] → D j = true := fun j hj => by
        have : j = 1 ∨ j = 5 ∨ j = 7 ∨ j = 11 ∨ j = 12 := by simp at hj; omega
        rcases this with rfl | rfl | rfl | rfl | rfl <;> assumption
      obtain ⟨b, hb, _, c0, c1, z0, z1⟩ := HM.out.before (i := 11) (by decide) d11 hD
      have hb : x9 = _ := hb
      subst hb
      obtain ⟨L, g, _, hV⟩ := HM.out.val 5 (by decide) d5
      have hV : IsB 0 w' x28 L g := hV
      obtain ⟨A, n, c, rfl⟩ := hV.shape
      clear hV
      have Hall := Lib.hid hall
      clear hall hdep d1 d5 d7 d12
      have Dal := Lib.hid d11
      clear d11
      go_wp2_with fail
      rw [HI.out]; exact ⟨_, _, _, _, _, _, _, _, _, _, _, _, _, _, rfl, HM.out.store (i := 11) (k := 13) (by decide) Dal.out rfl hD (by decide) (by decide) (by decide) (by decide) Hall.out rfl rfl undef, fun h => F0.out (upd_out h (by decide)), fun h => F2.out (upd_out h (by decide)), fun h => F3.out (upd_out h (by decide)), fun h => F4.out (upd_out h (by decide)), fun h => F6.out (upd_out h (by decide)), fun h => F8.out (upd_out h (by decide)), fun h => F9.out (upd_out h (by decide)), fun h => F10.out (upd_out h (by decide)), fun h => F15.out (upd_out h (by decide)), fun h => upd_mono (K5.out (upd_out h (by decide))), fun h => upd_mono (K7.out (upd_out h (by decide)))⟩
    · intro D a' w' hD hdep hI KK hKK
      rw [HI.out] at hI
      obtain ⟨x23, x24, x25, x26, x27, x28, x29, x30, x31, x32, x33, x9, x10, x11, rfl, hM, f0, f2, f3, f4, f6, f8, f9, f10, f15, k5, k7⟩ := hI
      simp [Region.binds] at hdep
      have K5 := Lib.hid k5
      clear k5
      have K7 := Lib.hid k7
      clear k7
      have dst : D 13 = true := by simp_all
      have HM := Lib.hid hM
      clear hM
      have F0 := Lib.hid f0
      clear f0
      have F2 := Lib.hid f2
      clear f2
      have F3 := Lib.hid f3
      clear f3
      have F4 := Lib.hid f4
      clear f4
      have F6 := Lib.hid f6
      clear f6
      have F8 := Lib.hid f8
      clear f8
      have F9 := Lib.hid f9
      clear f9
      have F10 := Lib.hid f10
      clear f10
      have F15 := Lib.hid f15
      clear f15
      have hall := HM.out.closed 11 (by decide) dst
      have d12 := hall 12 (by decide)
      have d7 := hall 7 (by decide)
      clear dst
      obtain ⟨b, hb, _, c0, c1, z0, z1⟩ := HM.out.before (i := 12) (by decide) d12 hD
      have hb : x10 = _ := hb
      subst hb
      obtain ⟨L, g, _, hV⟩ := HM.out.val 7 (by decide) d7
      have hV : IsB 0 w' x30 L g := hV
      obtain ⟨A, n, c, rfl⟩ := hV.shape
      clear hV
      have Hall := Lib.hid hall
      clear hall hdep d7
      have Dal := Lib.hid d12
      clear d12
      go_wp2_with fail
      rw [HI.out]; exact ⟨_, _, _, _, _, _, _, _, _, _, _, _, _, _, rfl, HM.out.store (i := 12) (k := 14) (by decide) Dal.out rfl hD (by decide) (by decide) (by decide) (by decide) Hall.out rfl rfl undef, fun h => F0.out (upd_out h (by decide)), fun h => F2.out (upd_out h (by decide)), fun h => F3.out (upd_out h (by decide)), fun h => F4.out (upd_out h (by decide)), fun h => F6.out (upd_out h (by decide)), fun h => F8.out (upd_out h (by decide)), fun h => F9.out (upd_out h (by decide)), fun h => F10.out (upd_out h (by decide)), fun h => F15.out (upd_out h (by decide)), fun h => upd_mono (K5.out (upd_out h (by decide))), fun h => upd_mono (K7.out (upd_out h (by decide)))⟩
    · intro D a' w' hD hdep hI KK hKK
      rw [HI.out] at hI
      obtain ⟨x23, x24, x25, x26, x27, x28, x29, x30, x31, x32, x33, x9, x10, x11, rfl, hM, f0, f2, f3, f4, f6, f8, f9, f10, f15, k5, k7⟩ := hI
      simp [Region.binds] at hdep
      have K5 := Lib.hid k5
      clear k5
      have K7 := Lib.hid k7
      clear k7
      have d10 : D 10 = true := by simp_all
      have HM := Lib.hid hM
      clear hM
      have F0 := Lib.hid f0
      clear f0
      have F2 := Lib.hid f2
      clear f2
      have F3 := Lib.hid f3
      clear f3
      have F4 := Lib.hid f4
      clear f4
      have F6 := Lib.hid f6
      clear f6
      have F8 := Lib.hid f8
      clear f8
      have F9 := Lib.hid f9
      clear f9
      have F10 := Lib.hid f10
      clear f10
      have F15 := Lib.hid f15
      clear f15
      have e33 := F10.out d10
      subst e33
      clear d10
      clear hdep
      go_wp2_with fail
      rw [HI.out]; exact ⟨_, _, _, _, _, _, _, _, _, _, _, _, _, _, rfl, HM.out.other (k := 15) (.int .u64 ((u2 : Int) % 201)) (by decide) (by decide) (by decide) (by decide), fun h => F0.out (upd_out h (by decide)), fun h => F2.out (upd_out h (by decide)), fun h => F3.out (upd_out h (by decide)), fun h => F4.out (upd_out h (by decide)), fun h => F6.out (upd_out h (by decide)), fun h => F8.out (upd_out h (by decide)), fun h => F9.out (upd_out h (by decide)), fun _ => rfl, fun _ => rfl, fun h => upd_mono (K5.out (upd_out h (by decide))), fun h => upd_mono (K7.out (upd_out h (by decide)))⟩
  intro D a' w3 hD hI
  rw [HI.out] at hI
  obtain ⟨x23, x24, x25, x26, x27, x28, x29, x30, x31, x32, x33, x9, x10, x11, rfl, hM, f0, f2, f3, f4, f6, f8, f9, f10, f15, _, _⟩ := hI
  have e23 := f0 (hD 0 (by decide))
  subst e23
  clear f0
  have e25 := f2 (hD 2 (by decide))
  subst e25
  clear f2
  have e26 := f3 (hD 3 (by decide))
  subst e26
  clear f3
  have e27 := f4 (hD 4 (by decide))
  subst e27
  clear f4
  have e29 := f6 (hD 6 (by decide))
  subst e29
  clear f6
  have e31 := f8 (hD 8 (by decide))
  subst e31
  clear f8
  have e32 := f9 (hD 9 (by decide))
  subst e32
  clear f9
  have e33 := f10 (hD 10 (by decide))
  subst e33
  clear f10
  have e11 := f15 (hD 15 (by decide))
  subst e11
  clear f15
  obtain ⟨L24, g24, hR24, hV24⟩ := hM.val 1 (by decide) (hD 1 (by decide))
  have hV24 : IsB 0 w3 x24 L24 g24 := hV24
  obtain ⟨L28, g28, hR28, hV28⟩ := hM.val 5 (by decide) (hD 5 (by decide))
  have hV28 : IsB 0 w3 x28 L28 g28 := hV28
  obtain ⟨L30, g30, hR30, hV30⟩ := hM.val 7 (by decide) (hD 7 (by decide))
  have hV30 : IsB 0 w3 x30 L30 g30 := hV30
  obtain ⟨b9, e1, _, _, _, h1⟩ := hM.ptr 11 (by decide) (hD 11 (by decide))
  have e1 : x9 = _ := e1
  subst e1
  obtain ⟨l1, u1, e2, B9⟩ := h1 (hD 13 (by decide))
  have e2 : x28 = _ := e2
  have e4 : ∃ A n cap, x28 = .agg #[.int .u64 L28, .slice A n cap] := hV28.shape
  obtain ⟨A28, n28, c28, e3⟩ := e4
  rw [e3] at e2
  simp only [Value.agg.injEq, Array.mk.injEq, List.cons.injEq, and_true] at e2
  obtain ⟨rfl, rfl⟩ := e2
  subst e3
  obtain ⟨b10, e1, _, _, _, h1⟩ := hM.ptr 12 (by decide) (hD 12 (by decide))
  have e1 : x10 = _ := e1
  subst e1
  obtain ⟨l1, u1, e2, B10⟩ := h1 (hD 14 (by decide))
  have e2 : x30 = _ := e2
  have e4 : ∃ A n cap, x30 = .agg #[.int .u64 L30, .slice A n cap] := hV30.shape
  obtain ⟨A30, n30, c30, e3⟩ := e4
  rw [e3] at e2
  simp only [Value.agg.injEq, Array.mk.injEq, List.cons.injEq, and_true] at e2
  obtain ⟨rfl, rfl⟩ := e2
  subst e3
  obtain ⟨A24, n24, c24, rfl⟩ := hV24.shape
  have HC3 := Lib.hid (HC2.out.trans hM.ch)
  have hCC : Ch S0 w2 w3 := hM.ch
  clear HC2 hM
  have Bx := Lib.hid (Bp1.out.keep hCC (fun h => h))
  clear Bp1
  have Bp1 := Bx
  clear Bx
  have Bx := Lib.hid (Bp2.out.keep hCC (fun h => h))
  clear Bp2
  have Bp2 := Bx
  clear Bx
  clear hCC
  have H24 : Hid (IsB 0 w3 (.agg #[.int .u64 (L24 : Nat), .slice A24 n24 c24]) L24 g24) := Lib.hid hV24
  clear hV24
  have HR24 : Hid ((fun (L : Nat) (g : Nat → Bool) => (fun L g => L ≤ 400) L g) L24 g24) := Lib.hid hR24
  clear hR24
  have H28 : Hid (IsB 0 w3 (.agg #[.int .u64 (L28 : Nat), .slice A28 n28 c28]) L28 g28) := Lib.hid hV28
  clear hV28
  have HR28 : Hid ((fun (L : Nat) (g : Nat → Bool) => (fun L g => L ≤ 400 ∧ ∃ g0, g = Bit.put g0 (u1 % 400) true) L g) L28 g28) := Lib.hid hR28
  clear hR28
  have H30 : Hid (IsB 0 w3 (.agg #[.int .u64 (L30 : Nat), .slice A30 n30 c30]) L30 g30) := Lib.hid hV30
  clear hV30
  have HR30 : Hid ((fun (L : Nat) (g : Nat → Bool) => (fun L g => L ≤ 400) L g) L30 g30) := Lib.hid hR30
  clear hR30
  have Bx := Lib.hid B9
  clear B9
  have B9 := Bx
  clear Bx
  have Bx := Lib.hid B10
  clear B10
  have B10 := Bx
  clear Bx
  clear hD HI
  try clear I0
  try clear xp10 xp11
  try clear xp1z
  have xp1z := Bp1.out.lt
  have xp10 := Bp1.out.cell 0
  have xp11 := Bp1.out.cell 1
  simp only [List.getElem?_toArray, List.getElem?_cons_zero, List.getElem?_cons_succ] at xp10 xp11
  try clear xp20 xp21
  try clear xp2z
  have xp2z := Bp2.out.lt
  have xp20 := Bp2.out.cell 0
  have xp21 := Bp2.out.cell 1
  simp only [List.getElem?_toArray, List.getElem?_cons_zero, List.getElem?_cons_succ] at xp20 xp21
  try clear x90 x91
  try clear x9z
  have x9z := B9.out.lt
  have x90 := B9.out.cell 0
  have x91 := B9.out.cell 1
  simp only [List.getElem?_toArray, List.getElem?_cons_zero, List.getElem?_cons_succ] at x90 x91
  try clear x100 x101
  try clear x10z
  have x10z := B10.out.lt
  have x100 := B10.out.cell 0
  have x101 := B10.out.cell 1
  simp only [List.getElem?_toArray, List.getElem?_cons_zero, List.getElem?_cons_succ] at x100 x101
  have hl28 : L28 ≤ 400 := HR28.out.1
  have hl30 : L30 ≤ 400 := HR30.out
  have HL28 := Lib.hid hl28
  have HL30 := Lib.hid hl30
  clear hl28 hl30
  go_wp2_with fail
  obtain ⟨I0, hI0⟩ : ∃ I0 : (Nat → Bool) → Act → World → Prop, I0 = (fun D a' w' => (∃ x34 x35 x36 x37 x38 x39 x12 x13 : Value, a' = ({ tmps := #[(Value.agg #[Value.int IntKind.u64 ↑l1, Value.slice P1 m1 r1]), (Value.agg #[Value.int IntKind.u64 ↑l2, Value.slice P2 m2 r2]), (Value.int IntKind.u16 ↑u1), (Value.int IntKind.u16 ↑u2), (Value.pointer (some { block := w.heap.size, off := 0 })), (Value.pointer (some { block := w.heap.size + 1, off := 0 })), undef, undef, (Value.bool false), (Value.pointer (some { block := b9, off := 0 })), (Value.pointer (some { block := b10, off := 0 })), (Value.int IntKind.u64 (↑u2 % 201)), x12, x13, undef, (Value.agg #[Value.int IntKind.u64 ↑l1, Value.slice P1 m1 r1]), (Value.bool true), (Value.bool false), (Value.bool false), (Value.agg #[Value.int IntKind.u64 ↑l2, Value.slice P2 m2 r2]), (Value.bool true), (Value.bool false), (Value.bool false), (Value.agg #[Value.int IntKind.u64 ↑l1, Value.slice P1 m1 r1]), (Value.agg #[Value.int IntKind.u64 ↑L24, Value.slice A24 n24 c24]), (Value.int IntKind.u16 ↑u1), (Value.int IntKind.u64 ↑u1), (Value.int IntKind.u64 (↑u1 % 400)), (Value.agg #[Value.int IntKind.u64 ↑L28, Value.slice A28 n28 c28]), (Value.agg #[Value.int IntKind.u64 ↑l2, Value.slice P2 m2 r2]), (Value.agg #[Value.int IntKind.u64 ↑L30, Value.slice A30 n30 c30]), (Value.int IntKind.u16 ↑u2), (Value.int IntKind.u64 ↑u2), (Value.int IntKind.u64 (↑u2 % 201)), x34, x35, x36, x37, x38, x39, undef, undef, undef, undef, undef, undef, undef, undef, undef, undef, undef, undef, undef, undef, undef, undef, undef, undef, undef, undef, undef, undef, undef, undef, undef, undef, undef, undef, undef, undef, undef, undef, undef, undef, undef, undef, undef, undef, undef, undef, undef], defers := [] } : Act) ∧ RM w3 w' D [x34, x35, x36, x37, x38, x39, x12, x13, undef, undef] [(fun _ _ => True), (fun _ _ => True), (fun L g => L ≤ 601 ∧ g = shR g28 (u2 % 201)), (fun _ _ => True), (fun _ _ => True), (fun L g => L ≤ 601 ∧ g = shR g30 (u2 % 201)), (fun _ _ => True), (fun _ _ => True), (fun _ _ => True), (fun _ _ => True)] [2, 5] [6, 7] [0, 0, 0, 0, 0, 0, 8, 9, 0, 0] [0, 0, 0, 0, 0, 0, 2, 5, 0, 0] ∧ (D 0 = true → x34 = .agg #[.int .u64 (L28 : Nat), .slice A28 n28 c28]) ∧ (D 1 = true → x35 = .int .u64 ((u2 : Int) % 201)) ∧ (D 3 = true → x37 = .agg #[.int .u64 (L30 : Nat), .slice A30 n30 c30]) ∧ (D 4 = true → x38 = .int .u64 ((u2 : Int) % 201)) ∧ (D 5 = true → D 2 = true))) := ⟨_, rfl⟩
  have HI := Lib.hid hI0
  clear hI0
  refine region_inv2 (by kernel_rfl) (by kernel_rfl) I0 ?_ ?_ ?_
  · rw [HI.out]; exact ⟨_, _, _, _, _, _, _, _, rfl, ⟨(Ch.refl S0 w3).drew, (fun _ _ h => by cases h), (fun _ _ h => by cases h), (fun _ _ _ _ h => by cases h), (fun _ _ _ _ _ h => by cases h), (fun _ _ h => by cases h)⟩, (fun h => by cases h), (fun h => by cases h), (fun h => by cases h), (fun h => by cases h), (fun h => by cases h)⟩
  · refine ⟨?_, ?_, ?_, ?_, ?_, ?_, ?_, ?_, ?_, ?_, trivial⟩
    · intro D a' w' hD hdep hI KK hKK
      rw [HI.out] at hI
      obtain ⟨x34, x35, x36, x37, x38, x39, x12, x13, rfl, hM, f0, f1, f3, f4, k5⟩ := hI
      simp [Region.binds] at hdep
      have K5 := Lib.hid k5
      clear k5
      have HM := Lib.hid hM
      clear hM
      have F0 := Lib.hid f0
      clear f0
      have F1 := Lib.hid f1
      clear f1
      have F3 := Lib.hid f3
      clear f3
      have F4 := Lib.hid f4
      clear f4
      have Bx := B9.out.keep HM.out.ch (fun h => h)
      have c0 : w'.cell? ⟨b9, 0, none⟩ = some (.int .u64 (L28 : Nat)) := by rw [Bx.cell]; rfl
      have c1 : w'.cell? ⟨b9, 1, none⟩ = some (.slice A28 n28 c28) := by rw [Bx.cell]; rfl
      clear Bx hdep
      go_wp2_with fail
      rw [HI.out]; exact ⟨_, _, _, _, _, _, _, _, rfl, HM.out.other (k := 0) (.agg #[.int .u64 (L28 : Nat), .slice A28 n28 c28]) (by decide) (by decide) (by decide) (by decide), fun _ => rfl, fun h => F1.out (upd_out h (by decide)), fun h => F3.out (upd_out h (by decide)), fun h => F4.out (upd_out h (by decide)), fun h => upd_mono (K5.out (upd_out h (by decide)))⟩
    · intro D a' w' hD hdep hI KK hKK
      rw [HI.out] at hI
      obtain ⟨x34, x35, x36, x37, x38, x39, x12, x13, rfl, hM, f0, f1, f3, f4, k5⟩ := hI
      simp [Region.binds] at hdep
      have K5 := Lib.hid k5
      clear k5
      have HM := Lib.hid hM
      clear hM
      have F0 := Lib.hid f0
      clear f0
      have F1 := Lib.hid f1
      clear f1
      have F3 := Lib.hid f3
      clear f3
      have F4 := Lib.hid f4
      clear f4
      clear hdep
      go_wp2_with fail
      rw [HI.out]; exact ⟨_, _, _, _, _, _, _, _, rfl, HM.out.other (k := 1) (.int .u64 ((u2 : Int) % 201)) (by decide) (by decide) (by decide) (by decide), fun h => F0.out (upd_out h (by decide)), fun _ => rfl, fun h => F3.out (upd_out h (by decide)), fun h => F4.out (upd_out h (by decide)), fun h => upd_mono (K5.out (upd_out h (by decide)))⟩
    · intro D a' w' hD hdep hI KK hKK
      rw [HI.out] at hI
      obtain ⟨x34, x35, x36, x37, x38, x39, x12, x13, rfl, hM, f0, f1, f3, f4, k5⟩ := hI
      simp [Region.binds] at hdep
      have K5 := Lib.hid k5
      clear k5
      have d0 : D 0 = true := by simp_all
      have d1 : D 1 = true := by simp_all
      have HM := Lib.hid hM
      clear hM
      have F0 := Lib.hid f0
      clear f0
      have F1 := Lib.hid f1
      clear f1
      have F3 := Lib.hid f3
      clear f3
      have F4 := Lib.hid f4
      clear f4
      have e34 := F0.out d0
      subst e34
      have e35 := F1.out d1
      subst e35
      clear hdep d0 d1
      have HC := Lib.hid (HC3.out.trans HM.out.ch)
      go_wp2_with fail
      refine (bsshl_any _ _ _ _ (H28.out.keep HM.out.ch) (u2 % 201) _ (by omega) (by have h := HL28.out; omega) (by omega)).mono ?_
      rintro e w2 ⟨v2, L2, rfl, hl1, hl2, hV2, hC2⟩
      have HV2 := Lib.hid hV2
      have HC2 := Lib.hid hC2
      clear hV2 hC2
      go_wp2_with fail
      rw [HI.out]; exact ⟨_, _, _, _, _, _, _, _, rfl, HM.out.call (k := 2) (by simp) (by decide) (by decide) (by decide) hD HC2.out HV2.out (⟨by have h := HL28.out; omega, rfl⟩), fun _ => rfl, fun _ => rfl, fun h => F3.out (upd_out h (by decide)), fun h => F4.out (upd_out h (by decide)), fun h => upd_mono (K5.out (upd_out h (by decide)))⟩
    · intro D a' w' hD hdep hI KK hKK
      rw [HI.out] at hI
      obtain ⟨x34, x35, x36, x37, x38, x39, x12, x13, rfl, hM, f0, f1, f3, f4, k5⟩ := hI
      simp [Region.binds] at hdep
      have K5 := Lib.hid k5
      clear k5
      have HM := Lib.hid hM
      clear hM
      have F0 := Lib.hid f0
      clear f0
      have F1 := Lib.hid f1
      clear f1
      have F3 := Lib.hid f3
      clear f3
      have F4 := Lib.hid f4
      clear f4
      have Bx := B10.out.keep HM.out.ch (fun h => h)
      have c0 : w'.cell? ⟨b10, 0, none⟩ = some (.int .u64 (L30 : Nat)) := by rw [Bx.cell]; rfl
      have c1 : w'.cell? ⟨b10, 1, none⟩ = some (.slice A30 n30 c30) := by rw [Bx.cell]; rfl
      clear Bx hdep
      go_wp2_with fail
      rw [HI.out]; exact ⟨_, _, _, _, _, _, _, _, rfl, HM.out.other (k := 3) (.agg #[.int .u64 (L30 : Nat), .slice A30 n30 c30]) (by decide) (by decide) (by decide) (by decide), fun h => F0.out (upd_out h (by decide)), fun h => F1.out (upd_out h (by decide)), fun _ => rfl, fun h => F4.out (upd_out h (by decide)), fun h => upd_mono (K5.out (upd_out h (by decide)))⟩
    · intro D a' w' hD hdep hI KK hKK
      rw [HI.out] at hI
      obtain ⟨x34, x35, x36, x37, x38, x39, x12, x13, rfl, hM, f0, f1, f3, f4, k5⟩ := hI
      simp [Region.binds] at hdep
      have K5 := Lib.hid k5
      clear k5
      have HM := Lib.hid hM
      clear hM
      have F0 := Lib.hid f0
      clear f0
      have F1 := Lib.hid f1
      clear f1
      have F3 := Lib.hid f3
      clear f3
      have F4 := Lib.hid f4
      clear f4
      clear hdep
      go_wp2_with fail
      rw [HI.out]; exact ⟨_, _, _, _, _, _, _, _, rfl, HM.out.other (k := 4) (.int .u64 ((u2 : Int) % 201)) (by decide) (by decide) (by decide) (by decide), fun h => F0.out (upd_out h (by decide)), fun h => F1.out (upd_out h (by decide)), fun h => F3.out (upd_out h (by decide)), fun _ => rfl, fun h => upd_mono (K5.out (upd_out h (by decide)))⟩
    · intro D a' w' hD hdep hI KK hKK
      rw [HI.out] at hI
      obtain ⟨x34, x35, x36, x37, x38, x39, x12, x13, rfl, hM, f0, f1, f3, f4, k5⟩ := hI
      simp [Region.binds] at hdep
      have K5 := Lib.hid k5
      clear k5
      have ce : D 2 = true := by simp_all
      have CE := Lib.hid ce
      clear ce
      have d3 : D 3 = true := by simp_all
      have d4 : D 4 = true := by simp_all
      have HM := Lib.hid hM
      clear hM
      have F0 := Lib.hid f0
      clear f0
      have F1 := Lib.hid f1
      clear f1
      have F3 := Lib.hid f3
      clear f3
      have F4 := Lib.hid f4
      clear f4
      have e37 := F3.out d3
      subst e37
      have e38 := F4.out d4
      subst e38
      clear hdep d3 d4
      have HC := Lib.hid (HC3.out.trans HM.out.ch)
      go_wp2_with fail
      refine (bsshl_any _ _ _ _ (H30.out.keep HM.out.ch) (u2 % 201) _ (by omega) (by have h := HL30.out; omega) (by omega)).mono ?_
      rintro e w2 ⟨v2, L2, rfl, hl1, hl2, hV2, hC2⟩
      have HV2 := Lib.hid hV2
      have HC2 := Lib.hid hC2
      clear hV2 hC2
      go_wp2_with fail
      rw [HI.out]; exact ⟨_, _, _, _, _, _, _, _, rfl, HM.out.call (k := 5) (by simp) (by decide) (by decide) (by decide) hD HC2.out HV2.out (⟨by have h := HL30.out; omega, rfl⟩), fun h => F0.out (upd_out h (by decide)), fun h => F1.out (upd_out h (by decide)), fun _ => rfl, fun _ => rfl, fun _ => upd_mono CE.out⟩
    · intro D a' w' hD hdep hI KK hKK
      rw [HI.out] at hI
      obtain ⟨x34, x35, x36, x37, x38, x39, x12, x13, rfl, hM, f0, f1, f3, f4, k5⟩ := hI
      simp [Region.binds] at hdep
      have K5 := Lib.hid k5
      clear k5
      have HM := Lib.hid hM
      clear hM
      have F0 := Lib.hid f0
      clear f0
      have F1 := Lib.hid f1
      clear f1
      have F3 := Lib.hid f3
      clear f3
      have F4 := Lib.hid f4
      clear f4
      clear hdep
      go_wp2_with fail
      rw [HI.out]; exact ⟨_, _, _, _, _, _, _, _, rfl, HM.out.alloc (k := 6) (by simp) (by decide) (by decide) (by decide) hD (by decide) 25, fun h => F0.out (upd_out h (by decide)), fun h => F1.out (upd_out h (by decide)), fun h => F3.out (upd_out h (by decide)), fun h => F4.out (upd_out h (by decide)), fun h => upd_mono (K5.out (upd_out h (by decide)))⟩
    · intro D a' w' hD hdep hI KK hKK
      rw [HI.out] at hI
      obtain ⟨x34, x35, x36, x37, x38, x39, x12, x13, rfl, hM, f0, f1, f3, f4, k5⟩ := hI
      simp [Region.binds] at hdep
      have K5 := Lib.hid k5
      clear k5
      have HM := Lib.hid hM
      clear hM
      have F0 := Lib.hid f0
      clear f0
      have F1 := Lib.hid f1
      clear f1
      have F3 := Lib.hid f3
      clear f3
      have F4 := Lib.hid f4
      clear f4
      clear hdep
      go_wp2_with fail
      rw [HI.out]; exact ⟨_, _, _, _, _, _, _, _, rfl, HM.out.alloc (k := 7) (by simp) (by decide) (by decide) (by decide) hD (by decide) 25, fun h => F0.out (upd_out h (by decide)), fun h => F1.out (upd_out h (by decide)), fun h => F3.out (upd_out h (by decide)), fun h => F4.out (upd_out h (by decide)), fun h => upd_mono (K5.out (upd_out h (by decide)))⟩
    · intro D a' w' hD hdep hI KK hKK
      rw [HI.out] at hI
      obtain ⟨x34, x35, x36, x37, x38, x39, x12, x13, rfl, hM, f0, f1, f3, f4, k5⟩ := hI
      simp [Region.binds] at hdep
      have K5 := Lib.hid k5
      clear k5
      have d5 : D 5 = true := by simp_all
      have d6 : D 6 = true := by simp_all
      have d7 : D 7 = true := by simp_all
      have d2 := K5.out d5
      have HM := Lib.hid hM
      clear hM
      have F0 := Lib.hid f0
      clear f0
      have F1 := Lib.hid f1
      clear f1
      have F3 := Lib.hid f3
      clear f3
      have F4 := Lib.hid f4
      clear f4
      have hall : ∀ j, j ∈ [2, 5] ∨ j ∈ [6, 7] → D j = true := fun j hj => by
        have : j = 2 ∨ j = 5 ∨ j = 6 ∨ j = 7 := by simp at hj; omega
        rcases this with rfl | rfl | rfl | rfl <;> assumption
      obtain ⟨b, hb, _, c0, c1, z0, z1⟩ := HM.out.before (i := 6) (by decide) d6 hD
      have hb : x12 = _ := hb
      subst hb
      obtain ⟨L, g, _, hV⟩ := HM.out.val 2 (by decide) d2
      have hV : IsB 0 w' x36 L g := hV
      obtain ⟨A, n, c, rfl⟩ := hV.shape
      clear hV
      have Hall := Lib.hid hall
      clear hall hdep d2 d5 d7
      have Dal := Lib.hid d6
      clear d6
      go_wp2_with fail
      rw [HI.out]; exact ⟨_, _, _, _, _, _, _, _, rfl, HM.out.store (i := 6) (k := 8) (by decide) Dal.out rfl hD (by decide) (by decide) (by decide) (by decide) Hall.out rfl rfl undef, fun h => F0.out (upd_out h (by decide)), fun h => F1.out (upd_out h (by decide)), fun h => F3.out (upd_out h (by decide)), fun h => F4.out (upd_out h (by decide)), fun h => upd_mono (K5.out (upd_out h (by decide)))⟩
    · intro D a' w' hD hdep hI KK hKK
      rw [HI.out] at hI
      obtain ⟨x34, x35, x36, x37, x38, x39, x12, x13, rfl, hM, f0, f1, f3, f4, k5⟩ := hI
      simp [Region.binds] at hdep
      have K5 := Lib.hid k5
      clear k5
      have dst : D 8 = true := by simp_all
      have HM := Lib.hid hM
      clear hM
      have F0 := Lib.hid f0
      clear f0
      have F1 := Lib.hid f1
      clear f1
      have F3 := Lib.hid f3
      clear f3
      have F4 := Lib.hid f4
      clear f4
      have hall := HM.out.closed 6 (by decide) dst
      have d7 := hall 7 (by decide)
      have d5 := hall 5 (by decide)
      clear dst
      obtain ⟨b, hb, _, c0, c1, z0, z1⟩ := HM.out.before (i := 7) (by decide) d7 hD
      have hb : x13 = _ := hb
      subst hb
      obtain ⟨L, g, _, hV⟩ := HM.out.val 5 (by decide) d5
      have hV : IsB 0 w' x39 L g := hV
      obtain ⟨A, n, c, rfl⟩ := hV.shape
      clear hV
      have Hall := Lib.hid hall
      clear hall hdep d5
      have Dal := Lib.hid d7
      clear d7
      go_wp2_with fail
      rw [HI.out]; exact ⟨_, _, _, _, _, _, _, _, rfl, HM.out.store (i := 7) (k := 9) (by decide) Dal.out rfl hD (by decide) (by decide) (by decide) (by decide) Hall.out rfl rfl undef, fun h => F0.out (upd_out h (by decide)), fun h => F1.out (upd_out h (by decide)), fun h => F3.out (upd_out h (by decide)), fun h => F4.out (upd_out h (by decide)), fun h => upd_mono (K5.out (upd_out h (by decide)))⟩
  intro D a' w4 hD hI
  rw [HI.out] at hI
  obtain ⟨x34, x35, x36, x37, x38, x39, x12, x13, rfl, hM, f0, f1, f3, f4, _⟩ := hI
  have e34 := f0 (hD 0 (by decide))
  subst e34
  clear f0
  have e35 := f1 (hD 1 (by decide))
  subst e35
  clear f1
  have e37 := f3 (hD 3 (by decide))
  subst e37
  clear f3
  have e38 := f4 (hD 4 (by decide))
  subst e38
  clear f4
  obtain ⟨L36, g36, hR36, hV36⟩ := hM.val 2 (by decide) (hD 2 (by decide))
  have hV36 : IsB 0 w4 x36 L36 g36 := hV36
  obtain ⟨L39, g39, hR39, hV39⟩ := hM.val 5 (by decide) (hD 5 (by decide))
  have hV39 : IsB 0 w4 x39 L39 g39 := hV39
  obtain ⟨b12, e1, _, _, _, h1⟩ := hM.ptr 6 (by decide) (hD 6 (by decide))
  have e1 : x12 = _ := e1
  subst e1
  obtain ⟨l1, u1, e2, B12⟩ := h1 (hD 8 (by decide))
  have e2 : x36 = _ := e2
  have e4 : ∃ A n cap, x36 = .agg #[.int .u64 L36, .slice A n cap] := hV36.shape
  obtain ⟨A36, n36, c36, e3⟩ := e4
  rw [e3] at e2
  simp only [Value.agg.injEq, Array.mk.injEq, List.cons.injEq, and_true] at e2
  obtain ⟨rfl, rfl⟩ := e2
  subst e3
  obtain ⟨b13, e1, _, _, _, h1⟩ := hM.ptr 7 (by decide) (hD 7 (by decide))
  have e1 : x13 = _ := e1
  subst e1
  obtain ⟨l1, u1, e2, B13⟩ := h1 (hD 9 (by decide))
  have e2 : x39 = _ := e2
  have e4 : ∃ A n cap, x39 = .agg #[.int .u64 L39, .slice A n cap] := hV39.shape
  obtain ⟨A39, n39, c39, e3⟩ := e4
  rw [e3] at e2
  simp only [Value.agg.injEq, Array.mk.injEq, List.cons.injEq, and_true] at e2
  obtain ⟨rfl, rfl⟩ := e2
  subst e3
  have HC4 := Lib.hid (HC3.out.trans hM.ch)
  have hCC : Ch S0 w3 w4 := hM.ch
  clear HC3 hM
  have Hx := Lib.hid (H24.out.keep hCC)
  clear H24
  have H24 := Hx
  clear Hx
  have Hx := Lib.hid (H28.out.keep hCC)
  clear H28
  have H28 := Hx
  clear Hx
  have Hx := Lib.hid (H30.out.keep hCC)
  clear H30
  have H30 := Hx
  clear Hx
  have Bx := Lib.hid (Bp1.out.keep hCC (fun h => h))
  clear Bp1
  have Bp1 := Bx
  clear Bx
  have Bx := Lib.hid (Bp2.out.keep hCC (fun h => h))
  clear Bp2
  have Bp2 := Bx
  clear Bx
  have Bx := Lib.hid (B9.out.keep hCC (fun h => h))
  clear B9
  have B9 := Bx
  clear Bx
  have Bx := Lib.hid (B10.out.keep hCC (fun h => h))
  clear B10
  have B10 := Bx
  clear Bx
  clear hCC
  have H36 : Hid (IsB 0 w4 (.agg #[.int .u64 (L36 : Nat), .slice A36 n36 c36]) L36 g36) := Lib.hid hV36
  clear hV36
  have HR36 : Hid ((fun (L : Nat) (g : Nat → Bool) => (fun L g => L ≤ 601 ∧ g = shR g28 (u2 % 201)) L g) L36 g36) := Lib.hid hR36
  clear hR36
  have H39 : Hid (IsB 0 w4 (.agg #[.int .u64 (L39 : Nat), .slice A39 n39 c39]) L39 g39) := Lib.hid hV39
  clear hV39
  have HR39 : Hid ((fun (L : Nat) (g : Nat → Bool) => (fun L g => L ≤ 601 ∧ g = shR g30 (u2 % 201)) L g) L39 g39) := Lib.hid hR39
  clear hR39
  have Bx := Lib.hid B12
  clear B12
  have B12 := Bx
  clear Bx
  have Bx := Lib.hid B13
  clear B13
  have B13 := Bx
  clear Bx
  clear hD HI
  try clear I0
  try clear xp10 xp11
  try clear xp1z
  have xp1z := Bp1.out.lt
  have xp10 := Bp1.out.cell 0
  have xp11 := Bp1.out.cell 1
  simp only [List.getElem?_toArray, List.getElem?_cons_zero, List.getElem?_cons_succ] at xp10 xp11
  try clear xp20 xp21
  try clear xp2z
  have xp2z := Bp2.out.lt
  have xp20 := Bp2.out.cell 0
  have xp21 := Bp2.out.cell 1
  simp only [List.getElem?_toArray, List.getElem?_cons_zero, List.getElem?_cons_succ] at xp20 xp21
  try clear x90 x91
  try clear x9z
  have x9z := B9.out.lt
  have x90 := B9.out.cell 0
  have x91 := B9.out.cell 1
  simp only [List.getElem?_toArray, List.getElem?_cons_zero, List.getElem?_cons_succ] at x90 x91
  try clear x100 x101
  try clear x10z
  have x10z := B10.out.lt
  have x100 := B10.out.cell 0
  have x101 := B10.out.cell 1
  simp only [List.getElem?_toArray, List.getElem?_cons_zero, List.getElem?_cons_succ] at x100 x101
  try clear x120 x121
  try clear x12z
  have x12z := B12.out.lt
  have x120 := B12.out.cell 0
  have x121 := B12.out.cell 1
  simp only [List.getElem?_toArray, List.getElem?_cons_zero, List.getElem?_cons_succ] at x120 x121
  try clear x130 x131
  try clear x13z
  have x13z := B13.out.lt
  have x130 := B13.out.cell 0
  have x131 := B13.out.cell 1
  simp only [List.getElem?_toArray, List.getElem?_cons_zero, List.getElem?_cons_succ] at x130 x131
  have q36 : g36 = shR g28 (u2 % 201) := HR36.out.2
  have q39 : g39 = shR g30 (u2 % 201) := HR39.out.2
  have hl36 : L36 ≤ 601 := HR36.out.1
  have hl39 : L39 ≤ 601 := HR39.out.1
  have qu : ∀ k, shR (fun k => g28 k || g30 k) (u2 % 201) k = (g36 k || g39 k) := fun k => by rw [q36, q39]; unfold shR; cases decide ((u2 % 201) ≤ k) <;> simp
  have qi : ∀ k, shR (fun k => g28 k && g30 k) (u2 % 201) k = (g36 k && g39 k) := fun k => by rw [q36, q39]; unfold shR; cases decide ((u2 % 201) ≤ k) <;> simp
  have qd : ∀ k, shR (fun k => g28 k && !g30 k) (u2 % 201) k = (g36 k && !g39 k) := fun k => by rw [q36, q39]; unfold shR; cases decide ((u2 % 201) ≤ k) <;> simp
  have qt : (g36 (u1 % 400 + (u2 % 201)) || g39 (u1 % 400 + (u2 % 201))) = true := by obtain ⟨g0, e⟩ := HR28.out.2; rw [q36]; unfold shR; rw [e]; simp [Bit.put]
  have qw : IntKind.u64.wrap ((IntKind.u64.wrap (u1 : Int)).tmod 400 + (u2 : Int) % 201) = ((u1 % 400 + u2 % 201 : Nat) : Int) := by rw [IntKind.wrap_u64, IntKind.wrap_u64, Int.tmod_eq_emod_of_nonneg (by omega)]; omega
  have QW := Lib.hid qw
  have QU := Lib.hid qu
  have QI := Lib.hid qi
  have QD := Lib.hid qd
  have QT := Lib.hid qt
  have HL36 := Lib.hid hl36
  have HL39 := Lib.hid hl39
  clear q36 q39 qu qi qd qt qw hl36 hl39
  go_wp2_with fail
  refine (bsunion_any _ _ _ _ _ _ _ (H36.out.keep (by first | exact Ch.refl _ _ | exact (Ch.refl _ _).alloc _ | exact (Ch.refl _ _).drew | exact ((Ch.refl _ _).alloc _).alloc _ | exact ((Ch.refl _ _).alloc _).drew | exact (((Ch.refl _ _).alloc _).alloc _).alloc _ | exact (((Ch.refl _ _).alloc _).alloc _).drew | exact ((((Ch.refl _ _).alloc _).alloc _).alloc _).drew | exact ((((Ch.refl _ _).alloc _).alloc _).alloc _).alloc _ | exact (((((Ch.refl _ _).alloc _).alloc _).alloc _).alloc _).drew)) (H39.out.keep (by first | exact Ch.refl _ _ | exact (Ch.refl _ _).alloc _ | exact (Ch.refl _ _).drew | exact ((Ch.refl _ _).alloc _).alloc _ | exact ((Ch.refl _ _).alloc _).drew | exact (((Ch.refl _ _).alloc _).alloc _).alloc _ | exact (((Ch.refl _ _).alloc _).alloc _).drew | exact ((((Ch.refl _ _).alloc _).alloc _).alloc _).drew | exact ((((Ch.refl _ _).alloc _).alloc _).alloc _).alloc _ | exact (((((Ch.refl _ _).alloc _).alloc _).alloc _).alloc _).drew))).mono ?_
  rintro e w5 ⟨vu, rfl, hV, hC⟩
  obtain ⟨Lu, hE⟩ : ∃ x, x = max L36 L39 := ⟨_, rfl⟩
  rw [← hE] at hV
  have Eu := Lib.hid hE
  clear hE
  obtain ⟨Au, nu, cu, rfl⟩ := hV.shape
  have hCC : Ch S0 w4 w5 := Ch.trans (by first | exact Ch.refl _ _ | exact (Ch.refl _ _).alloc _ | exact (Ch.refl _ _).drew | exact ((Ch.refl _ _).alloc _).alloc _ | exact ((Ch.refl _ _).alloc _).drew | exact (((Ch.refl _ _).alloc _).alloc _).alloc _ | exact (((Ch.refl _ _).alloc _).alloc _).drew | exact ((((Ch.refl _ _).alloc _).alloc _).alloc _).drew | exact ((((Ch.refl _ _).alloc _).alloc _).alloc _).alloc _ | exact (((((Ch.refl _ _).alloc _).alloc _).alloc _).alloc _).drew) hC
  have HC5 := Lib.hid (HC4.out.trans hCC)
  clear HC4
  have Hx := Lib.hid (H24.out.keep hCC)
  clear H24
  have H24 := Hx
  clear Hx
  have Hx := Lib.hid (H28.out.keep hCC)
  clear H28
  have H28 := Hx
  clear Hx
  have Hx := Lib.hid (H30.out.keep hCC)
  clear H30
  have H30 := Hx
  clear Hx
  have Hx := Lib.hid (H36.out.keep hCC)
  clear H36
  have H36 := Hx
  clear Hx
  have Hx := Lib.hid (H39.out.keep hCC)
  clear H39
  have H39 := Hx
  clear Hx
  have Bx := Lib.hid (Bp1.out.keep hCC (fun h => h))
  clear Bp1
  have Bp1 := Bx
  clear Bx
  have Bx := Lib.hid (Bp2.out.keep hCC (fun h => h))
  clear Bp2
  have Bp2 := Bx
  clear Bx
  have Bx := Lib.hid (B9.out.keep hCC (fun h => h))
  clear B9
  have B9 := Bx
  clear Bx
  have Bx := Lib.hid (B10.out.keep hCC (fun h => h))
  clear B10
  have B10 := Bx
  clear Bx
  have Bx := Lib.hid (B12.out.keep hCC (fun h => h))
  clear B12
  have B12 := Bx
  clear Bx
  have Bx := Lib.hid (B13.out.keep hCC (fun h => h))
  clear B13
  have B13 := Bx
  clear Bx
  have Hu := Lib.hid (hV.mono (base' := 0) (Nat.zero_le _))
  clear hV
  clear hC hCC
  try clear xp10 xp11
  try clear xp1z
  have xp1z := Bp1.out.lt
  have xp10 := Bp1.out.cell 0
  have xp11 := Bp1.out.cell 1
  simp only [List.getElem?_toArray, List.getElem?_cons_zero, List.getElem?_cons_succ] at xp10 xp11
  try clear xp20 xp21
  try clear xp2z
  have xp2z := Bp2.out.lt
  have xp20 := Bp2.out.cell 0
  have xp21 := Bp2.out.cell 1
  simp only [List.getElem?_toArray, List.getElem?_cons_zero, List.getElem?_cons_succ] at xp20 xp21
  try clear x90 x91
  try clear x9z
  have x9z := B9.out.lt
  have x90 := B9.out.cell 0
  have x91 := B9.out.cell 1
  simp only [List.getElem?_toArray, List.getElem?_cons_zero, List.getElem?_cons_succ] at x90 x91
  try clear x100 x101
  try clear x10z
  have x10z := B10.out.lt
  have x100 := B10.out.cell 0
  have x101 := B10.out.cell 1
  simp only [List.getElem?_toArray, List.getElem?_cons_zero, List.getElem?_cons_succ] at x100 x101
  try clear x120 x121
  try clear x12z
  have x12z := B12.out.lt
  have x120 := B12.out.cell 0
  have x121 := B12.out.cell 1
  simp only [List.getElem?_toArray, List.getElem?_cons_zero, List.getElem?_cons_succ] at x120 x121
  try clear x130 x131
  try clear x13z
  have x13z := B13.out.lt
  have x130 := B13.out.cell 0
  have x131 := B13.out.cell 1
  simp only [List.getElem?_toArray, List.getElem?_cons_zero, List.getElem?_cons_succ] at x130 x131
  go_wp2_with fail
  have B14 : Hid (Blk (w5.alloc (Obj.cells #[.int .u64 (Lu : Nat), .slice Au nu cu] 25)) (w5.heap.size) #[.int .u64 (Lu : Nat), .slice Au nu cu]) := Lib.hid (Blk.new _ _ _)
  have hCC : Ch S0 w5 (w5.alloc (Obj.cells #[.int .u64 (Lu : Nat), .slice Au nu cu] 25)) := (Ch.refl _ _).alloc _
  have HC6 := Lib.hid (HC5.out.trans hCC)
  have Hx := Lib.hid (H24.out.keep hCC)
  clear H24
  have H24 := Hx
  clear Hx
  have Hx := Lib.hid (H28.out.keep hCC)
  clear H28
  have H28 := Hx
  clear Hx
  have Hx := Lib.hid (H30.out.keep hCC)
  clear H30
  have H30 := Hx
  clear Hx
  have Hx := Lib.hid (H36.out.keep hCC)
  clear H36
  have H36 := Hx
  clear Hx
  have Hx := Lib.hid (H39.out.keep hCC)
  clear H39
  have H39 := Hx
  clear Hx
  have Hx := Lib.hid (Hu.out.keep hCC)
  clear Hu
  have Hu := Hx
  clear Hx
  have Bx := Lib.hid (Bp1.out.keep hCC (fun h => h))
  clear Bp1
  have Bp1 := Bx
  clear Bx
  have Bx := Lib.hid (Bp2.out.keep hCC (fun h => h))
  clear Bp2
  have Bp2 := Bx
  clear Bx
  have Bx := Lib.hid (B9.out.keep hCC (fun h => h))
  clear B9
  have B9 := Bx
  clear Bx
  have Bx := Lib.hid (B10.out.keep hCC (fun h => h))
  clear B10
  have B10 := Bx
  clear Bx
  have Bx := Lib.hid (B12.out.keep hCC (fun h => h))
  clear B12
  have B12 := Bx
  clear Bx
  have Bx := Lib.hid (B13.out.keep hCC (fun h => h))
  clear B13
  have B13 := Bx
  clear Bx
  clear hCC HC5
  try clear xp10 xp11
  try clear xp20 xp21
  try clear x90 x91
  try clear x100 x101
  try clear x120 x121
  try clear x130 x131
  try clear xp1z
  try clear xp2z
  try clear x9z
  try clear x10z
  try clear x12z
  try clear x13z
  generalize w5.alloc (Obj.cells #[.int .u64 (Lu : Nat), .slice Au nu cu] 25) = w6 at *
  generalize w5.heap.size = b14 at *
  have xp10 := Bp1.out.cell 0
  have xp11 := Bp1.out.cell 1
  simp only [List.getElem?_toArray, List.getElem?_cons_zero, List.getElem?_cons_succ] at xp10 xp11
  have xp20 := Bp2.out.cell 0
  have xp21 := Bp2.out.cell 1
  simp only [List.getElem?_toArray, List.getElem?_cons_zero, List.getElem?_cons_succ] at xp20 xp21
  have x90 := B9.out.cell 0
  have x91 := B9.out.cell 1
  simp only [List.getElem?_toArray, List.getElem?_cons_zero, List.getElem?_cons_succ] at x90 x91
  have x100 := B10.out.cell 0
  have x101 := B10.out.cell 1
  simp only [List.getElem?_toArray, List.getElem?_cons_zero, List.getElem?_cons_succ] at x100 x101
  have x120 := B12.out.cell 0
  have x121 := B12.out.cell 1
  simp only [List.getElem?_toArray, List.getElem?_cons_zero, List.getElem?_cons_succ] at x120 x121
  have x130 := B13.out.cell 0
  have x131 := B13.out.cell 1
  simp only [List.getElem?_toArray, List.getElem?_cons_zero, List.getElem?_cons_succ] at x130 x131
  have x140 := B14.out.cell 0
  have x141 := B14.out.cell 1
  simp only [List.getElem?_toArray, List.getElem?_cons_zero, List.getElem?_cons_succ] at x140 x141
  go_wp2_with fail
  go_region_held3 (fun w' => w'.cell? ⟨b9, 0, none⟩ = some (.int .u64 (L28 : Nat)) ∧ w'.cell? ⟨b9, 1, none⟩ = some (.slice A28 n28 c28) ∧ w'.cell? ⟨b10, 0, none⟩ = some (.int .u64 (L30 : Nat)) ∧ w'.cell? ⟨b10, 1, none⟩ = some (.slice A30 n30 c30) ∧ w'.cell? ⟨b12, 0, none⟩ = some (.int .u64 (L36 : Nat)) ∧ w'.cell? ⟨b12, 1, none⟩ = some (.slice A36 n36 c36) ∧ w'.cell? ⟨b13, 0, none⟩ = some (.int .u64 (L39 : Nat)) ∧ w'.cell? ⟨b13, 1, none⟩ = some (.slice A39 n39 c39) ∧ w'.cell? ⟨b14, 0, none⟩ = some (.int .u64 (Lu : Nat)) ∧ w'.cell? ⟨b14, 1, none⟩ = some (.slice Au nu cu))
    (first | ((try dsimp only); (repeat' apply And.intro) <;> assumption) | (go_keep; done))
    (first
      | (go_at_call 18
         (with_reducible refine (bsunion_any _ _ _ _ _ _ _ (H28.out.keep (by first | exact Ch.refl _ _ | exact (Ch.refl _ _).alloc _ | exact (Ch.refl _ _).drew | exact ((Ch.refl _ _).alloc _).alloc _ | exact ((Ch.refl _ _).alloc _).drew | exact (((Ch.refl _ _).alloc _).alloc _).alloc _ | exact (((Ch.refl _ _).alloc _).alloc _).drew | exact ((((Ch.refl _ _).alloc _).alloc _).alloc _).drew | exact ((((Ch.refl _ _).alloc _).alloc _).alloc _).alloc _ | exact (((((Ch.refl _ _).alloc _).alloc _).alloc _).alloc _).drew)) (H30.out.keep (by first | exact Ch.refl _ _ | exact (Ch.refl _ _).alloc _ | exact (Ch.refl _ _).drew | exact ((Ch.refl _ _).alloc _).alloc _ | exact ((Ch.refl _ _).alloc _).drew | exact (((Ch.refl _ _).alloc _).alloc _).alloc _ | exact (((Ch.refl _ _).alloc _).alloc _).drew | exact ((((Ch.refl _ _).alloc _).alloc _).alloc _).drew | exact ((((Ch.refl _ _).alloc _).alloc _).alloc _).alloc _ | exact (((((Ch.refl _ _).alloc _).alloc _).alloc _).alloc _).drew))).mono ?_)
         rintro e w7 ⟨ve1, rfl, hV, hC⟩
         obtain ⟨Le1, hE⟩ : ∃ x, x = max L28 L30 := ⟨_, rfl⟩
         rw [← hE] at hV
         have Ee1 := Lib.hid hE
         clear hE
         obtain ⟨Ae1, ne1, ce1, rfl⟩ := hV.shape
         have hCC : Ch S0 w6 w7 := Ch.trans (by first | exact Ch.refl _ _ | exact (Ch.refl _ _).alloc _ | exact (Ch.refl _ _).drew | exact ((Ch.refl _ _).alloc _).alloc _ | exact ((Ch.refl _ _).alloc _).drew | exact (((Ch.refl _ _).alloc _).alloc _).alloc _ | exact (((Ch.refl _ _).alloc _).alloc _).drew | exact ((((Ch.refl _ _).alloc _).alloc _).alloc _).drew | exact ((((Ch.refl _ _).alloc _).alloc _).alloc _).alloc _ | exact (((((Ch.refl _ _).alloc _).alloc _).alloc _).alloc _).drew) hC
         have HC7 := Lib.hid (HC6.out.trans hCC)
         clear HC6
         have Hx := Lib.hid (H24.out.keep hCC)
         clear H24
         have H24 := Hx
         clear Hx
         have Hx := Lib.hid (H28.out.keep hCC)
         clear H28
         have H28 := Hx
         clear Hx
         have Hx := Lib.hid (H30.out.keep hCC)
         clear H30
         have H30 := Hx
         clear Hx
         have Hx := Lib.hid (H36.out.keep hCC)
         clear H36
         have H36 := Hx
         clear Hx
         have Hx := Lib.hid (H39.out.keep hCC)
         clear H39
         have H39 := Hx
         clear Hx
         have Hx := Lib.hid (Hu.out.keep hCC)
         clear Hu
         have Hu := Hx
         clear Hx
         have Bx := Lib.hid (Bp1.out.keep hCC (fun h => h))
         clear Bp1
         have Bp1 := Bx
         clear Bx
         have Bx := Lib.hid (Bp2.out.keep hCC (fun h => h))
         clear Bp2
         have Bp2 := Bx
         clear Bx
         have Bx := Lib.hid (B9.out.keep hCC (fun h => h))
         clear B9
         have B9 := Bx
         clear Bx
         have Bx := Lib.hid (B10.out.keep hCC (fun h => h))
         clear B10
         have B10 := Bx
         clear Bx
         have Bx := Lib.hid (B12.out.keep hCC (fun h => h))
         clear B12
         have B12 := Bx
         clear Bx
         have Bx := Lib.hid (B13.out.keep hCC (fun h => h))
         clear B13
         have B13 := Bx
         clear Bx
         have Bx := Lib.hid (B14.out.keep hCC (fun h => h))
         clear B14
         have B14 := Bx
         clear Bx
         have He1 := Lib.hid (hV.mono (base' := 0) (Nat.zero_le _))
         clear hV
         clear hC hCC
         try clear xp10 xp11
         try clear xp1z
         have xp1z := Bp1.out.lt
         have xp10 := Bp1.out.cell 0
         have xp11 := Bp1.out.cell 1
         simp only [List.getElem?_toArray, List.getElem?_cons_zero, List.getElem?_cons_succ] at xp10 xp11
         try clear xp20 xp21
         try clear xp2z
         have xp2z := Bp2.out.lt
         have xp20 := Bp2.out.cell 0
         have xp21 := Bp2.out.cell 1
         simp only [List.getElem?_toArray, List.getElem?_cons_zero, List.getElem?_cons_succ] at xp20 xp21
         try clear x90 x91
         try clear x9z
         have x9z := B9.out.lt
         have x90 := B9.out.cell 0
         have x91 := B9.out.cell 1
         simp only [List.getElem?_toArray, List.getElem?_cons_zero, List.getElem?_cons_succ] at x90 x91
         try clear x100 x101
         try clear x10z
         have x10z := B10.out.lt
         have x100 := B10.out.cell 0
         have x101 := B10.out.cell 1
         simp only [List.getElem?_toArray, List.getElem?_cons_zero, List.getElem?_cons_succ] at x100 x101
         try clear x120 x121
         try clear x12z
         have x12z := B12.out.lt
         have x120 := B12.out.cell 0
         have x121 := B12.out.cell 1
         simp only [List.getElem?_toArray, List.getElem?_cons_zero, List.getElem?_cons_succ] at x120 x121
         try clear x130 x131
         try clear x13z
         have x13z := B13.out.lt
         have x130 := B13.out.cell 0
         have x131 := B13.out.cell 1
         simp only [List.getElem?_toArray, List.getElem?_cons_zero, List.getElem?_cons_succ] at x130 x131
         try clear x140 x141
         try clear x14z
         have x14z := B14.out.lt
         have x140 := B14.out.cell 0
         have x141 := B14.out.cell 1
         simp only [List.getElem?_toArray, List.getElem?_cons_zero, List.getElem?_cons_succ] at x140 x141)
      | (go_at_call 31
         (with_reducible refine (bsshl_any _ _ _ _ (He1.out.keep (by first | exact Ch.refl _ _ | exact (Ch.refl _ _).alloc _ | exact (Ch.refl _ _).drew | exact ((Ch.refl _ _).alloc _).alloc _ | exact ((Ch.refl _ _).alloc _).drew | exact (((Ch.refl _ _).alloc _).alloc _).alloc _ | exact (((Ch.refl _ _).alloc _).alloc _).drew | exact ((((Ch.refl _ _).alloc _).alloc _).alloc _).drew | exact ((((Ch.refl _ _).alloc _).alloc _).alloc _).alloc _ | exact (((((Ch.refl _ _).alloc _).alloc _).alloc _).alloc _).drew)) (u2 % 201) _ (by omega) (by have h := Ee1.out; have h1 := HL28.out; have h2 := HL30.out; omega) (by omega)).mono ?_)
         rintro e w8 ⟨ve2, Le2, rfl, hl1e2, hl2e2, hV, hC⟩
         obtain ⟨Ae2, ne2, ce2, rfl⟩ := hV.shape
         have hCC : Ch S0 w7 w8 := Ch.trans (by first | exact Ch.refl _ _ | exact (Ch.refl _ _).alloc _ | exact (Ch.refl _ _).drew | exact ((Ch.refl _ _).alloc _).alloc _ | exact ((Ch.refl _ _).alloc _).drew | exact (((Ch.refl _ _).alloc _).alloc _).alloc _ | exact (((Ch.refl _ _).alloc _).alloc _).drew | exact ((((Ch.refl _ _).alloc _).alloc _).alloc _).drew | exact ((((Ch.refl _ _).alloc _).alloc _).alloc _).alloc _ | exact (((((Ch.refl _ _).alloc _).alloc _).alloc _).alloc _).drew) hC
         have HC8 := Lib.hid (HC7.out.trans hCC)
         clear HC7
         have Hx := Lib.hid (H24.out.keep hCC)
         clear H24
         have H24 := Hx
         clear Hx
         have Hx := Lib.hid (H28.out.keep hCC)
         clear H28
         have H28 := Hx
         clear Hx
         have Hx := Lib.hid (H30.out.keep hCC)
         clear H30
         have H30 := Hx
         clear Hx
         have Hx := Lib.hid (H36.out.keep hCC)
         clear H36
         have H36 := Hx
         clear Hx
         have Hx := Lib.hid (H39.out.keep hCC)
         clear H39
         have H39 := Hx
         clear Hx
         have Hx := Lib.hid (Hu.out.keep hCC)
         clear Hu
         have Hu := Hx
         clear Hx
         have Hx := Lib.hid (He1.out.keep hCC)
         clear He1
         have He1 := Hx
         clear Hx
         have Bx := Lib.hid (Bp1.out.keep hCC (fun h => h))
         clear Bp1
         have Bp1 := Bx
         clear Bx
         have Bx := Lib.hid (Bp2.out.keep hCC (fun h => h))
         clear Bp2
         have Bp2 := Bx
         clear Bx
         have Bx := Lib.hid (B9.out.keep hCC (fun h => h))
         clear B9
         have B9 := Bx
         clear Bx
         have Bx := Lib.hid (B10.out.keep hCC (fun h => h))
         clear B10
         have B10 := Bx
         clear Bx
         have Bx := Lib.hid (B12.out.keep hCC (fun h => h))
         clear B12
         have B12 := Bx
         clear Bx
         have Bx := Lib.hid (B13.out.keep hCC (fun h => h))
         clear B13
         have B13 := Bx
         clear Bx
         have Bx := Lib.hid (B14.out.keep hCC (fun h => h))
         clear B14
         have B14 := Bx
         clear Bx
         have He2 := Lib.hid (hV.mono (base' := 0) (Nat.zero_le _))
         clear hV
         clear hC hCC
         try clear xp10 xp11
         try clear xp1z
         have xp1z := Bp1.out.lt
         have xp10 := Bp1.out.cell 0
         have xp11 := Bp1.out.cell 1
         simp only [List.getElem?_toArray, List.getElem?_cons_zero, List.getElem?_cons_succ] at xp10 xp11
         try clear xp20 xp21
         try clear xp2z
         have xp2z := Bp2.out.lt
         have xp20 := Bp2.out.cell 0
         have xp21 := Bp2.out.cell 1
         simp only [List.getElem?_toArray, List.getElem?_cons_zero, List.getElem?_cons_succ] at xp20 xp21
         try clear x90 x91
         try clear x9z
         have x9z := B9.out.lt
         have x90 := B9.out.cell 0
         have x91 := B9.out.cell 1
         simp only [List.getElem?_toArray, List.getElem?_cons_zero, List.getElem?_cons_succ] at x90 x91
         try clear x100 x101
         try clear x10z
         have x10z := B10.out.lt
         have x100 := B10.out.cell 0
         have x101 := B10.out.cell 1
         simp only [List.getElem?_toArray, List.getElem?_cons_zero, List.getElem?_cons_succ] at x100 x101
         try clear x120 x121
         try clear x12z
         have x12z := B12.out.lt
         have x120 := B12.out.cell 0
         have x121 := B12.out.cell 1
         simp only [List.getElem?_toArray, List.getElem?_cons_zero, List.getElem?_cons_succ] at x120 x121
         try clear x130 x131
         try clear x13z
         have x13z := B13.out.lt
         have x130 := B13.out.cell 0
         have x131 := B13.out.cell 1
         simp only [List.getElem?_toArray, List.getElem?_cons_zero, List.getElem?_cons_succ] at x130 x131
         try clear x140 x141
         try clear x14z
         have x14z := B14.out.lt
         have x140 := B14.out.cell 0
         have x141 := B14.out.cell 1
         simp only [List.getElem?_toArray, List.getElem?_cons_zero, List.getElem?_cons_succ] at x140 x141)
      | (go_at_call 20
         (with_reducible refine (alike_true _ _ _ _ _ _ ((He2.out.keep (by first | exact Ch.refl _ _ | exact (Ch.refl _ _).alloc _ | exact (Ch.refl _ _).drew | exact ((Ch.refl _ _).alloc _).alloc _ | exact ((Ch.refl _ _).alloc _).drew | exact (((Ch.refl _ _).alloc _).alloc _).alloc _ | exact (((Ch.refl _ _).alloc _).alloc _).drew | exact ((((Ch.refl _ _).alloc _).alloc _).alloc _).drew | exact ((((Ch.refl _ _).alloc _).alloc _).alloc _).alloc _ | exact (((((Ch.refl _ _).alloc _).alloc _).alloc _).alloc _).drew)).cast rfl QU.out) (Hu.out.keep (by first | exact Ch.refl _ _ | exact (Ch.refl _ _).alloc _ | exact (Ch.refl _ _).drew | exact ((Ch.refl _ _).alloc _).alloc _ | exact ((Ch.refl _ _).alloc _).drew | exact (((Ch.refl _ _).alloc _).alloc _).alloc _ | exact (((Ch.refl _ _).alloc _).alloc _).drew | exact ((((Ch.refl _ _).alloc _).alloc _).alloc _).drew | exact ((((Ch.refl _ _).alloc _).alloc _).alloc _).alloc _ | exact (((((Ch.refl _ _).alloc _).alloc _).alloc _).alloc _).drew))).mono ?_)
         rintro e w9 ⟨rfl, hC⟩
         have hCC : Ch S0 w8 w9 := Ch.trans (by first | exact Ch.refl _ _ | exact (Ch.refl _ _).alloc _ | exact (Ch.refl _ _).drew | exact ((Ch.refl _ _).alloc _).alloc _ | exact ((Ch.refl _ _).alloc _).drew | exact (((Ch.refl _ _).alloc _).alloc _).alloc _ | exact (((Ch.refl _ _).alloc _).alloc _).drew | exact ((((Ch.refl _ _).alloc _).alloc _).alloc _).drew | exact ((((Ch.refl _ _).alloc _).alloc _).alloc _).alloc _ | exact (((((Ch.refl _ _).alloc _).alloc _).alloc _).alloc _).drew) hC
         have HC9 := Lib.hid (HC8.out.trans hCC)
         clear HC8
         have Hx := Lib.hid (H24.out.keep hCC)
         clear H24
         have H24 := Hx
         clear Hx
         have Hx := Lib.hid (H28.out.keep hCC)
         clear H28
         have H28 := Hx
         clear Hx
         have Hx := Lib.hid (H30.out.keep hCC)
         clear H30
         have H30 := Hx
         clear Hx
         have Hx := Lib.hid (H36.out.keep hCC)
         clear H36
         have H36 := Hx
         clear Hx
         have Hx := Lib.hid (H39.out.keep hCC)
         clear H39
         have H39 := Hx
         clear Hx
         have Hx := Lib.hid (Hu.out.keep hCC)
         clear Hu
         have Hu := Hx
         clear Hx
         have Hx := Lib.hid (He1.out.keep hCC)
         clear He1
         have He1 := Hx
         clear Hx
         have Hx := Lib.hid (He2.out.keep hCC)
         clear He2
         have He2 := Hx
         clear Hx
         have Bx := Lib.hid (Bp1.out.keep hCC (fun h => h))
         clear Bp1
         have Bp1 := Bx
         clear Bx
         have Bx := Lib.hid (Bp2.out.keep hCC (fun h => h))
         clear Bp2
         have Bp2 := Bx
         clear Bx
         have Bx := Lib.hid (B9.out.keep hCC (fun h => h))
         clear B9
         have B9 := Bx
         clear Bx
         have Bx := Lib.hid (B10.out.keep hCC (fun h => h))
         clear B10
         have B10 := Bx
         clear Bx
         have Bx := Lib.hid (B12.out.keep hCC (fun h => h))
         clear B12
         have B12 := Bx
         clear Bx
         have Bx := Lib.hid (B13.out.keep hCC (fun h => h))
         clear B13
         have B13 := Bx
         clear Bx
         have Bx := Lib.hid (B14.out.keep hCC (fun h => h))
         clear B14
         have B14 := Bx
         clear Bx
         clear hC hCC
         try clear xp10 xp11
         try clear xp1z
         have xp1z := Bp1.out.lt
         have xp10 := Bp1.out.cell 0
         have xp11 := Bp1.out.cell 1
         simp only [List.getElem?_toArray, List.getElem?_cons_zero, List.getElem?_cons_succ] at xp10 xp11
         try clear xp20 xp21
         try clear xp2z
         have xp2z := Bp2.out.lt
         have xp20 := Bp2.out.cell 0
         have xp21 := Bp2.out.cell 1
         simp only [List.getElem?_toArray, List.getElem?_cons_zero, List.getElem?_cons_succ] at xp20 xp21
         try clear x90 x91
         try clear x9z
         have x9z := B9.out.lt
         have x90 := B9.out.cell 0
         have x91 := B9.out.cell 1
         simp only [List.getElem?_toArray, List.getElem?_cons_zero, List.getElem?_cons_succ] at x90 x91
         try clear x100 x101
         try clear x10z
         have x10z := B10.out.lt
         have x100 := B10.out.cell 0
         have x101 := B10.out.cell 1
         simp only [List.getElem?_toArray, List.getElem?_cons_zero, List.getElem?_cons_succ] at x100 x101
         try clear x120 x121
         try clear x12z
         have x12z := B12.out.lt
         have x120 := B12.out.cell 0
         have x121 := B12.out.cell 1
         simp only [List.getElem?_toArray, List.getElem?_cons_zero, List.getElem?_cons_succ] at x120 x121
         try clear x130 x131
         try clear x13z
         have x13z := B13.out.lt
         have x130 := B13.out.cell 0
         have x131 := B13.out.cell 1
         simp only [List.getElem?_toArray, List.getElem?_cons_zero, List.getElem?_cons_succ] at x130 x131
         try clear x140 x141
         try clear x14z
         have x14z := B14.out.lt
         have x140 := B14.out.cell 0
         have x141 := B14.out.cell 1
         simp only [List.getElem?_toArray, List.getElem?_cons_zero, List.getElem?_cons_succ] at x140 x141)
      | (go_at_call 21
         (with_reducible refine (bsinter_any _ _ _ _ _ _ _ (H28.out.keep (by first | exact Ch.refl _ _ | exact (Ch.refl _ _).alloc _ | exact (Ch.refl _ _).drew | exact ((Ch.refl _ _).alloc _).alloc _ | exact ((Ch.refl _ _).alloc _).drew | exact (((Ch.refl _ _).alloc _).alloc _).alloc _ | exact (((Ch.refl _ _).alloc _).alloc _).drew | exact ((((Ch.refl _ _).alloc _).alloc _).alloc _).drew | exact ((((Ch.refl _ _).alloc _).alloc _).alloc _).alloc _ | exact (((((Ch.refl _ _).alloc _).alloc _).alloc _).alloc _).drew)) (H30.out.keep (by first | exact Ch.refl _ _ | exact (Ch.refl _ _).alloc _ | exact (Ch.refl _ _).drew | exact ((Ch.refl _ _).alloc _).alloc _ | exact ((Ch.refl _ _).alloc _).drew | exact (((Ch.refl _ _).alloc _).alloc _).alloc _ | exact (((Ch.refl _ _).alloc _).alloc _).drew | exact ((((Ch.refl _ _).alloc _).alloc _).alloc _).drew | exact ((((Ch.refl _ _).alloc _).alloc _).alloc _).alloc _ | exact (((((Ch.refl _ _).alloc _).alloc _).alloc _).alloc _).drew))).mono ?_)
         rintro e w10 ⟨ve3, rfl, hV, hC⟩
         obtain ⟨Le3, hE⟩ : ∃ x, x = min L28 L30 := ⟨_, rfl⟩
         rw [← hE] at hV
         have Ee3 := Lib.hid hE
         clear hE
         obtain ⟨Ae3, ne3, ce3, rfl⟩ := hV.shape
         have hCC : Ch S0 w9 w10 := Ch.trans (by first | exact Ch.refl _ _ | exact (Ch.refl _ _).alloc _ | exact (Ch.refl _ _).drew | exact ((Ch.refl _ _).alloc _).alloc _ | exact ((Ch.refl _ _).alloc _).drew | exact (((Ch.refl _ _).alloc _).alloc _).alloc _ | exact (((Ch.refl _ _).alloc _).alloc _).drew | exact ((((Ch.refl _ _).alloc _).alloc _).alloc _).drew | exact ((((Ch.refl _ _).alloc _).alloc _).alloc _).alloc _ | exact (((((Ch.refl _ _).alloc _).alloc _).alloc _).alloc _).drew) hC
         have HC10 := Lib.hid (HC9.out.trans hCC)
         clear HC9
         have Hx := Lib.hid (H24.out.keep hCC)
         clear H24
         have H24 := Hx
         clear Hx
         have Hx := Lib.hid (H28.out.keep hCC)
         clear H28
         have H28 := Hx
         clear Hx
         have Hx := Lib.hid (H30.out.keep hCC)
         clear H30
         have H30 := Hx
         clear Hx
         have Hx := Lib.hid (H36.out.keep hCC)
         clear H36
         have H36 := Hx
         clear Hx
         have Hx := Lib.hid (H39.out.keep hCC)
         clear H39
         have H39 := Hx
         clear Hx
         have Hx := Lib.hid (Hu.out.keep hCC)
         clear Hu
         have Hu := Hx
         clear Hx
         have Hx := Lib.hid (He1.out.keep hCC)
         clear He1
         have He1 := Hx
         clear Hx
         have Hx := Lib.hid (He2.out.keep hCC)
         clear He2
         have He2 := Hx
         clear Hx
         have Bx := Lib.hid (Bp1.out.keep hCC (fun h => h))
         clear Bp1
         have Bp1 := Bx
         clear Bx
         have Bx := Lib.hid (Bp2.out.keep hCC (fun h => h))
         clear Bp2
         have Bp2 := Bx
         clear Bx
         have Bx := Lib.hid (B9.out.keep hCC (fun h => h))
         clear B9
         have B9 := Bx
         clear Bx
         have Bx := Lib.hid (B10.out.keep hCC (fun h => h))
         clear B10
         have B10 := Bx
         clear Bx
         have Bx := Lib.hid (B12.out.keep hCC (fun h => h))
         clear B12
         have B12 := Bx
         clear Bx
         have Bx := Lib.hid (B13.out.keep hCC (fun h => h))
         clear B13
         have B13 := Bx
         clear Bx
         have Bx := Lib.hid (B14.out.keep hCC (fun h => h))
         clear B14
         have B14 := Bx
         clear Bx
         have He3 := Lib.hid (hV.mono (base' := 0) (Nat.zero_le _))
         clear hV
         clear hC hCC
         try clear xp10 xp11
         try clear xp1z
         have xp1z := Bp1.out.lt
         have xp10 := Bp1.out.cell 0
         have xp11 := Bp1.out.cell 1
         simp only [List.getElem?_toArray, List.getElem?_cons_zero, List.getElem?_cons_succ] at xp10 xp11
         try clear xp20 xp21
         try clear xp2z
         have xp2z := Bp2.out.lt
         have xp20 := Bp2.out.cell 0
         have xp21 := Bp2.out.cell 1
         simp only [List.getElem?_toArray, List.getElem?_cons_zero, List.getElem?_cons_succ] at xp20 xp21
         try clear x90 x91
         try clear x9z
         have x9z := B9.out.lt
         have x90 := B9.out.cell 0
         have x91 := B9.out.cell 1
         simp only [List.getElem?_toArray, List.getElem?_cons_zero, List.getElem?_cons_succ] at x90 x91
         try clear x100 x101
         try clear x10z
         have x10z := B10.out.lt
         have x100 := B10.out.cell 0
         have x101 := B10.out.cell 1
         simp only [List.getElem?_toArray, List.getElem?_cons_zero, List.getElem?_cons_succ] at x100 x101
         try clear x120 x121
         try clear x12z
         have x12z := B12.out.lt
         have x120 := B12.out.cell 0
         have x121 := B12.out.cell 1
         simp only [List.getElem?_toArray, List.getElem?_cons_zero, List.getElem?_cons_succ] at x120 x121
         try clear x130 x131
         try clear x13z
         have x13z := B13.out.lt
         have x130 := B13.out.cell 0
         have x131 := B13.out.cell 1
         simp only [List.getElem?_toArray, List.getElem?_cons_zero, List.getElem?_cons_succ] at x130 x131
         try clear x140 x141
         try clear x14z
         have x14z := B14.out.lt
         have x140 := B14.out.cell 0
         have x141 := B14.out.cell 1
         simp only [List.getElem?_toArray, List.getElem?_cons_zero, List.getElem?_cons_succ] at x140 x141)
      | (go_at_call 31
         (with_reducible refine (bsshl_any _ _ _ _ (He3.out.keep (by first | exact Ch.refl _ _ | exact (Ch.refl _ _).alloc _ | exact (Ch.refl _ _).drew | exact ((Ch.refl _ _).alloc _).alloc _ | exact ((Ch.refl _ _).alloc _).drew | exact (((Ch.refl _ _).alloc _).alloc _).alloc _ | exact (((Ch.refl _ _).alloc _).alloc _).drew | exact ((((Ch.refl _ _).alloc _).alloc _).alloc _).drew | exact ((((Ch.refl _ _).alloc _).alloc _).alloc _).alloc _ | exact (((((Ch.refl _ _).alloc _).alloc _).alloc _).alloc _).drew)) (u2 % 201) _ (by omega) (by have h := Ee3.out; have h1 := HL28.out; have h2 := HL30.out; omega) (by omega)).mono ?_)
         rintro e w11 ⟨ve4, Le4, rfl, hl1e4, hl2e4, hV, hC⟩
         obtain ⟨Ae4, ne4, ce4, rfl⟩ := hV.shape
         have hCC : Ch S0 w10 w11 := Ch.trans (by first | exact Ch.refl _ _ | exact (Ch.refl _ _).alloc _ | exact (Ch.refl _ _).drew | exact ((Ch.refl _ _).alloc _).alloc _ | exact ((Ch.refl _ _).alloc _).drew | exact (((Ch.refl _ _).alloc _).alloc _).alloc _ | exact (((Ch.refl _ _).alloc _).alloc _).drew | exact ((((Ch.refl _ _).alloc _).alloc _).alloc _).drew | exact ((((Ch.refl _ _).alloc _).alloc _).alloc _).alloc _ | exact (((((Ch.refl _ _).alloc _).alloc _).alloc _).alloc _).drew) hC
         have HC11 := Lib.hid (HC10.out.trans hCC)
         clear HC10
         have Hx := Lib.hid (H24.out.keep hCC)
         clear H24
         have H24 := Hx
         clear Hx
         have Hx := Lib.hid (H28.out.keep hCC)
         clear H28
         have H28 := Hx
         clear Hx
         have Hx := Lib.hid (H30.out.keep hCC)
         clear H30
         have H30 := Hx
         clear Hx
         have Hx := Lib.hid (H36.out.keep hCC)
         clear H36
         have H36 := Hx
         clear Hx
         have Hx := Lib.hid (H39.out.keep hCC)
         clear H39
         have H39 := Hx
         clear Hx
         have Hx := Lib.hid (Hu.out.keep hCC)
         clear Hu
         have Hu := Hx
         clear Hx
         have Hx := Lib.hid (He1.out.keep hCC)
         clear He1
         have He1 := Hx
         clear Hx
         have Hx := Lib.hid (He2.out.keep hCC)
         clear He2
         have He2 := Hx
         clear Hx
         have Hx := Lib.hid (He3.out.keep hCC)
         clear He3
         have He3 := Hx
         clear Hx
         have Bx := Lib.hid (Bp1.out.keep hCC (fun h => h))
         clear Bp1
         have Bp1 := Bx
         clear Bx
         have Bx := Lib.hid (Bp2.out.keep hCC (fun h => h))
         clear Bp2
         have Bp2 := Bx
         clear Bx
         have Bx := Lib.hid (B9.out.keep hCC (fun h => h))
         clear B9
         have B9 := Bx
         clear Bx
         have Bx := Lib.hid (B10.out.keep hCC (fun h => h))
         clear B10
         have B10 := Bx
         clear Bx
         have Bx := Lib.hid (B12.out.keep hCC (fun h => h))
         clear B12
         have B12 := Bx
         clear Bx
         have Bx := Lib.hid (B13.out.keep hCC (fun h => h))
         clear B13
         have B13 := Bx
         clear Bx
         have Bx := Lib.hid (B14.out.keep hCC (fun h => h))
         clear B14
         have B14 := Bx
         clear Bx
         have He4 := Lib.hid (hV.mono (base' := 0) (Nat.zero_le _))
         clear hV
         clear hC hCC
         try clear xp10 xp11
         try clear xp1z
         have xp1z := Bp1.out.lt
         have xp10 := Bp1.out.cell 0
         have xp11 := Bp1.out.cell 1
         simp only [List.getElem?_toArray, List.getElem?_cons_zero, List.getElem?_cons_succ] at xp10 xp11
         try clear xp20 xp21
         try clear xp2z
         have xp2z := Bp2.out.lt
         have xp20 := Bp2.out.cell 0
         have xp21 := Bp2.out.cell 1
         simp only [List.getElem?_toArray, List.getElem?_cons_zero, List.getElem?_cons_succ] at xp20 xp21
         try clear x90 x91
         try clear x9z
         have x9z := B9.out.lt
         have x90 := B9.out.cell 0
         have x91 := B9.out.cell 1
         simp only [List.getElem?_toArray, List.getElem?_cons_zero, List.getElem?_cons_succ] at x90 x91
         try clear x100 x101
         try clear x10z
         have x10z := B10.out.lt
         have x100 := B10.out.cell 0
         have x101 := B10.out.cell 1
         simp only [List.getElem?_toArray, List.getElem?_cons_zero, List.getElem?_cons_succ] at x100 x101
         try clear x120 x121
         try clear x12z
         have x12z := B12.out.lt
         have x120 := B12.out.cell 0
         have x121 := B12.out.cell 1
         simp only [List.getElem?_toArray, List.getElem?_cons_zero, List.getElem?_cons_succ] at x120 x121
         try clear x130 x131
         try clear x13z
         have x13z := B13.out.lt
         have x130 := B13.out.cell 0
         have x131 := B13.out.cell 1
         simp only [List.getElem?_toArray, List.getElem?_cons_zero, List.getElem?_cons_succ] at x130 x131
         try clear x140 x141
         try clear x14z
         have x14z := B14.out.lt
         have x140 := B14.out.cell 0
         have x141 := B14.out.cell 1
         simp only [List.getElem?_toArray, List.getElem?_cons_zero, List.getElem?_cons_succ] at x140 x141)
      | (go_at_call 21
         (with_reducible refine (bsinter_any _ _ _ _ _ _ _ (H36.out.keep (by first | exact Ch.refl _ _ | exact (Ch.refl _ _).alloc _ | exact (Ch.refl _ _).drew | exact ((Ch.refl _ _).alloc _).alloc _ | exact ((Ch.refl _ _).alloc _).drew | exact (((Ch.refl _ _).alloc _).alloc _).alloc _ | exact (((Ch.refl _ _).alloc _).alloc _).drew | exact ((((Ch.refl _ _).alloc _).alloc _).alloc _).drew | exact ((((Ch.refl _ _).alloc _).alloc _).alloc _).alloc _ | exact (((((Ch.refl _ _).alloc _).alloc _).alloc _).alloc _).drew)) (H39.out.keep (by first | exact Ch.refl _ _ | exact (Ch.refl _ _).alloc _ | exact (Ch.refl _ _).drew | exact ((Ch.refl _ _).alloc _).alloc _ | exact ((Ch.refl _ _).alloc _).drew | exact (((Ch.refl _ _).alloc _).alloc _).alloc _ | exact (((Ch.refl _ _).alloc _).alloc _).drew | exact ((((Ch.refl _ _).alloc _).alloc _).alloc _).drew | exact ((((Ch.refl _ _).alloc _).alloc _).alloc _).alloc _ | exact (((((Ch.refl _ _).alloc _).alloc _).alloc _).alloc _).drew))).mono ?_)
         rintro e w12 ⟨ve5, rfl, hV, hC⟩
         obtain ⟨Le5, hE⟩ : ∃ x, x = min L36 L39 := ⟨_, rfl⟩
         rw [← hE] at hV
         have Ee5 := Lib.hid hE
         clear hE
         obtain ⟨Ae5, ne5, ce5, rfl⟩ := hV.shape
         have hCC : Ch S0 w11 w12 := Ch.trans (by first | exact Ch.refl _ _ | exact (Ch.refl _ _).alloc _ | exact (Ch.refl _ _).drew | exact ((Ch.refl _ _).alloc _).alloc _ | exact ((Ch.refl _ _).alloc _).drew | exact (((Ch.refl _ _).alloc _).alloc _).alloc _ | exact (((Ch.refl _ _).alloc _).alloc _).drew | exact ((((Ch.refl _ _).alloc _).alloc _).alloc _).drew | exact ((((Ch.refl _ _).alloc _).alloc _).alloc _).alloc _ | exact (((((Ch.refl _ _).alloc _).alloc _).alloc _).alloc _).drew) hC
         have HC12 := Lib.hid (HC11.out.trans hCC)
         clear HC11
         have Hx := Lib.hid (H24.out.keep hCC)
         clear H24
         have H24 := Hx
         clear Hx
         have Hx := Lib.hid (H28.out.keep hCC)
         clear H28
         have H28 := Hx
         clear Hx
         have Hx := Lib.hid (H30.out.keep hCC)
         clear H30
         have H30 := Hx
         clear Hx
         have Hx := Lib.hid (H36.out.keep hCC)
         clear H36
         have H36 := Hx
         clear Hx
         have Hx := Lib.hid (H39.out.keep hCC)
         clear H39
         have H39 := Hx
         clear Hx
         have Hx := Lib.hid (Hu.out.keep hCC)
         clear Hu
         have Hu := Hx
         clear Hx
         have Hx := Lib.hid (He1.out.keep hCC)
         clear He1
         have He1 := Hx
         clear Hx
         have Hx := Lib.hid (He2.out.keep hCC)
         clear He2
         have He2 := Hx
         clear Hx
         have Hx := Lib.hid (He3.out.keep hCC)
         clear He3
         have He3 := Hx
         clear Hx
         have Hx := Lib.hid (He4.out.keep hCC)
         clear He4
         have He4 := Hx
         clear Hx
         have Bx := Lib.hid (Bp1.out.keep hCC (fun h => h))
         clear Bp1
         have Bp1 := Bx
         clear Bx
         have Bx := Lib.hid (Bp2.out.keep hCC (fun h => h))
         clear Bp2
         have Bp2 := Bx
         clear Bx
         have Bx := Lib.hid (B9.out.keep hCC (fun h => h))
         clear B9
         have B9 := Bx
         clear Bx
         have Bx := Lib.hid (B10.out.keep hCC (fun h => h))
         clear B10
         have B10 := Bx
         clear Bx
         have Bx := Lib.hid (B12.out.keep hCC (fun h => h))
         clear B12
         have B12 := Bx
         clear Bx
         have Bx := Lib.hid (B13.out.keep hCC (fun h => h))
         clear B13
         have B13 := Bx
         clear Bx
         have Bx := Lib.hid (B14.out.keep hCC (fun h => h))
         clear B14
         have B14 := Bx
         clear Bx
         have He5 := Lib.hid (hV.mono (base' := 0) (Nat.zero_le _))
         clear hV
         clear hC hCC
         try clear xp10 xp11
         try clear xp1z
         have xp1z := Bp1.out.lt
         have xp10 := Bp1.out.cell 0
         have xp11 := Bp1.out.cell 1
         simp only [List.getElem?_toArray, List.getElem?_cons_zero, List.getElem?_cons_succ] at xp10 xp11
         try clear xp20 xp21
         try clear xp2z
         have xp2z := Bp2.out.lt
         have xp20 := Bp2.out.cell 0
         have xp21 := Bp2.out.cell 1
         simp only [List.getElem?_toArray, List.getElem?_cons_zero, List.getElem?_cons_succ] at xp20 xp21
         try clear x90 x91
         try clear x9z
         have x9z := B9.out.lt
         have x90 := B9.out.cell 0
         have x91 := B9.out.cell 1
         simp only [List.getElem?_toArray, List.getElem?_cons_zero, List.getElem?_cons_succ] at x90 x91
         try clear x100 x101
         try clear x10z
         have x10z := B10.out.lt
         have x100 := B10.out.cell 0
         have x101 := B10.out.cell 1
         simp only [List.getElem?_toArray, List.getElem?_cons_zero, List.getElem?_cons_succ] at x100 x101
         try clear x120 x121
         try clear x12z
         have x12z := B12.out.lt
         have x120 := B12.out.cell 0
         have x121 := B12.out.cell 1
         simp only [List.getElem?_toArray, List.getElem?_cons_zero, List.getElem?_cons_succ] at x120 x121
         try clear x130 x131
         try clear x13z
         have x13z := B13.out.lt
         have x130 := B13.out.cell 0
         have x131 := B13.out.cell 1
         simp only [List.getElem?_toArray, List.getElem?_cons_zero, List.getElem?_cons_succ] at x130 x131
         try clear x140 x141
         try clear x14z
         have x14z := B14.out.lt
         have x140 := B14.out.cell 0
         have x141 := B14.out.cell 1
         simp only [List.getElem?_toArray, List.getElem?_cons_zero, List.getElem?_cons_succ] at x140 x141)
      | (go_at_call 20
         (with_reducible refine (alike_true _ _ _ _ _ _ ((He4.out.keep (by first | exact Ch.refl _ _ | exact (Ch.refl _ _).alloc _ | exact (Ch.refl _ _).drew | exact ((Ch.refl _ _).alloc _).alloc _ | exact ((Ch.refl _ _).alloc _).drew | exact (((Ch.refl _ _).alloc _).alloc _).alloc _ | exact (((Ch.refl _ _).alloc _).alloc _).drew | exact ((((Ch.refl _ _).alloc _).alloc _).alloc _).drew | exact ((((Ch.refl _ _).alloc _).alloc _).alloc _).alloc _ | exact (((((Ch.refl _ _).alloc _).alloc _).alloc _).alloc _).drew)).cast rfl QI.out) (He5.out.keep (by first | exact Ch.refl _ _ | exact (Ch.refl _ _).alloc _ | exact (Ch.refl _ _).drew | exact ((Ch.refl _ _).alloc _).alloc _ | exact ((Ch.refl _ _).alloc _).drew | exact (((Ch.refl _ _).alloc _).alloc _).alloc _ | exact (((Ch.refl _ _).alloc _).alloc _).drew | exact ((((Ch.refl _ _).alloc _).alloc _).alloc _).drew | exact ((((Ch.refl _ _).alloc _).alloc _).alloc _).alloc _ | exact (((((Ch.refl _ _).alloc _).alloc _).alloc _).alloc _).drew))).mono ?_)
         rintro e w13 ⟨rfl, hC⟩
         have hCC : Ch S0 w12 w13 := Ch.trans (by first | exact Ch.refl _ _ | exact (Ch.refl _ _).alloc _ | exact (Ch.refl _ _).drew | exact ((Ch.refl _ _).alloc _).alloc _ | exact ((Ch.refl _ _).alloc _).drew | exact (((Ch.refl _ _).alloc _).alloc _).alloc _ | exact (((Ch.refl _ _).alloc _).alloc _).drew | exact ((((Ch.refl _ _).alloc _).alloc _).alloc _).drew | exact ((((Ch.refl _ _).alloc _).alloc _).alloc _).alloc _ | exact (((((Ch.refl _ _).alloc _).alloc _).alloc _).alloc _).drew) hC
         have HC13 := Lib.hid (HC12.out.trans hCC)
         clear HC12
         have Hx := Lib.hid (H24.out.keep hCC)
         clear H24
         have H24 := Hx
         clear Hx
         have Hx := Lib.hid (H28.out.keep hCC)
         clear H28
         have H28 := Hx
         clear Hx
         have Hx := Lib.hid (H30.out.keep hCC)
         clear H30
         have H30 := Hx
         clear Hx
         have Hx := Lib.hid (H36.out.keep hCC)
         clear H36
         have H36 := Hx
         clear Hx
         have Hx := Lib.hid (H39.out.keep hCC)
         clear H39
         have H39 := Hx
         clear Hx
         have Hx := Lib.hid (Hu.out.keep hCC)
         clear Hu
         have Hu := Hx
         clear Hx
         have Hx := Lib.hid (He1.out.keep hCC)
         clear He1
         have He1 := Hx
         clear Hx
         have Hx := Lib.hid (He2.out.keep hCC)
         clear He2
         have He2 := Hx
         clear Hx
         have Hx := Lib.hid (He3.out.keep hCC)
         clear He3
         have He3 := Hx
         clear Hx
         have Hx := Lib.hid (He4.out.keep hCC)
         clear He4
         have He4 := Hx
         clear Hx
         have Hx := Lib.hid (He5.out.keep hCC)
         clear He5
         have He5 := Hx
         clear Hx
         have Bx := Lib.hid (Bp1.out.keep hCC (fun h => h))
         clear Bp1
         have Bp1 := Bx
         clear Bx
         have Bx := Lib.hid (Bp2.out.keep hCC (fun h => h))
         clear Bp2
         have Bp2 := Bx
         clear Bx
         have Bx := Lib.hid (B9.out.keep hCC (fun h => h))
         clear B9
         have B9 := Bx
         clear Bx
         have Bx := Lib.hid (B10.out.keep hCC (fun h => h))
         clear B10
         have B10 := Bx
         clear Bx
         have Bx := Lib.hid (B12.out.keep hCC (fun h => h))
         clear B12
         have B12 := Bx
         clear Bx
         have Bx := Lib.hid (B13.out.keep hCC (fun h => h))
         clear B13
         have B13 := Bx
         clear Bx
         have Bx := Lib.hid (B14.out.keep hCC (fun h => h))
         clear B14
         have B14 := Bx
         clear Bx
         clear hC hCC
         try clear xp10 xp11
         try clear xp1z
         have xp1z := Bp1.out.lt
         have xp10 := Bp1.out.cell 0
         have xp11 := Bp1.out.cell 1
         simp only [List.getElem?_toArray, List.getElem?_cons_zero, List.getElem?_cons_succ] at xp10 xp11
         try clear xp20 xp21
         try clear xp2z
         have xp2z := Bp2.out.lt
         have xp20 := Bp2.out.cell 0
         have xp21 := Bp2.out.cell 1
         simp only [List.getElem?_toArray, List.getElem?_cons_zero, List.getElem?_cons_succ] at xp20 xp21
         try clear x90 x91
         try clear x9z
         have x9z := B9.out.lt
         have x90 := B9.out.cell 0
         have x91 := B9.out.cell 1
         simp only [List.getElem?_toArray, List.getElem?_cons_zero, List.getElem?_cons_succ] at x90 x91
         try clear x100 x101
         try clear x10z
         have x10z := B10.out.lt
         have x100 := B10.out.cell 0
         have x101 := B10.out.cell 1
         simp only [List.getElem?_toArray, List.getElem?_cons_zero, List.getElem?_cons_succ] at x100 x101
         try clear x120 x121
         try clear x12z
         have x12z := B12.out.lt
         have x120 := B12.out.cell 0
         have x121 := B12.out.cell 1
         simp only [List.getElem?_toArray, List.getElem?_cons_zero, List.getElem?_cons_succ] at x120 x121
         try clear x130 x131
         try clear x13z
         have x13z := B13.out.lt
         have x130 := B13.out.cell 0
         have x131 := B13.out.cell 1
         simp only [List.getElem?_toArray, List.getElem?_cons_zero, List.getElem?_cons_succ] at x130 x131
         try clear x140 x141
         try clear x14z
         have x14z := B14.out.lt
         have x140 := B14.out.cell 0
         have x141 := B14.out.cell 1
         simp only [List.getElem?_toArray, List.getElem?_cons_zero, List.getElem?_cons_succ] at x140 x141)
      | (go_at_call 22
         (with_reducible refine (bsdiff_any _ _ _ _ _ _ _ (H28.out.keep (by first | exact Ch.refl _ _ | exact (Ch.refl _ _).alloc _ | exact (Ch.refl _ _).drew | exact ((Ch.refl _ _).alloc _).alloc _ | exact ((Ch.refl _ _).alloc _).drew | exact (((Ch.refl _ _).alloc _).alloc _).alloc _ | exact (((Ch.refl _ _).alloc _).alloc _).drew | exact ((((Ch.refl _ _).alloc _).alloc _).alloc _).drew | exact ((((Ch.refl _ _).alloc _).alloc _).alloc _).alloc _ | exact (((((Ch.refl _ _).alloc _).alloc _).alloc _).alloc _).drew)) (H30.out.keep (by first | exact Ch.refl _ _ | exact (Ch.refl _ _).alloc _ | exact (Ch.refl _ _).drew | exact ((Ch.refl _ _).alloc _).alloc _ | exact ((Ch.refl _ _).alloc _).drew | exact (((Ch.refl _ _).alloc _).alloc _).alloc _ | exact (((Ch.refl _ _).alloc _).alloc _).drew | exact ((((Ch.refl _ _).alloc _).alloc _).alloc _).drew | exact ((((Ch.refl _ _).alloc _).alloc _).alloc _).alloc _ | exact (((((Ch.refl _ _).alloc _).alloc _).alloc _).alloc _).drew))).mono ?_)
         rintro e w14 ⟨ve6, rfl, hV, hC⟩
         obtain ⟨Le6, hE⟩ : ∃ x, x = L28 := ⟨_, rfl⟩
         rw [← hE] at hV
         have Ee6 := Lib.hid hE
         clear hE
         obtain ⟨Ae6, ne6, ce6, rfl⟩ := hV.shape
         have hCC : Ch S0 w13 w14 := Ch.trans (by first | exact Ch.refl _ _ | exact (Ch.refl _ _).alloc _ | exact (Ch.refl _ _).drew | exact ((Ch.refl _ _).alloc _).alloc _ | exact ((Ch.refl _ _).alloc _).drew | exact (((Ch.refl _ _).alloc _).alloc _).alloc _ | exact (((Ch.refl _ _).alloc _).alloc _).drew | exact ((((Ch.refl _ _).alloc _).alloc _).alloc _).drew | exact ((((Ch.refl _ _).alloc _).alloc _).alloc _).alloc _ | exact (((((Ch.refl _ _).alloc _).alloc _).alloc _).alloc _).drew) hC
         have HC14 := Lib.hid (HC13.out.trans hCC)
         clear HC13
         have Hx := Lib.hid (H24.out.keep hCC)
         clear H24
         have H24 := Hx
         clear Hx
         have Hx := Lib.hid (H28.out.keep hCC)
         clear H28
         have H28 := Hx
         clear Hx
         have Hx := Lib.hid (H30.out.keep hCC)
         clear H30
         have H30 := Hx
         clear Hx
         have Hx := Lib.hid (H36.out.keep hCC)
         clear H36
         have H36 := Hx
         clear Hx
         have Hx := Lib.hid (H39.out.keep hCC)
         clear H39
         have H39 := Hx
         clear Hx
         have Hx := Lib.hid (Hu.out.keep hCC)
         clear Hu
         have Hu := Hx
         clear Hx
         have Hx := Lib.hid (He1.out.keep hCC)
         clear He1
         have He1 := Hx
         clear Hx
         have Hx := Lib.hid (He2.out.keep hCC)
         clear He2
         have He2 := Hx
         clear Hx
         have Hx := Lib.hid (He3.out.keep hCC)
         clear He3
         have He3 := Hx
         clear Hx
         have Hx := Lib.hid (He4.out.keep hCC)
         clear He4
         have He4 := Hx
         clear Hx
         have Hx := Lib.hid (He5.out.keep hCC)
         clear He5
         have He5 := Hx
         clear Hx
         have Bx := Lib.hid (Bp1.out.keep hCC (fun h => h))
         clear Bp1
         have Bp1 := Bx
         clear Bx
         have Bx := Lib.hid (Bp2.out.keep hCC (fun h => h))
         clear Bp2
         have Bp2 := Bx
         clear Bx
         have Bx := Lib.hid (B9.out.keep hCC (fun h => h))
         clear B9
         have B9 := Bx
         clear Bx
         have Bx := Lib.hid (B10.out.keep hCC (fun h => h))
         clear B10
         have B10 := Bx
         clear Bx
         have Bx := Lib.hid (B12.out.keep hCC (fun h => h))
         clear B12
         have B12 := Bx
         clear Bx
         have Bx := Lib.hid (B13.out.keep hCC (fun h => h))
         clear B13
         have B13 := Bx
         clear Bx
         have Bx := Lib.hid (B14.out.keep hCC (fun h => h))
         clear B14
         have B14 := Bx
         clear Bx
         have He6 := Lib.hid (hV.mono (base' := 0) (Nat.zero_le _))
         clear hV
         clear hC hCC
         try clear xp10 xp11
         try clear xp1z
         have xp1z := Bp1.out.lt
         have xp10 := Bp1.out.cell 0
         have xp11 := Bp1.out.cell 1
         simp only [List.getElem?_toArray, List.getElem?_cons_zero, List.getElem?_cons_succ] at xp10 xp11
         try clear xp20 xp21
         try clear xp2z
         have xp2z := Bp2.out.lt
         have xp20 := Bp2.out.cell 0
         have xp21 := Bp2.out.cell 1
         simp only [List.getElem?_toArray, List.getElem?_cons_zero, List.getElem?_cons_succ] at xp20 xp21
         try clear x90 x91
         try clear x9z
         have x9z := B9.out.lt
         have x90 := B9.out.cell 0
         have x91 := B9.out.cell 1
         simp only [List.getElem?_toArray, List.getElem?_cons_zero, List.getElem?_cons_succ] at x90 x91
         try clear x100 x101
         try clear x10z
         have x10z := B10.out.lt
         have x100 := B10.out.cell 0
         have x101 := B10.out.cell 1
         simp only [List.getElem?_toArray, List.getElem?_cons_zero, List.getElem?_cons_succ] at x100 x101
         try clear x120 x121
         try clear x12z
         have x12z := B12.out.lt
         have x120 := B12.out.cell 0
         have x121 := B12.out.cell 1
         simp only [List.getElem?_toArray, List.getElem?_cons_zero, List.getElem?_cons_succ] at x120 x121
         try clear x130 x131
         try clear x13z
         have x13z := B13.out.lt
         have x130 := B13.out.cell 0
         have x131 := B13.out.cell 1
         simp only [List.getElem?_toArray, List.getElem?_cons_zero, List.getElem?_cons_succ] at x130 x131
         try clear x140 x141
         try clear x14z
         have x14z := B14.out.lt
         have x140 := B14.out.cell 0
         have x141 := B14.out.cell 1
         simp only [List.getElem?_toArray, List.getElem?_cons_zero, List.getElem?_cons_succ] at x140 x141)
      | (go_at_call 31
         (with_reducible refine (bsshl_any _ _ _ _ (He6.out.keep (by first | exact Ch.refl _ _ | exact (Ch.refl _ _).alloc _ | exact (Ch.refl _ _).drew | exact ((Ch.refl _ _).alloc _).alloc _ | exact ((Ch.refl _ _).alloc _).drew | exact (((Ch.refl _ _).alloc _).alloc _).alloc _ | exact (((Ch.refl _ _).alloc _).alloc _).drew | exact ((((Ch.refl _ _).alloc _).alloc _).alloc _).drew | exact ((((Ch.refl _ _).alloc _).alloc _).alloc _).alloc _ | exact (((((Ch.refl _ _).alloc _).alloc _).alloc _).alloc _).drew)) (u2 % 201) _ (by omega) (by have h := Ee6.out; have h1 := HL28.out; have h2 := HL30.out; omega) (by omega)).mono ?_)
         rintro e w15 ⟨ve7, Le7, rfl, hl1e7, hl2e7, hV, hC⟩
         obtain ⟨Ae7, ne7, ce7, rfl⟩ := hV.shape
         have hCC : Ch S0 w14 w15 := Ch.trans (by first | exact Ch.refl _ _ | exact (Ch.refl _ _).alloc _ | exact (Ch.refl _ _).drew | exact ((Ch.refl _ _).alloc _).alloc _ | exact ((Ch.refl _ _).alloc _).drew | exact (((Ch.refl _ _).alloc _).alloc _).alloc _ | exact (((Ch.refl _ _).alloc _).alloc _).drew | exact ((((Ch.refl _ _).alloc _).alloc _).alloc _).drew | exact ((((Ch.refl _ _).alloc _).alloc _).alloc _).alloc _ | exact (((((Ch.refl _ _).alloc _).alloc _).alloc _).alloc _).drew) hC
         have HC15 := Lib.hid (HC14.out.trans hCC)
         clear HC14
         have Hx := Lib.hid (H24.out.keep hCC)
         clear H24
         have H24 := Hx
         clear Hx
         have Hx := Lib.hid (H28.out.keep hCC)
         clear H28
         have H28 := Hx
         clear Hx
         have Hx := Lib.hid (H30.out.keep hCC)
         clear H30
         have H30 := Hx
         clear Hx
         have Hx := Lib.hid (H36.out.keep hCC)
         clear H36
         have H36 := Hx
         clear Hx
         have Hx := Lib.hid (H39.out.keep hCC)
         clear H39
         have H39 := Hx
         clear Hx
         have Hx := Lib.hid (Hu.out.keep hCC)
         clear Hu
         have Hu := Hx
         clear Hx
         have Hx := Lib.hid (He1.out.keep hCC)
         clear He1
         have He1 := Hx
         clear Hx
         have Hx := Lib.hid (He2.out.keep hCC)
         clear He2
         have He2 := Hx
         clear Hx
         have Hx := Lib.hid (He3.out.keep hCC)
         clear He3
         have He3 := Hx
         clear Hx
         have Hx := Lib.hid (He4.out.keep hCC)
         clear He4
         have He4 := Hx
         clear Hx
         have Hx := Lib.hid (He5.out.keep hCC)
         clear He5
         have He5 := Hx
         clear Hx
         have Hx := Lib.hid (He6.out.keep hCC)
         clear He6
         have He6 := Hx
         clear Hx
         have Bx := Lib.hid (Bp1.out.keep hCC (fun h => h))
         clear Bp1
         have Bp1 := Bx
         clear Bx
         have Bx := Lib.hid (Bp2.out.keep hCC (fun h => h))
         clear Bp2
         have Bp2 := Bx
         clear Bx
         have Bx := Lib.hid (B9.out.keep hCC (fun h => h))
         clear B9
         have B9 := Bx
         clear Bx
         have Bx := Lib.hid (B10.out.keep hCC (fun h => h))
         clear B10
         have B10 := Bx
         clear Bx
         have Bx := Lib.hid (B12.out.keep hCC (fun h => h))
         clear B12
         have B12 := Bx
         clear Bx
         have Bx := Lib.hid (B13.out.keep hCC (fun h => h))
         clear B13
         have B13 := Bx
         clear Bx
         have Bx := Lib.hid (B14.out.keep hCC (fun h => h))
         clear B14
         have B14 := Bx
         clear Bx
         have He7 := Lib.hid (hV.mono (base' := 0) (Nat.zero_le _))
         clear hV
         clear hC hCC
         try clear xp10 xp11
         try clear xp1z
         have xp1z := Bp1.out.lt
         have xp10 := Bp1.out.cell 0
         have xp11 := Bp1.out.cell 1
         simp only [List.getElem?_toArray, List.getElem?_cons_zero, List.getElem?_cons_succ] at xp10 xp11
         try clear xp20 xp21
         try clear xp2z
         have xp2z := Bp2.out.lt
         have xp20 := Bp2.out.cell 0
         have xp21 := Bp2.out.cell 1
         simp only [List.getElem?_toArray, List.getElem?_cons_zero, List.getElem?_cons_succ] at xp20 xp21
         try clear x90 x91
         try clear x9z
         have x9z := B9.out.lt
         have x90 := B9.out.cell 0
         have x91 := B9.out.cell 1
         simp only [List.getElem?_toArray, List.getElem?_cons_zero, List.getElem?_cons_succ] at x90 x91
         try clear x100 x101
         try clear x10z
         have x10z := B10.out.lt
         have x100 := B10.out.cell 0
         have x101 := B10.out.cell 1
         simp only [List.getElem?_toArray, List.getElem?_cons_zero, List.getElem?_cons_succ] at x100 x101
         try clear x120 x121
         try clear x12z
         have x12z := B12.out.lt
         have x120 := B12.out.cell 0
         have x121 := B12.out.cell 1
         simp only [List.getElem?_toArray, List.getElem?_cons_zero, List.getElem?_cons_succ] at x120 x121
         try clear x130 x131
         try clear x13z
         have x13z := B13.out.lt
         have x130 := B13.out.cell 0
         have x131 := B13.out.cell 1
         simp only [List.getElem?_toArray, List.getElem?_cons_zero, List.getElem?_cons_succ] at x130 x131
         try clear x140 x141
         try clear x14z
         have x14z := B14.out.lt
         have x140 := B14.out.cell 0
         have x141 := B14.out.cell 1
         simp only [List.getElem?_toArray, List.getElem?_cons_zero, List.getElem?_cons_succ] at x140 x141)
      | (go_at_call 22
         (with_reducible refine (bsdiff_any _ _ _ _ _ _ _ (H36.out.keep (by first | exact Ch.refl _ _ | exact (Ch.refl _ _).alloc _ | exact (Ch.refl _ _).drew | exact ((Ch.refl _ _).alloc _).alloc _ | exact ((Ch.refl _ _).alloc _).drew | exact (((Ch.refl _ _).alloc _).alloc _).alloc _ | exact (((Ch.refl _ _).alloc _).alloc _).drew | exact ((((Ch.refl _ _).alloc _).alloc _).alloc _).drew | exact ((((Ch.refl _ _).alloc _).alloc _).alloc _).alloc _ | exact (((((Ch.refl _ _).alloc _).alloc _).alloc _).alloc _).drew)) (H39.out.keep (by first | exact Ch.refl _ _ | exact (Ch.refl _ _).alloc _ | exact (Ch.refl _ _).drew | exact ((Ch.refl _ _).alloc _).alloc _ | exact ((Ch.refl _ _).alloc _).drew | exact (((Ch.refl _ _).alloc _).alloc _).alloc _ | exact (((Ch.refl _ _).alloc _).alloc _).drew | exact ((((Ch.refl _ _).alloc _).alloc _).alloc _).drew | exact ((((Ch.refl _ _).alloc _).alloc _).alloc _).alloc _ | exact (((((Ch.refl _ _).alloc _).alloc _).alloc _).alloc _).drew))).mono ?_)
         rintro e w16 ⟨ve8, rfl, hV, hC⟩
         obtain ⟨Le8, hE⟩ : ∃ x, x = L36 := ⟨_, rfl⟩
         rw [← hE] at hV
         have Ee8 := Lib.hid hE
         clear hE
         obtain ⟨Ae8, ne8, ce8, rfl⟩ := hV.shape
         have hCC : Ch S0 w15 w16 := Ch.trans (by first | exact Ch.refl _ _ | exact (Ch.refl _ _).alloc _ | exact (Ch.refl _ _).drew | exact ((Ch.refl _ _).alloc _).alloc _ | exact ((Ch.refl _ _).alloc _).drew | exact (((Ch.refl _ _).alloc _).alloc _).alloc _ | exact (((Ch.refl _ _).alloc _).alloc _).drew | exact ((((Ch.refl _ _).alloc _).alloc _).alloc _).drew | exact ((((Ch.refl _ _).alloc _).alloc _).alloc _).alloc _ | exact (((((Ch.refl _ _).alloc _).alloc _).alloc _).alloc _).drew) hC
         have HC16 := Lib.hid (HC15.out.trans hCC)
         clear HC15
         have Hx := Lib.hid (H24.out.keep hCC)
         clear H24
         have H24 := Hx
         clear Hx
         have Hx := Lib.hid (H28.out.keep hCC)
         clear H28
         have H28 := Hx
         clear Hx
         have Hx := Lib.hid (H30.out.keep hCC)
         clear H30
         have H30 := Hx
         clear Hx
         have Hx := Lib.hid (H36.out.keep hCC)
         clear H36
         have H36 := Hx
         clear Hx
         have Hx := Lib.hid (H39.out.keep hCC)
         clear H39
         have H39 := Hx
         clear Hx
         have Hx := Lib.hid (Hu.out.keep hCC)
         clear Hu
         have Hu := Hx
         clear Hx
         have Hx := Lib.hid (He1.out.keep hCC)
         clear He1
         have He1 := Hx
         clear Hx
         have Hx := Lib.hid (He2.out.keep hCC)
         clear He2
         have He2 := Hx
         clear Hx
         have Hx := Lib.hid (He3.out.keep hCC)
         clear He3
         have He3 := Hx
         clear Hx
         have Hx := Lib.hid (He4.out.keep hCC)
         clear He4
         have He4 := Hx
         clear Hx
         have Hx := Lib.hid (He5.out.keep hCC)
         clear He5
         have He5 := Hx
         clear Hx
         have Hx := Lib.hid (He6.out.keep hCC)
         clear He6
         have He6 := Hx
         clear Hx
         have Hx := Lib.hid (He7.out.keep hCC)
         clear He7
         have He7 := Hx
         clear Hx
         have Bx := Lib.hid (Bp1.out.keep hCC (fun h => h))
         clear Bp1
         have Bp1 := Bx
         clear Bx
         have Bx := Lib.hid (Bp2.out.keep hCC (fun h => h))
         clear Bp2
         have Bp2 := Bx
         clear Bx
         have Bx := Lib.hid (B9.out.keep hCC (fun h => h))
         clear B9
         have B9 := Bx
         clear Bx
         have Bx := Lib.hid (B10.out.keep hCC (fun h => h))
         clear B10
         have B10 := Bx
         clear Bx
         have Bx := Lib.hid (B12.out.keep hCC (fun h => h))
         clear B12
         have B12 := Bx
         clear Bx
         have Bx := Lib.hid (B13.out.keep hCC (fun h => h))
         clear B13
         have B13 := Bx
         clear Bx
         have Bx := Lib.hid (B14.out.keep hCC (fun h => h))
         clear B14
         have B14 := Bx
         clear Bx
         have He8 := Lib.hid (hV.mono (base' := 0) (Nat.zero_le _))
         clear hV
         clear hC hCC
         try clear xp10 xp11
         try clear xp1z
         have xp1z := Bp1.out.lt
         have xp10 := Bp1.out.cell 0
         have xp11 := Bp1.out.cell 1
         simp only [List.getElem?_toArray, List.getElem?_cons_zero, List.getElem?_cons_succ] at xp10 xp11
         try clear xp20 xp21
         try clear xp2z
         have xp2z := Bp2.out.lt
         have xp20 := Bp2.out.cell 0
         have xp21 := Bp2.out.cell 1
         simp only [List.getElem?_toArray, List.getElem?_cons_zero, List.getElem?_cons_succ] at xp20 xp21
         try clear x90 x91
         try clear x9z
         have x9z := B9.out.lt
         have x90 := B9.out.cell 0
         have x91 := B9.out.cell 1
         simp only [List.getElem?_toArray, List.getElem?_cons_zero, List.getElem?_cons_succ] at x90 x91
         try clear x100 x101
         try clear x10z
         have x10z := B10.out.lt
         have x100 := B10.out.cell 0
         have x101 := B10.out.cell 1
         simp only [List.getElem?_toArray, List.getElem?_cons_zero, List.getElem?_cons_succ] at x100 x101
         try clear x120 x121
         try clear x12z
         have x12z := B12.out.lt
         have x120 := B12.out.cell 0
         have x121 := B12.out.cell 1
         simp only [List.getElem?_toArray, List.getElem?_cons_zero, List.getElem?_cons_succ] at x120 x121
         try clear x130 x131
         try clear x13z
         have x13z := B13.out.lt
         have x130 := B13.out.cell 0
         have x131 := B13.out.cell 1
         simp only [List.getElem?_toArray, List.getElem?_cons_zero, List.getElem?_cons_succ] at x130 x131
         try clear x140 x141
         try clear x14z
         have x14z := B14.out.lt
         have x140 := B14.out.cell 0
         have x141 := B14.out.cell 1
         simp only [List.getElem?_toArray, List.getElem?_cons_zero, List.getElem?_cons_succ] at x140 x141)
      | (go_at_call 20
         (with_reducible refine (alike_true _ _ _ _ _ _ ((He7.out.keep (by first | exact Ch.refl _ _ | exact (Ch.refl _ _).alloc _ | exact (Ch.refl _ _).drew | exact ((Ch.refl _ _).alloc _).alloc _ | exact ((Ch.refl _ _).alloc _).drew | exact (((Ch.refl _ _).alloc _).alloc _).alloc _ | exact (((Ch.refl _ _).alloc _).alloc _).drew | exact ((((Ch.refl _ _).alloc _).alloc _).alloc _).drew | exact ((((Ch.refl _ _).alloc _).alloc _).alloc _).alloc _ | exact (((((Ch.refl _ _).alloc _).alloc _).alloc _).alloc _).drew)).cast rfl QD.out) (He8.out.keep (by first | exact Ch.refl _ _ | exact (Ch.refl _ _).alloc _ | exact (Ch.refl _ _).drew | exact ((Ch.refl _ _).alloc _).alloc _ | exact ((Ch.refl _ _).alloc _).drew | exact (((Ch.refl _ _).alloc _).alloc _).alloc _ | exact (((Ch.refl _ _).alloc _).alloc _).drew | exact ((((Ch.refl _ _).alloc _).alloc _).alloc _).drew | exact ((((Ch.refl _ _).alloc _).alloc _).alloc _).alloc _ | exact (((((Ch.refl _ _).alloc _).alloc _).alloc _).alloc _).drew))).mono ?_)
         rintro e w17 ⟨rfl, hC⟩
         have hCC : Ch S0 w16 w17 := Ch.trans (by first | exact Ch.refl _ _ | exact (Ch.refl _ _).alloc _ | exact (Ch.refl _ _).drew | exact ((Ch.refl _ _).alloc _).alloc _ | exact ((Ch.refl _ _).alloc _).drew | exact (((Ch.refl _ _).alloc _).alloc _).alloc _ | exact (((Ch.refl _ _).alloc _).alloc _).drew | exact ((((Ch.refl _ _).alloc _).alloc _).alloc _).drew | exact ((((Ch.refl _ _).alloc _).alloc _).alloc _).alloc _ | exact (((((Ch.refl _ _).alloc _).alloc _).alloc _).alloc _).drew) hC
         have HC17 := Lib.hid (HC16.out.trans hCC)
         clear HC16
         have Hx := Lib.hid (H24.out.keep hCC)
         clear H24
         have H24 := Hx
         clear Hx
         have Hx := Lib.hid (H28.out.keep hCC)
         clear H28
         have H28 := Hx
         clear Hx
         have Hx := Lib.hid (H30.out.keep hCC)
         clear H30
         have H30 := Hx
         clear Hx
         have Hx := Lib.hid (H36.out.keep hCC)
         clear H36
         have H36 := Hx
         clear Hx
         have Hx := Lib.hid (H39.out.keep hCC)
         clear H39
         have H39 := Hx
         clear Hx
         have Hx := Lib.hid (Hu.out.keep hCC)
         clear Hu
         have Hu := Hx
         clear Hx
         have Hx := Lib.hid (He1.out.keep hCC)
         clear He1
         have He1 := Hx
         clear Hx
         have Hx := Lib.hid (He2.out.keep hCC)
         clear He2
         have He2 := Hx
         clear Hx
         have Hx := Lib.hid (He3.out.keep hCC)
         clear He3
         have He3 := Hx
         clear Hx
         have Hx := Lib.hid (He4.out.keep hCC)
         clear He4
         have He4 := Hx
         clear Hx
         have Hx := Lib.hid (He5.out.keep hCC)
         clear He5
         have He5 := Hx
         clear Hx
         have Hx := Lib.hid (He6.out.keep hCC)
         clear He6
         have He6 := Hx
         clear Hx
         have Hx := Lib.hid (He7.out.keep hCC)
         clear He7
         have He7 := Hx
         clear Hx
         have Hx := Lib.hid (He8.out.keep hCC)
         clear He8
         have He8 := Hx
         clear Hx
         have Bx := Lib.hid (Bp1.out.keep hCC (fun h => h))
         clear Bp1
         have Bp1 := Bx
         clear Bx
         have Bx := Lib.hid (Bp2.out.keep hCC (fun h => h))
         clear Bp2
         have Bp2 := Bx
         clear Bx
         have Bx := Lib.hid (B9.out.keep hCC (fun h => h))
         clear B9
         have B9 := Bx
         clear Bx
         have Bx := Lib.hid (B10.out.keep hCC (fun h => h))
         clear B10
         have B10 := Bx
         clear Bx
         have Bx := Lib.hid (B12.out.keep hCC (fun h => h))
         clear B12
         have B12 := Bx
         clear Bx
         have Bx := Lib.hid (B13.out.keep hCC (fun h => h))
         clear B13
         have B13 := Bx
         clear Bx
         have Bx := Lib.hid (B14.out.keep hCC (fun h => h))
         clear B14
         have B14 := Bx
         clear Bx
         clear hC hCC
         try clear xp10 xp11
         try clear xp1z
         have xp1z := Bp1.out.lt
         have xp10 := Bp1.out.cell 0
         have xp11 := Bp1.out.cell 1
         simp only [List.getElem?_toArray, List.getElem?_cons_zero, List.getElem?_cons_succ] at xp10 xp11
         try clear xp20 xp21
         try clear xp2z
         have xp2z := Bp2.out.lt
         have xp20 := Bp2.out.cell 0
         have xp21 := Bp2.out.cell 1
         simp only [List.getElem?_toArray, List.getElem?_cons_zero, List.getElem?_cons_succ] at xp20 xp21
         try clear x90 x91
         try clear x9z
         have x9z := B9.out.lt
         have x90 := B9.out.cell 0
         have x91 := B9.out.cell 1
         simp only [List.getElem?_toArray, List.getElem?_cons_zero, List.getElem?_cons_succ] at x90 x91
         try clear x100 x101
         try clear x10z
         have x10z := B10.out.lt
         have x100 := B10.out.cell 0
         have x101 := B10.out.cell 1
         simp only [List.getElem?_toArray, List.getElem?_cons_zero, List.getElem?_cons_succ] at x100 x101
         try clear x120 x121
         try clear x12z
         have x12z := B12.out.lt
         have x120 := B12.out.cell 0
         have x121 := B12.out.cell 1
         simp only [List.getElem?_toArray, List.getElem?_cons_zero, List.getElem?_cons_succ] at x120 x121
         try clear x130 x131
         try clear x13z
         have x13z := B13.out.lt
         have x130 := B13.out.cell 0
         have x131 := B13.out.cell 1
         simp only [List.getElem?_toArray, List.getElem?_cons_zero, List.getElem?_cons_succ] at x130 x131
         try clear x140 x141
         try clear x14z
         have x14z := B14.out.lt
         have x140 := B14.out.cell 0
         have x141 := B14.out.cell 1
         simp only [List.getElem?_toArray, List.getElem?_cons_zero, List.getElem?_cons_succ] at x140 x141)
      | (go_at_call 17
         (with_reducible refine (bstest_true _ _ _ _ (Hu.out.keep (by first | exact Ch.refl _ _ | exact (Ch.refl _ _).alloc _ | exact (Ch.refl _ _).drew | exact ((Ch.refl _ _).alloc _).alloc _ | exact ((Ch.refl _ _).alloc _).drew | exact (((Ch.refl _ _).alloc _).alloc _).alloc _ | exact (((Ch.refl _ _).alloc _).alloc _).drew | exact ((((Ch.refl _ _).alloc _).alloc _).alloc _).drew | exact ((((Ch.refl _ _).alloc _).alloc _).alloc _).alloc _ | exact (((((Ch.refl _ _).alloc _).alloc _).alloc _).alloc _).drew)) (u1 % 400 + (u2 % 201)) _ QW.out QT.out).mono ?_)
         rintro e w18 ⟨rfl, hC⟩
         have hCC : Ch S0 w17 w18 := Ch.trans (by first | exact Ch.refl _ _ | exact (Ch.refl _ _).alloc _ | exact (Ch.refl _ _).drew | exact ((Ch.refl _ _).alloc _).alloc _ | exact ((Ch.refl _ _).alloc _).drew | exact (((Ch.refl _ _).alloc _).alloc _).alloc _ | exact (((Ch.refl _ _).alloc _).alloc _).drew | exact ((((Ch.refl _ _).alloc _).alloc _).alloc _).drew | exact ((((Ch.refl _ _).alloc _).alloc _).alloc _).alloc _ | exact (((((Ch.refl _ _).alloc _).alloc _).alloc _).alloc _).drew) hC
         have HC18 := Lib.hid (HC17.out.trans hCC)
         clear HC17
         have Hx := Lib.hid (H24.out.keep hCC)
         clear H24
         have H24 := Hx
         clear Hx
         have Hx := Lib.hid (H28.out.keep hCC)
         clear H28
         have H28 := Hx
         clear Hx
         have Hx := Lib.hid (H30.out.keep hCC)
         clear H30
         have H30 := Hx
         clear Hx
         have Hx := Lib.hid (H36.out.keep hCC)
         clear H36
         have H36 := Hx
         clear Hx
         have Hx := Lib.hid (H39.out.keep hCC)
         clear H39
         have H39 := Hx
         clear Hx
         have Hx := Lib.hid (Hu.out.keep hCC)
         clear Hu
         have Hu := Hx
         clear Hx
         have Hx := Lib.hid (He1.out.keep hCC)
         clear He1
         have He1 := Hx
         clear Hx
         have Hx := Lib.hid (He2.out.keep hCC)
         clear He2
         have He2 := Hx
         clear Hx
         have Hx := Lib.hid (He3.out.keep hCC)
         clear He3
         have He3 := Hx
         clear Hx
         have Hx := Lib.hid (He4.out.keep hCC)
         clear He4
         have He4 := Hx
         clear Hx
         have Hx := Lib.hid (He5.out.keep hCC)
         clear He5
         have He5 := Hx
         clear Hx
         have Hx := Lib.hid (He6.out.keep hCC)
         clear He6
         have He6 := Hx
         clear Hx
         have Hx := Lib.hid (He7.out.keep hCC)
         clear He7
         have He7 := Hx
         clear Hx
         have Hx := Lib.hid (He8.out.keep hCC)
         clear He8
         have He8 := Hx
         clear Hx
         have Bx := Lib.hid (Bp1.out.keep hCC (fun h => h))
         clear Bp1
         have Bp1 := Bx
         clear Bx
         have Bx := Lib.hid (Bp2.out.keep hCC (fun h => h))
         clear Bp2
         have Bp2 := Bx
         clear Bx
         have Bx := Lib.hid (B9.out.keep hCC (fun h => h))
         clear B9
         have B9 := Bx
         clear Bx
         have Bx := Lib.hid (B10.out.keep hCC (fun h => h))
         clear B10
         have B10 := Bx
         clear Bx
         have Bx := Lib.hid (B12.out.keep hCC (fun h => h))
         clear B12
         have B12 := Bx
         clear Bx
         have Bx := Lib.hid (B13.out.keep hCC (fun h => h))
         clear B13
         have B13 := Bx
         clear Bx
         have Bx := Lib.hid (B14.out.keep hCC (fun h => h))
         clear B14
         have B14 := Bx
         clear Bx
         clear hC hCC
         try clear xp10 xp11
         try clear xp1z
         have xp1z := Bp1.out.lt
         have xp10 := Bp1.out.cell 0
         have xp11 := Bp1.out.cell 1
         simp only [List.getElem?_toArray, List.getElem?_cons_zero, List.getElem?_cons_succ] at xp10 xp11
         try clear xp20 xp21
         try clear xp2z
         have xp2z := Bp2.out.lt
         have xp20 := Bp2.out.cell 0
         have xp21 := Bp2.out.cell 1
         simp only [List.getElem?_toArray, List.getElem?_cons_zero, List.getElem?_cons_succ] at xp20 xp21
         try clear x90 x91
         try clear x9z
         have x9z := B9.out.lt
         have x90 := B9.out.cell 0
         have x91 := B9.out.cell 1
         simp only [List.getElem?_toArray, List.getElem?_cons_zero, List.getElem?_cons_succ] at x90 x91
         try clear x100 x101
         try clear x10z
         have x10z := B10.out.lt
         have x100 := B10.out.cell 0
         have x101 := B10.out.cell 1
         simp only [List.getElem?_toArray, List.getElem?_cons_zero, List.getElem?_cons_succ] at x100 x101
         try clear x120 x121
         try clear x12z
         have x12z := B12.out.lt
         have x120 := B12.out.cell 0
         have x121 := B12.out.cell 1
         simp only [List.getElem?_toArray, List.getElem?_cons_zero, List.getElem?_cons_succ] at x120 x121
         try clear x130 x131
         try clear x13z
         have x13z := B13.out.lt
         have x130 := B13.out.cell 0
         have x131 := B13.out.cell 1
         simp only [List.getElem?_toArray, List.getElem?_cons_zero, List.getElem?_cons_succ] at x130 x131
         try clear x140 x141
         try clear x14z
         have x14z := B14.out.lt
         have x140 := B14.out.cell 0
         have x141 := B14.out.cell 1
         simp only [List.getElem?_toArray, List.getElem?_cons_zero, List.getElem?_cons_succ] at x140 x141))
  go_wp2
  go_ret
  exact ⟨rfl, HC18.out⟩

end Go.Proofs.Ytgnhmgnpmbmjcaa
