/- THE WALK of FnBSDeepThree. -/
import Derived.Test.YtgnhmgnpmbmjcaaWj
namespace Go.Proofs.Ytgnhmgnpmbmjcaa
open Go.RowKit

set_option maxRecDepth 100000 in
set_option maxHeartbeats 4000000 in
theorem three_small (l1 : Nat) (P1 : Option Addr) (m1 r1 : Nat) (xs1 : List Nat) (l2 : Nat) (P2 : Option Addr) (m2 r2 : Nat) (xs2 : List Nat) (l3 : Nat) (P3 : Option Addr) (m3 r3 : Nat) (xs3 : List Nat) (u1 : Nat) (w : World) (hl1 : Lst 0 w (.slice P1 m1 r1) xs1) (hx1 : ∀ j (hj : j < xs1.length), xs1[j] < 18446744073709551616) (hn1 : xs1.length = m1) (hm1 : m1 ≤ 2147483647) (hl2 : Lst 0 w (.slice P2 m2 r2) xs2) (hx2 : ∀ j (hj : j < xs2.length), xs2[j] < 18446744073709551616) (hn2 : xs2.length = m2) (hm2 : m2 ≤ 2147483647) (hl3 : Lst 0 w (.slice P3 m3 r3) xs3) (hx3 : ∀ j (hj : j < xs3.length), xs3[j] < 18446744073709551616) (hn3 : xs3.length = m3) (hm3 : m3 ≤ 2147483647) (hu1 : u1 < 65536) :
    Calls Try.prog 5 #[.agg #[.int .u64 l1, .slice P1 m1 r1], .agg #[.int .u64 l2, .slice P2 m2 r2], .agg #[.int .u64 l3, .slice P3 m3 r3], .int .u16 u1] w fun e w' => e = .returned (.bool true) ∧ Ch S0 w w' := by
  have HX1 := Lib.hid hx1
  have LX1 := Lib.hid hn1
  have IX1 := Lib.hid hl1
  have HX2 := Lib.hid hx2
  have LX2 := Lib.hid hn2
  have IX2 := Lib.hid hl2
  have HX3 := Lib.hid hx3
  have LX3 := Lib.hid hn3
  have IX3 := Lib.hid hl3
  have HC0 := Lib.hid (Ch.refl S0 w)
  clear hx1 hn1 hl1 hx2 hn2 hl2 hx3 hn3 hl3
  go_enter Try.func5, Try.ntmps5
  go_wp2_with fail
  refine (fits_yes l1 m1 r1 P1 _ hm1).mono ?_
  rintro e w1 ⟨rfl, hC⟩
  have hCC : Ch S0 w w1 := Ch.trans (by first | exact Ch.refl _ _ | exact (Ch.refl _ _).alloc _ | exact (Ch.refl _ _).drew | exact ((Ch.refl _ _).alloc _).alloc _ | exact ((Ch.refl _ _).alloc _).drew | exact (((Ch.refl _ _).alloc _).alloc _).alloc _ | exact (((Ch.refl _ _).alloc _).alloc _).drew | exact ((((Ch.refl _ _).alloc _).alloc _).alloc _).drew | exact ((((Ch.refl _ _).alloc _).alloc _).alloc _).alloc _ | exact (((((Ch.refl _ _).alloc _).alloc _).alloc _).alloc _).drew) hC
  have HC1 := Lib.hid (HC0.out.trans hCC)
  clear HC0
  have Bp1 : Hid (Blk w1 (w.heap.size) #[.int .u64 (l1 : Nat), .slice P1 m1 r1]) := Lib.hid (Blk.keep (S := S0) (by first | exact Blk.newAt _ _ (by simp) | exact (Blk.newAt _ _ (by simp)).alloc _ | exact ((Blk.newAt _ _ (by simp)).alloc _).alloc _ | exact (((Blk.newAt _ _ (by simp)).alloc _).alloc _).alloc _) hC (fun h => h))
  have Bp2 : Hid (Blk w1 (w.heap.size + 1) #[.int .u64 (l2 : Nat), .slice P2 m2 r2]) := Lib.hid (Blk.keep (S := S0) (by first | exact Blk.newAt _ _ (by simp) | exact (Blk.newAt _ _ (by simp)).alloc _ | exact ((Blk.newAt _ _ (by simp)).alloc _).alloc _ | exact (((Blk.newAt _ _ (by simp)).alloc _).alloc _).alloc _) hC (fun h => h))
  have Bp3 : Hid (Blk w1 (w.heap.size + 1 + 1) #[.int .u64 (l3 : Nat), .slice P3 m3 r3]) := Lib.hid (Blk.keep (S := S0) (by first | exact Blk.newAt _ _ (by simp) | exact (Blk.newAt _ _ (by simp)).alloc _ | exact ((Blk.newAt _ _ (by simp)).alloc _).alloc _ | exact (((Blk.newAt _ _ (by simp)).alloc _).alloc _).alloc _) hC (fun h => h))
  clear hC hCC
  try clear xp10 xp11
  try clear xp1z
  have xp1z := Bp1.out.lt
  have xp10 := Bp1.out.cell 0
  have xp11 := Bp1.out.cell 1
  simp only [List.getElem?_toArray, List.getElem?_cons_zero, List.getElem?_cons_succ] at xp10 xp11
  try clear xp20 xp21
  try clear xp2z
  have xp2z := Bp2.out.lt
  have xp20 := Bp2.out.cell 0
  have xp21 := Bp2.out.cell 1
  simp only [List.getElem?_toArray, List.getElem?_cons_zero, List.getElem?_cons_succ] at xp20 xp21
  try clear xp30 xp31
  try clear xp3z
  have xp3z := Bp3.out.lt
  have xp30 := Bp3.out.cell 0
  have xp31 := Bp3.out.cell 1
  simp only [List.getElem?_toArray, List.getElem?_cons_zero, List.getElem?_cons_succ] at xp30 xp31
  go_wp2_with fail
  refine (fits_yes l2 m2 r2 P2 _ hm2).mono ?_
  rintro e w2 ⟨rfl, hC⟩
  have hCC : Ch S0 w1 w2 := Ch.trans (by first | exact Ch.refl _ _ | exact (Ch.refl _ _).alloc _ | exact (Ch.refl _ _).drew | exact ((Ch.refl _ _).alloc _).alloc _ | exact ((Ch.refl _ _).alloc _).drew | exact (((Ch.refl _ _).alloc _).alloc _).alloc _ | exact (((Ch.refl _ _).alloc _).alloc _).drew | exact ((((Ch.refl _ _).alloc _).alloc _).alloc _).drew | exact ((((Ch.refl _ _).alloc _).alloc _).alloc _).alloc _ | exact (((((Ch.refl _ _).alloc _).alloc _).alloc _).alloc _).drew) hC
  have HC2 := Lib.hid (HC1.out.trans hCC)
  clear HC1
  have Bx := Lib.hid (Bp1.out.keep hCC (fun h => h))
  clear Bp1
  have Bp1 := Bx
  clear Bx
  have Bx := Lib.hid (Bp2.out.keep hCC (fun h => h))
  clear Bp2
  have Bp2 := Bx
  clear Bx
  have Bx := Lib.hid (Bp3.out.keep hCC (fun h => h))
  clear Bp3
  have Bp3 := Bx
  clear Bx
  clear hC hCC
  try clear xp10 xp11
  try clear xp1z
  have xp1z := Bp1.out.lt
  have xp10 := Bp1.out.cell 0
  have xp11 := Bp1.out.cell 1
  simp only [List.getElem?_toArray, List.getElem?_cons_zero, List.getElem?_cons_succ] at xp10 xp11
  try clear xp20 xp21
  try clear xp2z
  have xp2z := Bp2.out.lt
  have xp20 := Bp2.out.cell 0
  have xp21 := Bp2.out.cell 1
  simp only [List.getElem?_toArray, List.getElem?_cons_zero, List.getElem?_cons_succ] at xp20 xp21
  try clear xp30 xp31
  try clear xp3z
  have xp3z := Bp3.out.lt
  have xp30 := Bp3.out.cell 0
  have xp31 := Bp3.out.cell 1
  simp only [List.getElem?_toArray, List.getElem?_cons_zero, List.getElem?_cons_succ] at xp30 xp31
  go_wp2_with fail
  refine (fits_yes l3 m3 r3 P3 _ hm3).mono ?_
  rintro e w3 ⟨rfl, hC⟩
  have hCC : Ch S0 w2 w3 := Ch.trans (by first | exact Ch.refl _ _ | exact (Ch.refl _ _).alloc _ | exact (Ch.refl _ _).drew | exact ((Ch.refl _ _).alloc _).alloc _ | exact ((Ch.refl _ _).alloc _).drew | exact (((Ch.refl _ _).alloc _).alloc _).alloc _ | exact (((Ch.refl _ _).alloc _).alloc _).drew | exact ((((Ch.refl _ _).alloc _).alloc _).alloc _).drew | exact ((((Ch.refl _ _).alloc _).alloc _).alloc _).alloc _ | exact (((((Ch.refl _ _).alloc _).alloc _).alloc _).alloc _).drew) hC
  have HC3 := Lib.hid (HC2.out.trans hCC)
  clear HC2
  have Bx := Lib.hid (Bp1.out.keep hCC (fun h => h))
  clear Bp1
  have Bp1 := Bx
  clear Bx
  have Bx := Lib.hid (Bp2.out.keep hCC (fun h => h))
  clear Bp2
  have Bp2 := Bx
  clear Bx
  have Bx := Lib.hid (Bp3.out.keep hCC (fun h => h))
  clear Bp3
  have Bp3 := Bx
  clear Bx
  clear hC hCC
  try clear xp10 xp11
  try clear xp1z
  have xp1z := Bp1.out.lt
  have xp10 := Bp1.out.cell 0
  have xp11 := Bp1.out.cell 1
  simp only [List.getElem?_toArray, List.getElem?_cons_zero, List.getElem?_cons_succ] at xp10 xp11
  try clear xp20 xp21
  try clear xp2z
  have xp2z := Bp2.out.lt
  have xp20 := Bp2.out.cell 0
  have xp21 := Bp2.out.cell 1
  simp only [List.getElem?_toArray, List.getElem?_cons_zero, List.getElem?_cons_succ] at xp20 xp21
  try clear xp30 xp31
  try clear xp3z
  have xp3z := Bp3.out.lt
  have xp30 := Bp3.out.cell 0
  have xp31 := Bp3.out.cell 1
  simp only [List.getElem?_toArray, List.getElem?_cons_zero, List.getElem?_cons_succ] at xp30 xp31
  go_wp2_with fail
  obtain ⟨I0, hI0⟩ : ∃ I0 : (Nat → Bool) → Act → World → Prop, I0 = (fun D a' w' => (∃ x31 x32 x33 x34 x35 x36 x37 x38 x39 x40 x10 x11 x12 : Value, a' = ({ tmps := #[(Value.agg #[Value.int IntKind.u64 ↑l1, Value.slice P1 m1 r1]), (Value.agg #[Value.int IntKind.u64 ↑l2, Value.slice P2 m2 r2]), (Value.agg #[Value.int IntKind.u64 ↑l3, Value.slice P3 m3 r3]), (Value.int IntKind.u16 ↑u1), (Value.pointer (some { block := w.heap.size, off := 0 })), (Value.pointer (some { block := w.heap.size + 1, off := 0 })), (Value.pointer (some { block := w.heap.size + 1 + 1, off := 0 })), undef, (Value.bool false), (Value.int IntKind.u64 (↑u1 % 400)), x10, x11, x12, undef, undef, (Value.agg #[Value.int IntKind.u64 ↑l1, Value.slice P1 m1 r1]), (Value.bool true), (Value.bool false), (Value.bool false), (Value.agg #[Value.int IntKind.u64 ↑l2, Value.slice P2 m2 r2]), (Value.bool true), (Value.bool false), (Value.bool false), (Value.bool false), (Value.agg #[Value.int IntKind.u64 ↑l3, Value.slice P3 m3 r3]), (Value.bool true), (Value.bool false), (Value.bool false), (Value.int IntKind.u16 ↑u1), (Value.int IntKind.u64 ↑u1), (Value.int IntKind.u64 (↑u1 % 400)), x31, x32, x33, x34, x35, x36, x37, x38, x39, x40, undef, undef, undef, undef, undef, undef, undef, undef, undef, undef, undef, undef, undef, undef, undef, undef, undef, undef, undef, undef, undef, undef, undef, undef, undef, undef, undef, undef, undef, undef, undef], defers := [] } : Act) ∧ RM w3 w' D [x31, x32, x33, x34, x35, x36, x37, x38, x39, x40, x10, x11, x12, undef, undef, undef] [(fun _ _ => True), (fun L g => L ≤ 400), (fun _ _ => True), (fun L g => L ≤ 400 ∧ ∃ g0, g = Bit.put g0 (u1 % 400) true), (fun _ _ => True), (fun L g => L ≤ 400), (fun _ _ => True), (fun L g => L ≤ 400 ∧ ∃ g0, g = Bit.put g0 (u1 % 400) true), (fun _ _ => True), (fun L g => L ≤ 400), (fun _ _ => True), (fun _ _ => True), (fun _ _ => True), (fun _ _ => True), (fun _ _ => True), (fun _ _ => True)] [1, 3, 5, 7, 9] [10, 11, 12] [0, 0, 0, 0, 0, 0, 0, 0, 0, 0, 13, 14, 15, 0, 0, 0] [0, 0, 0, 0, 0, 0, 0, 0, 0, 0, 3, 7, 9, 0, 0, 0] ∧ (D 0 = true → x31 = .agg #[.int .u64 (l1 : Nat), .slice P1 m1 r1]) ∧ (D 2 = true → x33 = .int .u64 ((u1 : Int) % 400)) ∧ (D 4 = true → x35 = .agg #[.int .u64 (l2 : Nat), .slice P2 m2 r2]) ∧ (D 6 = true → x37 = .int .u64 ((u1 : Int) % 400)) ∧ (D 8 = true → x39 = .agg #[.int .u64 (l3 : Nat), .slice P3 m3 r3]) ∧ (D 3 = true → D 1 = true) ∧ (D 5 = true → D 3 = true) ∧ (D 7 = true → D 5 = true) ∧ (D 9 = true → D 7 = true))) := ⟨_, rfl⟩
  have HI := Lib.hid hI0
  clear hI0
  refine region_inv (by kernel_rfl) (by kernel_rfl) I0 ?_ ?_ ?_
  · rw [HI.out]; exact ⟨_, _, _, _, _, _, _, _, _, _, _, _, _, rfl, ⟨(Ch.refl S0 w3).drew, (fun _ _ h => by cases h), (fun _ _ h => by cases h), (fun _ _ _ _ h => by cases h), (fun _ _ _ _ _ h => by cases h), (fun _ _ h => by cases h)⟩, (fun h => by cases h), (fun h => by cases h), (fun h => by cases h), (fun h => by cases h), (fun h => by cases h), (fun h => by cases h), (fun h => by cases h), (fun h => by cases h), (fun h => by cases h)⟩
  · refine ⟨?_, ?_, ?_, ?_, ?_, ?_, ?_, ?_, ?_, ?_, ?_, ?_, ?_, ?_, ?_, ?_, trivial⟩
    · intro D a' w' hD hdep hI KK hKK
      rw [HI.out] at hI
      obtain ⟨x31, x32, x33, x34, x35, x36, x37, x38, x39, x40, x10, x11, x12, rfl, hM, f0, f2, f4, f6, f8, k3, k5, k7, k9⟩ := hI
      simp [Region.binds] at hdep
      have K3 := Lib.hid k3
      clear k3
      have K5 := Lib.hid k5
      clear k5
      have K7 := Lib.hid k7
      clear k7
      have K9 := Lib.hid k9
      clear k9
      have HM := Lib.hid hM
      clear hM
      have F0 := Lib.hid f0
      clear f0
      have F2 := Lib.hid f2
      clear f2
      have F4 := Lib.hid f4
      clear f4
      have F6 := Lib.hid f6
      clear f6
      have F8 := Lib.hid f8
      clear f8
      have Bx := Bp1.out.keep HM.out.ch (fun h => h)
      have c0 : w'.cell? ⟨w.heap.size, 0, none⟩ = some (.int .u64 (l1 : Nat)) := by rw [Bx.cell]; rfl
      have c1 : w'.cell? ⟨w.heap.size, 1, none⟩ = some (.slice P1 m1 r1) := by rw [Bx.cell]; rfl
      clear Bx hdep
      go_wp2_with fail
      rw [HI.out]; exact ⟨_, _, _, _, _, _, _, _, _, _, _, _, _, rfl, HM.out.other (k := 0) (.agg #[.int .u64 (l1 : Nat), .slice P1 m1 r1]) (by decide) (by decide) (by decide) (by decide), fun _ => rfl, fun h => F2.out (upd_out h (by decide)), fun h => F4.out (upd_out h (by decide)), fun h => F6.out (upd_out h (by decide)), fun h => F8.out (upd_out h (by decide)), fun h => upd_mono (K3.out (upd_out h (by decide))), fun h => upd_mono (K5.out (upd_out h (by decide))), fun h => upd_mono (K7.out (upd_out h (by decide))), fun h => upd_mono (K9.out (upd_out h (by decide)))⟩
    · intro D a' w' hD hdep hI KK hKK
      rw [HI.out] at hI
      obtain ⟨x31, x32, x33, x34, x35, x36, x37, x38, x39, x40, x10, x11, x12, rfl, hM, f0, f2, f4, f6, f8, k3, k5, k7, k9⟩ := hI
      simp [Region.binds] at hdep
      have K3 := Lib.hid k3
      clear k3
      have K5 := Lib.hid k5
      clear k5
      have K7 := Lib.hid k7
      clear k7
      have K9 := Lib.hid k9
      clear k9
      have d0 : D 0 = true := by simp_all
      have HM := Lib.hid hM
      clear hM
      have F0 := Lib.hid f0
      clear f0
      have F2 := Lib.hid f2
      clear f2
      have F4 := Lib.hid f4
      clear f4
      have F6 := Lib.hid f6
      clear f6
      have F8 := Lib.hid f8
      clear f8
      have e31 := F0.out d0
      subst e31
      clear hdep d0
      have HC := Lib.hid (HC3.out.trans HM.out.ch)
      go_wp2_with fail
      refine (bits_any l1 _ xs1 _ (IX1.out.keep HC.out) HX1.out (by rw [LX1.out]; omega)).mono ?_
      rintro e w2 ⟨v2, L2, g2, rfl, hL2, hV2, hC2⟩
      have HV2 := Lib.hid hV2
      have HC2 := Lib.hid hC2
      clear hV2 hC2
      go_wp2_with fail
      rw [HI.out]; exact ⟨_, _, _, _, _, _, _, _, _, _, _, _, _, rfl, HM.out.call (k := 1) (by simp) (by decide) (by decide) (by decide) hD HC2.out HV2.out (hL2), fun _ => rfl, fun h => F2.out (upd_out h (by decide)), fun h => F4.out (upd_out h (by decide)), fun h => F6.out (upd_out h (by decide)), fun h => F8.out (upd_out h (by decide)), fun h => upd_mono (K3.out (upd_out h (by decide))), fun h => upd_mono (K5.out (upd_out h (by decide))), fun h => upd_mono (K7.out (upd_out h (by decide))), fun h => upd_mono (K9.out (upd_out h (by decide)))⟩
    · intro D a' w' hD hdep hI KK hKK
      rw [HI.out] at hI
      obtain ⟨x31, x32, x33, x34, x35, x36, x37, x38, x39, x40, x10, x11, x12, rfl, hM, f0, f2, f4, f6, f8, k3, k5, k7, k9⟩ := hI
      simp [Region.binds] at hdep
      have K3 := Lib.hid k3
      clear k3
      have K5 := Lib.hid k5
      clear k5
      have K7 := Lib.hid k7
      clear k7
      have K9 := Lib.hid k9
      clear k9
      have HM := Lib.hid hM
      clear hM
      have F0 := Lib.hid f0
      clear f0
      have F2 := Lib.hid f2
      clear f2
      have F4 := Lib.hid f4
      clear f4
      have F6 := Lib.hid f6
      clear f6
      have F8 := Lib.hid f8
      clear f8
      clear hdep
      go_wp2_with fail
      rw [HI.out]; exact ⟨_, _, _, _, _, _, _, _, _, _, _, _, _, rfl, HM.out.other (k := 2) (.int .u64 ((u1 : Int) % 400)) (by decide) (by decide) (by decide) (by decide), fun h => F0.out (upd_out h (by decide)), fun _ => rfl, fun h => F4.out (upd_out h (by decide)), fun h => F6.out (upd_out h (by decide)), fun h => F8.out (upd_out h (by decide)), fun h => upd_mono (K3.out (upd_out h (by decide))), fun h => upd_mono (K5.out (upd_out h (by decide))), fun h => upd_mono (K7.out (upd_out h (by decide))), fun h => upd_mono (K9.out (upd_out h (by decide)))⟩
    · intro D a' w' hD hdep hI KK hKK
      rw [HI.out] at hI
      obtain ⟨x31, x32, x33, x34, x35, x36, x37, x38, x39, x40, x10, x11, x12, rfl, hM, f0, f2, f4, f6, f8, k3, k5, k7, k9⟩ := hI
      simp [Region.binds] at hdep
      have K3 := Lib.hid k3
      clear k3
      have K5 := Lib.hid k5
      clear k5
      have K7 := Lib.hid k7
      clear k7
      have K9 := Lib.hid k9
      clear k9
      have ce : D 1 = true := by simp_all
      have CE := Lib.hid ce
      clear ce
      have d1 : D 1 = true := by simp_all
      have d2 : D 2 = true := by simp_all
      have HM := Lib.hid hM
      clear hM
      have F0 := Lib.hid f0
      clear f0
      have F2 := Lib.hid f2
      clear f2
      have F4 := Lib.hid f4
      clear f4
      have F6 := Lib.hid f6
      clear f6
      have F8 := Lib.hid f8
      clear f8
      obtain ⟨L32, g32, hR32, hV32⟩ := HM.out.val 1 (by decide) d1
      have V32 : Hid (IsB 0 w' x32 L32 g32) := Lib.hid hV32
      have R32 : Hid ((fun (L : Nat) (g : Nat → Bool) => (fun L g => L ≤ 400) L g) L32 g32) := Lib.hid hR32
      clear hV32 hR32
      have e33 := F2.out d2
      subst e33
      clear hdep d1 d2
      have HC := Lib.hid (HC3.out.trans HM.out.ch)
      go_wp2_with fail
      refine (bsset_any x32 L32 g32 _ V32.out (u1 % 400) _ (by omega) (by omega)).mono ?_
      rintro e w2 ⟨v2, rfl, hV2, hC2⟩
      have HV2 := Lib.hid hV2
      have HC2 := Lib.hid hC2
      clear hV2 hC2
      go_wp2_with fail
      rw [HI.out]; exact ⟨_, _, _, _, _, _, _, _, _, _, _, _, _, rfl, HM.out.call (k := 3) (by simp) (by decide) (by decide) (by decide) hD HC2.out HV2.out (⟨by have h : L32 ≤ 400 := R32.out; omega, g32, rfl⟩), fun h => F0.out (upd_out h (by decide)), fun _ => rfl, fun h => F4.out (upd_out h (by decide)), fun h => F6.out (upd_out h (by decide)), fun h => F8.out (upd_out h (by decide)), fun _ => upd_mono CE.out, fun h => upd_mono (K5.out (upd_out h (by decide))), fun h => upd_mono (K7.out (upd_out h (by decide))), fun h => upd_mono (K9.out (upd_out h (by decide)))⟩
    · intro D a' w' hD hdep hI KK hKK
      rw [HI.out] at hI
      obtain ⟨x31, x32, x33, x34, x35, x36, x37, x38, x39, x40, x10, x11, x12, rfl, hM, f0, f2, f4, f6, f8, k3, k5, k7, k9⟩ := hI
      simp [Region.binds] at hdep
      have K3 := Lib.hid k3
      clear k3
      have K5 := Lib.hid k5
      clear k5
      have K7 := Lib.hid k7
      clear k7
      have K9 := Lib.hid k9
      clear k9
      have HM := Lib.hid hM
      clear hM
      have F0 := Lib.hid f0
      clear f0
      have F2 := Lib.hid f2
      clear f2
      have F4 := Lib.hid f4
      clear f4
      have F6 := Lib.hid f6
      clear f6
      have F8 := Lib.hid f8
      clear f8
      have Bx := Bp2.out.keep HM.out.ch (fun h => h)
      have c0 : w'.cell? ⟨w.heap.size + 1, 0, none⟩ = some (.int .u64 (l2 : Nat)) := by rw [Bx.cell]; rfl
      have c1 : w'.cell? ⟨w.heap.size + 1, 1, none⟩ = some (.slice P2 m2 r2) := by rw [Bx.cell]; rfl
      clear Bx hdep
      go_wp2_with fail
      rw [HI.out]; exact ⟨_, _, _, _, _, _, _, _, _, _, _, _, _, rfl, HM.out.other (k := 4) (.agg #[.int .u64 (l2 : Nat), .slice P2 m2 r2]) (by decide) (by decide) (by decide) (by decide), fun h => F0.out (upd_out h (by decide)), fun h => F2.out (upd_out h (by decide)), fun _ => rfl, fun h => F6.out (upd_out h (by decide)), fun h => F8.out (upd_out h (by decide)), fun h => upd_mono (K3.out (upd_out h (by decide))), fun h => upd_mono (K5.out (upd_out h (by decide))), fun h => upd_mono (K7.out (upd_out h (by decide))), fun h => upd_mono (K9.out (upd_out h (by decide)))⟩
    · intro D a' w' hD hdep hI KK hKK
      rw [HI.out] at hI
      obtain ⟨x31, x32, x33, x34, x35, x36, x37, x38, x39, x40, x10, x11, x12, rfl, hM, f0, f2, f4, f6, f8, k3, k5, k7, k9⟩ := hI
      simp [Region.binds] at hdep
      have K3 := Lib.hid k3
      clear k3
      have K5 := Lib.hid k5
      clear k5
      have K7 := Lib.hid k7
      clear k7
      have K9 := Lib.hid k9
      clear k9
      have ce : D 3 = true := by simp_all
      have CE := Lib.hid ce
      clear ce
      have d4 : D 4 = true := by simp_all
      have HM := Lib.hid hM
      clear hM
      have F0 := Lib.hid f0
      clear f0
      have F2 := Lib.hid f2
      clear f2
      have F4 := Lib.hid f4
      clear f4
      have F6 := Lib.hid f6
      clear f6
      have F8 := Lib.hid f8
      clear f8
      have e35 := F4.out d4
      subst e35
      clear hdep d4
      have HC := Lib.hid (HC3.out.trans HM.out.ch)
      go_wp2_with fail
      refine (bits_any l2 _ xs2 _ (IX2.out.keep HC.out) HX2.out (by rw [LX2.out]; omega)).mono ?_
      rintro e w2 ⟨v2, L2, g2, rfl, hL2, hV2, hC2⟩
      have HV2 := Lib.hid hV2
      have HC2 := Lib.hid hC2
      clear hV2 hC2
      go_wp2_with fail
      rw [HI.out]; exact ⟨_, _, _, _, _, _, _, _, _, _, _, _, _, rfl, HM.out.call (k := 5) (by simp) (by decide) (by decide) (by decide) hD HC2.out HV2.out (hL2), fun h => F0.out (upd_out h (by decide)), fun h => F2.out (upd_out h (by decide)), fun _ => rfl, fun h => F6.out (upd_out h (by decide)), fun h => F8.out (upd_out h (by decide)), fun h => upd_mono (K3.out (upd_out h (by decide))), fun _ => upd_mono CE.out, fun h => upd_mono (K7.out (upd_out h (by decide))), fun h => upd_mono (K9.out (upd_out h (by decide)))⟩
    · intro D a' w' hD hdep hI KK hKK
      rw [HI.out] at hI
      obtain ⟨x31, x32, x33, x34, x35, x36, x37, x38, x39, x40, x10, x11, x12, rfl, hM, f0, f2, f4, f6, f8, k3, k5, k7, k9⟩ := hI
      simp [Region.binds] at hdep
      have K3 := Lib.hid k3
      clear k3
      have K5 := Lib.hid k5
      clear k5
      have K7 := Lib.hid k7
      clear k7
      have K9 := Lib.hid k9
      clear k9
      have HM := Lib.hid hM
      clear hM
      have F0 := Lib.hid f0
      clear f0
      have F2 := Lib.hid f2
      clear f2
      have F4 := Lib.hid f4
      clear f4
      have F6 := Lib.hid f6
      clear f6
      have F8 := Lib.hid f8
      clear f8
      clear hdep
      go_wp2_with fail
      rw [HI.out]; exact ⟨_, _, _, _, _, _, _, _, _, _, _, _, _, rfl, HM.out.other (k := 6) (.int .u64 ((u1 : Int) % 400)) (by decide) (by decide) (by decide) (by decide), fun h => F0.out (upd_out h (by decide)), fun h => F2.out (upd_out h (by decide)), fun h => F4.out (upd_out h (by decide)), fun _ => rfl, fun h => F8.out (upd_out h (by decide)), fun h => upd_mono (K3.out (upd_out h (by decide))), fun h => upd_mono (K5.out (upd_out h (by decide))), fun h => upd_mono (K7.out (upd_out h (by decide))), fun h => upd_mono (K9.out (upd_out h (by decide)))⟩
    · intro D a' w' hD hdep hI KK hKK
      rw [HI.out] at hI
      obtain ⟨x31, x32, x33, x34, x35, x36, x37, x38, x39, x40, x10, x11, x12, rfl, hM, f0, f2, f4, f6, f8, k3, k5, k7, k9⟩ := hI
      simp [Region.binds] at hdep
      have K3 := Lib.hid k3
      clear k3
      have K5 := Lib.hid k5
      clear k5
      have K7 := Lib.hid k7
      clear k7
      have K9 := Lib.hid k9
      clear k9
      have ce : D 5 = true := by simp_all
      have CE := Lib.hid ce
      clear ce
      have d5 : D 5 = true := by simp_all
      have d6 : D 6 = true := by simp_all
      have HM := Lib.hid hM
      clear hM
      have F0 := Lib.hid f0
      clear f0
      have F2 := Lib.hid f2
      clear f2
      have F4 := Lib.hid f4
      clear f4
      have F6 := Lib.hid f6
      clear f6
      have F8 := Lib.hid f8
      clear f8
      obtain ⟨L36, g36, hR36, hV36⟩ := HM.out.val 5 (by decide) d5
      have V36 : Hid (IsB 0 w' x36 L36 g36) := Lib.hid hV36
      have R36 : Hid ((fun (L : Nat) (g : Nat → Bool) => (fun L g => L ≤ 400) L g) L36 g36) := Lib.hid hR36
      clear hV36 hR36
      have e37 := F6.out d6
      subst e37
      clear hdep d5 d6
      have HC := Lib.hid (HC3.out.trans HM.out.ch)
      go_wp2_with fail
      refine (bsset_any x36 L36 g36 _ V36.out (u1 % 400) _ (by omega) (by omega)).mono ?_
      rintro e w2 ⟨v2, rfl, hV2, hC2⟩
      have HV2 := Lib.hid hV2
      have HC2 := Lib.hid hC2
      clear hV2 hC2
      go_wp2_with fail
      rw [HI.out]; exact ⟨_, _, _, _, _, _, _, _, _, _, _, _, _, rfl, HM.out.call (k := 7) (by simp) (by decide) (by decide) (by decide) hD HC2.out HV2.out (⟨by have h : L36 ≤ 400 := R36.out; omega, g36, rfl⟩), fun h => F0.out (upd_out h (by decide)), fun h => F2.out (upd_out h (by decide)), fun h => F4.out (upd_out h (by decide)), fun _ => rfl, fun h => F8.out (upd_out h (by decide)), fun h => upd_mono (K3.out (upd_out h (by decide))), fun h => upd_mono (K5.out (upd_out h (by decide))), fun _ => upd_mono CE.out, fun h => upd_mono (K9.out (upd_out h (by decide)))⟩
    · intro D a' w' hD hdep hI KK hKK
      rw [HI.out] at hI
      obtain ⟨x31, x32, x33, x34, x35, x36, x37, x38, x39, x40, x10, x11, x12, rfl, hM, f0, f2, f4, f6, f8, k3, k5, k7, k9⟩ := hI
      simp [Region.binds] at hdep
      have K3 := Lib.hid k3
      clear k3
      have K5 := Lib.hid k5
      clear k5
      have K7 := Lib.hid k7
      clear k7
      have K9 := Lib.hid k9
      clear k9
      have HM := Lib.hid hM
      clear hM
      have F0 := Lib.hid f0
      clear f0
      have F2 := Lib.hid f2
      clear f2
      have F4 := Lib.hid f4
      clear f4
      have F6 := Lib.hid f6
      clear f6
      have F8 := Lib.hid f8
      clear f8
      have Bx := Bp3.out.keep HM.out.ch (fun h => h)
      have c0 : w'.cell? ⟨w.heap.size + 1 + 1, 0, none⟩ = some (.int .u64 (l3 : Nat)) := by rw [Bx.cell]; rfl
      have c1 : w'.cell? ⟨w.heap.size + 1 + 1, 1, none⟩ = some (.slice P3 m3 r3) := by rw [Bx.cell]; rfl
      clear Bx hdep
      go_wp2_with fail
      rw [HI.out]; exact ⟨_, _, _, _, _, _, _, _, _, _, _, _, _, rfl, HM.out.other (k := 8) (.agg #[.int .u64 (l3 : Nat), .slice P3 m3 r3]) (by decide) (by decide) (by decide) (by decide), fun h => F0.out (upd_out h (by decide)), fun h => F2.out (upd_out h (by decide)), fun h => F4.out (upd_out h (by decide)), fun h => F6.out (upd_out h (by decide)), fun _ => rfl, fun h => upd_mono (K3.out (upd_out h (by decide))), fun h => upd_mono (K5.out (upd_out h (by decide))), fun h => upd_mono (K7.out (upd_out h (by decide))), fun h => upd_mono (K9.out (upd_out h (by decide)))⟩
    · intro D a' w' hD hdep hI KK hKK
      rw [HI.out] at hI
      obtain ⟨x31, x32, x33, x34, x35, x36, x37, x38, x39, x40, x10, x11, x12, rfl, hM, f0, f2, f4, f6, f8, k3, k5, k7, k9⟩ := hI
      simp [Region.binds] at hdep
      have K3 := Lib.hid k3
      clear k3
      have K5 := Lib.hid k5
      clear k5
      have K7 := Lib.hid k7
      clear k7
      have K9 := Lib.hid k9
      clear k9
      have ce : D 7 = true := by simp_all
      have CE := Lib.hid ce
      clear ce
      have d8 : D 8 = true := by simp_all
      have HM := Lib.hid hM
      clear hM
      have F0 := Lib.hid f0
      clear f0
      have F2 := Lib.hid f2
      clear f2
      have F4 := Lib.hid f4
      clear f4
      have F6 := Lib.hid f6
      clear f6
      have F8 := Lib.hid f8
      clear f8
      have e39 := F8.out d8
      subst e39
      clear hdep d8
      have HC := Lib.hid (HC3.out.trans HM.out.ch)
      go_wp2_with fail
      refine (bits_any l3 _ xs3 _ (IX3.out.keep HC.out) HX3.out (by rw [LX3.out]; omega)).mono ?_
      rintro e w2 ⟨v2, L2, g2, rfl, hL2, hV2, hC2⟩
      have HV2 := Lib.hid hV2
      have HC2 := Lib.hid hC2
      clear hV2 hC2
      go_wp2_with fail
      rw [HI.out]; exact ⟨_, _, _, _, _, _, _, _, _, _, _, _, _, rfl, HM.out.call (k := 9) (by simp) (by decide) (by decide) (by decide) hD HC2.out HV2.out (hL2), fun h => F0.out (upd_out h (by decide)), fun h => F2.out (upd_out h (by decide)), fun h => F4.out (upd_out h (by decide)), fun h => F6.out (upd_out h (by decide)), fun _ => rfl, fun h => upd_mono (K3.out (upd_out h (by decide))), fun h => upd_mono (K5.out (upd_out h (by decide))), fun h => upd_mono (K7.out (upd_out h (by decide))), fun _ => upd_mono CE.out⟩
    · intro D a' w' hD hdep hI KK hKK
      rw [HI.out] at hI
      obtain ⟨x31, x32, x33, x34, x35, x36, x37, x38, x39, x40, x10, x11, x12, rfl, hM, f0, f2, f4, f6, f8, k3, k5, k7, k9⟩ := hI
      simp [Region.binds] at hdep
      have K3 := Lib.hid k3
      clear k3
      have K5 := Lib.hid k5
      clear k5
      have K7 := Lib.hid k7
      clear k7
      have K9 := Lib.hid k9
      clear k9
      have HM := Lib.hid hM
      clear hM
      have F0 := Lib.hid f0
      clear f0
      have F2 := Lib.hid f2
      clear f2
      have F4 := Lib.hid f4
      clear f4
      have F6 := Lib.hid f6
      clear f6
      have F8 := Lib.hid f8
      clear f8
      clear hdep
      go_wp2_with fail
      rw [HI.out]; exact ⟨_, _, _, _, _, _, _, _, _, _, _, _, _, rfl, HM.out.alloc (k := 10) (by simp) (by decide) (by decide) (by decide) hD (by decide) 25, fun h => F0.out (upd_out h (by decide)), fun h => F2.out (upd_out h (by decide)), fun h => F4.out (upd_out h (by decide)), fun h => F6.out (upd_out h (by decide)), fun h => F8.out (upd_out h (by decide)), fun h => upd_mono (K3.out (upd_out h (by decide))), fun h => upd_mono (K5.out (upd_out h (by decide))), fun h => upd_mono (K7.out (upd_out h (by decide))), fun h => upd_mono (K9.out (upd_out h (by decide)))⟩
    · intro D a' w' hD hdep hI KK hKK
      rw [HI.out] at hI
      obtain ⟨x31, x32, x33, x34, x35, x36, x37, x38, x39, x40, x10, x11, x12, rfl, hM, f0, f2, f4, f6, f8, k3, k5, k7, k9⟩ := hI
      simp [Region.binds] at hdep
      have K3 := Lib.hid k3
      clear k3
      have K5 := Lib.hid k5
      clear k5
      have K7 := Lib.hid k7
      clear k7
      have K9 := Lib.hid k9
      clear k9
      have HM := Lib.hid hM
      clear hM
      have F0 := Lib.hid f0
      clear f0
      have F2 := Lib.hid f2
      clear f2
      have F4 := Lib.hid f4
      clear f4
      have F6 := Lib.hid f6
      clear f6
      have F8 := Lib.hid f8
      clear f8
      clear hdep
      go_wp2_with fail
      rw [HI.out]; exact ⟨_, _, _, _, _, _, _, _, _, _, _, _, _, rfl, HM.out.alloc (k := 11) (by simp) (by decide) (by decide) (by decide) hD (by decide) 25, fun h => F0.out (upd_out h (by decide)), fun h => F2.out (upd_out h (by decide)), fun h => F4.out (upd_out h (by decide)), fun h => F6.out (upd_out h (by decide)), fun h => F8.out (upd_out h (by decide)), fun h => upd_mono (K3.out (upd_out h (by decide))), fun h => upd_mono (K5.out (upd_out h (by decide))), fun h => upd_mono (K7.out (upd_out h (by decide))), fun h => upd_mono (K9.out (upd_out h (by decide)))⟩
    · intro D a' w' hD hdep hI KK hKK
      rw [HI.out] at hI
      obtain ⟨x31, x32, x33, x34, x35, x36, x37, x38, x39, x40, x10, x11, x12, rfl, hM, f0, f2, f4, f6, f8, k3, k5, k7, k9⟩ := hI
      simp [Region.binds] at hdep
      have K3 := Lib.hid k3
      clear k3
      have K5 := Lib.hid k5
      clear k5
      have K7 := Lib.hid k7
      clear k7
      have K9 := Lib.hid k9
      clear k9
      have HM := Lib.hid hM
      clear hM
      have F0 := Lib.hid f0
      clear f0
      have F2 := Lib.hid f2
      clear f2
      have F4 := Lib.hid f4
      clear f4
      have F6 := Lib.hid f6
      clear f6
      have F8 := Lib.hid f8
      clear f8
      clear hdep
      go_wp2_with fail
      rw [HI.out]; exact ⟨_, _, _, _, _, _, _, _, _, _, _, _, _, rfl, HM.out.alloc (k := 12) (by simp) (by decide) (by decide) (by decide) hD (by decide) 25, fun h => F0.out (upd_out h (by decide)), fun h => F2.out (upd_out h (by decide)), fun h => F4.out (upd_out h (by decide)), fun h => F6.out (upd_out h (by decide)), fun h => F8.out (upd_out h (by decide)), fun h => upd_mono (K3.out (upd_out h (by decide))), fun h => upd_mono (K5.out (upd_out h (by decide))), fun h => upd_mono (K7.out (upd_out h (by decide))), fun h => upd_mono (K9.out (upd_out h (by decide)))⟩
    · intro D a' w' hD hdep hI KK hKK
      rw [HI.out] at hI
      obtain ⟨x31, x32, x33, x34, x35, x36, x37, x38, x39, x40, x10, x11, x12, rfl, hM, f0, f2, f4, f6, f8, k3, k5, k7, k9⟩ := hI
      simp [Region.binds] at hdep
      have K3 := Lib.hid k3
      clear k3
      have K5 := Lib.hid k5
      clear k5
      have K7 := Lib.hid k7
      clear k7
      have K9 := Lib.hid k9
      clear k9
      have d9 : D 9 = true := by simp_all
      have d10 : D 10 = true := by simp_all
      have d11 : D 11 = true := by simp_all
      have d12 : D 12 = true := by simp_all
      have d7 := K9.out d9
      have d5 := K7.out d7
      have d3 := K5.out d5
      have d1 := K3.out d3
      have HM := Lib.hid hM
      clear hM
      have F0 := Lib.hid f0
      clear f0
      have F2 := Lib.hid f2
      clear f2
      have F4 := Lib.hid f4
      clear f4
      have F6 := Lib.hid f6
      clear f6
      have F8 := Lib.hid f8
      clear f8
      have hall : ∀ j, j ∈ [1, 3, 5, 7, 9] ∨ j ∈ [10, 11, 12] → D j = true := fun j hj => by
        have : j = 1 ∨ j = 3 ∨ j = 5 ∨ j = 7 ∨ j = 9 ∨ j = 10 ∨ j = 11 ∨ j = 12 := by simp at hj; omega
        rcases this with rfl | rfl | rfl | rfl | rfl | rfl | rfl | rfl <;> assumption
      obtain ⟨b, hb, _, c0, c1, z0, z1⟩ := HM.out.before (i := 10) (by decide) d10 hD
      have hb : x10 = _ := hb
      subst hb
      obtain ⟨L, g, _, hV⟩ := HM.out.val 3 (by decide) d3
      have hV : IsB 0 w' x34 L g := hV
      obtain ⟨A, n, c, rfl⟩ := hV.shape
      clear hV
      have Hall := Lib.hid hall
      clear hall hdep d1 d3 d5 d7 d9 d11 d12
      have Dal := Lib.hid d10
      clear d10
      go_wp2_with fail
      rw [HI.out]; exact ⟨_, _, _, _, _, _, _, _, _, _, _, _, _, rfl, HM.out.store (i := 10) (k := 13) (by decide) Dal.out rfl hD (by decide) (by decide) (by decide) (by decide) Hall.out rfl rfl undef, fun h => F0.out (upd_out h (by decide)), fun h => F2.out (upd_out h (by decide)), fun h => F4.out (upd_out h (by decide)), fun h => F6.out (upd_out h (by decide)), fun h => F8.out (upd_out h (by decide)), fun h => upd_mono (K3.out (upd_out h (by decide))), fun h => upd_mono (K5.out (upd_out h (by decide))), fun h => upd_mono (K7.out (upd_out h (by decide))), fun h => upd_mono (K9.out (upd_out h (by decide)))⟩
    · intro D a' w' hD hdep hI KK hKK
      rw [HI.out] at hI
      obtain ⟨x31, x32, x33, x34, x35, x36, x37, x38, x39, x40, x10, x11, x12, rfl, hM, f0, f2, f4, f6, f8, k3, k5, k7, k9⟩ := hI
      simp [Region.binds] at hdep
      have K3 := Lib.hid k3
      clear k3
      have K5 := Lib.hid k5
      clear k5
      have K7 := Lib.hid k7
      clear k7
      have K9 := Lib.hid k9
      clear k9
      have dst : D 13 = true := by simp_all
      have HM := Lib.hid hM
      clear hM
      have F0 := Lib.hid f0
      clear f0
      have F2 := Lib.hid f2
      clear f2
      have F4 := Lib.hid f4
      clear f4
      have F6 := Lib.hid f6
      clear f6
      have F8 := Lib.hid f8
      clear f8
      have hall := HM.out.closed 10 (by decide) dst
      have d11 := hall 11 (by decide)
      have d7 := hall 7 (by decide)
      clear dst
      obtain ⟨b, hb, _, c0, c1, z0, z1⟩ := HM.out.before (i := 11) (by decide) d11 hD
      have hb : x11 = _ := hb
      subst hb
      obtain ⟨L, g, _, hV⟩ := HM.out.val 7 (by decide) d7
      have hV : IsB 0 w' x38 L g := hV
      obtain ⟨A, n, c, rfl⟩ := hV.shape
      clear hV
      have Hall := Lib.hid hall
      clear hall hdep d7
      have Dal := Lib.hid d11
      clear d11
      go_wp2_with fail
      rw [HI.out]; exact ⟨_, _, _, _, _, _, _, _, _, _, _, _, _, rfl, HM.out.store (i := 11) (k := 14) (by decide) Dal.out rfl hD (by decide) (by decide) (by decide) (by decide) Hall.out rfl rfl undef, fun h => F0.out (upd_out h (by decide)), fun h => F2.out (upd_out h (by decide)), fun h => F4.out (upd_out h (by decide)), fun h => F6.out (upd_out h (by decide)), fun h => F8.out (upd_out h (by decide)), fun h => upd_mono (K3.out (upd_out h (by decide))), fun h => upd_mono (K5.out (upd_out h (by decide))), fun h => upd_mono (K7.out (upd_out h (by decide))), fun h => upd_mono (K9.out (upd_out h (by decide)))⟩
    · intro D a' w' hD hdep hI KK hKK
      rw [HI.out] at hI
      obtain ⟨x31, x32, x33, x34, x35, x36, x37, x38, x39, x40, x10, x11, x12, rfl, hM, f0, f2, f4, f6, f8, k3, k5, k7, k9⟩ := hI
      simp [Region.binds] at hdep
      have K3 := Lib.hid k3
      clear k3
      have K5 := Lib.hid k5
      clear k5
      have K7 := Lib.hid k7
      clear k7
      have K9 := Lib.hid k9
      clear k9
      have dst : D 14 = true := by simp_all
      have HM := Lib.hid hM
      clear hM
      have F0 := Lib.hid f0
      clear f0
      have F2 := Lib.hid f2
      clear f2
      have F4 := Lib.hid f4
      clear f4
      have F6 := Lib.hid f6
      clear f6
      have F8 := Lib.hid f8
      clear f8
      have hall := HM.out.closed 11 (by decide) dst
      have d12 := hall 12 (by decide)
      have d9 := hall 9 (by decide)
      clear dst
      obtain ⟨b, hb, _, c0, c1, z0, z1⟩ := HM.out.before (i := 12) (by decide) d12 hD
      have hb : x12 = _ := hb
      subst hb
      obtain ⟨L, g, _, hV⟩ := HM.out.val 9 (by decide) d9
      have hV : IsB 0 w' x40 L g := hV
      obtain ⟨A, n, c, rfl⟩ := hV.shape
      clear hV
      have Hall := Lib.hid hall
      clear hall hdep d9
      have Dal := Lib.hid d12
      clear d12
      go_wp2_with fail
      rw [HI.out]; exact ⟨_, _, _, _, _, _, _, _, _, _, _, _, _, rfl, HM.out.store (i := 12) (k := 15) (by decide) Dal.out rfl hD (by decide) (by decide) (by decide) (by decide) Hall.out rfl rfl undef, fun h => F0.out (upd_out h (by decide)), fun h => F2.out (upd_out h (by decide)), fun h => F4.out (upd_out h (by decide)), fun h => F6.out (upd_out h (by decide)), fun h => F8.out (upd_out h (by decide)), fun h => upd_mono (K3.out (upd_out h (by decide))), fun h => upd_mono (K5.out (upd_out h (by decide))), fun h => upd_mono (K7.out (upd_out h (by decide))), fun h => upd_mono (K9.out (upd_out h (by decide)))⟩
  intro D a' w4 hD hI
  rw [HI.out] at hI
  obtain ⟨x31, x32, x33, x34, x35, x36, x37, x38, x39, x40, x10, x11, x12, rfl, hM, f0, f2, f4, f6, f8, _, _, _, _⟩ := hI
  have e31 := f0 (hD 0 (by decide))
  subst e31
  clear f0
  have e33 := f2 (hD 2 (by decide))
  subst e33
  clear f2
  have e35 := f4 (hD 4 (by decide))
  subst e35
  clear f4
  have e37 := f6 (hD 6 (by decide))
  subst e37
  clear f6
  have e39 := f8 (hD 8 (by decide))
  subst e39
  clear f8
  obtain ⟨L32, g32, hR32, hV32⟩ := hM.val 1 (by decide) (hD 1 (by decide))
  have hV32 : IsB 0 w4 x32 L32 g32 := hV32
  obtain ⟨L34, g34, hR34, hV34⟩ := hM.val 3 (by decide) (hD 3 (by decide))
  have hV34 : IsB 0 w4 x34 L34 g34 := hV34
  obtain ⟨L36, g36, hR36, hV36⟩ := hM.val 5 (by decide) (hD 5 (by decide))
  have hV36 : IsB 0 w4 x36 L36 g36 := hV36
  obtain ⟨L38, g38, hR38, hV38⟩ := hM.val 7 (by decide) (hD 7 (by decide))
  have hV38 : IsB 0 w4 x38 L38 g38 := hV38
  obtain ⟨L40, g40, hR40, hV40⟩ := hM.val 9 (by decide) (hD 9 (by decide))
  have hV40 : IsB 0 w4 x40 L40 g40 := hV40
  obtain ⟨b10, e1, _, _, _, h1⟩ := hM.ptr 10 (by decide) (hD 10 (by decide))
  have e1 : x10 = _ := e1
  subst e1
  obtain ⟨l1, u1, e2, B10⟩ := h1 (hD 13 (by decide))
  have e2 : x34 = _ := e2
  have e4 : ∃ A n cap, x34 = .agg #[.int .u64 L34, .slice A n cap] := hV34.shape
  obtain ⟨A34, n34, c34, e3⟩ := e4
  rw [e3] at e2
  simp only [Value.agg.injEq, Array.mk.injEq, List.cons.injEq, and_true] at e2
  obtain ⟨rfl, rfl⟩ := e2
  subst e3
  obtain ⟨b11, e1, _, _, _, h1⟩ := hM.ptr 11 (by decide) (hD 11 (by decide))
  have e1 : x11 = _ := e1
  subst e1
  obtain ⟨l1, u1, e2, B11⟩ := h1 (hD 14 (by decide))
  have e2 : x38 = _ := e2
  have e4 : ∃ A n cap, x38 = .agg #[.int .u64 L38, .slice A n cap] := hV38.shape
  obtain ⟨A38, n38, c38, e3⟩ := e4
  rw [e3] at e2
  simp only [Value.agg.injEq, Array.mk.injEq, List.cons.injEq, and_true] at e2
  obtain ⟨rfl, rfl⟩ := e2
  subst e3
  obtain ⟨b12, e1, _, _, _, h1⟩ := hM.ptr 12 (by decide) (hD 12 (by decide))
  have e1 : x12 = _ := e1
  subst e1
  obtain ⟨l1, u1, e2, B12⟩ := h1 (hD 15 (by decide))
  have e2 : x40 = _ := e2
  have e4 : ∃ A n cap, x40 = .agg #[.int .u64 L40, .slice A n cap] := hV40.shape
  obtain ⟨A40, n40, c40, e3⟩ := e4
  rw [e3] at e2
  simp only [Value.agg.injEq, Array.mk.injEq, List.cons.injEq, and_true] at e2
  obtain ⟨rfl, rfl⟩ := e2
  subst e3
  obtain ⟨A32, n32, c32, rfl⟩ := hV32.shape
  obtain ⟨A36, n36, c36, rfl⟩ := hV36.shape
  have HC4 := Lib.hid (HC3.out.trans hM.ch)
  have hCC : Ch S0 w3 w4 := hM.ch
  clear HC3 hM
  have Bx := Lib.hid (Bp1.out.keep hCC (fun h => h))
  clear Bp1
  have Bp1 := Bx
  clear Bx
  have Bx := Lib.hid (Bp2.out.keep hCC (fun h => h))
  clear Bp2
  have Bp2 := Bx
  clear Bx
  have Bx := Lib.hid (Bp3.out.keep hCC (fun h => h))
  clear Bp3
  have Bp3 := Bx
  clear Bx
  clear hCC
  have H32 : Hid (IsB 0 w4 (.agg #[.int .u64 (L32 : Nat), .slice A32 n32 c32]) L32 g32) := Lib.hid hV32
  clear hV32
  have HR32 : Hid ((fun (L : Nat) (g : Nat → Bool) => (fun L g => L ≤ 400) L g) L32 g32) := Lib.hid hR32
  clear hR32
  have H34 : Hid (IsB 0 w4 (.agg #[.int .u64 (L34 : Nat), .slice A34 n34 c34]) L34 g34) := Lib.hid hV34
  clear hV34
  have HR34 : Hid ((fun (L : Nat) (g : Nat → Bool) => (fun L g => L ≤ 400 ∧ ∃ g0, g = Bit.put g0 (u1 % 400) true) L g) L34 g34) := Lib.hid hR34
  clear hR34
  have H36 : Hid (IsB 0 w4 (.agg #[.int .u64 (L36 : Nat), .slice A36 n36 c36]) L36 g36) := Lib.hid hV36
  clear hV36
  have HR36 : Hid ((fun (L : Nat) (g : Nat → Bool) => (fun L g => L ≤ 400) L g) L36 g36) := Lib.hid hR36
  clear hR36
  have H38 : Hid (IsB 0 w4 (.agg #[.int .u64 (L38 : Nat), .slice A38 n38 c38]) L38 g38) := Lib.hid hV38
  clear hV38
  have HR38 : Hid ((fun (L : Nat) (g : Nat → Bool) => (fun L g => L ≤ 400 ∧ ∃ g0, g = Bit.put g0 (u1 % 400) true) L g) L38 g38) := Lib.hid hR38
  clear hR38
  have H40 : Hid (IsB 0 w4 (.agg #[.int .u64 (L40 : Nat), .slice A40 n40 c40]) L40 g40) := Lib.hid hV40
  clear hV40
  have HR40 : Hid ((fun (L : Nat) (g : Nat → Bool) => (fun L g => L ≤ 400) L g) L40 g40) := Lib.hid hR40
  clear hR40
  have Bx := Lib.hid B10
  clear B10
  have B10 := Bx
  clear Bx
  have Bx := Lib.hid B11
  clear B11
  have B11 := Bx
  clear Bx
  have Bx := Lib.hid B12
  clear B12
  have B12 := Bx
  clear Bx
  clear hD HI
  try clear I0
  try clear xp10 xp11
  try clear xp1z
  have xp1z := Bp1.out.lt
  have xp10 := Bp1.out.cell 0
  have xp11 := Bp1.out.cell 1
  simp only [List.getElem?_toArray, List.getElem?_cons_zero, List.getElem?_cons_succ] at xp10 xp11
  try clear xp20 xp21
  try clear xp2z
  have xp2z := Bp2.out.lt
  have xp20 := Bp2.out.cell 0
  have xp21 := Bp2.out.cell 1
  simp only [List.getElem?_toArray, List.getElem?_cons_zero, List.getElem?_cons_succ] at xp20 xp21
  try clear xp30 xp31
  try clear xp3z
  have xp3z := Bp3.out.lt
  have xp30 := Bp3.out.cell 0
  have xp31 := Bp3.out.cell 1
  simp only [List.getElem?_toArray, List.getElem?_cons_zero, List.getElem?_cons_succ] at xp30 xp31
  try clear x100 x101
  try clear x10z
  have x10z := B10.out.lt
  have x100 := B10.out.cell 0
  have x101 := B10.out.cell 1
  simp only [List.getElem?_toArray, List.getElem?_cons_zero, List.getElem?_cons_succ] at x100 x101
  try clear x110 x111
  try clear x11z
  have x11z := B11.out.lt
  have x110 := B11.out.cell 0
  have x111 := B11.out.cell 1
  simp only [List.getElem?_toArray, List.getElem?_cons_zero, List.getElem?_cons_succ] at x110 x111
  try clear x120 x121
  try clear x12z
  have x12z := B12.out.lt
  have x120 := B12.out.cell 0
  have x121 := B12.out.cell 1
  simp only [List.getElem?_toArray, List.getElem?_cons_zero, List.getElem?_cons_succ] at x120 x121
  go_wp2_with fail
  refine (bsunion_any _ _ _ _ _ _ _ (H38.out.keep (by first | exact Ch.refl _ _ | exact (Ch.refl _ _).alloc _ | exact (Ch.refl _ _).drew | exact ((Ch.refl _ _).alloc _).alloc _ | exact ((Ch.refl _ _).alloc _).drew | exact (((Ch.refl _ _).alloc _).alloc _).alloc _ | exact (((Ch.refl _ _).alloc _).alloc _).drew | exact ((((Ch.refl _ _).alloc _).alloc _).alloc _).drew | exact ((((Ch.refl _ _).alloc _).alloc _).alloc _).alloc _ | exact (((((Ch.refl _ _).alloc _).alloc _).alloc _).alloc _).drew)) (H40.out.keep (by first | exact Ch.refl _ _ | exact (Ch.refl _ _).alloc _ | exact (Ch.refl _ _).drew | exact ((Ch.refl _ _).alloc _).alloc _ | exact ((Ch.refl _ _).alloc _).drew | exact (((Ch.refl _ _).alloc _).alloc _).alloc _ | exact (((Ch.refl _ _).alloc _).alloc _).drew | exact ((((Ch.refl _ _).alloc _).alloc _).alloc _).drew | exact ((((Ch.refl _ _).alloc _).alloc _).alloc _).alloc _ | exact (((((Ch.refl _ _).alloc _).alloc _).alloc _).alloc _).drew))).mono ?_
  rintro e w5 ⟨vu, rfl, hV, hC⟩
  obtain ⟨Lu, hE⟩ : ∃ x, x = max L38 L40 := ⟨_, rfl⟩
  rw [← hE] at hV
  have Eu := Lib.hid hE
  clear hE
  obtain ⟨Au, nu, cu, rfl⟩ := hV.shape
  have hCC : Ch S0 w4 w5 := Ch.trans (by first | exact Ch.refl _ _ | exact (Ch.refl _ _).alloc _ | exact (Ch.refl _ _).drew | exact ((Ch.refl _ _).alloc _).alloc _ | exact ((Ch.refl _ _).alloc _).drew | exact (((Ch.refl _ _).alloc _).alloc _).alloc _ | exact (((Ch.refl _ _).alloc _).alloc _).drew | exact ((((Ch.refl _ _).alloc _).alloc _).alloc _).drew | exact ((((Ch.refl _ _).alloc _).alloc _).alloc _).alloc _ | exact (((((Ch.refl _ _).alloc _).alloc _).alloc _).alloc _).drew) hC
  have HC5 := Lib.hid (HC4.out.trans hCC)
  clear HC4
  have Hx := Lib.hid (H32.out.keep hCC)
  clear H32
  have H32 := Hx
  clear Hx
  have Hx := Lib.hid (H34.out.keep hCC)
  clear H34
  have H34 := Hx
  clear Hx
  have Hx := Lib.hid (H36.out.keep hCC)
  clear H36
  have H36 := Hx
  clear Hx
  have Hx := Lib.hid (H38.out.keep hCC)
  clear H38
  have H38 := Hx
  clear Hx
  have Hx := Lib.hid (H40.out.keep hCC)
  clear H40
  have H40 := Hx
  clear Hx
  have Bx := Lib.hid (Bp1.out.keep hCC (fun h => h))
  clear Bp1
  have Bp1 := Bx
  clear Bx
  have Bx := Lib.hid (Bp2.out.keep hCC (fun h => h))
  clear Bp2
  have Bp2 := Bx
  clear Bx
  have Bx := Lib.hid (Bp3.out.keep hCC (fun h => h))
  clear Bp3
  have Bp3 := Bx
  clear Bx
  have Bx := Lib.hid (B10.out.keep hCC (fun h => h))
  clear B10
  have B10 := Bx
  clear Bx
  have Bx := Lib.hid (B11.out.keep hCC (fun h => h))
  clear B11
  have B11 := Bx
  clear Bx
  have Bx := Lib.hid (B12.out.keep hCC (fun h => h))
  clear B12
  have B12 := Bx
  clear Bx
  have Hu := Lib.hid (hV.mono (base' := 0) (Nat.zero_le _))
  clear hV
  clear hC hCC
  try clear xp10 xp11
  try clear xp1z
  have xp1z := Bp1.out.lt
  have xp10 := Bp1.out.cell 0
  have xp11 := Bp1.out.cell 1
  simp only [List.getElem?_toArray, List.getElem?_cons_zero, List.getElem?_cons_succ] at xp10 xp11
  try clear xp20 xp21
  try clear xp2z
  have xp2z := Bp2.out.lt
  have xp20 := Bp2.out.cell 0
  have xp21 := Bp2.out.cell 1
  simp only [List.getElem?_toArray, List.getElem?_cons_zero, List.getElem?_cons_succ] at xp20 xp21
  try clear xp30 xp31
  try clear xp3z
  have xp3z := Bp3.out.lt
  have xp30 := Bp3.out.cell 0
  have xp31 := Bp3.out.cell 1
  simp only [List.getElem?_toArray, List.getElem?_cons_zero, List.getElem?_cons_succ] at xp30 xp31
  try clear x100 x101
  try clear x10z
  have x10z := B10.out.lt
  have x100 := B10.out.cell 0
  have x101 := B10.out.cell 1
  simp only [List.getElem?_toArray, List.getElem?_cons_zero, List.getElem?_cons_succ] at x100 x101
  try clear x110 x111
  try clear x11z
  have x11z := B11.out.lt
  have x110 := B11.out.cell 0
  have x111 := B11.out.cell 1
  simp only [List.getElem?_toArray, List.getElem?_cons_zero, List.getElem?_cons_succ] at x110 x111
  try clear x120 x121
  try clear x12z
  have x12z := B12.out.lt
  have x120 := B12.out.cell 0
  have x121 := B12.out.cell 1
  simp only [List.getElem?_toArray, List.getElem?_cons_zero, List.getElem?_cons_succ] at x120 x121
  go_wp2_with fail
  refine (bsinter_any _ _ _ _ _ _ _ (H34.out.keep (by first | exact Ch.refl _ _ | exact (Ch.refl _ _).alloc _ | exact (Ch.refl _ _).drew | exact ((Ch.refl _ _).alloc _).alloc _ | exact ((Ch.refl _ _).alloc _).drew | exact (((Ch.refl _ _).alloc _).alloc _).alloc _ | exact (((Ch.refl _ _).alloc _).alloc _).drew | exact ((((Ch.refl _ _).alloc _).alloc _).alloc _).drew | exact ((((Ch.refl _ _).alloc _).alloc _).alloc _).alloc _ | exact (((((Ch.refl _ _).alloc _).alloc _).alloc _).alloc _).drew)) (Hu.out.keep (by first | exact Ch.refl _ _ | exact (Ch.refl _ _).alloc _ | exact (Ch.refl _ _).drew | exact ((Ch.refl _ _).alloc _).alloc _ | exact ((Ch.refl _ _).alloc _).drew | exact (((Ch.refl _ _).alloc _).alloc _).alloc _ | exact (((Ch.refl _ _).alloc _).alloc _).drew | exact ((((Ch.refl _ _).alloc _).alloc _).alloc _).drew | exact ((((Ch.refl _ _).alloc _).alloc _).alloc _).alloc _ | exact (((((Ch.refl _ _).alloc _).alloc _).alloc _).alloc _).drew))).mono ?_
  rintro e w6 ⟨vd, rfl, hV, hC⟩
  obtain ⟨Ld, hE⟩ : ∃ x, x = min L34 Lu := ⟨_, rfl⟩
  rw [← hE] at hV
  have Ed := Lib.hid hE
  clear hE
  obtain ⟨Ad, nd, cd, rfl⟩ := hV.shape
  have hCC : Ch S0 w5 w6 := Ch.trans (by first | exact Ch.refl _ _ | exact (Ch.refl _ _).alloc _ | exact (Ch.refl _ _).drew | exact ((Ch.refl _ _).alloc _).alloc _ | exact ((Ch.refl _ _).alloc _).drew | exact (((Ch.refl _ _).alloc _).alloc _).alloc _ | exact (((Ch.refl _ _).alloc _).alloc _).drew | exact ((((Ch.refl _ _).alloc _).alloc _).alloc _).drew | exact ((((Ch.refl _ _).alloc _).alloc _).alloc _).alloc _ | exact (((((Ch.refl _ _).alloc _).alloc _).alloc _).alloc _).drew) hC
  have HC6 := Lib.hid (HC5.out.trans hCC)
  clear HC5
  have Hx := Lib.hid (H32.out.keep hCC)
  clear H32
  have H32 := Hx
  clear Hx
  have Hx := Lib.hid (H34.out.keep hCC)
  clear H34
  have H34 := Hx
  clear Hx
  have Hx := Lib.hid (H36.out.keep hCC)
  clear H36
  have H36 := Hx
  clear Hx
  have Hx := Lib.hid (H38.out.keep hCC)
  clear H38
  have H38 := Hx
  clear Hx
  have Hx := Lib.hid (H40.out.keep hCC)
  clear H40
  have H40 := Hx
  clear Hx
  have Hx := Lib.hid (Hu.out.keep hCC)
  clear Hu
  have Hu := Hx
  clear Hx
  have Bx := Lib.hid (Bp1.out.keep hCC (fun h => h))
  clear Bp1
  have Bp1 := Bx
  clear Bx
  have Bx := Lib.hid (Bp2.out.keep hCC (fun h => h))
  clear Bp2
  have Bp2 := Bx
  clear Bx
  have Bx := Lib.hid (Bp3.out.keep hCC (fun h => h))
  clear Bp3
  have Bp3 := Bx
  clear Bx
  have Bx := Lib.hid (B10.out.keep hCC (fun h => h))
  clear B10
  have B10 := Bx
  clear Bx
  have Bx := Lib.hid (B11.out.keep hCC (fun h => h))
  clear B11
  have B11 := Bx
  clear Bx
  have Bx := Lib.hid (B12.out.keep hCC (fun h => h))
  clear B12
  have B12 := Bx
  clear Bx
  have B13 : Hid (Blk w6 (w5.heap.size) #[.int .u64 (Lu : Nat), .slice Au nu cu]) := Lib.hid (Blk.keep (S := S0) (by first | exact Blk.newAt _ _ (by simp) | exact (Blk.newAt _ _ (by simp)).alloc _ | exact ((Blk.newAt _ _ (by simp)).alloc _).alloc _ | exact (((Blk.newAt _ _ (by simp)).alloc _).alloc _).alloc _) hC (fun h => h))
  have Hd := Lib.hid (hV.mono (base' := 0) (Nat.zero_le _))
  clear hV
  clear hC hCC
  try clear xp10 xp11
  try clear xp1z
  have xp1z := Bp1.out.lt
  have xp10 := Bp1.out.cell 0
  have xp11 := Bp1.out.cell 1
  simp only [List.getElem?_toArray, List.getElem?_cons_zero, List.getElem?_cons_succ] at xp10 xp11
  try clear xp20 xp21
  try clear xp2z
  have xp2z := Bp2.out.lt
  have xp20 := Bp2.out.cell 0
  have xp21 := Bp2.out.cell 1
  simp only [List.getElem?_toArray, List.getElem?_cons_zero, List.getElem?_cons_succ] at xp20 xp21
  try clear xp30 xp31
  try clear xp3z
  have xp3z := Bp3.out.lt
  have xp30 := Bp3.out.cell 0
  have xp31 := Bp3.out.cell 1
  simp only [List.getElem?_toArray, List.getElem?_cons_zero, List.getElem?_cons_succ] at xp30 xp31
  try clear x100 x101
  try clear x10z
  have x10z := B10.out.lt
  have x100 := B10.out.cell 0
  have x101 := B10.out.cell 1
  simp only [List.getElem?_toArray, List.getElem?_cons_zero, List.getElem?_cons_succ] at x100 x101
  try clear x110 x111
  try clear x11z
  have x11z := B11.out.lt
  have x110 := B11.out.cell 0
  have x111 := B11.out.cell 1
  simp only [List.getElem?_toArray, List.getElem?_cons_zero, List.getElem?_cons_succ] at x110 x111
  try clear x120 x121
  try clear x12z
  have x12z := B12.out.lt
  have x120 := B12.out.cell 0
  have x121 := B12.out.cell 1
  simp only [List.getElem?_toArray, List.getElem?_cons_zero, List.getElem?_cons_succ] at x120 x121
  try clear x130 x131
  try clear x13z
  have x13z := B13.out.lt
  have x130 := B13.out.cell 0
  have x131 := B13.out.cell 1
  simp only [List.getElem?_toArray, List.getElem?_cons_zero, List.getElem?_cons_succ] at x130 x131
  go_wp2_with fail
  have B14 : Hid (Blk (w6.alloc (Obj.cells #[.int .u64 (Ld : Nat), .slice Ad nd cd] 25)) (w6.heap.size) #[.int .u64 (Ld : Nat), .slice Ad nd cd]) := Lib.hid (Blk.new _ _ _)
  have hCC : Ch S0 w6 (w6.alloc (Obj.cells #[.int .u64 (Ld : Nat), .slice Ad nd cd] 25)) := (Ch.refl _ _).alloc _
  have HC7 := Lib.hid (HC6.out.trans hCC)
  have Hx := Lib.hid (H32.out.keep hCC)
  clear H32
  have H32 := Hx
  clear Hx
  have Hx := Lib.hid (H34.out.keep hCC)
  clear H34
  have H34 := Hx
  clear Hx
  have Hx := Lib.hid (H36.out.keep hCC)
  clear H36
  have H36 := Hx
  clear Hx
  have Hx := Lib.hid (H38.out.keep hCC)
  clear H38
  have H38 := Hx
  clear Hx
  have Hx := Lib.hid (H40.out.keep hCC)
  clear H40
  have H40 := Hx
  clear Hx
  have Hx := Lib.hid (Hu.out.keep hCC)
  clear Hu
  have Hu := Hx
  clear Hx
  have Hx := Lib.hid (Hd.out.keep hCC)
  clear Hd
  have Hd := Hx
  clear Hx
  have Bx := Lib.hid (Bp1.out.keep hCC (fun h => h))
  clear Bp1
  have Bp1 := Bx
  clear Bx
  have Bx := Lib.hid (Bp2.out.keep hCC (fun h => h))
  clear Bp2
  have Bp2 := Bx
  clear Bx
  have Bx := Lib.hid (Bp3.out.keep hCC (fun h => h))
  clear Bp3
  have Bp3 := Bx
  clear Bx
  have Bx := Lib.hid (B10.out.keep hCC (fun h => h))
  clear B10
  have B10 := Bx
  clear Bx
  have Bx := Lib.hid (B11.out.keep hCC (fun h => h))
  clear B11
  have B11 := Bx
  clear Bx
  have Bx := Lib.hid (B12.out.keep hCC (fun h => h))
  clear B12
  have B12 := Bx
  clear Bx
  have Bx := Lib.hid (B13.out.keep hCC (fun h => h))
  clear B13
  have B13 := Bx
  clear Bx
  clear hCC HC6
  try clear xp10 xp11
  try clear xp20 xp21
  try clear xp30 xp31
  try clear x100 x101
  try clear x110 x111
  try clear x120 x121
  try clear x130 x131
  try clear xp1z
  try clear xp2z
  try clear xp3z
  try clear x10z
  try clear x11z
  try clear x12z
  try clear x13z
  generalize w6.alloc (Obj.cells #[.int .u64 (Ld : Nat), .slice Ad nd cd] 25) = w7 at *
  generalize w6.heap.size = b14 at *
  have xp10 := Bp1.out.cell 0
  have xp11 := Bp1.out.cell 1
  simp only [List.getElem?_toArray, List.getElem?_cons_zero, List.getElem?_cons_succ] at xp10 xp11
  have xp20 := Bp2.out.cell 0
  have xp21 := Bp2.out.cell 1
  simp only [List.getElem?_toArray, List.getElem?_cons_zero, List.getElem?_cons_succ] at xp20 xp21
  have xp30 := Bp3.out.cell 0
  have xp31 := Bp3.out.cell 1
  simp only [List.getElem?_toArray, List.getElem?_cons_zero, List.getElem?_cons_succ] at xp30 xp31
  have x100 := B10.out.cell 0
  have x101 := B10.out.cell 1
  simp only [List.getElem?_toArray, List.getElem?_cons_zero, List.getElem?_cons_succ] at x100 x101
  have x110 := B11.out.cell 0
  have x111 := B11.out.cell 1
  simp only [List.getElem?_toArray, List.getElem?_cons_zero, List.getElem?_cons_succ] at x110 x111
  have x120 := B12.out.cell 0
  have x121 := B12.out.cell 1
  simp only [List.getElem?_toArray, List.getElem?_cons_zero, List.getElem?_cons_succ] at x120 x121
  have x130 := B13.out.cell 0
  have x131 := B13.out.cell 1
  simp only [List.getElem?_toArray, List.getElem?_cons_zero, List.getElem?_cons_succ] at x130 x131
  have x140 := B14.out.cell 0
  have x141 := B14.out.cell 1
  simp only [List.getElem?_toArray, List.getElem?_cons_zero, List.getElem?_cons_succ] at x140 x141
  go_wp2_with fail
  go_region_held3 (fun w' => w'.cell? ⟨b10, 0, none⟩ = some (.int .u64 (L34 : Nat)) ∧ w'.cell? ⟨b10, 1, none⟩ = some (.slice A34 n34 c34) ∧ w'.cell? ⟨b11, 0, none⟩ = some (.int .u64 (L38 : Nat)) ∧ w'.cell? ⟨b11, 1, none⟩ = some (.slice A38 n38 c38) ∧ w'.cell? ⟨b12, 0, none⟩ = some (.int .u64 (L40 : Nat)) ∧ w'.cell? ⟨b12, 1, none⟩ = some (.slice A40 n40 c40) ∧ w'.cell? ⟨w5.heap.size, 0, none⟩ = some (.int .u64 (Lu : Nat)) ∧ w'.cell? ⟨w5.heap.size, 1, none⟩ = some (.slice Au nu cu) ∧ w'.cell? ⟨b14, 0, none⟩ = some (.int .u64 (Ld : Nat)) ∧ w'.cell? ⟨b14, 1, none⟩ = some (.slice Ad nd cd))
    (first | ((try dsimp only); (repeat' apply And.intro) <;> assumption) | (go_keep; done))
    (first
      | (go_at_call 21
         (with_reducible refine (bsinter_any _ _ _ _ _ _ _ (H34.out.keep (by first | exact Ch.refl _ _ | exact (Ch.refl _ _).alloc _ | exact (Ch.refl _ _).drew | exact ((Ch.refl _ _).alloc _).alloc _ | exact ((Ch.refl _ _).alloc _).drew | exact (((Ch.refl _ _).alloc _).alloc _).alloc _ | exact (((Ch.refl _ _).alloc _).alloc _).drew | exact ((((Ch.refl _ _).alloc _).alloc _).alloc _).drew | exact ((((Ch.refl _ _).alloc _).alloc _).alloc _).alloc _ | exact (((((Ch.refl _ _).alloc _).alloc _).alloc _).alloc _).drew)) (H38.out.keep (by first | exact Ch.refl _ _ | exact (Ch.refl _ _).alloc _ | exact (Ch.refl _ _).drew | exact ((Ch.refl _ _).alloc _).alloc _ | exact ((Ch.refl _ _).alloc _).drew | exact (((Ch.refl _ _).alloc _).alloc _).alloc _ | exact (((Ch.refl _ _).alloc _).alloc _).drew | exact ((((Ch.refl _ _).alloc _).alloc _).alloc _).drew | exact ((((Ch.refl _ _).alloc _).alloc _).alloc _).alloc _ | exact (((((Ch.refl _ _).alloc _).alloc _).alloc _).alloc _).drew))).mono ?_)
         rintro e w8 ⟨ve1, rfl, hV, hC⟩
         obtain ⟨Le1, hE⟩ : ∃ x, x = min L34 L38 := ⟨_, rfl⟩
         rw [← hE] at hV
         have Ee1 := Lib.hid hE
         clear hE
         obtain ⟨Ae1, ne1, ce1, rfl⟩ := hV.shape
         have hCC : Ch S0 w7 w8 := Ch.trans (by first | exact Ch.refl _ _ | exact (Ch.refl _ _).alloc _ | exact (Ch.refl _ _).drew | exact ((Ch.refl _ _).alloc _).alloc _ | exact ((Ch.refl _ _).alloc _).drew | exact (((Ch.refl _ _).alloc _).alloc _).alloc _ | exact (((Ch.refl _ _).alloc _).alloc _).drew | exact ((((Ch.refl _ _).alloc _).alloc _).alloc _).drew | exact ((((Ch.refl _ _).alloc _).alloc _).alloc _).alloc _ | exact (((((Ch.refl _ _).alloc _).alloc _).alloc _).alloc _).drew) hC
         have HC8 := Lib.hid (HC7.out.trans hCC)
         clear HC7
         have Hx := Lib.hid (H32.out.keep hCC)
         clear H32
         have H32 := Hx
         clear Hx
         have Hx := Lib.hid (H34.out.keep hCC)
         clear H34
         have H34 := Hx
         clear Hx
         have Hx := Lib.hid (H36.out.keep hCC)
         clear H36
         have H36 := Hx
         clear Hx
         have Hx := Lib.hid (H38.out.keep hCC)
         clear H38
         have H38 := Hx
         clear Hx
         have Hx := Lib.hid (H40.out.keep hCC)
         clear H40
         have H40 := Hx
         clear Hx
         have Hx := Lib.hid (Hu.out.keep hCC)
         clear Hu
         have Hu := Hx
         clear Hx
         have Hx := Lib.hid (Hd.out.keep hCC)
         clear Hd
         have Hd := Hx
         clear Hx
         have Bx := Lib.hid (Bp1.out.keep hCC (fun h => h))
         clear Bp1
         have Bp1 := Bx
         clear Bx
         have Bx := Lib.hid (Bp2.out.keep hCC (fun h => h))
         clear Bp2
         have Bp2 := Bx
         clear Bx
         have Bx := Lib.hid (Bp3.out.keep hCC (fun h => h))
         clear Bp3
         have Bp3 := Bx
         clear Bx
         have Bx := Lib.hid (B10.out.keep hCC (fun h => h))
         clear B10
         have B10 := Bx
         clear Bx
         have Bx := Lib.hid (B11.out.keep hCC (fun h => h))
         clear B11
         have B11 := Bx
         clear Bx
         have Bx := Lib.hid (B12.out.keep hCC (fun h => h))
         clear B12
         have B12 := Bx
         clear Bx
         have Bx := Lib.hid (B13.out.keep hCC (fun h => h))
         clear B13
         have B13 := Bx
         clear Bx
         have Bx := Lib.hid (B14.out.keep hCC (fun h => h))
         clear B14
         have B14 := Bx
         clear Bx
         have He1 := Lib.hid (hV.mono (base' := 0) (Nat.zero_le _))
         clear hV
         clear hC hCC
         try clear xp10 xp11
         try clear xp1z
         have xp1z := Bp1.out.lt
         have xp10 := Bp1.out.cell 0
         have xp11 := Bp1.out.cell 1
         simp only [List.getElem?_toArray, List.getElem?_cons_zero, List.getElem?_cons_succ] at xp10 xp11
         try clear xp20 xp21
         try clear xp2z
         have xp2z := Bp2.out.lt
         have xp20 := Bp2.out.cell 0
         have xp21 := Bp2.out.cell 1
         simp only [List.getElem?_toArray, List.getElem?_cons_zero, List.getElem?_cons_succ] at xp20 xp21
         try clear xp30 xp31
         try clear xp3z
         have xp3z := Bp3.out.lt
         have xp30 := Bp3.out.cell 0
         have xp31 := Bp3.out.cell 1
         simp only [List.getElem?_toArray, List.getElem?_cons_zero, List.getElem?_cons_succ] at xp30 xp31
         try clear x100 x101
         try clear x10z
         have x10z := B10.out.lt
         have x100 := B10.out.cell 0
         have x101 := B10.out.cell 1
         simp only [List.getElem?_toArray, List.getElem?_cons_zero, List.getElem?_cons_succ] at x100 x101
         try clear x110 x111
         try clear x11z
         have x11z := B11.out.lt
         have x110 := B11.out.cell 0
         have x111 := B11.out.cell 1
         simp only [List.getElem?_toArray, List.getElem?_cons_zero, List.getElem?_cons_succ] at x110 x111
         try clear x120 x121
         try clear x12z
         have x12z := B12.out.lt
         have x120 := B12.out.cell 0
         have x121 := B12.out.cell 1
         simp only [List.getElem?_toArray, List.getElem?_cons_zero, List.getElem?_cons_succ] at x120 x121
         try clear x130 x131
         try clear x13z
         have x13z := B13.out.lt
         have x130 := B13.out.cell 0
         have x131 := B13.out.cell 1
         simp only [List.getElem?_toArray, List.getElem?_cons_zero, List.getElem?_cons_succ] at x130 x131
         try clear x140 x141
         try clear x14z
         have x14z := B14.out.lt
         have x140 := B14.out.cell 0
         have x141 := B14.out.cell 1
         simp only [List.getElem?_toArray, List.getElem?_cons_zero, List.getElem?_cons_succ] at x140 x141)
      | (go_at_call 21
         (with_reducible refine (bsinter_any _ _ _ _ _ _ _ (H34.out.keep (by first | exact Ch.refl _ _ | exact (Ch.refl _ _).alloc _ | exact (Ch.refl _ _).drew | exact ((Ch.refl _ _).alloc _).alloc _ | exact ((Ch.refl _ _).alloc _).drew | exact (((Ch.refl _ _).alloc _).alloc _).alloc _ | exact (((Ch.refl _ _).alloc _).alloc _).drew | exact ((((Ch.refl _ _).alloc _).alloc _).alloc _).drew | exact ((((Ch.refl _ _).alloc _).alloc _).alloc _).alloc _ | exact (((((Ch.refl _ _).alloc _).alloc _).alloc _).alloc _).drew)) (H40.out.keep (by first | exact Ch.refl _ _ | exact (Ch.refl _ _).alloc _ | exact (Ch.refl _ _).drew | exact ((Ch.refl _ _).alloc _).alloc _ | exact ((Ch.refl _ _).alloc _).drew | exact (((Ch.refl _ _).alloc _).alloc _).alloc _ | exact (((Ch.refl _ _).alloc _).alloc _).drew | exact ((((Ch.refl _ _).alloc _).alloc _).alloc _).drew | exact ((((Ch.refl _ _).alloc _).alloc _).alloc _).alloc _ | exact (((((Ch.refl _ _).alloc _).alloc _).alloc _).alloc _).drew))).mono ?_)
         rintro e w9 ⟨ve2, rfl, hV, hC⟩
         obtain ⟨Le2, hE⟩ : ∃ x, x = min L34 L40 := ⟨_, rfl⟩
         rw [← hE] at hV
         have Ee2 := Lib.hid hE
         clear hE
         obtain ⟨Ae2, ne2, ce2, rfl⟩ := hV.shape
         have hCC : Ch S0 w8 w9 := Ch.trans (by first | exact Ch.refl _ _ | exact (Ch.refl _ _).alloc _ | exact (Ch.refl _ _).drew | exact ((Ch.refl _ _).alloc _).alloc _ | exact ((Ch.refl _ _).alloc _).drew | exact (((Ch.refl _ _).alloc _).alloc _).alloc _ | exact (((Ch.refl _ _).alloc _).alloc _).drew | exact ((((Ch.refl _ _).alloc _).alloc _).alloc _).drew | exact ((((Ch.refl _ _).alloc _).alloc _).alloc _).alloc _ | exact (((((Ch.refl _ _).alloc _).alloc _).alloc _).alloc _).drew) hC
         have HC9 := Lib.hid (HC8.out.trans hCC)
         clear HC8
         have Hx := Lib.hid (H32.out.keep hCC)
         clear H32
         have H32 := Hx
         clear Hx
         have Hx := Lib.hid (H34.out.keep hCC)
         clear H34
         have H34 := Hx
         clear Hx
         have Hx := Lib.hid (H36.out.keep hCC)
         clear H36
         have H36 := Hx
         clear Hx
         have Hx := Lib.hid (H38.out.keep hCC)
         clear H38
         have H38 := Hx
         clear Hx
         have Hx := Lib.hid (H40.out.keep hCC)
         clear H40
         have H40 := Hx
         clear Hx
         have Hx := Lib.hid (Hu.out.keep hCC)
         clear Hu
         have Hu := Hx
         clear Hx
         have Hx := Lib.hid (Hd.out.keep hCC)
         clear Hd
         have Hd := Hx
         clear Hx
         have Hx := Lib.hid (He1.out.keep hCC)
         clear He1
         have He1 := Hx
         clear Hx
         have Bx := Lib.hid (Bp1.out.keep hCC (fun h => h))
         clear Bp1
         have Bp1 := Bx
         clear Bx
         have Bx := Lib.hid (Bp2.out.keep hCC (fun h => h))
         clear Bp2
         have Bp2 := Bx
         clear Bx
         have Bx := Lib.hid (Bp3.out.keep hCC (fun h => h))
         clear Bp3
         have Bp3 := Bx
         clear Bx
         have Bx := Lib.hid (B10.out.keep hCC (fun h => h))
         clear B10
         have B10 := Bx
         clear Bx
         have Bx := Lib.hid (B11.out.keep hCC (fun h => h))
         clear B11
         have B11 := Bx
         clear Bx
         have Bx := Lib.hid (B12.out.keep hCC (fun h => h))
         clear B12
         have B12 := Bx
         clear Bx
         have Bx := Lib.hid (B13.out.keep hCC (fun h => h))
         clear B13
         have B13 := Bx
         clear Bx
         have Bx := Lib.hid (B14.out.keep hCC (fun h => h))
         clear B14
         have B14 := Bx
         clear Bx
         have He2 := Lib.hid (hV.mono (base' := 0) (Nat.zero_le _))
         clear hV
         clear hC hCC
         try clear xp10 xp11
         try clear xp1z
         have xp1z := Bp1.out.lt
         have xp10 := Bp1.out.cell 0
         have xp11 := Bp1.out.cell 1
         simp only [List.getElem?_toArray, List.getElem?_cons_zero, List.getElem?_cons_succ] at xp10 xp11
         try clear xp20 xp21
         try clear xp2z
         have xp2z := Bp2.out.lt
         have xp20 := Bp2.out.cell 0
         have xp21 := Bp2.out.cell 1
         simp only [List.getElem?_toArray, List.getElem?_cons_zero, List.getElem?_cons_succ] at xp20 xp21
         try clear xp30 xp31
         try clear xp3z
         have xp3z := Bp3.out.lt
         have xp30 := Bp3.out.cell 0
         have xp31 := Bp3.out.cell 1
         simp only [List.getElem?_toArray, List.getElem?_cons_zero, List.getElem?_cons_succ] at xp30 xp31
         try clear x100 x101
         try clear x10z
         have x10z := B10.out.lt
         have x100 := B10.out.cell 0
         have x101 := B10.out.cell 1
         simp only [List.getElem?_toArray, List.getElem?_cons_zero, List.getElem?_cons_succ] at x100 x101
         try clear x110 x111
         try clear x11z
         have x11z := B11.out.lt
         have x110 := B11.out.cell 0
         have x111 := B11.out.cell 1
         simp only [List.getElem?_toArray, List.getElem?_cons_zero, List.getElem?_cons_succ] at x110 x111
         try clear x120 x121
         try clear x12z
         have x12z := B12.out.lt
         have x120 := B12.out.cell 0
         have x121 := B12.out.cell 1
         simp only [List.getElem?_toArray, List.getElem?_cons_zero, List.getElem?_cons_succ] at x120 x121
         try clear x130 x131
         try clear x13z
         have x13z := B13.out.lt
         have x130 := B13.out.cell 0
         have x131 := B13.out.cell 1
         simp only [List.getElem?_toArray, List.getElem?_cons_zero, List.getElem?_cons_succ] at x130 x131
         try clear x140 x141
         try clear x14z
         have x14z := B14.out.lt
         have x140 := B14.out.cell 0
         have x141 := B14.out.cell 1
         simp only [List.getElem?_toArray, List.getElem?_cons_zero, List.getElem?_cons_succ] at x140 x141)
      | (go_at_call 18
         (with_reducible refine (bsunion_any _ _ _ _ _ _ _ (He1.out.keep (by first | exact Ch.refl _ _ | exact (Ch.refl _ _).alloc _ | exact (Ch.refl _ _).drew | exact ((Ch.refl _ _).alloc _).alloc _ | exact ((Ch.refl _ _).alloc _).drew | exact (((Ch.refl _ _).alloc _).alloc _).alloc _ | exact (((Ch.refl _ _).alloc _).alloc _).drew | exact ((((Ch.refl _ _).alloc _).alloc _).alloc _).drew | exact ((((Ch.refl _ _).alloc _).alloc _).alloc _).alloc _ | exact (((((Ch.refl _ _).alloc _).alloc _).alloc _).alloc _).drew)) (He2.out.keep (by first | exact Ch.refl _ _ | exact (Ch.refl _ _).alloc _ | exact (Ch.refl _ _).drew | exact ((Ch.refl _ _).alloc _).alloc _ | exact ((Ch.refl _ _).alloc _).drew | exact (((Ch.refl _ _).alloc _).alloc _).alloc _ | exact (((Ch.refl _ _).alloc _).alloc _).drew | exact ((((Ch.refl _ _).alloc _).alloc _).alloc _).drew | exact ((((Ch.refl _ _).alloc _).alloc _).alloc _).alloc _ | exact (((((Ch.refl _ _).alloc _).alloc _).alloc _).alloc _).drew))).mono ?_)
         rintro e w10 ⟨ve3, rfl, hV, hC⟩
         obtain ⟨Le3, hE⟩ : ∃ x, x = max Le1 Le2 := ⟨_, rfl⟩
         rw [← hE] at hV
         have Ee3 := Lib.hid hE
         clear hE
         obtain ⟨Ae3, ne3, ce3, rfl⟩ := hV.shape
         have hCC : Ch S0 w9 w10 := Ch.trans (by first | exact Ch.refl _ _ | exact (Ch.refl _ _).alloc _ | exact (Ch.refl _ _).drew | exact ((Ch.refl _ _).alloc _).alloc _ | exact ((Ch.refl _ _).alloc _).drew | exact (((Ch.refl _ _).alloc _).alloc _).alloc _ | exact (((Ch.refl _ _).alloc _).alloc _).drew | exact ((((Ch.refl _ _).alloc _).alloc _).alloc _).drew | exact ((((Ch.refl _ _).alloc _).alloc _).alloc _).alloc _ | exact (((((Ch.refl _ _).alloc _).alloc _).alloc _).alloc _).drew) hC
         have HC10 := Lib.hid (HC9.out.trans hCC)
         clear HC9
         have Hx := Lib.hid (H32.out.keep hCC)
         clear H32
         have H32 := Hx
         clear Hx
         have Hx := Lib.hid (H34.out.keep hCC)
         clear H34
         have H34 := Hx
         clear Hx
         have Hx := Lib.hid (H36.out.keep hCC)
         clear H36
         have H36 := Hx
         clear Hx
         have Hx := Lib.hid (H38.out.keep hCC)
         clear H38
         have H38 := Hx
         clear Hx
         have Hx := Lib.hid (H40.out.keep hCC)
         clear H40
         have H40 := Hx
         clear Hx
         have Hx := Lib.hid (Hu.out.keep hCC)
         clear Hu
         have Hu := Hx
         clear Hx
         have Hx := Lib.hid (Hd.out.keep hCC)
         clear Hd
         have Hd := Hx
         clear Hx
         have Hx := Lib.hid (He1.out.keep hCC)
         clear He1
         have He1 := Hx
         clear Hx
         have Hx := Lib.hid (He2.out.keep hCC)
         clear He2
         have He2 := Hx
         clear Hx
         have Bx := Lib.hid (Bp1.out.keep hCC (fun h => h))
         clear Bp1
         have Bp1 := Bx
         clear Bx
         have Bx := Lib.hid (Bp2.out.keep hCC (fun h => h))
         clear Bp2
         have Bp2 := Bx
         clear Bx
         have Bx := Lib.hid (Bp3.out.keep hCC (fun h => h))
         clear Bp3
         have Bp3 := Bx
         clear Bx
         have Bx := Lib.hid (B10.out.keep hCC (fun h => h))
         clear B10
         have B10 := Bx
         clear Bx
         have Bx := Lib.hid (B11.out.keep hCC (fun h => h))
         clear B11
         have B11 := Bx
         clear Bx
         have Bx := Lib.hid (B12.out.keep hCC (fun h => h))
         clear B12
         have B12 := Bx
         clear Bx
         have Bx := Lib.hid (B13.out.keep hCC (fun h => h))
         clear B13
         have B13 := Bx
         clear Bx
         have Bx := Lib.hid (B14.out.keep hCC (fun h => h))
         clear B14
         have B14 := Bx
         clear Bx
         have He3 := Lib.hid (hV.mono (base' := 0) (Nat.zero_le _))
         clear hV
         clear hC hCC
         try clear xp10 xp11
         try clear xp1z
         have xp1z := Bp1.out.lt
         have xp10 := Bp1.out.cell 0
         have xp11 := Bp1.out.cell 1
         simp only [List.getElem?_toArray, List.getElem?_cons_zero, List.getElem?_cons_succ] at xp10 xp11
         try clear xp20 xp21
         try clear xp2z
         have xp2z := Bp2.out.lt
         have xp20 := Bp2.out.cell 0
         have xp21 := Bp2.out.cell 1
         simp only [List.getElem?_toArray, List.getElem?_cons_zero, List.getElem?_cons_succ] at xp20 xp21
         try clear xp30 xp31
         try clear xp3z
         have xp3z := Bp3.out.lt
         have xp30 := Bp3.out.cell 0
         have xp31 := Bp3.out.cell 1
         simp only [List.getElem?_toArray, List.getElem?_cons_zero, List.getElem?_cons_succ] at xp30 xp31
         try clear x100 x101
         try clear x10z
         have x10z := B10.out.lt
         have x100 := B10.out.cell 0
         have x101 := B10.out.cell 1
         simp only [List.getElem?_toArray, List.getElem?_cons_zero, List.getElem?_cons_succ] at x100 x101
         try clear x110 x111
         try clear x11z
         have x11z := B11.out.lt
         have x110 := B11.out.cell 0
         have x111 := B11.out.cell 1
         simp only [List.getElem?_toArray, List.getElem?_cons_zero, List.getElem?_cons_succ] at x110 x111
         try clear x120 x121
         try clear x12z
         have x12z := B12.out.lt
         have x120 := B12.out.cell 0
         have x121 := B12.out.cell 1
         simp only [List.getElem?_toArray, List.getElem?_cons_zero, List.getElem?_cons_succ] at x120 x121
         try clear x130 x131
         try clear x13z
         have x13z := B13.out.lt
         have x130 := B13.out.cell 0
         have x131 := B13.out.cell 1
         simp only [List.getElem?_toArray, List.getElem?_cons_zero, List.getElem?_cons_succ] at x130 x131
         try clear x140 x141
         try clear x14z
         have x14z := B14.out.lt
         have x140 := B14.out.cell 0
         have x141 := B14.out.cell 1
         simp only [List.getElem?_toArray, List.getElem?_cons_zero, List.getElem?_cons_succ] at x140 x141)
      | (go_at_call 20
         (with_reducible refine (alike_true _ _ _ _ _ _ (Hd.out.keep (by first | exact Ch.refl _ _ | exact (Ch.refl _ _).alloc _ | exact (Ch.refl _ _).drew | exact ((Ch.refl _ _).alloc _).alloc _ | exact ((Ch.refl _ _).alloc _).drew | exact (((Ch.refl _ _).alloc _).alloc _).alloc _ | exact (((Ch.refl _ _).alloc _).alloc _).drew | exact ((((Ch.refl _ _).alloc _).alloc _).alloc _).drew | exact ((((Ch.refl _ _).alloc _).alloc _).alloc _).alloc _ | exact (((((Ch.refl _ _).alloc _).alloc _).alloc _).alloc _).drew)) ((He3.out.keep (by first | exact Ch.refl _ _ | exact (Ch.refl _ _).alloc _ | exact (Ch.refl _ _).drew | exact ((Ch.refl _ _).alloc _).alloc _ | exact ((Ch.refl _ _).alloc _).drew | exact (((Ch.refl _ _).alloc _).alloc _).alloc _ | exact (((Ch.refl _ _).alloc _).alloc _).drew | exact ((((Ch.refl _ _).alloc _).alloc _).alloc _).drew | exact ((((Ch.refl _ _).alloc _).alloc _).alloc _).alloc _ | exact (((((Ch.refl _ _).alloc _).alloc _).alloc _).alloc _).drew)).cast rfl (fun k => by cases g34 k <;> simp))).mono ?_)
         rintro e w11 ⟨rfl, hC⟩
         have hCC : Ch S0 w10 w11 := Ch.trans (by first | exact Ch.refl _ _ | exact (Ch.refl _ _).alloc _ | exact (Ch.refl _ _).drew | exact ((Ch.refl _ _).alloc _).alloc _ | exact ((Ch.refl _ _).alloc _).drew | exact (((Ch.refl _ _).alloc _).alloc _).alloc _ | exact (((Ch.refl _ _).alloc _).alloc _).drew | exact ((((Ch.refl _ _).alloc _).alloc _).alloc _).drew | exact ((((Ch.refl _ _).alloc _).alloc _).alloc _).alloc _ | exact (((((Ch.refl _ _).alloc _).alloc _).alloc _).alloc _).drew) hC
         have HC11 := Lib.hid (HC10.out.trans hCC)
         clear HC10
         have Hx := Lib.hid (H32.out.keep hCC)
         clear H32
         have H32 := Hx
         clear Hx
         have Hx := Lib.hid (H34.out.keep hCC)
         clear H34
         have H34 := Hx
         clear Hx
         have Hx := Lib.hid (H36.out.keep hCC)
         clear H36
         have H36 := Hx
         clear Hx
         have Hx := Lib.hid (H38.out.keep hCC)
         clear H38
         have H38 := Hx
         clear Hx
         have Hx := Lib.hid (H40.out.keep hCC)
         clear H40
         have H40 := Hx
         clear Hx
         have Hx := Lib.hid (Hu.out.keep hCC)
         clear Hu
         have Hu := Hx
         clear Hx
         have Hx := Lib.hid (Hd.out.keep hCC)
         clear Hd
         have Hd := Hx
         clear Hx
         have Hx := Lib.hid (He1.out.keep hCC)
         clear He1
         have He1 := Hx
         clear Hx
         have Hx := Lib.hid (He2.out.keep hCC)
         clear He2
         have He2 := Hx
         clear Hx
         have Hx := Lib.hid (He3.out.keep hCC)
         clear He3
         have He3 := Hx
         clear Hx
         have Bx := Lib.hid (Bp1.out.keep hCC (fun h => h))
         clear Bp1
         have Bp1 := Bx
         clear Bx
         have Bx := Lib.hid (Bp2.out.keep hCC (fun h => h))
         clear Bp2
         have Bp2 := Bx
         clear Bx
         have Bx := Lib.hid (Bp3.out.keep hCC (fun h => h))
         clear Bp3
         have Bp3 := Bx
         clear Bx
         have Bx := Lib.hid (B10.out.keep hCC (fun h => h))
         clear B10
         have B10 := Bx
         clear Bx
         have Bx := Lib.hid (B11.out.keep hCC (fun h => h))
         clear B11
         have B11 := Bx
         clear Bx
         have Bx := Lib.hid (B12.out.keep hCC (fun h => h))
         clear B12
         have B12 := Bx
         clear Bx
         have Bx := Lib.hid (B13.out.keep hCC (fun h => h))
         clear B13
         have B13 := Bx
         clear Bx
         have Bx := Lib.hid (B14.out.keep hCC (fun h => h))
         clear B14
         have B14 := Bx
         clear Bx
         clear hC hCC
         try clear xp10 xp11
         try clear xp1z
         have xp1z := Bp1.out.lt
         have xp10 := Bp1.out.cell 0
         have xp11 := Bp1.out.cell 1
         simp only [List.getElem?_toArray, List.getElem?_cons_zero, List.getElem?_cons_succ] at xp10 xp11
         try clear xp20 xp21
         try clear xp2z
         have xp2z := Bp2.out.lt
         have xp20 := Bp2.out.cell 0
         have xp21 := Bp2.out.cell 1
         simp only [List.getElem?_toArray, List.getElem?_cons_zero, List.getElem?_cons_succ] at xp20 xp21
         try clear xp30 xp31
         try clear xp3z
         have xp3z := Bp3.out.lt
         have xp30 := Bp3.out.cell 0
         have xp31 := Bp3.out.cell 1
         simp only [List.getElem?_toArray, List.getElem?_cons_zero, List.getElem?_cons_succ] at xp30 xp31
         try clear x100 x101
         try clear x10z
         have x10z := B10.out.lt
         have x100 := B10.out.cell 0
         have x101 := B10.out.cell 1
         simp only [List.getElem?_toArray, List.getElem?_cons_zero, List.getElem?_cons_succ] at x100 x101
         try clear x110 x111
         try clear x11z
         have x11z := B11.out.lt
         have x110 := B11.out.cell 0
         have x111 := B11.out.cell 1
         simp only [List.getElem?_toArray, List.getElem?_cons_zero, List.getElem?_cons_succ] at x110 x111
         try clear x120 x121
         try clear x12z
         have x12z := B12.out.lt
         have x120 := B12.out.cell 0
         have x121 := B12.out.cell 1
         simp only [List.getElem?_toArray, List.getElem?_cons_zero, List.getElem?_cons_succ] at x120 x121
         try clear x130 x131
         try clear x13z
         have x13z := B13.out.lt
         have x130 := B13.out.cell 0
         have x131 := B13.out.cell 1
         simp only [List.getElem?_toArray, List.getElem?_cons_zero, List.getElem?_cons_succ] at x130 x131
         try clear x140 x141
         try clear x14z
         have x14z := B14.out.lt
         have x140 := B14.out.cell 0
         have x141 := B14.out.cell 1
         simp only [List.getElem?_toArray, List.getElem?_cons_zero, List.getElem?_cons_succ] at x140 x141)
      | (go_at_call 22
         (with_reducible refine (bsdiff_any _ _ _ _ _ _ _ (H34.out.keep (by first | exact Ch.refl _ _ | exact (Ch.refl _ _).alloc _ | exact (Ch.refl _ _).drew | exact ((Ch.refl _ _).alloc _).alloc _ | exact ((Ch.refl _ _).alloc _).drew | exact (((Ch.refl _ _).alloc _).alloc _).alloc _ | exact (((Ch.refl _ _).alloc _).alloc _).drew | exact ((((Ch.refl _ _).alloc _).alloc _).alloc _).drew | exact ((((Ch.refl _ _).alloc _).alloc _).alloc _).alloc _ | exact (((((Ch.refl _ _).alloc _).alloc _).alloc _).alloc _).drew)) (Hu.out.keep (by first | exact Ch.refl _ _ | exact (Ch.refl _ _).alloc _ | exact (Ch.refl _ _).drew | exact ((Ch.refl _ _).alloc _).alloc _ | exact ((Ch.refl _ _).alloc _).drew | exact (((Ch.refl _ _).alloc _).alloc _).alloc _ | exact (((Ch.refl _ _).alloc _).alloc _).drew | exact ((((Ch.refl _ _).alloc _).alloc _).alloc _).drew | exact ((((Ch.refl _ _).alloc _).alloc _).alloc _).alloc _ | exact (((((Ch.refl _ _).alloc _).alloc _).alloc _).alloc _).drew))).mono ?_)
         rintro e w12 ⟨ve4, rfl, hV, hC⟩
         obtain ⟨Le4, hE⟩ : ∃ x, x = L34 := ⟨_, rfl⟩
         rw [← hE] at hV
         have Ee4 := Lib.hid hE
         clear hE
         obtain ⟨Ae4, ne4, ce4, rfl⟩ := hV.shape
         have hCC : Ch S0 w11 w12 := Ch.trans (by first | exact Ch.refl _ _ | exact (Ch.refl _ _).alloc _ | exact (Ch.refl _ _).drew | exact ((Ch.refl _ _).alloc _).alloc _ | exact ((Ch.refl _ _).alloc _).drew | exact (((Ch.refl _ _).alloc _).alloc _).alloc _ | exact (((Ch.refl _ _).alloc _).alloc _).drew | exact ((((Ch.refl _ _).alloc _).alloc _).alloc _).drew | exact ((((Ch.refl _ _).alloc _).alloc _).alloc _).alloc _ | exact (((((Ch.refl _ _).alloc _).alloc _).alloc _).alloc _).drew) hC
         have HC12 := Lib.hid (HC11.out.trans hCC)
         clear HC11
         have Hx := Lib.hid (H32.out.keep hCC)
         clear H32
         have H32 := Hx
         clear Hx
         have Hx := Lib.hid (H34.out.keep hCC)
         clear H34
         have H34 := Hx
         clear Hx
         have Hx := Lib.hid (H36.out.keep hCC)
         clear H36
         have H36 := Hx
         clear Hx
         have Hx := Lib.hid (H38.out.keep hCC)
         clear H38
         have H38 := Hx
         clear Hx
         have Hx := Lib.hid (H40.out.keep hCC)
         clear H40
         have H40 := Hx
         clear Hx
         have Hx := Lib.hid (Hu.out.keep hCC)
         clear Hu
         have Hu := Hx
         clear Hx
         have Hx := Lib.hid (Hd.out.keep hCC)
         clear Hd
         have Hd := Hx
         clear Hx
         have Hx := Lib.hid (He1.out.keep hCC)
         clear He1
         have He1 := Hx
         clear Hx
         have Hx := Lib.hid (He2.out.keep hCC)
         clear He2
         have He2 := Hx
         clear Hx
         have Hx := Lib.hid (He3.out.keep hCC)
         clear He3
         have He3 := Hx
         clear Hx
         have Bx := Lib.hid (Bp1.out.keep hCC (fun h => h))
         clear Bp1
         have Bp1 := Bx
         clear Bx
         have Bx := Lib.hid (Bp2.out.keep hCC (fun h => h))
         clear Bp2
         have Bp2 := Bx
         clear Bx
         have Bx := Lib.hid (Bp3.out.keep hCC (fun h => h))
         clear Bp3
         have Bp3 := Bx
         clear Bx
         have Bx := Lib.hid (B10.out.keep hCC (fun h => h))
         clear B10
         have B10 := Bx
         clear Bx
         have Bx := Lib.hid (B11.out.keep hCC (fun h => h))
         clear B11
         have B11 := Bx
         clear Bx
         have Bx := Lib.hid (B12.out.keep hCC (fun h => h))
         clear B12
         have B12 := Bx
         clear Bx
         have Bx := Lib.hid (B13.out.keep hCC (fun h => h))
         clear B13
         have B13 := Bx
         clear Bx
         have Bx := Lib.hid (B14.out.keep hCC (fun h => h))
         clear B14
         have B14 := Bx
         clear Bx
         have He4 := Lib.hid (hV.mono (base' := 0) (Nat.zero_le _))
         clear hV
         clear hC hCC
         try clear xp10 xp11
         try clear xp1z
         have xp1z := Bp1.out.lt
         have xp10 := Bp1.out.cell 0
         have xp11 := Bp1.out.cell 1
         simp only [List.getElem?_toArray, List.getElem?_cons_zero, List.getElem?_cons_succ] at xp10 xp11
         try clear xp20 xp21
         try clear xp2z
         have xp2z := Bp2.out.lt
         have xp20 := Bp2.out.cell 0
         have xp21 := Bp2.out.cell 1
         simp only [List.getElem?_toArray, List.getElem?_cons_zero, List.getElem?_cons_succ] at xp20 xp21
         try clear xp30 xp31
         try clear xp3z
         have xp3z := Bp3.out.lt
         have xp30 := Bp3.out.cell 0
         have xp31 := Bp3.out.cell 1
         simp only [List.getElem?_toArray, List.getElem?_cons_zero, List.getElem?_cons_succ] at xp30 xp31
         try clear x100 x101
         try clear x10z
         have x10z := B10.out.lt
         have x100 := B10.out.cell 0
         have x101 := B10.out.cell 1
         simp only [List.getElem?_toArray, List.getElem?_cons_zero, List.getElem?_cons_succ] at x100 x101
         try clear x110 x111
         try clear x11z
         have x11z := B11.out.lt
         have x110 := B11.out.cell 0
         have x111 := B11.out.cell 1
         simp only [List.getElem?_toArray, List.getElem?_cons_zero, List.getElem?_cons_succ] at x110 x111
         try clear x120 x121
         try clear x12z
         have x12z := B12.out.lt
         have x120 := B12.out.cell 0
         have x121 := B12.out.cell 1
         simp only [List.getElem?_toArray, List.getElem?_cons_zero, List.getElem?_cons_succ] at x120 x121
         try clear x130 x131
         try clear x13z
         have x13z := B13.out.lt
         have x130 := B13.out.cell 0
         have x131 := B13.out.cell 1
         simp only [List.getElem?_toArray, List.getElem?_cons_zero, List.getElem?_cons_succ] at x130 x131
         try clear x140 x141
         try clear x14z
         have x14z := B14.out.lt
         have x140 := B14.out.cell 0
         have x141 := B14.out.cell 1
         simp only [List.getElem?_toArray, List.getElem?_cons_zero, List.getElem?_cons_succ] at x140 x141)
      | (go_at_call 22
         (with_reducible refine (bsdiff_any _ _ _ _ _ _ _ (H34.out.keep (by first | exact Ch.refl _ _ | exact (Ch.refl _ _).alloc _ | exact (Ch.refl _ _).drew | exact ((Ch.refl _ _).alloc _).alloc _ | exact ((Ch.refl _ _).alloc _).drew | exact (((Ch.refl _ _).alloc _).alloc _).alloc _ | exact (((Ch.refl _ _).alloc _).alloc _).drew | exact ((((Ch.refl _ _).alloc _).alloc _).alloc _).drew | exact ((((Ch.refl _ _).alloc _).alloc _).alloc _).alloc _ | exact (((((Ch.refl _ _).alloc _).alloc _).alloc _).alloc _).drew)) (H38.out.keep (by first | exact Ch.refl _ _ | exact (Ch.refl _ _).alloc _ | exact (Ch.refl _ _).drew | exact ((Ch.refl _ _).alloc _).alloc _ | exact ((Ch.refl _ _).alloc _).drew | exact (((Ch.refl _ _).alloc _).alloc _).alloc _ | exact (((Ch.refl _ _).alloc _).alloc _).drew | exact ((((Ch.refl _ _).alloc _).alloc _).alloc _).drew | exact ((((Ch.refl _ _).alloc _).alloc _).alloc _).alloc _ | exact (((((Ch.refl _ _).alloc _).alloc _).alloc _).alloc _).drew))).mono ?_)
         rintro e w13 ⟨ve5, rfl, hV, hC⟩
         obtain ⟨Le5, hE⟩ : ∃ x, x = L34 := ⟨_, rfl⟩
         rw [← hE] at hV
         have Ee5 := Lib.hid hE
         clear hE
         obtain ⟨Ae5, ne5, ce5, rfl⟩ := hV.shape
         have hCC : Ch S0 w12 w13 := Ch.trans (by first | exact Ch.refl _ _ | exact (Ch.refl _ _).alloc _ | exact (Ch.refl _ _).drew | exact ((Ch.refl _ _).alloc _).alloc _ | exact ((Ch.refl _ _).alloc _).drew | exact (((Ch.refl _ _).alloc _).alloc _).alloc _ | exact (((Ch.refl _ _).alloc _).alloc _).drew | exact ((((Ch.refl _ _).alloc _).alloc _).alloc _).drew | exact ((((Ch.refl _ _).alloc _).alloc _).alloc _).alloc _ | exact (((((Ch.refl _ _).alloc _).alloc _).alloc _).alloc _).drew) hC
         have HC13 := Lib.hid (HC12.out.trans hCC)
         clear HC12
         have Hx := Lib.hid (H32.out.keep hCC)
         clear H32
         have H32 := Hx
         clear Hx
         have Hx := Lib.hid (H34.out.keep hCC)
         clear H34
         have H34 := Hx
         clear Hx
         have Hx := Lib.hid (H36.out.keep hCC)
         clear H36
         have H36 := Hx
         clear Hx
         have Hx := Lib.hid (H38.out.keep hCC)
         clear H38
         have H38 := Hx
         clear Hx
         have Hx := Lib.hid (H40.out.keep hCC)
         clear H40
         have H40 := Hx
         clear Hx
         have Hx := Lib.hid (Hu.out.keep hCC)
         clear Hu
         have Hu := Hx
         clear Hx
         have Hx := Lib.hid (Hd.out.keep hCC)
         clear Hd
         have Hd := Hx
         clear Hx
         have Hx := Lib.hid (He1.out.keep hCC)
         clear He1
         have He1 := Hx
         clear Hx
         have Hx := Lib.hid (He2.out.keep hCC)
         clear He2
         have He2 := Hx
         clear Hx
         have Hx := Lib.hid (He3.out.keep hCC)
         clear He3
         have He3 := Hx
         clear Hx
         have Hx := Lib.hid (He4.out.keep hCC)
         clear He4
         have He4 := Hx
         clear Hx
         have Bx := Lib.hid (Bp1.out.keep hCC (fun h => h))
         clear Bp1
         have Bp1 := Bx
         clear Bx
         have Bx := Lib.hid (Bp2.out.keep hCC (fun h => h))
         clear Bp2
         have Bp2 := Bx
         clear Bx
         have Bx := Lib.hid (Bp3.out.keep hCC (fun h => h))
         clear Bp3
         have Bp3 := Bx
         clear Bx
         have Bx := Lib.hid (B10.out.keep hCC (fun h => h))
         clear B10
         have B10 := Bx
         clear Bx
         have Bx := Lib.hid (B11.out.keep hCC (fun h => h))
         clear B11
         have B11 := Bx
         clear Bx
         have Bx := Lib.hid (B12.out.keep hCC (fun h => h))
         clear B12
         have B12 := Bx
         clear Bx
         have Bx := Lib.hid (B13.out.keep hCC (fun h => h))
         clear B13
         have B13 := Bx
         clear Bx
         have Bx := Lib.hid (B14.out.keep hCC (fun h => h))
         clear B14
         have B14 := Bx
         clear Bx
         have He5 := Lib.hid (hV.mono (base' := 0) (Nat.zero_le _))
         clear hV
         clear hC hCC
         try clear xp10 xp11
         try clear xp1z
         have xp1z := Bp1.out.lt
         have xp10 := Bp1.out.cell 0
         have xp11 := Bp1.out.cell 1
         simp only [List.getElem?_toArray, List.getElem?_cons_zero, List.getElem?_cons_succ] at xp10 xp11
         try clear xp20 xp21
         try clear xp2z
         have xp2z := Bp2.out.lt
         have xp20 := Bp2.out.cell 0
         have xp21 := Bp2.out.cell 1
         simp only [List.getElem?_toArray, List.getElem?_cons_zero, List.getElem?_cons_succ] at xp20 xp21
         try clear xp30 xp31
         try clear xp3z
         have xp3z := Bp3.out.lt
         have xp30 := Bp3.out.cell 0
         have xp31 := Bp3.out.cell 1
         simp only [List.getElem?_toArray, List.getElem?_cons_zero, List.getElem?_cons_succ] at xp30 xp31
         try clear x100 x101
         try clear x10z
         have x10z := B10.out.lt
         have x100 := B10.out.cell 0
         have x101 := B10.out.cell 1
         simp only [List.getElem?_toArray, List.getElem?_cons_zero, List.getElem?_cons_succ] at x100 x101
         try clear x110 x111
         try clear x11z
         have x11z := B11.out.lt
         have x110 := B11.out.cell 0
         have x111 := B11.out.cell 1
         simp only [List.getElem?_toArray, List.getElem?_cons_zero, List.getElem?_cons_succ] at x110 x111
         try clear x120 x121
         try clear x12z
         have x12z := B12.out.lt
         have x120 := B12.out.cell 0
         have x121 := B12.out.cell 1
         simp only [List.getElem?_toArray, List.getElem?_cons_zero, List.getElem?_cons_succ] at x120 x121
         try clear x130 x131
         try clear x13z
         have x13z := B13.out.lt
         have x130 := B13.out.cell 0
         have x131 := B13.out.cell 1
         simp only [List.getElem?_toArray, List.getElem?_cons_zero, List.getElem?_cons_succ] at x130 x131
         try clear x140 x141
         try clear x14z
         have x14z := B14.out.lt
         have x140 := B14.out.cell 0
         have x141 := B14.out.cell 1
         simp only [List.getElem?_toArray, List.getElem?_cons_zero, List.getElem?_cons_succ] at x140 x141)
      | (go_at_call 22
         (with_reducible refine (bsdiff_any _ _ _ _ _ _ _ (He5.out.keep (by first | exact Ch.refl _ _ | exact (Ch.refl _ _).alloc _ | exact (Ch.refl _ _).drew | exact ((Ch.refl _ _).alloc _).alloc _ | exact ((Ch.refl _ _).alloc _).drew | exact (((Ch.refl _ _).alloc _).alloc _).alloc _ | exact (((Ch.refl _ _).alloc _).alloc _).drew | exact ((((Ch.refl _ _).alloc _).alloc _).alloc _).drew | exact ((((Ch.refl _ _).alloc _).alloc _).alloc _).alloc _ | exact (((((Ch.refl _ _).alloc _).alloc _).alloc _).alloc _).drew)) (H40.out.keep (by first | exact Ch.refl _ _ | exact (Ch.refl _ _).alloc _ | exact (Ch.refl _ _).drew | exact ((Ch.refl _ _).alloc _).alloc _ | exact ((Ch.refl _ _).alloc _).drew | exact (((Ch.refl _ _).alloc _).alloc _).alloc _ | exact (((Ch.refl _ _).alloc _).alloc _).drew | exact ((((Ch.refl _ _).alloc _).alloc _).alloc _).drew | exact ((((Ch.refl _ _).alloc _).alloc _).alloc _).alloc _ | exact (((((Ch.refl _ _).alloc _).alloc _).alloc _).alloc _).drew))).mono ?_)
         rintro e w14 ⟨ve6, rfl, hV, hC⟩
         obtain ⟨Le6, hE⟩ : ∃ x, x = Le5 := ⟨_, rfl⟩
         rw [← hE] at hV
         have Ee6 := Lib.hid hE
         clear hE
         obtain ⟨Ae6, ne6, ce6, rfl⟩ := hV.shape
         have hCC : Ch S0 w13 w14 := Ch.trans (by first | exact Ch.refl _ _ | exact (Ch.refl _ _).alloc _ | exact (Ch.refl _ _).drew | exact ((Ch.refl _ _).alloc _).alloc _ | exact ((Ch.refl _ _).alloc _).drew | exact (((Ch.refl _ _).alloc _).alloc _).alloc _ | exact (((Ch.refl _ _).alloc _).alloc _).drew | exact ((((Ch.refl _ _).alloc _).alloc _).alloc _).drew | exact ((((Ch.refl _ _).alloc _).alloc _).alloc _).alloc _ | exact (((((Ch.refl _ _).alloc _).alloc _).alloc _).alloc _).drew) hC
         have HC14 := Lib.hid (HC13.out.trans hCC)
         clear HC13
         have Hx := Lib.hid (H32.out.keep hCC)
         clear H32
         have H32 := Hx
         clear Hx
         have Hx := Lib.hid (H34.out.keep hCC)
         clear H34
         have H34 := Hx
         clear Hx
         have Hx := Lib.hid (H36.out.keep hCC)
         clear H36
         have H36 := Hx
         clear Hx
         have Hx := Lib.hid (H38.out.keep hCC)
         clear H38
         have H38 := Hx
         clear Hx
         have Hx := Lib.hid (H40.out.keep hCC)
         clear H40
         have H40 := Hx
         clear Hx
         have Hx := Lib.hid (Hu.out.keep hCC)
         clear Hu
         have Hu := Hx
         clear Hx
         have Hx := Lib.hid (Hd.out.keep hCC)
         clear Hd
         have Hd := Hx
         clear Hx
         have Hx := Lib.hid (He1.out.keep hCC)
         clear He1
         have He1 := Hx
         clear Hx
         have Hx := Lib.hid (He2.out.keep hCC)
         clear He2
         have He2 := Hx
         clear Hx
         have Hx := Lib.hid (He3.out.keep hCC)
         clear He3
         have He3 := Hx
         clear Hx
         have Hx := Lib.hid (He4.out.keep hCC)
         clear He4
         have He4 := Hx
         clear Hx
         have Hx := Lib.hid (He5.out.keep hCC)
         clear He5
         have He5 := Hx
         clear Hx
         have Bx := Lib.hid (Bp1.out.keep hCC (fun h => h))
         clear Bp1
         have Bp1 := Bx
         clear Bx
         have Bx := Lib.hid (Bp2.out.keep hCC (fun h => h))
         clear Bp2
         have Bp2 := Bx
         clear Bx
         have Bx := Lib.hid (Bp3.out.keep hCC (fun h => h))
         clear Bp3
         have Bp3 := Bx
         clear Bx
         have Bx := Lib.hid (B10.out.keep hCC (fun h => h))
         clear B10
         have B10 := Bx
         clear Bx
         have Bx := Lib.hid (B11.out.keep hCC (fun h => h))
         clear B11
         have B11 := Bx
         clear Bx
         have Bx := Lib.hid (B12.out.keep hCC (fun h => h))
         clear B12
         have B12 := Bx
         clear Bx
         have Bx := Lib.hid (B13.out.keep hCC (fun h => h))
         clear B13
         have B13 := Bx
         clear Bx
         have Bx := Lib.hid (B14.out.keep hCC (fun h => h))
         clear B14
         have B14 := Bx
         clear Bx
         have He6 := Lib.hid (hV.mono (base' := 0) (Nat.zero_le _))
         clear hV
         clear hC hCC
         try clear xp10 xp11
         try clear xp1z
         have xp1z := Bp1.out.lt
         have xp10 := Bp1.out.cell 0
         have xp11 := Bp1.out.cell 1
         simp only [List.getElem?_toArray, List.getElem?_cons_zero, List.getElem?_cons_succ] at xp10 xp11
         try clear xp20 xp21
         try clear xp2z
         have xp2z := Bp2.out.lt
         have xp20 := Bp2.out.cell 0
         have xp21 := Bp2.out.cell 1
         simp only [List.getElem?_toArray, List.getElem?_cons_zero, List.getElem?_cons_succ] at xp20 xp21
         try clear xp30 xp31
         try clear xp3z
         have xp3z := Bp3.out.lt
         have xp30 := Bp3.out.cell 0
         have xp31 := Bp3.out.cell 1
         simp only [List.getElem?_toArray, List.getElem?_cons_zero, List.getElem?_cons_succ] at xp30 xp31
         try clear x100 x101
         try clear x10z
         have x10z := B10.out.lt
         have x100 := B10.out.cell 0
         have x101 := B10.out.cell 1
         simp only [List.getElem?_toArray, List.getElem?_cons_zero, List.getElem?_cons_succ] at x100 x101
         try clear x110 x111
         try clear x11z
         have x11z := B11.out.lt
         have x110 := B11.out.cell 0
         have x111 := B11.out.cell 1
         simp only [List.getElem?_toArray, List.getElem?_cons_zero, List.getElem?_cons_succ] at x110 x111
         try clear x120 x121
         try clear x12z
         have x12z := B12.out.lt
         have x120 := B12.out.cell 0
         have x121 := B12.out.cell 1
         simp only [List.getElem?_toArray, List.getElem?_cons_zero, List.getElem?_cons_succ] at x120 x121
         try clear x130 x131
         try clear x13z
         have x13z := B13.out.lt
         have x130 := B13.out.cell 0
         have x131 := B13.out.cell 1
         simp only [List.getElem?_toArray, List.getElem?_cons_zero, List.getElem?_cons_succ] at x130 x131
         try clear x140 x141
         try clear x14z
         have x14z := B14.out.lt
         have x140 := B14.out.cell 0
         have x141 := B14.out.cell 1
         simp only [List.getElem?_toArray, List.getElem?_cons_zero, List.getElem?_cons_succ] at x140 x141)
      | (go_at_call 20
         (with_reducible refine (alike_true _ _ _ _ _ _ (He4.out.keep (by first | exact Ch.refl _ _ | exact (Ch.refl _ _).alloc _ | exact (Ch.refl _ _).drew | exact ((Ch.refl _ _).alloc _).alloc _ | exact ((Ch.refl _ _).alloc _).drew | exact (((Ch.refl _ _).alloc _).alloc _).alloc _ | exact (((Ch.refl _ _).alloc _).alloc _).drew | exact ((((Ch.refl _ _).alloc _).alloc _).alloc _).drew | exact ((((Ch.refl _ _).alloc _).alloc _).alloc _).alloc _ | exact (((((Ch.refl _ _).alloc _).alloc _).alloc _).alloc _).drew)) ((He6.out.keep (by first | exact Ch.refl _ _ | exact (Ch.refl _ _).alloc _ | exact (Ch.refl _ _).drew | exact ((Ch.refl _ _).alloc _).alloc _ | exact ((Ch.refl _ _).alloc _).drew | exact (((Ch.refl _ _).alloc _).alloc _).alloc _ | exact (((Ch.refl _ _).alloc _).alloc _).drew | exact ((((Ch.refl _ _).alloc _).alloc _).alloc _).drew | exact ((((Ch.refl _ _).alloc _).alloc _).alloc _).alloc _ | exact (((((Ch.refl _ _).alloc _).alloc _).alloc _).alloc _).drew)).cast rfl (fun k => by cases g34 k <;> cases g38 k <;> simp))).mono ?_)
         rintro e w15 ⟨rfl, hC⟩
         have hCC : Ch S0 w14 w15 := Ch.trans (by first | exact Ch.refl _ _ | exact (Ch.refl _ _).alloc _ | exact (Ch.refl _ _).drew | exact ((Ch.refl _ _).alloc _).alloc _ | exact ((Ch.refl _ _).alloc _).drew | exact (((Ch.refl _ _).alloc _).alloc _).alloc _ | exact (((Ch.refl _ _).alloc _).alloc _).drew | exact ((((Ch.refl _ _).alloc _).alloc _).alloc _).drew | exact ((((Ch.refl _ _).alloc _).alloc _).alloc _).alloc _ | exact (((((Ch.refl _ _).alloc _).alloc _).alloc _).alloc _).drew) hC
         have HC15 := Lib.hid (HC14.out.trans hCC)
         clear HC14
         have Hx := Lib.hid (H32.out.keep hCC)
         clear H32
         have H32 := Hx
         clear Hx
         have Hx := Lib.hid (H34.out.keep hCC)
         clear H34
         have H34 := Hx
         clear Hx
         have Hx := Lib.hid (H36.out.keep hCC)
         clear H36
         have H36 := Hx
         clear Hx
         have Hx := Lib.hid (H38.out.keep hCC)
         clear H38
         have H38 := Hx
         clear Hx
         have Hx := Lib.hid (H40.out.keep hCC)
         clear H40
         have H40 := Hx
         clear Hx
         have Hx := Lib.hid (Hu.out.keep hCC)
         clear Hu
         have Hu := Hx
         clear Hx
         have Hx := Lib.hid (Hd.out.keep hCC)
         clear Hd
         have Hd := Hx
         clear Hx
         have Hx := Lib.hid (He1.out.keep hCC)
         clear He1
         have He1 := Hx
         clear Hx
         have Hx := Lib.hid (He2.out.keep hCC)
         clear He2
         have He2 := Hx
         clear Hx
         have Hx := Lib.hid (He3.out.keep hCC)
         clear He3
         have He3 := Hx
         clear Hx
         have Hx := Lib.hid (He4.out.keep hCC)
         clear He4
         have He4 := Hx
         clear Hx
         have Hx := Lib.hid (He5.out.keep hCC)
         clear He5
         have He5 := Hx
         clear Hx
         have Hx := Lib.hid (He6.out.keep hCC)
         clear He6
         have He6 := Hx
         clear Hx
         have Bx := Lib.hid (Bp1.out.keep hCC (fun h => h))
         clear Bp1
         have Bp1 := Bx
         clear Bx
         have Bx := Lib.hid (Bp2.out.keep hCC (fun h => h))
         clear Bp2
         have Bp2 := Bx
         clear Bx
         have Bx := Lib.hid (Bp3.out.keep hCC (fun h => h))
         clear Bp3
         have Bp3 := Bx
         clear Bx
         have Bx := Lib.hid (B10.out.keep hCC (fun h => h))
         clear B10
         have B10 := Bx
         clear Bx
         have Bx := Lib.hid (B11.out.keep hCC (fun h => h))
         clear B11
         have B11 := Bx
         clear Bx
         have Bx := Lib.hid (B12.out.keep hCC (fun h => h))
         clear B12
         have B12 := Bx
         clear Bx
         have Bx := Lib.hid (B13.out.keep hCC (fun h => h))
         clear B13
         have B13 := Bx
         clear Bx
         have Bx := Lib.hid (B14.out.keep hCC (fun h => h))
         clear B14
         have B14 := Bx
         clear Bx
         clear hC hCC
         try clear xp10 xp11
         try clear xp1z
         have xp1z := Bp1.out.lt
         have xp10 := Bp1.out.cell 0
         have xp11 := Bp1.out.cell 1
         simp only [List.getElem?_toArray, List.getElem?_cons_zero, List.getElem?_cons_succ] at xp10 xp11
         try clear xp20 xp21
         try clear xp2z
         have xp2z := Bp2.out.lt
         have xp20 := Bp2.out.cell 0
         have xp21 := Bp2.out.cell 1
         simp only [List.getElem?_toArray, List.getElem?_cons_zero, List.getElem?_cons_succ] at xp20 xp21
         try clear xp30 xp31
         try clear xp3z
         have xp3z := Bp3.out.lt
         have xp30 := Bp3.out.cell 0
         have xp31 := Bp3.out.cell 1
         simp only [List.getElem?_toArray, List.getElem?_cons_zero, List.getElem?_cons_succ] at xp30 xp31
         try clear x100 x101
         try clear x10z
         have x10z := B10.out.lt
         have x100 := B10.out.cell 0
         have x101 := B10.out.cell 1
         simp only [List.getElem?_toArray, List.getElem?_cons_zero, List.getElem?_cons_succ] at x100 x101
         try clear x110 x111
         try clear x11z
         have x11z := B11.out.lt
         have x110 := B11.out.cell 0
         have x111 := B11.out.cell 1
         simp only [List.getElem?_toArray, List.getElem?_cons_zero, List.getElem?_cons_succ] at x110 x111
         try clear x120 x121
         try clear x12z
         have x12z := B12.out.lt
         have x120 := B12.out.cell 0
         have x121 := B12.out.cell 1
         simp only [List.getElem?_toArray, List.getElem?_cons_zero, List.getElem?_cons_succ] at x120 x121
         try clear x130 x131
         try clear x13z
         have x13z := B13.out.lt
         have x130 := B13.out.cell 0
         have x131 := B13.out.cell 1
         simp only [List.getElem?_toArray, List.getElem?_cons_zero, List.getElem?_cons_succ] at x130 x131
         try clear x140 x141
         try clear x14z
         have x14z := B14.out.lt
         have x140 := B14.out.cell 0
         have x141 := B14.out.cell 1
         simp only [List.getElem?_toArray, List.getElem?_cons_zero, List.getElem?_cons_succ] at x140 x141)
      | (go_at_call 17
         (with_reducible refine (bstest_true _ _ _ _ (Hd.out.keep (by first | exact Ch.refl _ _ | exact (Ch.refl _ _).alloc _ | exact (Ch.refl _ _).drew | exact ((Ch.refl _ _).alloc _).alloc _ | exact ((Ch.refl _ _).alloc _).drew | exact (((Ch.refl _ _).alloc _).alloc _).alloc _ | exact (((Ch.refl _ _).alloc _).alloc _).drew | exact ((((Ch.refl _ _).alloc _).alloc _).alloc _).drew | exact ((((Ch.refl _ _).alloc _).alloc _).alloc _).alloc _ | exact (((((Ch.refl _ _).alloc _).alloc _).alloc _).alloc _).drew)) (u1 % 400) _ (by omega) (by simp only [(by obtain ⟨_, g0, e⟩ := HR34.out; rw [e]; simp [Bit.put] : g34 (u1 % 400) = true), (by obtain ⟨_, g0, e⟩ := HR38.out; rw [e]; simp [Bit.put] : g38 (u1 % 400) = true), Bool.true_or, Bool.and_self])).mono ?_)
         rintro e w16 ⟨rfl, hC⟩
         have hCC : Ch S0 w15 w16 := Ch.trans (by first | exact Ch.refl _ _ | exact (Ch.refl _ _).alloc _ | exact (Ch.refl _ _).drew | exact ((Ch.refl _ _).alloc _).alloc _ | exact ((Ch.refl _ _).alloc _).drew | exact (((Ch.refl _ _).alloc _).alloc _).alloc _ | exact (((Ch.refl _ _).alloc _).alloc _).drew | exact ((((Ch.refl _ _).alloc _).alloc _).alloc _).drew | exact ((((Ch.refl _ _).alloc _).alloc _).alloc _).alloc _ | exact (((((Ch.refl _ _).alloc _).alloc _).alloc _).alloc _).drew) hC
         have HC16 := Lib.hid (HC15.out.trans hCC)
         clear HC15
         have Hx := Lib.hid (H32.out.keep hCC)
         clear H32
         have H32 := Hx
         clear Hx
         have Hx := Lib.hid (H34.out.keep hCC)
         clear H34
         have H34 := Hx
         clear Hx
         have Hx := Lib.hid (H36.out.keep hCC)
         clear H36
         have H36 := Hx
         clear Hx
         have Hx := Lib.hid (H38.out.keep hCC)
         clear H38
         have H38 := Hx
         clear Hx
         have Hx := Lib.hid (H40.out.keep hCC)
         clear H40
         have H40 := Hx
         clear Hx
         have Hx := Lib.hid (Hu.out.keep hCC)
         clear Hu
         have Hu := Hx
         clear Hx
         have Hx := Lib.hid (Hd.out.keep hCC)
         clear Hd
         have Hd := Hx
         clear Hx
         have Hx := Lib.hid (He1.out.keep hCC)
         clear He1
         have He1 := Hx
         clear Hx
         have Hx := Lib.hid (He2.out.keep hCC)
         clear He2
         have He2 := Hx
         clear Hx
         have Hx := Lib.hid (He3.out.keep hCC)
         clear He3
         have He3 := Hx
         clear Hx
         have Hx := Lib.hid (He4.out.keep hCC)
         clear He4
         have He4 := Hx
         clear Hx
         have Hx := Lib.hid (He5.out.keep hCC)
         clear He5
         have He5 := Hx
         clear Hx
         have Hx := Lib.hid (He6.out.keep hCC)
         clear He6
         have He6 := Hx
         clear Hx
         have Bx := Lib.hid (Bp1.out.keep hCC (fun h => h))
         clear Bp1
         have Bp1 := Bx
         clear Bx
         have Bx := Lib.hid (Bp2.out.keep hCC (fun h => h))
         clear Bp2
         have Bp2 := Bx
         clear Bx
         have Bx := Lib.hid (Bp3.out.keep hCC (fun h => h))
         clear Bp3
         have Bp3 := Bx
         clear Bx
         have Bx := Lib.hid (B10.out.keep hCC (fun h => h))
         clear B10
         have B10 := Bx
         clear Bx
         have Bx := Lib.hid (B11.out.keep hCC (fun h => h))
         clear B11
         have B11 := Bx
         clear Bx
         have Bx := Lib.hid (B12.out.keep hCC (fun h => h))
         clear B12
         have B12 := Bx
         clear Bx
         have Bx := Lib.hid (B13.out.keep hCC (fun h => h))
         clear B13
         have B13 := Bx
         clear Bx
         have Bx := Lib.hid (B14.out.keep hCC (fun h => h))
         clear B14
         have B14 := Bx
         clear Bx
         clear hC hCC
         try clear xp10 xp11
         try clear xp1z
         have xp1z := Bp1.out.lt
         have xp10 := Bp1.out.cell 0
         have xp11 := Bp1.out.cell 1
         simp only [List.getElem?_toArray, List.getElem?_cons_zero, List.getElem?_cons_succ] at xp10 xp11
         try clear xp20 xp21
         try clear xp2z
         have xp2z := Bp2.out.lt
         have xp20 := Bp2.out.cell 0
         have xp21 := Bp2.out.cell 1
         simp only [List.getElem?_toArray, List.getElem?_cons_zero, List.getElem?_cons_succ] at xp20 xp21
         try clear xp30 xp31
         try clear xp3z
         have xp3z := Bp3.out.lt
         have xp30 := Bp3.out.cell 0
         have xp31 := Bp3.out.cell 1
         simp only [List.getElem?_toArray, List.getElem?_cons_zero, List.getElem?_cons_succ] at xp30 xp31
         try clear x100 x101
         try clear x10z
         have x10z := B10.out.lt
         have x100 := B10.out.cell 0
         have x101 := B10.out.cell 1
         simp only [List.getElem?_toArray, List.getElem?_cons_zero, List.getElem?_cons_succ] at x100 x101
         try clear x110 x111
         try clear x11z
         have x11z := B11.out.lt
         have x110 := B11.out.cell 0
         have x111 := B11.out.cell 1
         simp only [List.getElem?_toArray, List.getElem?_cons_zero, List.getElem?_cons_succ] at x110 x111
         try clear x120 x121
         try clear x12z
         have x12z := B12.out.lt
         have x120 := B12.out.cell 0
         have x121 := B12.out.cell 1
         simp only [List.getElem?_toArray, List.getElem?_cons_zero, List.getElem?_cons_succ] at x120 x121
         try clear x130 x131
         try clear x13z
         have x13z := B13.out.lt
         have x130 := B13.out.cell 0
         have x131 := B13.out.cell 1
         simp only [List.getElem?_toArray, List.getElem?_cons_zero, List.getElem?_cons_succ] at x130 x131
         try clear x140 x141
         try clear x14z
         have x14z := B14.out.lt
         have x140 := B14.out.cell 0
         have x141 := B14.out.cell 1
         simp only [List.getElem?_toArray, List.getElem?_cons_zero, List.getElem?_cons_succ] at x140 x141))
  go_wp2
  go_ret
  exact ⟨rfl, HC16.out⟩

end Go.Proofs.Ytgnhmgnpmbmjcaa
