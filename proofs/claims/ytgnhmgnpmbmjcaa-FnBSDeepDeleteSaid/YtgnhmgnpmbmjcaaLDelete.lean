/- THE WALK of FnBSDeepDelete. -/
import Derived.Test.YtgnhmgnpmbmjcaaWr
import Derived.Test.YtgnhmgnpmbmjcaaWj
namespace Go.Proofs.Ytgnhmgnpmbmjcaa
open Go.RowKit

set_option maxRecDepth 100000 in
set_option maxHeartbeats 4000000 in
theorem delete_small (l1 : Nat) (P1 : Option Addr) (m1 r1 : Nat) (xs1 : List Nat) (u1 : Nat) (u2 : Nat) (w : World) (hl1 : Lst 0 w (.slice P1 m1 r1) xs1) (hx1 : ∀ j (hj : j < xs1.length), xs1[j] < 18446744073709551616) (hn1 : xs1.length = m1) (hm1 : m1 ≤ 2147483647) (hu1 : u1 < 65536) (hu2 : u2 < 65536) :
    Calls Try.prog 8 #[.agg #[.int .u64 l1, .slice P1 m1 r1], .int .u16 u1, .int .u16 u2] w fun e w' => e = .returned (.bool true) ∧ Ch S0 w w' := by
  have HX1 := Lib.hid hx1
  have LX1 := Lib.hid hn1
  have IX1 := Lib.hid hl1
  have HC0 := Lib.hid (Ch.refl S0 w)
  clear hx1 hn1 hl1
  go_enter Try.func8, Try.ntmps8
  go_wp2_with fail
  refine (fits_yes l1 m1 r1 P1 _ hm1).mono ?_
  rintro e w1 ⟨rfl, hC⟩
  have hCC : Ch S0 w w1 := Ch.trans (by first | exact Ch.refl _ _ | exact (Ch.refl _ _).alloc _ | exact (Ch.refl _ _).drew | exact ((Ch.refl _ _).alloc _).alloc _ | exact ((Ch.refl _ _).alloc _).drew | exact (((Ch.refl _ _).alloc _).alloc _).alloc _ | exact (((Ch.refl _ _).alloc _).alloc _).drew | exact ((((Ch.refl _ _).alloc _).alloc _).alloc _).drew | exact ((((Ch.refl _ _).alloc _).alloc _).alloc _).alloc _ | exact (((((Ch.refl _ _).alloc _).alloc _).alloc _).alloc _).drew) hC
  have HC1 := Lib.hid (HC0.out.trans hCC)
  clear HC0
  have Bp1 : Hid (Blk w1 (w.heap.size) #[.int .u64 (l1 : Nat), .slice P1 m1 r1]) := Lib.hid (Blk.keep (S := S0) (by first | exact Blk.newAt _ _ (by simp) | exact (Blk.newAt _ _ (by simp)).alloc _ | exact ((Blk.newAt _ _ (by simp)).alloc _).alloc _ | exact (((Blk.newAt _ _ (by simp)).alloc _).alloc _).alloc _) hC (fun h => h))
  clear hC hCC
  try clear xp10 xp11
  try clear xp1z
  have xp1z := Bp1.out.lt
  have xp10 := Bp1.out.cell 0
  have xp11 := Bp1.out.cell 1
  simp only [List.getElem?_toArray, List.getElem?_cons_zero, List.getElem?_cons_succ] at xp10 xp11
  go_wp2_with fail
  refine (bits_any l1 _ xs1 _ (IX1.out.keep (HC1.out.trans (by first | exact Ch.refl _ _ | exact (Ch.refl _ _).alloc _ | exact (Ch.refl _ _).drew | exact ((Ch.refl _ _).alloc _).alloc _ | exact ((Ch.refl _ _).alloc _).drew | exact (((Ch.refl _ _).alloc _).alloc _).alloc _ | exact (((Ch.refl _ _).alloc _).alloc _).drew | exact ((((Ch.refl _ _).alloc _).alloc _).alloc _).drew | exact ((((Ch.refl _ _).alloc _).alloc _).alloc _).alloc _ | exact (((((Ch.refl _ _).alloc _).alloc _).alloc _).alloc _).drew))) HX1.out (by rw [LX1.out]; omega)).mono ?_
  rintro e w2 ⟨va, La, ga, rfl, hLa, hV, hC⟩
  obtain ⟨Aa, na, ca, rfl⟩ := hV.shape
  have hCC : Ch S0 w1 w2 := Ch.trans (by first | exact Ch.refl _ _ | exact (Ch.refl _ _).alloc _ | exact (Ch.refl _ _).drew | exact ((Ch.refl _ _).alloc _).alloc _ | exact ((Ch.refl _ _).alloc _).drew | exact (((Ch.refl _ _).alloc _).alloc _).alloc _ | exact (((Ch.refl _ _).alloc _).alloc _).drew | exact ((((Ch.refl _ _).alloc _).alloc _).alloc _).drew | exact ((((Ch.refl _ _).alloc _).alloc _).alloc _).alloc _ | exact (((((Ch.refl _ _).alloc _).alloc _).alloc _).alloc _).drew) hC
  have HC2 := Lib.hid (HC1.out.trans hCC)
  clear HC1
  have Bx := Lib.hid (Bp1.out.keep hCC (fun h => h))
  clear Bp1
  have Bp1 := Bx
  clear Bx
  have Ha := Lib.hid (hV.mono (base' := 0) (Nat.zero_le _))
  clear hV
  clear hC hCC
  try clear xp10 xp11
  try clear xp1z
  have xp1z := Bp1.out.lt
  have xp10 := Bp1.out.cell 0
  have xp11 := Bp1.out.cell 1
  simp only [List.getElem?_toArray, List.getElem?_cons_zero, List.getElem?_cons_succ] at xp10 xp11
  go_wp2_with fail
  refine (bsset_any _ _ _ _ (Ha.out.keep (by first | exact Ch.refl _ _ | exact (Ch.refl _ _).alloc _ | exact (Ch.refl _ _).drew | exact ((Ch.refl _ _).alloc _).alloc _ | exact ((Ch.refl _ _).alloc _).drew | exact (((Ch.refl _ _).alloc _).alloc _).alloc _ | exact (((Ch.refl _ _).alloc _).alloc _).drew | exact ((((Ch.refl _ _).alloc _).alloc _).alloc _).drew | exact ((((Ch.refl _ _).alloc _).alloc _).alloc _).alloc _ | exact (((((Ch.refl _ _).alloc _).alloc _).alloc _).alloc _).drew)) (u1 % 400 + 1 + u2 % 200) _ (by omega) (by omega)).mono ?_
  rintro e w3 ⟨vb, rfl, hV, hC⟩
  obtain ⟨Lb, hE⟩ : ∃ x, x = max La ((u1 % 400 + 1 + u2 % 200) + 1) := ⟨_, rfl⟩
  rw [← hE] at hV
  have Eb := Lib.hid hE
  clear hE
  obtain ⟨Ab, nb, cb, rfl⟩ := hV.shape
  have hCC : Ch S0 w2 w3 := Ch.trans (by first | exact Ch.refl _ _ | exact (Ch.refl _ _).alloc _ | exact (Ch.refl _ _).drew | exact ((Ch.refl _ _).alloc _).alloc _ | exact ((Ch.refl _ _).alloc _).drew | exact (((Ch.refl _ _).alloc _).alloc _).alloc _ | exact (((Ch.refl _ _).alloc _).alloc _).drew | exact ((((Ch.refl _ _).alloc _).alloc _).alloc _).drew | exact ((((Ch.refl _ _).alloc _).alloc _).alloc _).alloc _ | exact (((((Ch.refl _ _).alloc _).alloc _).alloc _).alloc _).drew) hC
  have HC3 := Lib.hid (HC2.out.trans hCC)
  clear HC2
  have Hx := Lib.hid (Ha.out.keep hCC)
  clear Ha
  have Ha := Hx
  clear Hx
  have Bx := Lib.hid (Bp1.out.keep hCC (fun h => h))
  clear Bp1
  have Bp1 := Bx
  clear Bx
  have Hb := Lib.hid (hV.mono (base' := 0) (Nat.zero_le _))
  clear hV
  clear hC hCC
  try clear xp10 xp11
  try clear xp1z
  have xp1z := Bp1.out.lt
  have xp10 := Bp1.out.cell 0
  have xp11 := Bp1.out.cell 1
  simp only [List.getElem?_toArray, List.getElem?_cons_zero, List.getElem?_cons_succ] at xp10 xp11
  obtain ⟨gb, hgb⟩ : ∃ f, f = Bit.put ga (u1 % 400 + 1 + u2 % 200) true := ⟨_, rfl⟩
  have HGB := Lib.hid hgb
  rw [← hgb] at Hb
  clear hgb
  go_wp2_with fail
  have Bb : Hid (Blk (w3.alloc (Obj.cells #[.int .u64 (Lb : Nat), .slice Ab nb cb] 25)) (w3.heap.size) #[.int .u64 (Lb : Nat), .slice Ab nb cb]) := Lib.hid (Blk.new _ _ _)
  have hCC : Ch S0 w3 (w3.alloc (Obj.cells #[.int .u64 (Lb : Nat), .slice Ab nb cb] 25)) := (Ch.refl _ _).alloc _
  have HC4 := Lib.hid (HC3.out.trans hCC)
  have Hx := Lib.hid (Ha.out.keep hCC)
  clear Ha
  have Ha := Hx
  clear Hx
  have Hx := Lib.hid (Hb.out.keep hCC)
  clear Hb
  have Hb := Hx
  clear Hx
  have Bx := Lib.hid (Bp1.out.keep hCC (fun h => h))
  clear Bp1
  have Bp1 := Bx
  clear Bx
  clear hCC HC3
  try clear xp10 xp11
  try clear xp1z
  generalize w3.alloc (Obj.cells #[.int .u64 (Lb : Nat), .slice Ab nb cb] 25) = w4 at *
  generalize w3.heap.size = bb at *
  have xp10 := Bp1.out.cell 0
  have xp11 := Bp1.out.cell 1
  simp only [List.getElem?_toArray, List.getElem?_cons_zero, List.getElem?_cons_succ] at xp10 xp11
  have xb0 := Bb.out.cell 0
  have xb1 := Bb.out.cell 1
  simp only [List.getElem?_toArray, List.getElem?_cons_zero, List.getElem?_cons_succ] at xb0 xb1
  go_wp2_with fail
  obtain ⟨I0, hI0⟩ : ∃ I0 : (Nat → Bool) → Act → World → Prop, I0 = (fun D a' w' => (∃ x28 x29 x30 x31 x32 x33 x34 x35 x36 x37 x10 x11 : Value, a' = ({ tmps := #[(Value.agg #[Value.int IntKind.u64 ↑l1, Value.slice P1 m1 r1]), (Value.int IntKind.u16 ↑u1), (Value.int IntKind.u16 ↑u2), (Value.pointer (some { block := w.heap.size, off := 0 })), undef, undef, (Value.bool false), (Value.int IntKind.u64 (↑u1 % 400)), (Value.int IntKind.u64 (↑u1 % 400 + 1 + ↑u2 % 200)), (Value.pointer (some { block := bb, off := 0 })), x10, x11, (Value.agg #[Value.int IntKind.u64 ↑l1, Value.slice P1 m1 r1]), (Value.bool true), (Value.bool false), (Value.int IntKind.u16 ↑u1), (Value.int IntKind.u64 ↑u1), (Value.int IntKind.u64 (↑u1 % 400)), (Value.int IntKind.u64 (↑u1 % 400)), (Value.int IntKind.u64 (↑u1 % 400 + 1)), (Value.int IntKind.u16 ↑u2), (Value.int IntKind.u64 ↑u2), (Value.int IntKind.u64 (↑u2 % 200)), (Value.int IntKind.u64 (↑u1 % 400 + 1 + ↑u2 % 200)), (Value.agg #[Value.int IntKind.u64 ↑l1, Value.slice P1 m1 r1]), (Value.agg #[Value.int IntKind.u64 ↑La, Value.slice Aa na ca]), (Value.int IntKind.u64 (↑u1 % 400 + 1 + ↑u2 % 200)), (Value.agg #[Value.int IntKind.u64 ↑Lb, Value.slice Ab nb cb]), x28, x29, x30, x31, x32, x33, x34, x35, x36, x37, undef, undef, undef, undef, undef, undef, undef, undef, undef, undef, undef, undef, undef, undef, undef, undef, undef, undef], defers := [] } : Act) ∧ RM w4 w' D [x28, x29, x30, x31, x32, x33, x34, x35, x36, x37, x10, x11, undef, undef] [(fun _ _ => True), (fun _ _ => True), (fun L g => L = Lb ∧ g = Bit.put gb (u1 % 400) true), (fun _ _ => True), (fun L g => L = Lb - 1 ∧ g = delR (Bit.put gb (u1 % 400) true) (u1 % 400)), (fun _ _ => True), (fun _ _ => True), (fun L g => L = Lb ∧ g = Bit.put gb (u1 % 400) false), (fun _ _ => True), (fun L g => L = Lb - 1 ∧ g = delR (Bit.put gb (u1 % 400) false) (u1 % 400)), (fun _ _ => True), (fun _ _ => True), (fun _ _ => True), (fun _ _ => True)] [2, 4, 7, 9] [10, 11] [0, 0, 0, 0, 0, 0, 0, 0, 0, 0, 12, 13, 0, 0] [0, 0, 0, 0, 0, 0, 0, 0, 0, 0, 4, 9, 0, 0] ∧ (D 0 = true → x28 = .agg #[.int .u64 (Lb : Nat), .slice Ab nb cb]) ∧ (D 1 = true → x29 = .int .u64 ((u1 : Int) % 400)) ∧ (D 3 = true → x31 = .int .u64 ((u1 : Int) % 400)) ∧ (D 5 = true → x33 = .agg #[.int .u64 (Lb : Nat), .slice Ab nb cb]) ∧ (D 6 = true → x34 = .int .u64 ((u1 : Int) % 400)) ∧ (D 8 = true → x36 = .int .u64 ((u1 : Int) % 400)) ∧ (D 4 = true → D 2 = true) ∧ (D 7 = true → D 4 = true) ∧ (D 9 = true → D 7 = true))) := ⟨_, rfl⟩
  have HI := Lib.hid hI0
  clear hI0
  refine region_inv (by kernel_rfl) (by kernel_rfl) I0 ?_ ?_ ?_
  · rw [HI.out]; exact ⟨_, _, _, _, _, _, _, _, _, _, _, _, rfl, ⟨(Ch.refl S0 w4).drew, (fun _ _ h => by cases h), (fun _ _ h => by cases h), (fun _ _ _ _ h => by cases h), (fun _ _ _ _ _ h => by cases h), (fun _ _ h => by cases h)⟩, (fun h => by cases h), (fun h => by cases h), (fun h => by cases h), (fun h => by cases h), (fun h => by cases h), (fun h => by cases h), (fun h => by cases h), (fun h => by cases h), (fun h => by cases h)⟩
  · refine ⟨?_, ?_, ?_, ?_, ?_, ?_, ?_, ?_, ?_, ?_, ?_, ?_, ?_, ?_, trivial⟩
    · intro D a' w' hD hdep hI KK hKK
      rw [HI.out] at hI
      obtain ⟨x28, x29, x30, x31, x32, x33, x34, x35, x36, x37, x10, x11, rfl, hM, f0, f1, f3, f5, f6, f8, k4, k7, k9⟩ := hI
      simp [Region.binds] at hdep
      have K4 := Lib.hid k4
      clear k4
      have K7 := Lib.hid k7
      clear k7
      have K9 := Lib.hid k9
      clear k9
      have HM := Lib.hid hM
      clear hM
      have F0 := Lib.hid f0
      clear f0
      have F1 := Lib.hid f1
      clear f1
      have F3 := Lib.hid f3
      clear f3
      have F5 := Lib.hid f5
      clear f5
      have F6 := Lib.hid f6
      clear f6
      have F8 := Lib.hid f8
      clear f8
      have Bx := Bb.out.keep HM.out.ch (fun h => h)
      have c0 : w'.cell? ⟨bb, 0, none⟩ = some (.int .u64 (Lb : Nat)) := by rw [Bx.cell]; rfl
      have c1 : w'.cell? ⟨bb, 1, none⟩ = some (.slice Ab nb cb) := by rw [Bx.cell]; rfl
      clear Bx hdep
      go_wp2_with fail
      rw [HI.out]; exact ⟨_, _, _, _, _, _, _, _, _, _, _, _, rfl, HM.out.other (k := 0) (.agg #[.int .u64 (Lb : Nat), .slice Ab nb cb]) (by decide) (by decide) (by decide) (by decide), fun _ => rfl, fun h => F1.out (upd_out h (by decide)), fun h => F3.out (upd_out h (by decide)), fun h => F5.out (upd_out h (by decide)), fun h => F6.out (upd_out h (by decide)), fun h => F8.out (upd_out h (by decide)), fun h => upd_mono (K4.out (upd_out h (by decide))), fun h => upd_mono (K7.out (upd_out h (by decide))), fun h => upd_mono (K9.out (upd_out h (by decide)))⟩
    · intro D a' w' hD hdep hI KK hKK
      rw [HI.out] at hI
      obtain ⟨x28, x29, x30, x31, x32, x33, x34, x35, x36, x37, x10, x11, rfl, hM, f0, f1, f3, f5, f6, f8, k4, k7, k9⟩ := hI
      simp [Region.binds] at hdep
      have K4 := Lib.hid k4
      clear k4
      have K7 := Lib.hid k7
      clear k7
      have K9 := Lib.hid k9
      clear k9
      have HM := Lib.hid hM
      clear hM
      have F0 := Lib.hid f0
      clear f0
      have F1 := Lib.hid f1
      clear f1
      have F3 := Lib.hid f3
      clear f3
      have F5 := Lib.hid f5
      clear f5
      have F6 := Lib.hid f6
      clear f6
      have F8 := Lib.hid f8
      clear f8
      clear hdep
      go_wp2_with fail
      rw [HI.out]; exact ⟨_, _, _, _, _, _, _, _, _, _, _, _, rfl, HM.out.other (k := 1) (.int .u64 ((u1 : Int) % 400)) (by decide) (by decide) (by decide) (by decide), fun h => F0.out (upd_out h (by decide)), fun _ => rfl, fun h => F3.out (upd_out h (by decide)), fun h => F5.out (upd_out h (by decide)), fun h => F6.out (upd_out h (by decide)), fun h => F8.out (upd_out h (by decide)), fun h => upd_mono (K4.out (upd_out h (by decide))), fun h => upd_mono (K7.out (upd_out h (by decide))), fun h => upd_mono (K9.out (upd_out h (by decide)))⟩
    · intro D a' w' hD hdep hI KK hKK
      rw [HI.out] at hI
      obtain ⟨x28, x29, x30, x31, x32, x33, x34, x35, x36, x37, x10, x11, rfl, hM, f0, f1, f3, f5, f6, f8, k4, k7, k9⟩ := hI
      simp [Region.binds] at hdep
      have K4 := Lib.hid k4
      clear k4
      have K7 := Lib.hid k7
      clear k7
      have K9 := Lib.hid k9
      clear k9
      have d0 : D 0 = true := by simp_all
      have d1 : D 1 = true := by simp_all
      have HM := Lib.hid hM
      clear hM
      have F0 := Lib.hid f0
      clear f0
      have F1 := Lib.hid f1
      clear f1
      have F3 := Lib.hid f3
      clear f3
      have F5 := Lib.hid f5
      clear f5
      have F6 := Lib.hid f6
      clear f6
      have F8 := Lib.hid f8
      clear f8
      have e28 := F0.out d0
      subst e28
      have e29 := F1.out d1
      subst e29
      clear hdep d0 d1
      have HC := Lib.hid (HC4.out.trans HM.out.ch)
      go_wp2_with fail
      refine (bsset_any _ _ _ _ (Hb.out.keep HM.out.ch) (u1 % 400) _ (by omega) (by omega)).mono ?_
      rintro e w2 ⟨v2, rfl, hV2, hC2⟩
      have HV2 := Lib.hid hV2
      have HC2 := Lib.hid hC2
      clear hV2 hC2
      go_wp2_with fail
      rw [HI.out]; exact ⟨_, _, _, _, _, _, _, _, _, _, _, _, rfl, HM.out.call (k := 2) (by simp) (by decide) (by decide) (by decide) hD HC2.out HV2.out (⟨by have e := Eb.out; omega, rfl⟩), fun _ => rfl, fun _ => rfl, fun h => F3.out (upd_out h (by decide)), fun h => F5.out (upd_out h (by decide)), fun h => F6.out (upd_out h (by decide)), fun h => F8.out (upd_out h (by decide)), fun h => upd_mono (K4.out (upd_out h (by decide))), fun h => upd_mono (K7.out (upd_out h (by decide))), fun h => upd_mono (K9.out (upd_out h (by decide)))⟩
    · intro D a' w' hD hdep hI KK hKK
      rw [HI.out] at hI
      obtain ⟨x28, x29, x30, x31, x32, x33, x34, x35, x36, x37, x10, x11, rfl, hM, f0, f1, f3, f5, f6, f8, k4, k7, k9⟩ := hI
      simp [Region.binds] at hdep
      have K4 := Lib.hid k4
      clear k4
      have K7 := Lib.hid k7
      clear k7
      have K9 := Lib.hid k9
      clear k9
      have HM := Lib.hid hM
      clear hM
      have F0 := Lib.hid f0
      clear f0
      have F1 := Lib.hid f1
      clear f1
      have F3 := Lib.hid f3
      clear f3
      have F5 := Lib.hid f5
      clear f5
      have F6 := Lib.hid f6
      clear f6
      have F8 := Lib.hid f8
      clear f8
      clear hdep
      go_wp2_with fail
      rw [HI.out]; exact ⟨_, _, _, _, _, _, _, _, _, _, _, _, rfl, HM.out.other (k := 3) (.int .u64 ((u1 : Int) % 400)) (by decide) (by decide) (by decide) (by decide), fun h => F0.out (upd_out h (by decide)), fun h => F1.out (upd_out h (by decide)), fun _ => rfl, fun h => F5.out (upd_out h (by decide)), fun h => F6.out (upd_out h (by decide)), fun h => F8.out (upd_out h (by decide)), fun h => upd_mono (K4.out (upd_out h (by decide))), fun h => upd_mono (K7.out (upd_out h (by decide))), fun h => upd_mono (K9.out (upd_out h (by decide)))⟩
    · intro D a' w' hD hdep hI KK hKK
      rw [HI.out] at hI
      obtain ⟨x28, x29, x30, x31, x32, x33, x34, x35, x36, x37, x10, x11, rfl, hM, f0, f1, f3, f5, f6, f8, k4, k7, k9⟩ := hI
      simp [Region.binds] at hdep
      have K4 := Lib.hid k4
      clear k4
      have K7 := Lib.hid k7
      clear k7
      have K9 := Lib.hid k9
      clear k9
      have ce : D 2 = true := by simp_all
      have CE := Lib.hid ce
      clear ce
      have d2 : D 2 = true := by simp_all
      have d3 : D 3 = true := by simp_all
      have HM := Lib.hid hM
      clear hM
      have F0 := Lib.hid f0
      clear f0
      have F1 := Lib.hid f1
      clear f1
      have F3 := Lib.hid f3
      clear f3
      have F5 := Lib.hid f5
      clear f5
      have F6 := Lib.hid f6
      clear f6
      have F8 := Lib.hid f8
      clear f8
      obtain ⟨L30, g30, hR30, hV30⟩ := HM.out.val 2 (by decide) d2
      have V30 : Hid (IsB 0 w' x30 L30 g30) := Lib.hid hV30
      have R30 : Hid ((fun (L : Nat) (g : Nat → Bool) => (fun L g => L = Lb ∧ g = Bit.put gb (u1 % 400) true) L g) L30 g30) := Lib.hid hR30
      clear hV30 hR30
      have e31 := F3.out d3
      subst e31
      clear hdep d2 d3
      have HC := Lib.hid (HC4.out.trans HM.out.ch)
      go_wp2_with fail
      refine (bsdelete_any x30 L30 g30 _ V30.out (u1 % 400) _ (by omega) (by have h : L30 = Lb := R30.out.1; have e := Eb.out; omega)).mono ?_
      rintro e w2 ⟨v2, rfl, hV2, hC2⟩
      have HV2 := Lib.hid hV2
      have HC2 := Lib.hid hC2
      clear hV2 hC2
      go_wp2_with fail
      rw [HI.out]; exact ⟨_, _, _, _, _, _, _, _, _, _, _, _, rfl, HM.out.call (k := 4) (by simp) (by decide) (by decide) (by decide) hD HC2.out HV2.out (⟨by have h : L30 = Lb := R30.out.1; rw [h], by have h : g30 = Bit.put gb (u1 % 400) true := R30.out.2; rw [h]⟩), fun h => F0.out (upd_out h (by decide)), fun h => F1.out (upd_out h (by decide)), fun _ => rfl, fun h => F5.out (upd_out h (by decide)), fun h => F6.out (upd_out h (by decide)), fun h => F8.out (upd_out h (by decide)), fun _ => upd_mono CE.out, fun h => upd_mono (K7.out (upd_out h (by decide))), fun h => upd_mono (K9.out (upd_out h (by decide)))⟩
    · intro D a' w' hD hdep hI KK hKK
      rw [HI.out] at hI
      obtain ⟨x28, x29, x30, x31, x32, x33, x34, x35, x36, x37, x10, x11, rfl, hM, f0, f1, f3, f5, f6, f8, k4, k7, k9⟩ := hI
      simp [Region.binds] at hdep
      have K4 := Lib.hid k4
      clear k4
      have K7 := Lib.hid k7
      clear k7
      have K9 := Lib.hid k9
      clear k9
      have HM := Lib.hid hM
      clear hM
      have F0 := Lib.hid f0
      clear f0
      have F1 := Lib.hid f1
      clear f1
      have F3 := Lib.hid f3
      clear f3
      have F5 := Lib.hid f5
      clear f5
      have F6 := Lib.hid f6
      clear f6
      have F8 := Lib.hid f8
      clear f8
      have Bx := Bb.out.keep HM.out.ch (fun h => h)
      have c0 : w'.cell? ⟨bb, 0, none⟩ = some (.int .u64 (Lb : Nat)) := by rw [Bx.cell]; rfl
      have c1 : w'.cell? ⟨bb, 1, none⟩ = some (.slice Ab nb cb) := by rw [Bx.cell]; rfl
      clear Bx hdep
      go_wp2_with fail
      rw [HI.out]; exact ⟨_, _, _, _, _, _, _, _, _, _, _, _, rfl, HM.out.other (k := 5) (.agg #[.int .u64 (Lb : Nat), .slice Ab nb cb]) (by decide) (by decide) (by decide) (by decide), fun h => F0.out (upd_out h (by decide)), fun h => F1.out (upd_out h (by decide)), fun h => F3.out (upd_out h (by decide)), fun _ => rfl, fun h => F6.out (upd_out h (by decide)), fun h => F8.out (upd_out h (by decide)), fun h => upd_mono (K4.out (upd_out h (by decide))), fun h => upd_mono (K7.out (upd_out h (by decide))), fun h => upd_mono (K9.out (upd_out h (by decide)))⟩
    · intro D a' w' hD hdep hI KK hKK
      rw [HI.out] at hI
      obtain ⟨x28, x29, x30, x31, x32, x33, x34, x35, x36, x37, x10, x11, rfl, hM, f0, f1, f3, f5, f6, f8, k4, k7, k9⟩ := hI
      simp [Region.binds] at hdep
      have K4 := Lib.hid k4
      clear k4
      have K7 := Lib.hid k7
      clear k7
      have K9 := Lib.hid k9
      clear k9
      have HM := Lib.hid hM
      clear hM
      have F0 := Lib.hid f0
      clear f0
      have F1 := Lib.hid f1
      clear f1
      have F3 := Lib.hid f3
      clear f3
      have F5 := Lib.hid f5
      clear f5
      have F6 := Lib.hid f6
      clear f6
      have F8 := Lib.hid f8
      clear f8
      clear hdep
      go_wp2_with fail
      rw [HI.out]; exact ⟨_, _, _, _, _, _, _, _, _, _, _, _, rfl, HM.out.other (k := 6) (.int .u64 ((u1 : Int) % 400)) (by decide) (by decide) (by decide) (by decide), fun h => F0.out (upd_out h (by decide)), fun h => F1.out (upd_out h (by decide)), fun h => F3.out (upd_out h (by decide)), fun h => F5.out (upd_out h (by decide)), fun _ => rfl, fun h => F8.out (upd_out h (by decide)), fun h => upd_mono (K4.out (upd_out h (by decide))), fun h => upd_mono (K7.out (upd_out h (by decide))), fun h => upd_mono (K9.out (upd_out h (by decide)))⟩
    · intro D a' w' hD hdep hI KK hKK
      rw [HI.out] at hI
      obtain ⟨x28, x29, x30, x31, x32, x33, x34, x35, x36, x37, x10, x11, rfl, hM, f0, f1, f3, f5, f6, f8, k4, k7, k9⟩ := hI
      simp [Region.binds] at hdep
      have K4 := Lib.hid k4
      clear k4
      have K7 := Lib.hid k7
      clear k7
      have K9 := Lib.hid k9
      clear k9
      have ce : D 4 = true := by simp_all
      have CE := Lib.hid ce
      clear ce
      have d5 : D 5 = true := by simp_all
      have d6 : D 6 = true := by simp_all
      have HM := Lib.hid hM
      clear hM
      have F0 := Lib.hid f0
      clear f0
      have F1 := Lib.hid f1
      clear f1
      have F3 := Lib.hid f3
      clear f3
      have F5 := Lib.hid f5
      clear f5
      have F6 := Lib.hid f6
      clear f6
      have F8 := Lib.hid f8
      clear f8
      have e33 := F5.out d5
      subst e33
      have e34 := F6.out d6
      subst e34
      clear hdep d5 d6
      have HC := Lib.hid (HC4.out.trans HM.out.ch)
      go_wp2_with fail
      refine (bsclear_any _ _ _ _ (Hb.out.keep HM.out.ch) (u1 % 400) _ (by omega)).mono ?_
      rintro e w2 ⟨v2, rfl, hV2, hC2⟩
      have HV2 := Lib.hid hV2
      have HC2 := Lib.hid hC2
      clear hV2 hC2
      go_wp2_with fail
      rw [HI.out]; exact ⟨_, _, _, _, _, _, _, _, _, _, _, _, rfl, HM.out.call (k := 7) (by simp) (by decide) (by decide) (by decide) hD HC2.out HV2.out (⟨rfl, rfl⟩), fun h => F0.out (upd_out h (by decide)), fun h => F1.out (upd_out h (by decide)), fun h => F3.out (upd_out h (by decide)), fun _ => rfl, fun _ => rfl, fun h => F8.out (upd_out h (by decide)), fun h => upd_mono (K4.out (upd_out h (by decide))), fun _ => upd_mono CE.out, fun h => upd_mono (K9.out (upd_out h (by decide)))⟩
    · intro D a' w' hD hdep hI KK hKK
      rw [HI.out] at hI
      obtain ⟨x28, x29, x30, x31, x32, x33, x34, x35, x36, x37, x10, x11, rfl, hM, f0, f1, f3, f5, f6, f8, k4, k7, k9⟩ := hI
      simp [Region.binds] at hdep
      have K4 := Lib.hid k4
      clear k4
      have K7 := Lib.hid k7
      clear k7
      have K9 := Lib.hid k9
      clear k9
      have HM := Lib.hid hM
      clear hM
      have F0 := Lib.hid f0
      clear f0
      have F1 := Lib.hid f1
      clear f1
      have F3 := Lib.hid f3
      clear f3
      have F5 := Lib.hid f5
      clear f5
      have F6 := Lib.hid f6
      clear f6
      have F8 := Lib.hid f8
      clear f8
      clear hdep
      go_wp2_with fail
      rw [HI.out]; exact ⟨_, _, _, _, _, _, _, _, _, _, _, _, rfl, HM.out.other (k := 8) (.int .u64 ((u1 : Int) % 400)) (by decide) (by decide) (by decide) (by decide), fun h => F0.out (upd_out h (by decide)), fun h => F1.out (upd_out h (by decide)), fun h => F3.out (upd_out h (by decide)), fun h => F5.out (upd_out h (by decide)), fun h => F6.out (upd_out h (by decide)), fun _ => rfl, fun h => upd_mono (K4.out (upd_out h (by decide))), fun h => upd_mono (K7.out (upd_out h (by decide))), fun h => upd_mono (K9.out (upd_out h (by decide)))⟩
    · intro D a' w' hD hdep hI KK hKK
      rw [HI.out] at hI
      obtain ⟨x28, x29, x30, x31, x32, x33, x34, x35, x36, x37, x10, x11, rfl, hM, f0, f1, f3, f5, f6, f8, k4, k7, k9⟩ := hI
      simp [Region.binds] at hdep
      have K4 := Lib.hid k4
      clear k4
      have K7 := Lib.hid k7
      clear k7
      have K9 := Lib.hid k9
      clear k9
      have ce : D 7 = true := by simp_all
      have CE := Lib.hid ce
      clear ce
      have d7 : D 7 = true := by simp_all
      have d8 : D 8 = true := by simp_all
      have HM := Lib.hid hM
      clear hM
      have F0 := Lib.hid f0
      clear f0
      have F1 := Lib.hid f1
      clear f1
      have F3 := Lib.hid f3
      clear f3
      have F5 := Lib.hid f5
      clear f5
      have F6 := Lib.hid f6
      clear f6
      have F8 := Lib.hid f8
      clear f8
      obtain ⟨L35, g35, hR35, hV35⟩ := HM.out.val 7 (by decide) d7
      have V35 : Hid (IsB 0 w' x35 L35 g35) := Lib.hid hV35
      have R35 : Hid ((fun (L : Nat) (g : Nat → Bool) => (fun L g => L = Lb ∧ g = Bit.put gb (u1 % 400) false) L g) L35 g35) := Lib.hid hR35
      clear hV35 hR35
      have e36 := F8.out d8
      subst e36
      clear hdep d7 d8
      have HC := Lib.hid (HC4.out.trans HM.out.ch)
      go_wp2_with fail
      refine (bsdelete_any x35 L35 g35 _ V35.out (u1 % 400) _ (by omega) (by have h : L35 = Lb := R35.out.1; have e := Eb.out; omega)).mono ?_
      rintro e w2 ⟨v2, rfl, hV2, hC2⟩
      have HV2 := Lib.hid hV2
      have HC2 := Lib.hid hC2
      clear hV2 hC2
      go_wp2_with fail
      rw [HI.out]; exact ⟨_, _, _, _, _, _, _, _, _, _, _, _, rfl, HM.out.call (k := 9) (by simp) (by decide) (by decide) (by decide) hD HC2.out HV2.out (⟨by have h : L35 = Lb := R35.out.1; rw [h], by have h : g35 = Bit.put gb (u1 % 400) false := R35.out.2; rw [h]⟩), fun h => F0.out (upd_out h (by decide)), fun h => F1.out (upd_out h (by decide)), fun h => F3.out (upd_out h (by decide)), fun h => F5.out (upd_out h (by decide)), fun h => F6.out (upd_out h (by decide)), fun _ => rfl, fun h => upd_mono (K4.out (upd_out h (by decide))), fun h => upd_mono (K7.out (upd_out h (by decide))), fun _ => upd_mono CE.out⟩
    · intro D a' w' hD hdep hI KK hKK
      rw [HI.out] at hI
      obtain ⟨x28, x29, x30, x31, x32, x33, x34, x35, x36, x37, x10, x11, rfl, hM, f0, f1, f3, f5, f6, f8, k4, k7, k9⟩ := hI
      simp [Region.binds] at hdep
      have K4 := Lib.hid k4
      clear k4
      have K7 := Lib.hid k7
      clear k7
      have K9 := Lib.hid k9
      clear k9
      have HM := Lib.hid hM
      clear hM
      have F0 := Lib.hid f0
      clear f0
      have F1 := Lib.hid f1
      clear f1
      have F3 := Lib.hid f3
      clear f3
      have F5 := Lib.hid f5
      clear f5
      have F6 := Lib.hid f6
      clear f6
      have F8 := Lib.hid f8
      clear f8
      clear hdep
      go_wp2_with fail
      rw [HI.out]; exact ⟨_, _, _, _, _, _, _, _, _, _, _, _, rfl, HM.out.alloc (k := 10) (by simp) (by decide) (by decide) (by decide) hD (by decide) 25, fun h => F0.out (upd_out h (by decide)), fun h => F1.out (upd_out h (by decide)), fun h => F3.out (upd_out h (by decide)), fun h => F5.out (upd_out h (by decide)), fun h => F6.out (upd_out h (by decide)), fun h => F8.out (upd_out h (by decide)), fun h => upd_mono (K4.out (upd_out h (by decide))), fun h => upd_mono (K7.out (upd_out h (by decide))), fun h => upd_mono (K9.out (upd_out h (by decide)))⟩
    · intro D a' w' hD hdep hI KK hKK
      rw [HI.out] at hI
      obtain ⟨x28, x29, x30, x31, x32, x33, x34, x35, x36, x37, x10, x11, rfl, hM, f0, f1, f3, f5, f6, f8, k4, k7, k9⟩ := hI
      simp [Region.binds] at hdep
      have K4 := Lib.hid k4
      clear k4
      have K7 := Lib.hid k7
      clear k7
      have K9 := Lib.hid k9
      clear k9
      have HM := Lib.hid hM
      clear hM
      have F0 := Lib.hid f0
      clear f0
      have F1 := Lib.hid f1
      clear f1
      have F3 := Lib.hid f3
      clear f3
      have F5 := Lib.hid f5
      clear f5
      have F6 := Lib.hid f6
      clear f6
      have F8 := Lib.hid f8
      clear f8
      clear hdep
      go_wp2_with fail
      rw [HI.out]; exact ⟨_, _, _, _, _, _, _, _, _, _, _, _, rfl, HM.out.alloc (k := 11) (by simp) (by decide) (by decide) (by decide) hD (by decide) 25, fun h => F0.out (upd_out h (by decide)), fun h => F1.out (upd_out h (by decide)), fun h => F3.out (upd_out h (by decide)), fun h => F5.out (upd_out h (by decide)), fun h => F6.out (upd_out h (by decide)), fun h => F8.out (upd_out h (by decide)), fun h => upd_mono (K4.out (upd_out h (by decide))), fun h => upd_mono (K7.out (upd_out h (by decide))), fun h => upd_mono (K9.out (upd_out h (by decide)))⟩
    · intro D a' w' hD hdep hI KK hKK
      rw [HI.out] at hI
      obtain ⟨x28, x29, x30, x31, x32, x33, x34, x35, x36, x37, x10, x11, rfl, hM, f0, f1, f3, f5, f6, f8, k4, k7, k9⟩ := hI
      simp [Region.binds] at hdep
      have K4 := Lib.hid k4
      clear k4
      have K7 := Lib.hid k7
      clear k7
      have K9 := Lib.hid k9
      clear k9
      have d9 : D 9 = true := by simp_all
      have d10 : D 10 = true := by simp_all
      have d11 : D 11 = true := by simp_all
      have d7 := K9.out d9
      have d4 := K7.out d7
      have d2 := K4.out d4
      have HM := Lib.hid hM
      clear hM
      have F0 := Lib.hid f0
      clear f0
      have F1 := Lib.hid f1
      clear f1
      have F3 := Lib.hid f3
      clear f3
      have F5 := Lib.hid f5
      clear f5
      have F6 := Lib.hid f6
      clear f6
      have F8 := Lib.hid f8
      clear f8
      have hall : ∀ j, j ∈ [2, 4, 7, 9] ∨ j ∈ [10, 11] → D j = true := fun j hj => by
        have : j = 2 ∨ j = 4 ∨ j = 7 ∨ j = 9 ∨ j = 10 ∨ j = 11 := by simp at hj; omega
        rcases this with rfl | rfl | rfl | rfl | rfl | rfl <;> assumption
      obtain ⟨b, hb, _, c0, c1, z0, z1⟩ := HM.out.before (i := 10) (by decide) d10 hD
      have hb : x10 = _ := hb
      subst hb
      obtain ⟨L, g, _, hV⟩ := HM.out.val 4 (by decide) d4
      have hV : IsB 0 w' x32 L g := hV
      obtain ⟨A, n, c, rfl⟩ := hV.shape
      clear hV
      have Hall := Lib.hid hall
      clear hall hdep d2 d4 d7 d9 d11
      have Dal := Lib.hid d10
      clear d10
      go_wp2_with fail
      rw [HI.out]; exact ⟨_, _, _, _, _, _, _, _, _, _, _, _, rfl, HM.out.store (i := 10) (k := 12) (by decide) Dal.out rfl hD (by decide) (by decide) (by decide) (by decide) Hall.out rfl rfl undef, fun h => F0.out (upd_out h (by decide)), fun h => F1.out (upd_out h (by decide)), fun h => F3.out (upd_out h (by decide)), fun h => F5.out (upd_out h (by decide)), fun h => F6.out (upd_out h (by decide)), fun h => F8.out (upd_out h (by decide)), fun h => upd_mono (K4.out (upd_out h (by decide))), fun h => upd_mono (K7.out (upd_out h (by decide))), fun h => upd_mono (K9.out (upd_out h (by decide)))⟩
    · intro D a' w' hD hdep hI KK hKK
      rw [HI.out] at hI
      obtain ⟨x28, x29, x30, x31, x32, x33, x34, x35, x36, x37, x10, x11, rfl, hM, f0, f1, f3, f5, f6, f8, k4, k7, k9⟩ := hI
      simp [Region.binds] at hdep
      have K4 := Lib.hid k4
      clear k4
      have K7 := Lib.hid k7
      clear k7
      have K9 := Lib.hid k9
      clear k9
      have dst : D 12 = true := by simp_all
      have HM := Lib.hid hM
      clear hM
      have F0 := Lib.hid f0
      clear f0
      have F1 := Lib.hid f1
      clear f1
      have F3 := Lib.hid f3
      clear f3
      have F5 := Lib.hid f5
      clear f5
      have F6 := Lib.hid f6
      clear f6
      have F8 := Lib.hid f8
      clear f8
      have hall := HM.out.closed 10 (by decide) dst
      have d11 := hall 11 (by decide)
      have d9 := hall 9 (by decide)
      clear dst
      obtain ⟨b, hb, _, c0, c1, z0, z1⟩ := HM.out.before (i := 11) (by decide) d11 hD
      have hb : x11 = _ := hb
      subst hb
      obtain ⟨L, g, _, hV⟩ := HM.out.val 9 (by decide) d9
      have hV : IsB 0 w' x37 L g := hV
      obtain ⟨A, n, c, rfl⟩ := hV.shape
      clear hV
      have Hall := Lib.hid hall
      clear hall hdep d9
      have Dal := Lib.hid d11
      clear d11
      go_wp2_with fail
      rw [HI.out]; exact ⟨_, _, _, _, _, _, _, _, _, _, _, _, rfl, HM.out.store (i := 11) (k := 13) (by decide) Dal.out rfl hD (by decide) (by decide) (by decide) (by decide) Hall.out rfl rfl undef, fun h => F0.out (upd_out h (by decide)), fun h => F1.out (upd_out h (by decide)), fun h => F3.out (upd_out h (by decide)), fun h => F5.out (upd_out h (by decide)), fun h => F6.out (upd_out h (by decide)), fun h => F8.out (upd_out h (by decide)), fun h => upd_mono (K4.out (upd_out h (by decide))), fun h => upd_mono (K7.out (upd_out h (by decide))), fun h => upd_mono (K9.out (upd_out h (by decide)))⟩
  intro D a' w5 hD hI
  rw [HI.out] at hI
  obtain ⟨x28, x29, x30, x31, x32, x33, x34, x35, x36, x37, x10, x11, rfl, hM, f0, f1, f3, f5, f6, f8, _, _, _⟩ := hI
  have e28 := f0 (hD 0 (by decide))
  subst e28
  clear f0
  have e29 := f1 (hD 1 (by decide))
  subst e29
  clear f1
  have e31 := f3 (hD 3 (by decide))
  subst e31
  clear f3
  have e33 := f5 (hD 5 (by decide))
  subst e33
  clear f5
  have e34 := f6 (hD 6 (by decide))
  subst e34
  clear f6
  have e36 := f8 (hD 8 (by decide))
  subst e36
  clear f8
  obtain ⟨L30, g30, hR30, hV30⟩ := hM.val 2 (by decide) (hD 2 (by decide))
  have hV30 : IsB 0 w5 x30 L30 g30 := hV30
  obtain ⟨L32, g32, hR32, hV32⟩ := hM.val 4 (by decide) (hD 4 (by decide))
  have hV32 : IsB 0 w5 x32 L32 g32 := hV32
  obtain ⟨L35, g35, hR35, hV35⟩ := hM.val 7 (by decide) (hD 7 (by decide))
  have hV35 : IsB 0 w5 x35 L35 g35 := hV35
  obtain ⟨L37, g37, hR37, hV37⟩ := hM.val 9 (by decide) (hD 9 (by decide))
  have hV37 : IsB 0 w5 x37 L37 g37 := hV37
  obtain ⟨b10, e1, _, _, _, h1⟩ := hM.ptr 10 (by decide) (hD 10 (by decide))
  have e1 : x10 = _ := e1
  subst e1
  obtain ⟨l1, u1, e2, B10⟩ := h1 (hD 12 (by decide))
  have e2 : x32 = _ := e2
  have e4 : ∃ A n cap, x32 = .agg #[.int .u64 L32, .slice A n cap] := hV32.shape
  obtain ⟨A32, n32, c32, e3⟩ := e4
  rw [e3] at e2
  simp only [Value.agg.injEq, Array.mk.injEq, List.cons.injEq, and_true] at e2
  obtain ⟨rfl, rfl⟩ := e2
  subst e3
  obtain ⟨b11, e1, _, _, _, h1⟩ := hM.ptr 11 (by decide) (hD 11 (by decide))
  have e1 : x11 = _ := e1
  subst e1
  obtain ⟨l1, u1, e2, B11⟩ := h1 (hD 13 (by decide))
  have e2 : x37 = _ := e2
  have e4 : ∃ A n cap, x37 = .agg #[.int .u64 L37, .slice A n cap] := hV37.shape
  obtain ⟨A37, n37, c37, e3⟩ := e4
  rw [e3] at e2
  simp only [Value.agg.injEq, Array.mk.injEq, List.cons.injEq, and_true] at e2
  obtain ⟨rfl, rfl⟩ := e2
  subst e3
  obtain ⟨A30, n30, c30, rfl⟩ := hV30.shape
  obtain ⟨A35, n35, c35, rfl⟩ := hV35.shape
  have HC5 := Lib.hid (HC4.out.trans hM.ch)
  have hCC : Ch S0 w4 w5 := hM.ch
  clear HC4 hM
  have Hx := Lib.hid (Ha.out.keep hCC)
  clear Ha
  have Ha := Hx
  clear Hx
  have Hx := Lib.hid (Hb.out.keep hCC)
  clear Hb
  have Hb := Hx
  clear Hx
  have Bx := Lib.hid (Bp1.out.keep hCC (fun h => h))
  clear Bp1
  have Bp1 := Bx
  clear Bx
  have Bx := Lib.hid (Bb.out.keep hCC (fun h => h))
  clear Bb
  have Bb := Bx
  clear Bx
  clear hCC
  have H30 : Hid (IsB 0 w5 (.agg #[.int .u64 (L30 : Nat), .slice A30 n30 c30]) L30 g30) := Lib.hid hV30
  clear hV30
  have HR30 : Hid ((fun (L : Nat) (g : Nat → Bool) => (fun L g => L = Lb ∧ g = Bit.put gb (u1 % 400) true) L g) L30 g30) := Lib.hid hR30
  clear hR30
  have H32 : Hid (IsB 0 w5 (.agg #[.int .u64 (L32 : Nat), .slice A32 n32 c32]) L32 g32) := Lib.hid hV32
  clear hV32
  have HR32 : Hid ((fun (L : Nat) (g : Nat → Bool) => (fun L g => L = Lb - 1 ∧ g = delR (Bit.put gb (u1 % 400) true) (u1 % 400)) L g) L32 g32) := Lib.hid hR32
  clear hR32
  have H35 : Hid (IsB 0 w5 (.agg #[.int .u64 (L35 : Nat), .slice A35 n35 c35]) L35 g35) := Lib.hid hV35
  clear hV35
  have HR35 : Hid ((fun (L : Nat) (g : Nat → Bool) => (fun L g => L = Lb ∧ g = Bit.put gb (u1 % 400) false) L g) L35 g35) := Lib.hid hR35
  clear hR35
  have H37 : Hid (IsB 0 w5 (.agg #[.int .u64 (L37 : Nat), .slice A37 n37 c37]) L37 g37) := Lib.hid hV37
  clear hV37
  have HR37 : Hid ((fun (L : Nat) (g : Nat → Bool) => (fun L g => L = Lb - 1 ∧ g = delR (Bit.put gb (u1 % 400) false) (u1 % 400)) L g) L37 g37) := Lib.hid hR37
  clear hR37
  have Bx := Lib.hid B10
  clear B10
  have B10 := Bx
  clear Bx
  have Bx := Lib.hid B11
  clear B11
  have B11 := Bx
  clear Bx
  clear hD HI
  try clear I0
  try clear xp10 xp11
  try clear xp1z
  have xp1z := Bp1.out.lt
  have xp10 := Bp1.out.cell 0
  have xp11 := Bp1.out.cell 1
  simp only [List.getElem?_toArray, List.getElem?_cons_zero, List.getElem?_cons_succ] at xp10 xp11
  try clear xb0 xb1
  try clear xbz
  have xbz := Bb.out.lt
  have xb0 := Bb.out.cell 0
  have xb1 := Bb.out.cell 1
  simp only [List.getElem?_toArray, List.getElem?_cons_zero, List.getElem?_cons_succ] at xb0 xb1
  try clear x100 x101
  try clear x10z
  have x10z := B10.out.lt
  have x100 := B10.out.cell 0
  have x101 := B10.out.cell 1
  simp only [List.getElem?_toArray, List.getElem?_cons_zero, List.getElem?_cons_succ] at x100 x101
  try clear x110 x111
  try clear x11z
  have x11z := B11.out.lt
  have x110 := B11.out.cell 0
  have x111 := B11.out.cell 1
  simp only [List.getElem?_toArray, List.getElem?_cons_zero, List.getElem?_cons_succ] at x110 x111
  have q1 : L32 = Lb - 1 := HR32.out.1
  have q2 : L37 = Lb - 1 := HR37.out.1
  have q0 := Eb.out
  have q3 : g32 = delR (Bit.put gb (u1 % 400) true) (u1 % 400) := HR32.out.2
  have q4 : g37 = delR (Bit.put gb (u1 % 400) false) (u1 % 400) := HR37.out.2
  have q5 : L37 = L32 := q2.trans q1.symm
  have q6 : ∀ k, g37 k = g32 k := fun k => by rw [q3, q4, del_same gb (u1 % 400) true false]
  have q7 : g32 (u1 % 400 + u2 % 200) = true := by rw [q3, HGB.out]; unfold delR; rw [if_neg (by omega)]; simp [Bit.put]; omega
  obtain ⟨t, q8⟩ : ∃ t, Bit.cnt (Bit.put gb (u1 % 400) false) Lb = t := ⟨_, rfl⟩
  obtain ⟨m, q9⟩ : ∃ m, Lb = (u1 % 400) + 1 + m := ⟨Lb - ((u1 % 400) + 1), by omega⟩
  have q10 : Bit.cnt g32 L32 = t := by rw [← q8, q3, q9, ← Bit.cnt_del gb true (u1 % 400) m, show L32 = (u1 % 400) + m from by omega]
  have Q5 := Lib.hid q5
  have Q6 := Lib.hid q6
  have Q7 := Lib.hid q7
  have Q8 := Lib.hid q8
  have Q10 := Lib.hid q10
  clear q0 q1 q2 q3 q4 q5 q6 q7 q8 q9 q10 m
  go_wp2_with fail
  go_region_held3 (fun w' => w'.cell? ⟨bb, 0, none⟩ = some (.int .u64 (Lb : Nat)) ∧ w'.cell? ⟨bb, 1, none⟩ = some (.slice Ab nb cb) ∧ w'.cell? ⟨b10, 0, none⟩ = some (.int .u64 (L32 : Nat)) ∧ w'.cell? ⟨b10, 1, none⟩ = some (.slice A32 n32 c32) ∧ w'.cell? ⟨b11, 0, none⟩ = some (.int .u64 (L37 : Nat)) ∧ w'.cell? ⟨b11, 1, none⟩ = some (.slice A37 n37 c37))
    (first | ((try dsimp only); (repeat' apply And.intro) <;> assumption) | (go_keep; done))
    (first
      | (go_at_call 16
         (with_reducible refine (bssame_true _ _ _ _ _ (H32.out.keep (by first | exact Ch.refl _ _ | exact (Ch.refl _ _).alloc _ | exact (Ch.refl _ _).drew | exact ((Ch.refl _ _).alloc _).alloc _ | exact ((Ch.refl _ _).alloc _).drew | exact (((Ch.refl _ _).alloc _).alloc _).alloc _ | exact (((Ch.refl _ _).alloc _).alloc _).drew | exact ((((Ch.refl _ _).alloc _).alloc _).alloc _).drew | exact ((((Ch.refl _ _).alloc _).alloc _).alloc _).alloc _ | exact (((((Ch.refl _ _).alloc _).alloc _).alloc _).alloc _).drew)) ((H37.out.keep (by first | exact Ch.refl _ _ | exact (Ch.refl _ _).alloc _ | exact (Ch.refl _ _).drew | exact ((Ch.refl _ _).alloc _).alloc _ | exact ((Ch.refl _ _).alloc _).drew | exact (((Ch.refl _ _).alloc _).alloc _).alloc _ | exact (((Ch.refl _ _).alloc _).alloc _).drew | exact ((((Ch.refl _ _).alloc _).alloc _).alloc _).drew | exact ((((Ch.refl _ _).alloc _).alloc _).alloc _).alloc _ | exact (((((Ch.refl _ _).alloc _).alloc _).alloc _).alloc _).drew)).cast Q5.out Q6.out)).mono ?_)
         rintro e w6 ⟨rfl, hC⟩
         have hCC : Ch S0 w5 w6 := Ch.trans (by first | exact Ch.refl _ _ | exact (Ch.refl _ _).alloc _ | exact (Ch.refl _ _).drew | exact ((Ch.refl _ _).alloc _).alloc _ | exact ((Ch.refl _ _).alloc _).drew | exact (((Ch.refl _ _).alloc _).alloc _).alloc _ | exact (((Ch.refl _ _).alloc _).alloc _).drew | exact ((((Ch.refl _ _).alloc _).alloc _).alloc _).drew | exact ((((Ch.refl _ _).alloc _).alloc _).alloc _).alloc _ | exact (((((Ch.refl _ _).alloc _).alloc _).alloc _).alloc _).drew) hC
         have HC6 := Lib.hid (HC5.out.trans hCC)
         clear HC5
         have Hx := Lib.hid (Ha.out.keep hCC)
         clear Ha
         have Ha := Hx
         clear Hx
         have Hx := Lib.hid (Hb.out.keep hCC)
         clear Hb
         have Hb := Hx
         clear Hx
         have Hx := Lib.hid (H30.out.keep hCC)
         clear H30
         have H30 := Hx
         clear Hx
         have Hx := Lib.hid (H32.out.keep hCC)
         clear H32
         have H32 := Hx
         clear Hx
         have Hx := Lib.hid (H35.out.keep hCC)
         clear H35
         have H35 := Hx
         clear Hx
         have Hx := Lib.hid (H37.out.keep hCC)
         clear H37
         have H37 := Hx
         clear Hx
         have Bx := Lib.hid (Bp1.out.keep hCC (fun h => h))
         clear Bp1
         have Bp1 := Bx
         clear Bx
         have Bx := Lib.hid (Bb.out.keep hCC (fun h => h))
         clear Bb
         have Bb := Bx
         clear Bx
         have Bx := Lib.hid (B10.out.keep hCC (fun h => h))
         clear B10
         have B10 := Bx
         clear Bx
         have Bx := Lib.hid (B11.out.keep hCC (fun h => h))
         clear B11
         have B11 := Bx
         clear Bx
         clear hC hCC
         try clear xp10 xp11
         try clear xp1z
         have xp1z := Bp1.out.lt
         have xp10 := Bp1.out.cell 0
         have xp11 := Bp1.out.cell 1
         simp only [List.getElem?_toArray, List.getElem?_cons_zero, List.getElem?_cons_succ] at xp10 xp11
         try clear xb0 xb1
         try clear xbz
         have xbz := Bb.out.lt
         have xb0 := Bb.out.cell 0
         have xb1 := Bb.out.cell 1
         simp only [List.getElem?_toArray, List.getElem?_cons_zero, List.getElem?_cons_succ] at xb0 xb1
         try clear x100 x101
         try clear x10z
         have x10z := B10.out.lt
         have x100 := B10.out.cell 0
         have x101 := B10.out.cell 1
         simp only [List.getElem?_toArray, List.getElem?_cons_zero, List.getElem?_cons_succ] at x100 x101
         try clear x110 x111
         try clear x11z
         have x11z := B11.out.lt
         have x110 := B11.out.cell 0
         have x111 := B11.out.cell 1
         simp only [List.getElem?_toArray, List.getElem?_cons_zero, List.getElem?_cons_succ] at x110 x111)
      | (go_at_call 17
         (with_reducible refine (bstest_true _ _ _ _ (H32.out.keep (by first | exact Ch.refl _ _ | exact (Ch.refl _ _).alloc _ | exact (Ch.refl _ _).drew | exact ((Ch.refl _ _).alloc _).alloc _ | exact ((Ch.refl _ _).alloc _).drew | exact (((Ch.refl _ _).alloc _).alloc _).alloc _ | exact (((Ch.refl _ _).alloc _).alloc _).drew | exact ((((Ch.refl _ _).alloc _).alloc _).alloc _).drew | exact ((((Ch.refl _ _).alloc _).alloc _).alloc _).alloc _ | exact (((((Ch.refl _ _).alloc _).alloc _).alloc _).alloc _).drew)) (u1 % 400 + u2 % 200) _ (by first | omega | (simp only [IntKind.wrap_u64]; omega)) Q7.out).mono ?_)
         rintro e w7 ⟨rfl, hC⟩
         have hCC : Ch S0 w6 w7 := Ch.trans (by first | exact Ch.refl _ _ | exact (Ch.refl _ _).alloc _ | exact (Ch.refl _ _).drew | exact ((Ch.refl _ _).alloc _).alloc _ | exact ((Ch.refl _ _).alloc _).drew | exact (((Ch.refl _ _).alloc _).alloc _).alloc _ | exact (((Ch.refl _ _).alloc _).alloc _).drew | exact ((((Ch.refl _ _).alloc _).alloc _).alloc _).drew | exact ((((Ch.refl _ _).alloc _).alloc _).alloc _).alloc _ | exact (((((Ch.refl _ _).alloc _).alloc _).alloc _).alloc _).drew) hC
         have HC7 := Lib.hid (HC6.out.trans hCC)
         clear HC6
         have Hx := Lib.hid (Ha.out.keep hCC)
         clear Ha
         have Ha := Hx
         clear Hx
         have Hx := Lib.hid (Hb.out.keep hCC)
         clear Hb
         have Hb := Hx
         clear Hx
         have Hx := Lib.hid (H30.out.keep hCC)
         clear H30
         have H30 := Hx
         clear Hx
         have Hx := Lib.hid (H32.out.keep hCC)
         clear H32
         have H32 := Hx
         clear Hx
         have Hx := Lib.hid (H35.out.keep hCC)
         clear H35
         have H35 := Hx
         clear Hx
         have Hx := Lib.hid (H37.out.keep hCC)
         clear H37
         have H37 := Hx
         clear Hx
         have Bx := Lib.hid (Bp1.out.keep hCC (fun h => h))
         clear Bp1
         have Bp1 := Bx
         clear Bx
         have Bx := Lib.hid (Bb.out.keep hCC (fun h => h))
         clear Bb
         have Bb := Bx
         clear Bx
         have Bx := Lib.hid (B10.out.keep hCC (fun h => h))
         clear B10
         have B10 := Bx
         clear Bx
         have Bx := Lib.hid (B11.out.keep hCC (fun h => h))
         clear B11
         have B11 := Bx
         clear Bx
         clear hC hCC
         try clear xp10 xp11
         try clear xp1z
         have xp1z := Bp1.out.lt
         have xp10 := Bp1.out.cell 0
         have xp11 := Bp1.out.cell 1
         simp only [List.getElem?_toArray, List.getElem?_cons_zero, List.getElem?_cons_succ] at xp10 xp11
         try clear xb0 xb1
         try clear xbz
         have xbz := Bb.out.lt
         have xb0 := Bb.out.cell 0
         have xb1 := Bb.out.cell 1
         simp only [List.getElem?_toArray, List.getElem?_cons_zero, List.getElem?_cons_succ] at xb0 xb1
         try clear x100 x101
         try clear x10z
         have x10z := B10.out.lt
         have x100 := B10.out.cell 0
         have x101 := B10.out.cell 1
         simp only [List.getElem?_toArray, List.getElem?_cons_zero, List.getElem?_cons_succ] at x100 x101
         try clear x110 x111
         try clear x11z
         have x11z := B11.out.lt
         have x110 := B11.out.cell 0
         have x111 := B11.out.cell 1
         simp only [List.getElem?_toArray, List.getElem?_cons_zero, List.getElem?_cons_succ] at x110 x111)
      | (go_at_call 30
         (with_reducible refine (bscount_t _ _ _ _ (H32.out.keep (by first | exact Ch.refl _ _ | exact (Ch.refl _ _).alloc _ | exact (Ch.refl _ _).drew | exact ((Ch.refl _ _).alloc _).alloc _ | exact ((Ch.refl _ _).alloc _).drew | exact (((Ch.refl _ _).alloc _).alloc _).alloc _ | exact (((Ch.refl _ _).alloc _).alloc _).drew | exact ((((Ch.refl _ _).alloc _).alloc _).alloc _).drew | exact ((((Ch.refl _ _).alloc _).alloc _).alloc _).alloc _ | exact (((((Ch.refl _ _).alloc _).alloc _).alloc _).alloc _).drew)) t Q10.out).mono ?_)
         rintro e w8 ⟨rfl, hC⟩
         have hCC : Ch S0 w7 w8 := Ch.trans (by first | exact Ch.refl _ _ | exact (Ch.refl _ _).alloc _ | exact (Ch.refl _ _).drew | exact ((Ch.refl _ _).alloc _).alloc _ | exact ((Ch.refl _ _).alloc _).drew | exact (((Ch.refl _ _).alloc _).alloc _).alloc _ | exact (((Ch.refl _ _).alloc _).alloc _).drew | exact ((((Ch.refl _ _).alloc _).alloc _).alloc _).drew | exact ((((Ch.refl _ _).alloc _).alloc _).alloc _).alloc _ | exact (((((Ch.refl _ _).alloc _).alloc _).alloc _).alloc _).drew) hC
         have HC8 := Lib.hid (HC7.out.trans hCC)
         clear HC7
         have Hx := Lib.hid (Ha.out.keep hCC)
         clear Ha
         have Ha := Hx
         clear Hx
         have Hx := Lib.hid (Hb.out.keep hCC)
         clear Hb
         have Hb := Hx
         clear Hx
         have Hx := Lib.hid (H30.out.keep hCC)
         clear H30
         have H30 := Hx
         clear Hx
         have Hx := Lib.hid (H32.out.keep hCC)
         clear H32
         have H32 := Hx
         clear Hx
         have Hx := Lib.hid (H35.out.keep hCC)
         clear H35
         have H35 := Hx
         clear Hx
         have Hx := Lib.hid (H37.out.keep hCC)
         clear H37
         have H37 := Hx
         clear Hx
         have Bx := Lib.hid (Bp1.out.keep hCC (fun h => h))
         clear Bp1
         have Bp1 := Bx
         clear Bx
         have Bx := Lib.hid (Bb.out.keep hCC (fun h => h))
         clear Bb
         have Bb := Bx
         clear Bx
         have Bx := Lib.hid (B10.out.keep hCC (fun h => h))
         clear B10
         have B10 := Bx
         clear Bx
         have Bx := Lib.hid (B11.out.keep hCC (fun h => h))
         clear B11
         have B11 := Bx
         clear Bx
         clear hC hCC
         try clear xp10 xp11
         try clear xp1z
         have xp1z := Bp1.out.lt
         have xp10 := Bp1.out.cell 0
         have xp11 := Bp1.out.cell 1
         simp only [List.getElem?_toArray, List.getElem?_cons_zero, List.getElem?_cons_succ] at xp10 xp11
         try clear xb0 xb1
         try clear xbz
         have xbz := Bb.out.lt
         have xb0 := Bb.out.cell 0
         have xb1 := Bb.out.cell 1
         simp only [List.getElem?_toArray, List.getElem?_cons_zero, List.getElem?_cons_succ] at xb0 xb1
         try clear x100 x101
         try clear x10z
         have x10z := B10.out.lt
         have x100 := B10.out.cell 0
         have x101 := B10.out.cell 1
         simp only [List.getElem?_toArray, List.getElem?_cons_zero, List.getElem?_cons_succ] at x100 x101
         try clear x110 x111
         try clear x11z
         have x11z := B11.out.lt
         have x110 := B11.out.cell 0
         have x111 := B11.out.cell 1
         simp only [List.getElem?_toArray, List.getElem?_cons_zero, List.getElem?_cons_succ] at x110 x111)
      | (go_at_call 29
         (with_reducible refine (bsclear_any _ _ _ _ (Hb.out.keep (by first | exact Ch.refl _ _ | exact (Ch.refl _ _).alloc _ | exact (Ch.refl _ _).drew | exact ((Ch.refl _ _).alloc _).alloc _ | exact ((Ch.refl _ _).alloc _).drew | exact (((Ch.refl _ _).alloc _).alloc _).alloc _ | exact (((Ch.refl _ _).alloc _).alloc _).drew | exact ((((Ch.refl _ _).alloc _).alloc _).alloc _).drew | exact ((((Ch.refl _ _).alloc _).alloc _).alloc _).alloc _ | exact (((((Ch.refl _ _).alloc _).alloc _).alloc _).alloc _).drew)) (u1 % 400) _ (by omega)).mono ?_)
         rintro e w9 ⟨ve, rfl, hV, hC⟩
         obtain ⟨Le, hE⟩ : ∃ x, x = Lb := ⟨_, rfl⟩
         rw [← hE] at hV
         have Ee := Lib.hid hE
         clear hE
         obtain ⟨Ae, ne, ce, rfl⟩ := hV.shape
         have hCC : Ch S0 w8 w9 := Ch.trans (by first | exact Ch.refl _ _ | exact (Ch.refl _ _).alloc _ | exact (Ch.refl _ _).drew | exact ((Ch.refl _ _).alloc _).alloc _ | exact ((Ch.refl _ _).alloc _).drew | exact (((Ch.refl _ _).alloc _).alloc _).alloc _ | exact (((Ch.refl _ _).alloc _).alloc _).drew | exact ((((Ch.refl _ _).alloc _).alloc _).alloc _).drew | exact ((((Ch.refl _ _).alloc _).alloc _).alloc _).alloc _ | exact (((((Ch.refl _ _).alloc _).alloc _).alloc _).alloc _).drew) hC
         have HC9 := Lib.hid (HC8.out.trans hCC)
         clear HC8
         have Hx := Lib.hid (Ha.out.keep hCC)
         clear Ha
         have Ha := Hx
         clear Hx
         have Hx := Lib.hid (Hb.out.keep hCC)
         clear Hb
         have Hb := Hx
         clear Hx
         have Hx := Lib.hid (H30.out.keep hCC)
         clear H30
         have H30 := Hx
         clear Hx
         have Hx := Lib.hid (H32.out.keep hCC)
         clear H32
         have H32 := Hx
         clear Hx
         have Hx := Lib.hid (H35.out.keep hCC)
         clear H35
         have H35 := Hx
         clear Hx
         have Hx := Lib.hid (H37.out.keep hCC)
         clear H37
         have H37 := Hx
         clear Hx
         have Bx := Lib.hid (Bp1.out.keep hCC (fun h => h))
         clear Bp1
         have Bp1 := Bx
         clear Bx
         have Bx := Lib.hid (Bb.out.keep hCC (fun h => h))
         clear Bb
         have Bb := Bx
         clear Bx
         have Bx := Lib.hid (B10.out.keep hCC (fun h => h))
         clear B10
         have B10 := Bx
         clear Bx
         have Bx := Lib.hid (B11.out.keep hCC (fun h => h))
         clear B11
         have B11 := Bx
         clear Bx
         have He := Lib.hid (hV.mono (base' := 0) (Nat.zero_le _))
         clear hV
         clear hC hCC
         try clear xp10 xp11
         try clear xp1z
         have xp1z := Bp1.out.lt
         have xp10 := Bp1.out.cell 0
         have xp11 := Bp1.out.cell 1
         simp only [List.getElem?_toArray, List.getElem?_cons_zero, List.getElem?_cons_succ] at xp10 xp11
         try clear xb0 xb1
         try clear xbz
         have xbz := Bb.out.lt
         have xb0 := Bb.out.cell 0
         have xb1 := Bb.out.cell 1
         simp only [List.getElem?_toArray, List.getElem?_cons_zero, List.getElem?_cons_succ] at xb0 xb1
         try clear x100 x101
         try clear x10z
         have x10z := B10.out.lt
         have x100 := B10.out.cell 0
         have x101 := B10.out.cell 1
         simp only [List.getElem?_toArray, List.getElem?_cons_zero, List.getElem?_cons_succ] at x100 x101
         try clear x110 x111
         try clear x11z
         have x11z := B11.out.lt
         have x110 := B11.out.cell 0
         have x111 := B11.out.cell 1
         simp only [List.getElem?_toArray, List.getElem?_cons_zero, List.getElem?_cons_succ] at x110 x111)
      | (go_at_call 30
         (with_reducible refine (bscount_t _ _ _ _ (He.out.keep (by first | exact Ch.refl _ _ | exact (Ch.refl _ _).alloc _ | exact (Ch.refl _ _).drew | exact ((Ch.refl _ _).alloc _).alloc _ | exact ((Ch.refl _ _).alloc _).drew | exact (((Ch.refl _ _).alloc _).alloc _).alloc _ | exact (((Ch.refl _ _).alloc _).alloc _).drew | exact ((((Ch.refl _ _).alloc _).alloc _).alloc _).drew | exact ((((Ch.refl _ _).alloc _).alloc _).alloc _).alloc _ | exact (((((Ch.refl _ _).alloc _).alloc _).alloc _).alloc _).drew)) t (by rw [Ee.out]; exact Q8.out)).mono ?_)
         rintro e w10 ⟨rfl, hC⟩
         have hCC : Ch S0 w9 w10 := Ch.trans (by first | exact Ch.refl _ _ | exact (Ch.refl _ _).alloc _ | exact (Ch.refl _ _).drew | exact ((Ch.refl _ _).alloc _).alloc _ | exact ((Ch.refl _ _).alloc _).drew | exact (((Ch.refl _ _).alloc _).alloc _).alloc _ | exact (((Ch.refl _ _).alloc _).alloc _).drew | exact ((((Ch.refl _ _).alloc _).alloc _).alloc _).drew | exact ((((Ch.refl _ _).alloc _).alloc _).alloc _).alloc _ | exact (((((Ch.refl _ _).alloc _).alloc _).alloc _).alloc _).drew) hC
         have HC10 := Lib.hid (HC9.out.trans hCC)
         clear HC9
         have Hx := Lib.hid (Ha.out.keep hCC)
         clear Ha
         have Ha := Hx
         clear Hx
         have Hx := Lib.hid (Hb.out.keep hCC)
         clear Hb
         have Hb := Hx
         clear Hx
         have Hx := Lib.hid (H30.out.keep hCC)
         clear H30
         have H30 := Hx
         clear Hx
         have Hx := Lib.hid (H32.out.keep hCC)
         clear H32
         have H32 := Hx
         clear Hx
         have Hx := Lib.hid (H35.out.keep hCC)
         clear H35
         have H35 := Hx
         clear Hx
         have Hx := Lib.hid (H37.out.keep hCC)
         clear H37
         have H37 := Hx
         clear Hx
         have Hx := Lib.hid (He.out.keep hCC)
         clear He
         have He := Hx
         clear Hx
         have Bx := Lib.hid (Bp1.out.keep hCC (fun h => h))
         clear Bp1
         have Bp1 := Bx
         clear Bx
         have Bx := Lib.hid (Bb.out.keep hCC (fun h => h))
         clear Bb
         have Bb := Bx
         clear Bx
         have Bx := Lib.hid (B10.out.keep hCC (fun h => h))
         clear B10
         have B10 := Bx
         clear Bx
         have Bx := Lib.hid (B11.out.keep hCC (fun h => h))
         clear B11
         have B11 := Bx
         clear Bx
         clear hC hCC
         try clear xp10 xp11
         try clear xp1z
         have xp1z := Bp1.out.lt
         have xp10 := Bp1.out.cell 0
         have xp11 := Bp1.out.cell 1
         simp only [List.getElem?_toArray, List.getElem?_cons_zero, List.getElem?_cons_succ] at xp10 xp11
         try clear xb0 xb1
         try clear xbz
         have xbz := Bb.out.lt
         have xb0 := Bb.out.cell 0
         have xb1 := Bb.out.cell 1
         simp only [List.getElem?_toArray, List.getElem?_cons_zero, List.getElem?_cons_succ] at xb0 xb1
         try clear x100 x101
         try clear x10z
         have x10z := B10.out.lt
         have x100 := B10.out.cell 0
         have x101 := B10.out.cell 1
         simp only [List.getElem?_toArray, List.getElem?_cons_zero, List.getElem?_cons_succ] at x100 x101
         try clear x110 x111
         try clear x11z
         have x11z := B11.out.lt
         have x110 := B11.out.cell 0
         have x111 := B11.out.cell 1
         simp only [List.getElem?_toArray, List.getElem?_cons_zero, List.getElem?_cons_succ] at x110 x111))
  go_wp2
  go_ret
  exact ⟨rfl, HC10.out⟩

end Go.Proofs.Ytgnhmgnpmbmjcaa
