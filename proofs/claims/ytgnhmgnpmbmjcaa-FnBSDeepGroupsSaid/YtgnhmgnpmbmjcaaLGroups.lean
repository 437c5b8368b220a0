/- THE WALK of FnBSDeepGroups. -/
import Derived.Test.YtgnhmgnpmbmjcaaWj
namespace Go.Proofs.Ytgnhmgnpmbmjcaa
open Go.RowKit

set_option maxRecDepth 100000 in
set_option maxHeartbeats 4000000 in
theorem groups_small (l1 l2 l3 : Nat) (P1 P2 P3 : Option Addr) (m1 m2 m3 r1 r2 r3 : Nat) (xs ys zs : List Nat) (w : World)
    (hx : Lst 0 w (.slice P1 m1 r1) xs) (hy : Lst 0 w (.slice P2 m2 r2) ys) (hz : Lst 0 w (.slice P3 m3 r3) zs) (bx : ∀ j (hj : j < xs.length), xs[j] < 18446744073709551616) (by_ : ∀ j (hj : j < ys.length), ys[j] < 18446744073709551616) (bz : ∀ j (hj : j < zs.length), zs[j] < 18446744073709551616)
    (lx : xs.length = m1) (ly : ys.length = m2) (lz : zs.length = m3) (h1 : m1 ≤ 2147483647) (h2 : m2 ≤ 2147483647) (h3 : m3 ≤ 2147483647) :
    Calls Try.prog 4 #[.agg #[.int .u64 l1, .slice P1 m1 r1], .agg #[.int .u64 l2, .slice P2 m2 r2], .agg #[.int .u64 l3, .slice P3 m3 r3]] w fun e w' => e = .returned (.bool true) ∧ Ch S0 w w' := by
  have HX := Lib.hid bx
  have HY := Lib.hid by_
  have HZ := Lib.hid bz
  have LX := Lib.hid lx
  have LY := Lib.hid ly
  have LZ := Lib.hid lz
  have IX := Lib.hid hx
  have IY := Lib.hid hy
  have IZ := Lib.hid hz
  have HC0 := Lib.hid (Ch.refl S0 w)
  clear bx by_ bz lx ly lz hx hy hz
  go_enter Try.func4, Try.ntmps4
  go_wp2_with fail
  refine (fits_yes l1 m1 r1 P1 _ h1).mono ?_
  rintro e w1 ⟨rfl, hC⟩
  have hCC : Ch S0 w w1 := Ch.trans (by first | exact Ch.refl _ _ | exact (Ch.refl _ _).alloc _ | exact (Ch.refl _ _).drew | exact ((Ch.refl _ _).alloc _).alloc _ | exact ((Ch.refl _ _).alloc _).drew | exact (((Ch.refl _ _).alloc _).alloc _).alloc _ | exact (((Ch.refl _ _).alloc _).alloc _).drew | exact ((((Ch.refl _ _).alloc _).alloc _).alloc _).drew | exact ((((Ch.refl _ _).alloc _).alloc _).alloc _).alloc _ | exact (((((Ch.refl _ _).alloc _).alloc _).alloc _).alloc _).drew) hC
  have HC1 := Lib.hid (HC0.out.trans hCC)
  clear HC0
  have Bp : Hid (Blk w1 (w.heap.size) #[.int .u64 (l1 : Nat), .slice P1 m1 r1]) := Lib.hid (Blk.keep (S := S0) (by first | exact Blk.newAt _ _ (by simp) | exact (Blk.newAt _ _ (by simp)).alloc _ | exact ((Blk.newAt _ _ (by simp)).alloc _).alloc _ | exact (((Blk.newAt _ _ (by simp)).alloc _).alloc _).alloc _) hC (fun h => h))
  have Bq : Hid (Blk w1 (w.heap.size + 1) #[.int .u64 (l2 : Nat), .slice P2 m2 r2]) := Lib.hid (Blk.keep (S := S0) (by first | exact Blk.newAt _ _ (by simp) | exact (Blk.newAt _ _ (by simp)).alloc _ | exact ((Blk.newAt _ _ (by simp)).alloc _).alloc _ | exact (((Blk.newAt _ _ (by simp)).alloc _).alloc _).alloc _) hC (fun h => h))
  have Br : Hid (Blk w1 (w.heap.size + 1 + 1) #[.int .u64 (l3 : Nat), .slice P3 m3 r3]) := Lib.hid (Blk.keep (S := S0) (by first | exact Blk.newAt _ _ (by simp) | exact (Blk.newAt _ _ (by simp)).alloc _ | exact ((Blk.newAt _ _ (by simp)).alloc _).alloc _ | exact (((Blk.newAt _ _ (by simp)).alloc _).alloc _).alloc _) hC (fun h => h))
  clear hC hCC
  try clear xp0 xp1
  try clear xpz
  have xpz := Bp.out.lt
  have xp0 := Bp.out.cell 0
  have xp1 := Bp.out.cell 1
  simp only [List.getElem?_toArray, List.getElem?_cons_zero, List.getElem?_cons_succ] at xp0 xp1
  try clear xq0 xq1
  try clear xqz
  have xqz := Bq.out.lt
  have xq0 := Bq.out.cell 0
  have xq1 := Bq.out.cell 1
  simp only [List.getElem?_toArray, List.getElem?_cons_zero, List.getElem?_cons_succ] at xq0 xq1
  try clear xr0 xr1
  try clear xrz
  have xrz := Br.out.lt
  have xr0 := Br.out.cell 0
  have xr1 := Br.out.cell 1
  simp only [List.getElem?_toArray, List.getElem?_cons_zero, List.getElem?_cons_succ] at xr0 xr1
  go_wp2_with fail
  refine (fits_yes l2 m2 r2 P2 _ h2).mono ?_
  rintro e w2 ⟨rfl, hC⟩
  have hCC : Ch S0 w1 w2 := Ch.trans (by first | exact Ch.refl _ _ | exact (Ch.refl _ _).alloc _ | exact (Ch.refl _ _).drew | exact ((Ch.refl _ _).alloc _).alloc _ | exact ((Ch.refl _ _).alloc _).drew | exact (((Ch.refl _ _).alloc _).alloc _).alloc _ | exact (((Ch.refl _ _).alloc _).alloc _).drew | exact ((((Ch.refl _ _).alloc _).alloc _).alloc _).drew | exact ((((Ch.refl _ _).alloc _).alloc _).alloc _).alloc _ | exact (((((Ch.refl _ _).alloc _).alloc _).alloc _).alloc _).drew) hC
  have HC2 := Lib.hid (HC1.out.trans hCC)
  clear HC1
  have Bx := Lib.hid (Bp.out.keep hCC (fun h => h))
  clear Bp
  have Bp := Bx
  clear Bx
  have Bx := Lib.hid (Bq.out.keep hCC (fun h => h))
  clear Bq
  have Bq := Bx
  clear Bx
  have Bx := Lib.hid (Br.out.keep hCC (fun h => h))
  clear Br
  have Br := Bx
  clear Bx
  clear hC hCC
  try clear xp0 xp1
  try clear xpz
  have xpz := Bp.out.lt
  have xp0 := Bp.out.cell 0
  have xp1 := Bp.out.cell 1
  simp only [List.getElem?_toArray, List.getElem?_cons_zero, List.getElem?_cons_succ] at xp0 xp1
  try clear xq0 xq1
  try clear xqz
  have xqz := Bq.out.lt
  have xq0 := Bq.out.cell 0
  have xq1 := Bq.out.cell 1
  simp only [List.getElem?_toArray, List.getElem?_cons_zero, List.getElem?_cons_succ] at xq0 xq1
  try clear xr0 xr1
  try clear xrz
  have xrz := Br.out.lt
  have xr0 := Br.out.cell 0
  have xr1 := Br.out.cell 1
  simp only [List.getElem?_toArray, List.getElem?_cons_zero, List.getElem?_cons_succ] at xr0 xr1
  go_wp2_with fail
  refine (fits_yes l3 m3 r3 P3 _ h3).mono ?_
  rintro e w3 ⟨rfl, hC⟩
  have hCC : Ch S0 w2 w3 := Ch.trans (by first | exact Ch.refl _ _ | exact (Ch.refl _ _).alloc _ | exact (Ch.refl _ _).drew | exact ((Ch.refl _ _).alloc _).alloc _ | exact ((Ch.refl _ _).alloc _).drew | exact (((Ch.refl _ _).alloc _).alloc _).alloc _ | exact (((Ch.refl _ _).alloc _).alloc _).drew | exact ((((Ch.refl _ _).alloc _).alloc _).alloc _).drew | exact ((((Ch.refl _ _).alloc _).alloc _).alloc _).alloc _ | exact (((((Ch.refl _ _).alloc _).alloc _).alloc _).alloc _).drew) hC
  have HC3 := Lib.hid (HC2.out.trans hCC)
  clear HC2
  have Bx := Lib.hid (Bp.out.keep hCC (fun h => h))
  clear Bp
  have Bp := Bx
  clear Bx
  have Bx := Lib.hid (Bq.out.keep hCC (fun h => h))
  clear Bq
  have Bq := Bx
  clear Bx
  have Bx := Lib.hid (Br.out.keep hCC (fun h => h))
  clear Br
  have Br := Bx
  clear Bx
  clear hC hCC
  try clear xp0 xp1
  try clear xpz
  have xpz := Bp.out.lt
  have xp0 := Bp.out.cell 0
  have xp1 := Bp.out.cell 1
  simp only [List.getElem?_toArray, List.getElem?_cons_zero, List.getElem?_cons_succ] at xp0 xp1
  try clear xq0 xq1
  try clear xqz
  have xqz := Bq.out.lt
  have xq0 := Bq.out.cell 0
  have xq1 := Bq.out.cell 1
  simp only [List.getElem?_toArray, List.getElem?_cons_zero, List.getElem?_cons_succ] at xq0 xq1
  try clear xr0 xr1
  try clear xrz
  have xrz := Br.out.lt
  have xr0 := Br.out.cell 0
  have xr1 := Br.out.cell 1
  simp only [List.getElem?_toArray, List.getElem?_cons_zero, List.getElem?_cons_succ] at xr0 xr1
  go_wp2_with fail
  obtain ⟨I0, hI0⟩ : ∃ I0 : (Nat → Bool) → Act → World → Prop, I0 = (fun D a' w' => (∃ x25 x26 x27 x28 x29 x30 x31 x7 x8 x9 : Value, a' = ({ tmps := #[(Value.agg #[Value.int IntKind.u64 ↑l1, Value.slice P1 m1 r1]), (Value.agg #[Value.int IntKind.u64 ↑l2, Value.slice P2 m2 r2]), (Value.agg #[Value.int IntKind.u64 ↑l3, Value.slice P3 m3 r3]), (Value.pointer (some { block := w.heap.size, off := 0 })), (Value.pointer (some { block := w.heap.size + 1, off := 0 })), (Value.pointer (some { block := w.heap.size + 1 + 1, off := 0 })), (Value.bool false), x7, x8, x9, undef, undef, (Value.agg #[Value.int IntKind.u64 ↑l1, Value.slice P1 m1 r1]), (Value.bool true), (Value.bool false), (Value.bool false), (Value.agg #[Value.int IntKind.u64 ↑l2, Value.slice P2 m2 r2]), (Value.bool true), (Value.bool false), (Value.bool false), (Value.bool false), (Value.agg #[Value.int IntKind.u64 ↑l3, Value.slice P3 m3 r3]), (Value.bool true), (Value.bool false), (Value.bool false), x25, x26, x27, x28, x29, x30, x31, undef, undef, undef, undef, undef, undef, undef, undef, undef, undef, undef, undef, undef, undef, undef, undef, undef, undef, undef, undef, undef, undef, undef, undef, undef, undef, undef, undef, undef, undef, undef, undef, undef, undef], defers := [] } : Act) ∧ RM w3 w' D [x25, x26, x27, x28, x29, x30, x31, x7, x8, x9, undef, undef, undef] [(fun _ _ => True), (fun L g => L ≤ 400), (fun _ _ => True), (fun L g => L ≤ 400), (fun _ _ => True), (fun L g => L ≤ 400), (fun L g => ∃ g0, L = 451 ∧ g = Bit.put g0 450 true), (fun _ _ => True), (fun _ _ => True), (fun _ _ => True), (fun _ _ => True), (fun _ _ => True), (fun _ _ => True)] [1, 3, 5, 6] [7, 8, 9] [0, 0, 0, 0, 0, 0, 0, 10, 11, 12, 0, 0, 0] [0, 0, 0, 0, 0, 0, 0, 1, 3, 6, 0, 0, 0] ∧ (D 0 = true → x25 = .agg #[.int .u64 (l1 : Nat), .slice P1 m1 r1]) ∧ (D 2 = true → x27 = .agg #[.int .u64 (l2 : Nat), .slice P2 m2 r2]) ∧ (D 4 = true → x29 = .agg #[.int .u64 (l3 : Nat), .slice P3 m3 r3]) ∧ (D 3 = true → D 1 = true) ∧ (D 5 = true → D 3 = true) ∧ (D 6 = true → D 5 = true))) := ⟨_, rfl⟩
  have HI := Lib.hid hI0
  clear hI0
  refine region_inv (by kernel_rfl) (by kernel_rfl) I0 ?_ ?_ ?_
  · rw [HI.out]; exact ⟨_, _, _, _, _, _, _, _, _, _, rfl, ⟨(Ch.refl S0 w3).drew, (fun _ _ h => by cases h), (fun _ _ h => by cases h), (fun _ _ _ _ h => by cases h), (fun _ _ _ _ _ h => by cases h), (fun _ _ h => by cases h)⟩, (fun h => by cases h), (fun h => by cases h), (fun h => by cases h), (fun h => by cases h), (fun h => by cases h), (fun h => by cases h)⟩
  · refine ⟨?_, ?_, ?_, ?_, ?_, ?_, ?_, ?_, ?_, ?_, ?_, ?_, ?_, trivial⟩
    · intro D a' w' hD hdep hI KK hKK
      rw [HI.out] at hI
      obtain ⟨x25, x26, x27, x28, x29, x30, x31, x7, x8, x9, rfl, hM, f0, f2, f4, k3, k5, k6⟩ := hI
      simp [Region.binds] at hdep
      have K3 := Lib.hid k3
      clear k3
      have K5 := Lib.hid k5
      clear k5
      have K6 := Lib.hid k6
      clear k6
      have HM := Lib.hid hM
      clear hM
      have F0 := Lib.hid f0
      clear f0
      have F2 := Lib.hid f2
      clear f2
      have F4 := Lib.hid f4
      clear f4
      have Bx := Bp.out.keep HM.out.ch (fun h => h)
      have c0 : w'.cell? ⟨w.heap.size, 0, none⟩ = some (.int .u64 (l1 : Nat)) := by rw [Bx.cell]; rfl
      have c1 : w'.cell? ⟨w.heap.size, 1, none⟩ = some (.slice P1 m1 r1) := by rw [Bx.cell]; rfl
      clear Bx hdep
      go_wp2_with fail
      rw [HI.out]; exact ⟨_, _, _, _, _, _, _, _, _, _, rfl, HM.out.other (k := 0) (.agg #[.int .u64 (l1 : Nat), .slice P1 m1 r1]) (by decide) (by decide) (by decide) (by decide), fun _ => rfl, fun h => F2.out (upd_out h (by decide)), fun h => F4.out (upd_out h (by decide)), fun h => upd_mono (K3.out (upd_out h (by decide))), fun h => upd_mono (K5.out (upd_out h (by decide))), fun h => upd_mono (K6.out (upd_out h (by decide)))⟩
    · intro D a' w' hD hdep hI KK hKK
      rw [HI.out] at hI
      obtain ⟨x25, x26, x27, x28, x29, x30, x31, x7, x8, x9, rfl, hM, f0, f2, f4, k3, k5, k6⟩ := hI
      simp [Region.binds] at hdep
      have K3 := Lib.hid k3
      clear k3
      have K5 := Lib.hid k5
      clear k5
      have K6 := Lib.hid k6
      clear k6
      have d0 : D 0 = true := by simp_all
      have HM := Lib.hid hM
      clear hM
      have F0 := Lib.hid f0
      clear f0
      have F2 := Lib.hid f2
      clear f2
      have F4 := Lib.hid f4
      clear f4
      have e25 := F0.out d0
      subst e25
      clear hdep d0
      have HC := Lib.hid (HC3.out.trans HM.out.ch)
      go_wp2_with fail
      refine (bits_any l1 _ xs _ (IX.out.keep HC.out) HX.out (by rw [LX.out]; omega)).mono ?_
      rintro e w2 ⟨v2, L2, g2, rfl, hL2, hV2, hC2⟩
      have HV2 := Lib.hid hV2
      have HC2 := Lib.hid hC2
      clear hV2 hC2
      go_wp2_with fail
      rw [HI.out]; exact ⟨_, _, _, _, _, _, _, _, _, _, rfl, HM.out.call (k := 1) (by simp) (by decide) (by decide) (by decide) hD HC2.out HV2.out (hL2), fun _ => rfl, fun h => F2.out (upd_out h (by decide)), fun h => F4.out (upd_out h (by decide)), fun h => upd_mono (K3.out (upd_out h (by decide))), fun h => upd_mono (K5.out (upd_out h (by decide))), fun h => upd_mono (K6.out (upd_out h (by decide)))⟩
    · intro D a' w' hD hdep hI KK hKK
      rw [HI.out] at hI
      obtain ⟨x25, x26, x27, x28, x29, x30, x31, x7, x8, x9, rfl, hM, f0, f2, f4, k3, k5, k6⟩ := hI
      simp [Region.binds] at hdep
      have K3 := Lib.hid k3
      clear k3
      have K5 := Lib.hid k5
      clear k5
      have K6 := Lib.hid k6
      clear k6
      have HM := Lib.hid hM
      clear hM
      have F0 := Lib.hid f0
      clear f0
      have F2 := Lib.hid f2
      clear f2
      have F4 := Lib.hid f4
      clear f4
      have Bx := Bq.out.keep HM.out.ch (fun h => h)
      have c0 : w'.cell? ⟨w.heap.size + 1, 0, none⟩ = some (.int .u64 (l2 : Nat)) := by rw [Bx.cell]; rfl
      have c1 : w'.cell? ⟨w.heap.size + 1, 1, none⟩ = some (.slice P2 m2 r2) := by rw [Bx.cell]; rfl
      clear Bx hdep
      go_wp2_with fail
      rw [HI.out]; exact ⟨_, _, _, _, _, _, _, _, _, _, rfl, HM.out.other (k := 2) (.agg #[.int .u64 (l2 : Nat), .slice P2 m2 r2]) (by decide) (by decide) (by decide) (by decide), fun h => F0.out (upd_out h (by decide)), fun _ => rfl, fun h => F4.out (upd_out h (by decide)), fun h => upd_mono (K3.out (upd_out h (by decide))), fun h => upd_mono (K5.out (upd_out h (by decide))), fun h => upd_mono (K6.out (upd_out h (by decide)))⟩
    · intro D a' w' hD hdep hI KK hKK
      rw [HI.out] at hI
      obtain ⟨x25, x26, x27, x28, x29, x30, x31, x7, x8, x9, rfl, hM, f0, f2, f4, k3, k5, k6⟩ := hI
      simp [Region.binds] at hdep
      have K3 := Lib.hid k3
      clear k3
      have K5 := Lib.hid k5
      clear k5
      have K6 := Lib.hid k6
      clear k6
      have ce : D 1 = true := by simp_all
      have CE := Lib.hid ce
      clear ce
      have d2 : D 2 = true := by simp_all
      have HM := Lib.hid hM
      clear hM
      have F0 := Lib.hid f0
      clear f0
      have F2 := Lib.hid f2
      clear f2
      have F4 := Lib.hid f4
      clear f4
      have e27 := F2.out d2
      subst e27
      clear hdep d2
      have HC := Lib.hid (HC3.out.trans HM.out.ch)
      go_wp2_with fail
      refine (bits_any l2 _ ys _ (IY.out.keep HC.out) HY.out (by rw [LY.out]; omega)).mono ?_
      rintro e w2 ⟨v2, L2, g2, rfl, hL2, hV2, hC2⟩
      have HV2 := Lib.hid hV2
      have HC2 := Lib.hid hC2
      clear hV2 hC2
      go_wp2_with fail
      rw [HI.out]; exact ⟨_, _, _, _, _, _, _, _, _, _, rfl, HM.out.call (k := 3) (by simp) (by decide) (by decide) (by decide) hD HC2.out HV2.out (hL2), fun h => F0.out (upd_out h (by decide)), fun _ => rfl, fun h => F4.out (upd_out h (by decide)), fun _ => upd_mono CE.out, fun h => upd_mono (K5.out (upd_out h (by decide))), fun h => upd_mono (K6.out (upd_out h (by decide)))⟩
    · intro D a' w' hD hdep hI KK hKK
      rw [HI.out] at hI
      obtain ⟨x25, x26, x27, x28, x29, x30, x31, x7, x8, x9, rfl, hM, f0, f2, f4, k3, k5, k6⟩ := hI
      simp [Region.binds] at hdep
      have K3 := Lib.hid k3
      clear k3
      have K5 := Lib.hid k5
      clear k5
      have K6 := Lib.hid k6
      clear k6
      have HM := Lib.hid hM
      clear hM
      have F0 := Lib.hid f0
      clear f0
      have F2 := Lib.hid f2
      clear f2
      have F4 := Lib.hid f4
      clear f4
      have Bx := Br.out.keep HM.out.ch (fun h => h)
      have c0 : w'.cell? ⟨w.heap.size + 1 + 1, 0, none⟩ = some (.int .u64 (l3 : Nat)) := by rw [Bx.cell]; rfl
      have c1 : w'.cell? ⟨w.heap.size + 1 + 1, 1, none⟩ = some (.slice P3 m3 r3) := by rw [Bx.cell]; rfl
      clear Bx hdep
      go_wp2_with fail
      rw [HI.out]; exact ⟨_, _, _, _, _, _, _, _, _, _, rfl, HM.out.other (k := 4) (.agg #[.int .u64 (l3 : Nat), .slice P3 m3 r3]) (by decide) (by decide) (by decide) (by decide), fun h => F0.out (upd_out h (by decide)), fun h => F2.out (upd_out h (by decide)), fun _ => rfl, fun h => upd_mono (K3.out (upd_out h (by decide))), fun h => upd_mono (K5.out (upd_out h (by decide))), fun h => upd_mono (K6.out (upd_out h (by decide)))⟩
    · intro D a' w' hD hdep hI KK hKK
      rw [HI.out] at hI
      obtain ⟨x25, x26, x27, x28, x29, x30, x31, x7, x8, x9, rfl, hM, f0, f2, f4, k3, k5, k6⟩ := hI
      simp [Region.binds] at hdep
      have K3 := Lib.hid k3
      clear k3
      have K5 := Lib.hid k5
      clear k5
      have K6 := Lib.hid k6
      clear k6
      have ce : D 3 = true := by simp_all
      have CE := Lib.hid ce
      clear ce
      have d4 : D 4 = true := by simp_all
      have HM := Lib.hid hM
      clear hM
      have F0 := Lib.hid f0
      clear f0
      have F2 := Lib.hid f2
      clear f2
      have F4 := Lib.hid f4
      clear f4
      have e29 := F4.out d4
      subst e29
      clear hdep d4
      have HC := Lib.hid (HC3.out.trans HM.out.ch)
      go_wp2_with fail
      refine (bits_any l3 _ zs _ (IZ.out.keep HC.out) HZ.out (by rw [LZ.out]; omega)).mono ?_
      rintro e w2 ⟨v2, L2, g2, rfl, hL2, hV2, hC2⟩
      have HV2 := Lib.hid hV2
      have HC2 := Lib.hid hC2
      clear hV2 hC2
      go_wp2_with fail
      rw [HI.out]; exact ⟨_, _, _, _, _, _, _, _, _, _, rfl, HM.out.call (k := 5) (by simp) (by decide) (by decide) (by decide) hD HC2.out HV2.out (hL2), fun h => F0.out (upd_out h (by decide)), fun h => F2.out (upd_out h (by decide)), fun _ => rfl, fun h => upd_mono (K3.out (upd_out h (by decide))), fun _ => upd_mono CE.out, fun h => upd_mono (K6.out (upd_out h (by decide)))⟩
    · intro D a' w' hD hdep hI KK hKK
      rw [HI.out] at hI
      obtain ⟨x25, x26, x27, x28, x29, x30, x31, x7, x8, x9, rfl, hM, f0, f2, f4, k3, k5, k6⟩ := hI
      simp [Region.binds] at hdep
      have K3 := Lib.hid k3
      clear k3
      have K5 := Lib.hid k5
      clear k5
      have K6 := Lib.hid k6
      clear k6
      have ce : D 5 = true := by simp_all
      have CE := Lib.hid ce
      clear ce
      have d5 : D 5 = true := by simp_all
      have HM := Lib.hid hM
      clear hM
      have F0 := Lib.hid f0
      clear f0
      have F2 := Lib.hid f2
      clear f2
      have F4 := Lib.hid f4
      clear f4
      obtain ⟨L30, g30, hR30, hV30⟩ := HM.out.val 5 (by decide) d5
      have V30 : Hid (IsB 0 w' x30 L30 g30) := Lib.hid hV30
      have R30 : Hid ((fun (L : Nat) (g : Nat → Bool) => (fun L g => L ≤ 400) L g) L30 g30) := Lib.hid hR30
      clear hV30 hR30
      clear hdep d5
      have HC := Lib.hid (HC3.out.trans HM.out.ch)
      go_wp2_with fail
      refine (bsset_any x30 L30 g30 _ V30.out 450 450 (by rfl) (by omega)).mono ?_
      rintro e w2 ⟨v2, rfl, hV2, hC2⟩
      have HV2 := Lib.hid hV2
      have HC2 := Lib.hid hC2
      clear hV2 hC2
      go_wp2_with fail
      rw [HI.out]; exact ⟨_, _, _, _, _, _, _, _, _, _, rfl, HM.out.call (k := 6) (by simp) (by decide) (by decide) (by decide) hD HC2.out HV2.out (⟨g30, by have h : L30 ≤ 400 := R30.out; omega, rfl⟩), fun h => F0.out (upd_out h (by decide)), fun h => F2.out (upd_out h (by decide)), fun h => F4.out (upd_out h (by decide)), fun h => upd_mono (K3.out (upd_out h (by decide))), fun h => upd_mono (K5.out (upd_out h (by decide))), fun _ => upd_mono CE.out⟩
    · intro D a' w' hD hdep hI KK hKK
      rw [HI.out] at hI
      obtain ⟨x25, x26, x27, x28, x29, x30, x31, x7, x8, x9, rfl, hM, f0, f2, f4, k3, k5, k6⟩ := hI
      simp [Region.binds] at hdep
      have K3 := Lib.hid k3
      clear k3
      have K5 := Lib.hid k5
      clear k5
      have K6 := Lib.hid k6
      clear k6
      have HM := Lib.hid hM
      clear hM
      have F0 := Lib.hid f0
      clear f0
      have F2 := Lib.hid f2
      clear f2
      have F4 := Lib.hid f4
      clear f4
      clear hdep
      go_wp2_with fail
      rw [HI.out]; exact ⟨_, _, _, _, _, _, _, _, _, _, rfl, HM.out.alloc (k := 7) (by simp) (by decide) (by decide) (by decide) hD (by decide) 25, fun h => F0.out (upd_out h (by decide)), fun h => F2.out (upd_out h (by decide)), fun h => F4.out (upd_out h (by decide)), fun h => upd_mono (K3.out (upd_out h (by decide))), fun h => upd_mono (K5.out (upd_out h (by decide))), fun h => upd_mono (K6.out (upd_out h (by decide)))⟩
    · intro D a' w' hD hdep hI KK hKK
      rw [HI.out] at hI
      obtain ⟨x25, x26, x27, x28, x29, x30, x31, x7, x8, x9, rfl, hM, f0, f2, f4, k3, k5, k6⟩ := hI
      simp [Region.binds] at hdep
      have K3 := Lib.hid k3
      clear k3
      have K5 := Lib.hid k5
      clear k5
      have K6 := Lib.hid k6
      clear k6
      have HM := Lib.hid hM
      clear hM
      have F0 := Lib.hid f0
      clear f0
      have F2 := Lib.hid f2
      clear f2
      have F4 := Lib.hid f4
      clear f4
      clear hdep
      go_wp2_with fail
      rw [HI.out]; exact ⟨_, _, _, _, _, _, _, _, _, _, rfl, HM.out.alloc (k := 8) (by simp) (by decide) (by decide) (by decide) hD (by decide) 25, fun h => F0.out (upd_out h (by decide)), fun h => F2.out (upd_out h (by decide)), fun h => F4.out (upd_out h (by decide)), fun h => upd_mono (K3.out (upd_out h (by decide))), fun h => upd_mono (K5.out (upd_out h (by decide))), fun h => upd_mono (K6.out (upd_out h (by decide)))⟩
    · intro D a' w' hD hdep hI KK hKK
      rw [HI.out] at hI
      obtain ⟨x25, x26, x27, x28, x29, x30, x31, x7, x8, x9, rfl, hM, f0, f2, f4, k3, k5, k6⟩ := hI
      simp [Region.binds] at hdep
      have K3 := Lib.hid k3
      clear k3
      have K5 := Lib.hid k5
      clear k5
      have K6 := Lib.hid k6
      clear k6
      have HM := Lib.hid hM
      clear hM
      have F0 := Lib.hid f0
      clear f0
      have F2 := Lib.hid f2
      clear f2
      have F4 := Lib.hid f4
      clear f4
      clear hdep
      go_wp2_with fail
      rw [HI.out]; exact ⟨_, _, _, _, _, _, _, _, _, _, rfl, HM.out.alloc (k := 9) (by simp) (by decide) (by decide) (by decide) hD (by decide) 25, fun h => F0.out (upd_out h (by decide)), fun h => F2.out (upd_out h (by decide)), fun h => F4.out (upd_out h (by decide)), fun h => upd_mono (K3.out (upd_out h (by decide))), fun h => upd_mono (K5.out (upd_out h (by decide))), fun h => upd_mono (K6.out (upd_out h (by decide)))⟩
    · intro D a' w' hD hdep hI KK hKK
      rw [HI.out] at hI
      obtain ⟨x25, x26, x27, x28, x29, x30, x31, x7, x8, x9, rfl, hM, f0, f2, f4, k3, k5, k6⟩ := hI
      simp [Region.binds] at hdep
      have K3 := Lib.hid k3
      clear k3
      have K5 := Lib.hid k5
      clear k5
      have K6 := Lib.hid k6
      clear k6
      have d6 : D 6 = true := by simp_all
      have d7 : D 7 = true := by simp_all
      have d8 : D 8 = true := by simp_all
      have d9 : D 9 = true := by simp_all
      have d5 := K6.out d6
      have d3 := K5.out d5
      have d1 := K3.out d3
      have HM := Lib.hid hM
      clear hM
      have F0 := Lib.hid f0
      clear f0
      have F2 := Lib.hid f2
      clear f2
      have F4 := Lib.hid f4
      clear f4
      have hall : ∀ j, j ∈ [1, 3, 5, 6] ∨ j ∈ [7, 8, 9] → D j = true := fun j hj => by
        have : j = 1 ∨ j = 3 ∨ j = 5 ∨ j = 6 ∨ j = 7 ∨ j = 8 ∨ j = 9 := by simp at hj; omega
        rcases this with rfl | rfl | rfl | rfl | rfl | rfl | rfl <;> assumption
      obtain ⟨b, hb, _, c0, c1, z0, z1⟩ := HM.out.before (i := 7) (by decide) d7 hD
      have hb : x7 = _ := hb
      subst hb
      obtain ⟨L, g, _, hV⟩ := HM.out.val 1 (by decide) d1
      have hV : IsB 0 w' x26 L g := hV
      obtain ⟨A, n, c, rfl⟩ := hV.shape
      clear hV
      have Hall := Lib.hid hall
      clear hall hdep d1 d3 d5 d6 d8 d9
      have Dal := Lib.hid d7
      clear d7
      go_wp2_with fail
      rw [HI.out]; exact ⟨_, _, _, _, _, _, _, _, _, _, rfl, HM.out.store (i := 7) (k := 10) (by decide) Dal.out rfl hD (by decide) (by decide) (by decide) (by decide) Hall.out rfl rfl undef, fun h => F0.out (upd_out h (by decide)), fun h => F2.out (upd_out h (by decide)), fun h => F4.out (upd_out h (by decide)), fun h => upd_mono (K3.out (upd_out h (by decide))), fun h => upd_mono (K5.out (upd_out h (by decide))), fun h => upd_mono (K6.out (upd_out h (by decide)))⟩
    · intro D a' w' hD hdep hI KK hKK
      rw [HI.out] at hI
      obtain ⟨x25, x26, x27, x28, x29, x30, x31, x7, x8, x9, rfl, hM, f0, f2, f4, k3, k5, k6⟩ := hI
      simp [Region.binds] at hdep
      have K3 := Lib.hid k3
      clear k3
      have K5 := Lib.hid k5
      clear k5
      have K6 := Lib.hid k6
      clear k6
      have dst : D 10 = true := by simp_all
      have HM := Lib.hid hM
      clear hM
      have F0 := Lib.hid f0
      clear f0
      have F2 := Lib.hid f2
      clear f2
      have F4 := Lib.hid f4
      clear f4
      have hall := HM.out.closed 7 (by decide) dst
      have d8 := hall 8 (by decide)
      have d3 := hall 3 (by decide)
      clear dst
      obtain ⟨b, hb, _, c0, c1, z0, z1⟩ := HM.out.before (i := 8) (by decide) d8 hD
      have hb : x8 = _ := hb
      subst hb
      obtain ⟨L, g, _, hV⟩ := HM.out.val 3 (by decide) d3
      have hV : IsB 0 w' x28 L g := hV
      obtain ⟨A, n, c, rfl⟩ := hV.shape
      clear hV
      have Hall := Lib.hid hall
      clear hall hdep d3
      have Dal := Lib.hid d8
      clear d8
      go_wp2_with fail
      rw [HI.out]; exact ⟨_, _, _, _, _, _, _, _, _, _, rfl, HM.out.store (i := 8) (k := 11) (by decide) Dal.out rfl hD (by decide) (by decide) (by decide) (by decide) Hall.out rfl rfl undef, fun h => F0.out (upd_out h (by decide)), fun h => F2.out (upd_out h (by decide)), fun h => F4.out (upd_out h (by decide)), fun h => upd_mono (K3.out (upd_out h (by decide))), fun h => upd_mono (K5.out (upd_out h (by decide))), fun h => upd_mono (K6.out (upd_out h (by decide)))⟩
    · intro D a' w' hD hdep hI KK hKK
      rw [HI.out] at hI
      obtain ⟨x25, x26, x27, x28, x29, x30, x31, x7, x8, x9, rfl, hM, f0, f2, f4, k3, k5, k6⟩ := hI
      simp [Region.binds] at hdep
      have K3 := Lib.hid k3
      clear k3
      have K5 := Lib.hid k5
      clear k5
      have K6 := Lib.hid k6
      clear k6
      have dst : D 11 = true := by simp_all
      have HM := Lib.hid hM
      clear hM
      have F0 := Lib.hid f0
      clear f0
      have F2 := Lib.hid f2
      clear f2
      have F4 := Lib.hid f4
      clear f4
      have hall := HM.out.closed 8 (by decide) dst
      have d9 := hall 9 (by decide)
      have d6 := hall 6 (by decide)
      clear dst
      obtain ⟨b, hb, _, c0, c1, z0, z1⟩ := HM.out.before (i := 9) (by decide) d9 hD
      have hb : x9 = _ := hb
      subst hb
      obtain ⟨L, g, _, hV⟩ := HM.out.val 6 (by decide) d6
      have hV : IsB 0 w' x31 L g := hV
      obtain ⟨A, n, c, rfl⟩ := hV.shape
      clear hV
      have Hall := Lib.hid hall
      clear hall hdep d6
      have Dal := Lib.hid d9
      clear d9
      go_wp2_with fail
      rw [HI.out]; exact ⟨_, _, _, _, _, _, _, _, _, _, rfl, HM.out.store (i := 9) (k := 12) (by decide) Dal.out rfl hD (by decide) (by decide) (by decide) (by decide) Hall.out rfl rfl undef, fun h => F0.out (upd_out h (by decide)), fun h => F2.out (upd_out h (by decide)), fun h => F4.out (upd_out h (by decide)), fun h => upd_mono (K3.out (upd_out h (by decide))), fun h => upd_mono (K5.out (upd_out h (by decide))), fun h => upd_mono (K6.out (upd_out h (by decide)))⟩
  intro D a' w4 hD hI
  rw [HI.out] at hI
  obtain ⟨x25, x26, x27, x28, x29, x30, x31, x7, x8, x9, rfl, hM, f0, f2, f4, _, _, _⟩ := hI
  have e25 := f0 (hD 0 (by decide))
  subst e25
  clear f0
  have e27 := f2 (hD 2 (by decide))
  subst e27
  clear f2
  have e29 := f4 (hD 4 (by decide))
  subst e29
  clear f4
  obtain ⟨L26, g26, hR26, hV26⟩ := hM.val 1 (by decide) (hD 1 (by decide))
  have hV26 : IsB 0 w4 x26 L26 g26 := hV26
  obtain ⟨L28, g28, hR28, hV28⟩ := hM.val 3 (by decide) (hD 3 (by decide))
  have hV28 : IsB 0 w4 x28 L28 g28 := hV28
  obtain ⟨L30, g30, hR30, hV30⟩ := hM.val 5 (by decide) (hD 5 (by decide))
  have hV30 : IsB 0 w4 x30 L30 g30 := hV30
  obtain ⟨L31, g31, hR31, hV31⟩ := hM.val 6 (by decide) (hD 6 (by decide))
  have hV31 : IsB 0 w4 x31 L31 g31 := hV31
  obtain ⟨b7, e1, _, _, _, h1⟩ := hM.ptr 7 (by decide) (hD 7 (by decide))
  have e1 : x7 = _ := e1
  subst e1
  obtain ⟨l1, u1, e2, B7⟩ := h1 (hD 10 (by decide))
  have e2 : x26 = _ := e2
  have e4 : ∃ A n cap, x26 = .agg #[.int .u64 L26, .slice A n cap] := hV26.shape
  obtain ⟨A26, n26, c26, e3⟩ := e4
  rw [e3] at e2
  simp only [Value.agg.injEq, Array.mk.injEq, List.cons.injEq, and_true] at e2
  obtain ⟨rfl, rfl⟩ := e2
  subst e3
  obtain ⟨b8, e1, _, _, _, h1⟩ := hM.ptr 8 (by decide) (hD 8 (by decide))
  have e1 : x8 = _ := e1
  subst e1
  obtain ⟨l1, u1, e2, B8⟩ := h1 (hD 11 (by decide))
  have e2 : x28 = _ := e2
  have e4 : ∃ A n cap, x28 = .agg #[.int .u64 L28, .slice A n cap] := hV28.shape
  obtain ⟨A28, n28, c28, e3⟩ := e4
  rw [e3] at e2
  simp only [Value.agg.injEq, Array.mk.injEq, List.cons.injEq, and_true] at e2
  obtain ⟨rfl, rfl⟩ := e2
  subst e3
  obtain ⟨b9, e1, _, _, _, h1⟩ := hM.ptr 9 (by decide) (hD 9 (by decide))
  have e1 : x9 = _ := e1
  subst e1
  obtain ⟨l1, u1, e2, B9⟩ := h1 (hD 12 (by decide))
  have e2 : x31 = _ := e2
  have e4 : ∃ A n cap, x31 = .agg #[.int .u64 L31, .slice A n cap] := hV31.shape
  obtain ⟨A31, n31, c31, e3⟩ := e4
  rw [e3] at e2
  simp only [Value.agg.injEq, Array.mk.injEq, List.cons.injEq, and_true] at e2
  obtain ⟨rfl, rfl⟩ := e2
  subst e3
  obtain ⟨A30, n30, c30, rfl⟩ := hV30.shape
  have HC4 := Lib.hid (HC3.out.trans hM.ch)
  have hCC : Ch S0 w3 w4 := hM.ch
  clear HC3 hM
  have Bx := Lib.hid (Bp.out.keep hCC (fun h => h))
  clear Bp
  have Bp := Bx
  clear Bx
  have Bx := Lib.hid (Bq.out.keep hCC (fun h => h))
  clear Bq
  have Bq := Bx
  clear Bx
  have Bx := Lib.hid (Br.out.keep hCC (fun h => h))
  clear Br
  have Br := Bx
  clear Bx
  clear hCC
  have H26 : Hid (IsB 0 w4 (.agg #[.int .u64 (L26 : Nat), .slice A26 n26 c26]) L26 g26) := Lib.hid hV26
  clear hV26
  have HR26 : Hid ((fun (L : Nat) (g : Nat → Bool) => (fun L g => L ≤ 400) L g) L26 g26) := Lib.hid hR26
  clear hR26
  have H28 : Hid (IsB 0 w4 (.agg #[.int .u64 (L28 : Nat), .slice A28 n28 c28]) L28 g28) := Lib.hid hV28
  clear hV28
  have HR28 : Hid ((fun (L : Nat) (g : Nat → Bool) => (fun L g => L ≤ 400) L g) L28 g28) := Lib.hid hR28
  clear hR28
  have H30 : Hid (IsB 0 w4 (.agg #[.int .u64 (L30 : Nat), .slice A30 n30 c30]) L30 g30) := Lib.hid hV30
  clear hV30
  have HR30 : Hid ((fun (L : Nat) (g : Nat → Bool) => (fun L g => L ≤ 400) L g) L30 g30) := Lib.hid hR30
  clear hR30
  have H31 : Hid (IsB 0 w4 (.agg #[.int .u64 (L31 : Nat), .slice A31 n31 c31]) L31 g31) := Lib.hid hV31
  clear hV31
  have HR31 : Hid ((fun (L : Nat) (g : Nat → Bool) => (fun L g => ∃ g0, L = 451 ∧ g = Bit.put g0 450 true) L g) L31 g31) := Lib.hid hR31
  clear hR31
  have Bx := Lib.hid B7
  clear B7
  have B7 := Bx
  clear Bx
  have Bx := Lib.hid B8
  clear B8
  have B8 := Bx
  clear Bx
  have Bx := Lib.hid B9
  clear B9
  have B9 := Bx
  clear Bx
  clear hD HI
  try clear I0
  try clear xp0 xp1
  try clear xpz
  have xpz := Bp.out.lt
  have xp0 := Bp.out.cell 0
  have xp1 := Bp.out.cell 1
  simp only [List.getElem?_toArray, List.getElem?_cons_zero, List.getElem?_cons_succ] at xp0 xp1
  try clear xq0 xq1
  try clear xqz
  have xqz := Bq.out.lt
  have xq0 := Bq.out.cell 0
  have xq1 := Bq.out.cell 1
  simp only [List.getElem?_toArray, List.getElem?_cons_zero, List.getElem?_cons_succ] at xq0 xq1
  try clear xr0 xr1
  try clear xrz
  have xrz := Br.out.lt
  have xr0 := Br.out.cell 0
  have xr1 := Br.out.cell 1
  simp only [List.getElem?_toArray, List.getElem?_cons_zero, List.getElem?_cons_succ] at xr0 xr1
  try clear x70 x71
  try clear x7z
  have x7z := B7.out.lt
  have x70 := B7.out.cell 0
  have x71 := B7.out.cell 1
  simp only [List.getElem?_toArray, List.getElem?_cons_zero, List.getElem?_cons_succ] at x70 x71
  try clear x80 x81
  try clear x8z
  have x8z := B8.out.lt
  have x80 := B8.out.cell 0
  have x81 := B8.out.cell 1
  simp only [List.getElem?_toArray, List.getElem?_cons_zero, List.getElem?_cons_succ] at x80 x81
  try clear x90 x91
  try clear x9z
  have x9z := B9.out.lt
  have x90 := B9.out.cell 0
  have x91 := B9.out.cell 1
  simp only [List.getElem?_toArray, List.getElem?_cons_zero, List.getElem?_cons_succ] at x90 x91
  go_wp2_with fail
  obtain ⟨I0, hI0⟩ : ∃ I0 : (Nat → Bool) → Act → World → Prop, I0 = (fun D a' w' => (∃ x32 x33 x34 x35 x36 x37 x38 x39 x40 x41 x10 x11 : Value, a' = ({ tmps := #[(Value.agg #[Value.int IntKind.u64 ↑l1, Value.slice P1 m1 r1]), (Value.agg #[Value.int IntKind.u64 ↑l2, Value.slice P2 m2 r2]), (Value.agg #[Value.int IntKind.u64 ↑l3, Value.slice P3 m3 r3]), (Value.pointer (some { block := w.heap.size, off := 0 })), (Value.pointer (some { block := w.heap.size + 1, off := 0 })), (Value.pointer (some { block := w.heap.size + 1 + 1, off := 0 })), (Value.bool false), (Value.pointer (some { block := b7, off := 0 })), (Value.pointer (some { block := b8, off := 0 })), (Value.pointer (some { block := b9, off := 0 })), x10, x11, (Value.agg #[Value.int IntKind.u64 ↑l1, Value.slice P1 m1 r1]), (Value.bool true), (Value.bool false), (Value.bool false), (Value.agg #[Value.int IntKind.u64 ↑l2, Value.slice P2 m2 r2]), (Value.bool true), (Value.bool false), (Value.bool false), (Value.bool false), (Value.agg #[Value.int IntKind.u64 ↑l3, Value.slice P3 m3 r3]), (Value.bool true), (Value.bool false), (Value.bool false), (Value.agg #[Value.int IntKind.u64 ↑l1, Value.slice P1 m1 r1]), (Value.agg #[Value.int IntKind.u64 ↑L26, Value.slice A26 n26 c26]), (Value.agg #[Value.int IntKind.u64 ↑l2, Value.slice P2 m2 r2]), (Value.agg #[Value.int IntKind.u64 ↑L28, Value.slice A28 n28 c28]), (Value.agg #[Value.int IntKind.u64 ↑l3, Value.slice P3 m3 r3]), (Value.agg #[Value.int IntKind.u64 ↑L30, Value.slice A30 n30 c30]), (Value.agg #[Value.int IntKind.u64 ↑L31, Value.slice A31 n31 c31]), x32, x33, x34, x35, x36, x37, x38, x39, x40, x41, undef, undef, undef, undef, undef, undef, undef, undef, undef, undef, undef, undef, undef, undef, undef, undef, undef, undef, undef, undef, undef, undef, undef, undef], defers := [] } : Act) ∧ RM w4 w' D [x32, x33, x34, x35, x36, x37, x38, x39, x40, x41, x10, x11, undef, undef] [(fun _ _ => True), (fun _ _ => True), (fun _ _ => True), (fun _ g => ∀ k, g k = (g28 k || g31 k)), (fun _ g => ∀ k, g k = (g26 k || (g28 k || g31 k))), (fun _ _ => True), (fun _ _ => True), (fun _ _ => True), (fun _ g => ∀ k, g k = (g28 k ^^ g31 k)), (fun _ g => ∀ k, g k = (g26 k ^^ (g28 k ^^ g31 k))), (fun _ _ => True), (fun _ _ => True), (fun _ _ => True), (fun _ _ => True)] [3, 4, 8, 9] [10, 11] [0, 0, 0, 0, 0, 0, 0, 0, 0, 0, 12, 13, 0, 0] [0, 0, 0, 0, 0, 0, 0, 0, 0, 0, 4, 9, 0, 0] ∧ (D 0 = true → x32 = .agg #[.int .u64 (L26 : Nat), .slice A26 n26 c26]) ∧ (D 1 = true → x33 = .agg #[.int .u64 (L28 : Nat), .slice A28 n28 c28]) ∧ (D 2 = true → x34 = .agg #[.int .u64 (L31 : Nat), .slice A31 n31 c31]) ∧ (D 5 = true → x37 = .agg #[.int .u64 (L26 : Nat), .slice A26 n26 c26]) ∧ (D 6 = true → x38 = .agg #[.int .u64 (L28 : Nat), .slice A28 n28 c28]) ∧ (D 7 = true → x39 = .agg #[.int .u64 (L31 : Nat), .slice A31 n31 c31]) ∧ (D 4 = true → D 3 = true) ∧ (D 8 = true → D 4 = true) ∧ (D 9 = true → D 8 = true))) := ⟨_, rfl⟩
  have HI := Lib.hid hI0
  clear hI0
  refine region_inv (by kernel_rfl) (by kernel_rfl) I0 ?_ ?_ ?_
  · rw [HI.out]; exact ⟨_, _, _, _, _, _, _, _, _, _, _, _, rfl, ⟨(Ch.refl S0 w4).drew, (fun _ _ h => by cases h), (fun _ _ h => by cases h), (fun _ _ _ _ h => by cases h), (fun _ _ _ _ _ h => by cases h), (fun _ _ h => by cases h)⟩, (fun h => by cases h), (fun h => by cases h), (fun h => by cases h), (fun h => by cases h), (fun h => by cases h), (fun h => by cases h), (fun h => by cases h), (fun h => by cases h), (fun h => by cases h)⟩
  · refine ⟨?_, ?_, ?_, ?_, ?_, ?_, ?_, ?_, ?_, ?_, ?_, ?_, ?_, ?_, trivial⟩
    · intro D a' w' hD hdep hI KK hKK
      rw [HI.out] at hI
      obtain ⟨x32, x33, x34, x35, x36, x37, x38, x39, x40, x41, x10, x11, rfl, hM, f0, f1, f2, f5, f6, f7, k4, k8, k9⟩ := hI
      simp [Region.binds] at hdep
      have K4 := Lib.hid k4
      clear k4
      have K8 := Lib.hid k8
      clear k8
      have K9 := Lib.hid k9
      clear k9
      have HM := Lib.hid hM
      clear hM
      have F0 := Lib.hid f0
      clear f0
      have F1 := Lib.hid f1
      clear f1
      have F2 := Lib.hid f2
      clear f2
      have F5 := Lib.hid f5
      clear f5
      have F6 := Lib.hid f6
      clear f6
      have F7 := Lib.hid f7
      clear f7
      have Bx := B7.out.keep HM.out.ch (fun h => h)
      have c0 : w'.cell? ⟨b7, 0, none⟩ = some (.int .u64 (L26 : Nat)) := by rw [Bx.cell]; rfl
      have c1 : w'.cell? ⟨b7, 1, none⟩ = some (.slice A26 n26 c26) := by rw [Bx.cell]; rfl
      clear Bx hdep
      go_wp2_with fail
      rw [HI.out]; exact ⟨_, _, _, _, _, _, _, _, _, _, _, _, rfl, HM.out.other (k := 0) (.agg #[.int .u64 (L26 : Nat), .slice A26 n26 c26]) (by decide) (by decide) (by decide) (by decide), fun _ => rfl, fun h => F1.out (upd_out h (by decide)), fun h => F2.out (upd_out h (by decide)), fun h => F5.out (upd_out h (by decide)), fun h => F6.out (upd_out h (by decide)), fun h => F7.out (upd_out h (by decide)), fun h => upd_mono (K4.out (upd_out h (by decide))), fun h => upd_mono (K8.out (upd_out h (by decide))), fun h => upd_mono (K9.out (upd_out h (by decide)))⟩
    · intro D a' w' hD hdep hI KK hKK
      rw [HI.out] at hI
      obtain ⟨x32, x33, x34, x35, x36, x37, x38, x39, x40, x41, x10, x11, rfl, hM, f0, f1, f2, f5, f6, f7, k4, k8, k9⟩ := hI
      simp [Region.binds] at hdep
      have K4 := Lib.hid k4
      clear k4
      have K8 := Lib.hid k8
      clear k8
      have K9 := Lib.hid k9
      clear k9
      have HM := Lib.hid hM
      clear hM
      have F0 := Lib.hid f0
      clear f0
      have F1 := Lib.hid f1
      clear f1
      have F2 := Lib.hid f2
      clear f2
      have F5 := Lib.hid f5
      clear f5
      have F6 := Lib.hid f6
      clear f6
      have F7 := Lib.hid f7
      clear f7
      have Bx := B8.out.keep HM.out.ch (fun h => h)
      have c0 : w'.cell? ⟨b8, 0, none⟩ = some (.int .u64 (L28 : Nat)) := by rw [Bx.cell]; rfl
      have c1 : w'.cell? ⟨b8, 1, none⟩ = some (.slice A28 n28 c28) := by rw [Bx.cell]; rfl
      clear Bx hdep
      go_wp2_with fail
      rw [HI.out]; exact ⟨_, _, _, _, _, _, _, _, _, _, _, _, rfl, HM.out.other (k := 1) (.agg #[.int .u64 (L28 : Nat), .slice A28 n28 c28]) (by decide) (by decide) (by decide) (by decide), fun h => F0.out (upd_out h (by decide)), fun _ => rfl, fun h => F2.out (upd_out h (by decide)), fun h => F5.out (upd_out h (by decide)), fun h => F6.out (upd_out h (by decide)), fun h => F7.out (upd_out h (by decide)), fun h => upd_mono (K4.out (upd_out h (by decide))), fun h => upd_mono (K8.out (upd_out h (by decide))), fun h => upd_mono (K9.out (upd_out h (by decide)))⟩
    · intro D a' w' hD hdep hI KK hKK
      rw [HI.out] at hI
      obtain ⟨x32, x33, x34, x35, x36, x37, x38, x39, x40, x41, x10, x11, rfl, hM, f0, f1, f2, f5, f6, f7, k4, k8, k9⟩ := hI
      simp [Region.binds] at hdep
      have K4 := Lib.hid k4
      clear k4
      have K8 := Lib.hid k8
      clear k8
      have K9 := Lib.hid k9
      clear k9
      have HM := Lib.hid hM
      clear hM
      have F0 := Lib.hid f0
      clear f0
      have F1 := Lib.hid f1
      clear f1
      have F2 := Lib.hid f2
      clear f2
      have F5 := Lib.hid f5
      clear f5
      have F6 := Lib.hid f6
      clear f6
      have F7 := Lib.hid f7
      clear f7
      have Bx := B9.out.keep HM.out.ch (fun h => h)
      have c0 : w'.cell? ⟨b9, 0, none⟩ = some (.int .u64 (L31 : Nat)) := by rw [Bx.cell]; rfl
      have c1 : w'.cell? ⟨b9, 1, none⟩ = some (.slice A31 n31 c31) := by rw [Bx.cell]; rfl
      clear Bx hdep
      go_wp2_with fail
      rw [HI.out]; exact ⟨_, _, _, _, _, _, _, _, _, _, _, _, rfl, HM.out.other (k := 2) (.agg #[.int .u64 (L31 : Nat), .slice A31 n31 c31]) (by decide) (by decide) (by decide) (by decide), fun h => F0.out (upd_out h (by decide)), fun h => F1.out (upd_out h (by decide)), fun _ => rfl, fun h => F5.out (upd_out h (by decide)), fun h => F6.out (upd_out h (by decide)), fun h => F7.out (upd_out h (by decide)), fun h => upd_mono (K4.out (upd_out h (by decide))), fun h => upd_mono (K8.out (upd_out h (by decide))), fun h => upd_mono (K9.out (upd_out h (by decide)))⟩
    · intro D a' w' hD hdep hI KK hKK
      rw [HI.out] at hI
      obtain ⟨x32, x33, x34, x35, x36, x37, x38, x39, x40, x41, x10, x11, rfl, hM, f0, f1, f2, f5, f6, f7, k4, k8, k9⟩ := hI
      simp [Region.binds] at hdep
      have K4 := Lib.hid k4
      clear k4
      have K8 := Lib.hid k8
      clear k8
      have K9 := Lib.hid k9
      clear k9
      have d1 : D 1 = true := by simp_all
      have d2 : D 2 = true := by simp_all
      have HM := Lib.hid hM
      clear hM
      have F0 := Lib.hid f0
      clear f0
      have F1 := Lib.hid f1
      clear f1
      have F2 := Lib.hid f2
      clear f2
      have F5 := Lib.hid f5
      clear f5
      have F6 := Lib.hid f6
      clear f6
      have F7 := Lib.hid f7
      clear f7
      have e33 := F1.out d1
      subst e33
      have e34 := F2.out d2
      subst e34
      clear hdep d1 d2
      have HC := Lib.hid (HC4.out.trans HM.out.ch)
      go_wp2_with fail
      refine (bsunion_any _ _ _ _ _ _ _ (H28.out.keep HM.out.ch) (H31.out.keep HM.out.ch)).mono ?_
      rintro e w2 ⟨v2, rfl, hV2, hC2⟩
      have HV2 := Lib.hid hV2
      have HC2 := Lib.hid hC2
      clear hV2 hC2
      go_wp2_with fail
      rw [HI.out]; exact ⟨_, _, _, _, _, _, _, _, _, _, _, _, rfl, HM.out.call (k := 3) (by simp) (by decide) (by decide) (by decide) hD HC2.out HV2.out (fun _ => rfl), fun h => F0.out (upd_out h (by decide)), fun _ => rfl, fun _ => rfl, fun h => F5.out (upd_out h (by decide)), fun h => F6.out (upd_out h (by decide)), fun h => F7.out (upd_out h (by decide)), fun h => upd_mono (K4.out (upd_out h (by decide))), fun h => upd_mono (K8.out (upd_out h (by decide))), fun h => upd_mono (K9.out (upd_out h (by decide)))⟩
    · intro D a' w' hD hdep hI KK hKK
      rw [HI.out] at hI
      obtain ⟨x32, x33, x34, x35, x36, x37, x38, x39, x40, x41, x10, x11, rfl, hM, f0, f1, f2, f5, f6, f7, k4, k8, k9⟩ := hI
      simp [Region.binds] at hdep
      have K4 := Lib.hid k4
      clear k4
      have K8 := Lib.hid k8
      clear k8
      have K9 := Lib.hid k9
      clear k9
      have ce : D 3 = true := by simp_all
      have CE := Lib.hid ce
      clear ce
      have d0 : D 0 = true := by simp_all
      have d3 : D 3 = true := by simp_all
      have HM := Lib.hid hM
      clear hM
      have F0 := Lib.hid f0
      clear f0
      have F1 := Lib.hid f1
      clear f1
      have F2 := Lib.hid f2
      clear f2
      have F5 := Lib.hid f5
      clear f5
      have F6 := Lib.hid f6
      clear f6
      have F7 := Lib.hid f7
      clear f7
      have e32 := F0.out d0
      subst e32
      obtain ⟨L35, g35, hR35, hV35⟩ := HM.out.val 3 (by decide) d3
      have V35 : Hid (IsB 0 w' x35 L35 g35) := Lib.hid hV35
      have R35 : Hid ((fun (L : Nat) (g : Nat → Bool) => (fun _ g => ∀ k, g k = (g28 k || g31 k)) L g) L35 g35) := Lib.hid hR35
      clear hV35 hR35
      clear hdep d0 d3
      have HC := Lib.hid (HC4.out.trans HM.out.ch)
      go_wp2_with fail
      refine (bsunion_any _ _ _ _ _ _ _ (H26.out.keep HM.out.ch) V35.out).mono ?_
      rintro e w2 ⟨v2, rfl, hV2, hC2⟩
      have HV2 := Lib.hid hV2
      have HC2 := Lib.hid hC2
      clear hV2 hC2
      go_wp2_with fail
      rw [HI.out]; exact ⟨_, _, _, _, _, _, _, _, _, _, _, _, rfl, HM.out.call (k := 4) (by simp) (by decide) (by decide) (by decide) hD HC2.out HV2.out (fun k => by have h := R35.out k; simp only [h]), fun _ => rfl, fun h => F1.out (upd_out h (by decide)), fun h => F2.out (upd_out h (by decide)), fun h => F5.out (upd_out h (by decide)), fun h => F6.out (upd_out h (by decide)), fun h => F7.out (upd_out h (by decide)), fun _ => upd_mono CE.out, fun h => upd_mono (K8.out (upd_out h (by decide))), fun h => upd_mono (K9.out (upd_out h (by decide)))⟩
    · intro D a' w' hD hdep hI KK hKK
      rw [HI.out] at hI
      obtain ⟨x32, x33, x34, x35, x36, x37, x38, x39, x40, x41, x10, x11, rfl, hM, f0, f1, f2, f5, f6, f7, k4, k8, k9⟩ := hI
      simp [Region.binds] at hdep
      have K4 := Lib.hid k4
      clear k4
      have K8 := Lib.hid k8
      clear k8
      have K9 := Lib.hid k9
      clear k9
      have HM := Lib.hid hM
      clear hM
      have F0 := Lib.hid f0
      clear f0
      have F1 := Lib.hid f1
      clear f1
      have F2 := Lib.hid f2
      clear f2
      have F5 := Lib.hid f5
      clear f5
      have F6 := Lib.hid f6
      clear f6
      have F7 := Lib.hid f7
      clear f7
      have Bx := B7.out.keep HM.out.ch (fun h => h)
      have c0 : w'.cell? ⟨b7, 0, none⟩ = some (.int .u64 (L26 : Nat)) := by rw [Bx.cell]; rfl
      have c1 : w'.cell? ⟨b7, 1, none⟩ = some (.slice A26 n26 c26) := by rw [Bx.cell]; rfl
      clear Bx hdep
      go_wp2_with fail
      rw [HI.out]; exact ⟨_, _, _, _, _, _, _, _, _, _, _, _, rfl, HM.out.other (k := 5) (.agg #[.int .u64 (L26 : Nat), .slice A26 n26 c26]) (by decide) (by decide) (by decide) (by decide), fun h => F0.out (upd_out h (by decide)), fun h => F1.out (upd_out h (by decide)), fun h => F2.out (upd_out h (by decide)), fun _ => rfl, fun h => F6.out (upd_out h (by decide)), fun h => F7.out (upd_out h (by decide)), fun h => upd_mono (K4.out (upd_out h (by decide))), fun h => upd_mono (K8.out (upd_out h (by decide))), fun h => upd_mono (K9.out (upd_out h (by decide)))⟩
    · intro D a' w' hD hdep hI KK hKK
      rw [HI.out] at hI
      obtain ⟨x32, x33, x34, x35, x36, x37, x38, x39, x40, x41, x10, x11, rfl, hM, f0, f1, f2, f5, f6, f7, k4, k8, k9⟩ := hI
      simp [Region.binds] at hdep
      have K4 := Lib.hid k4
      clear k4
      have K8 := Lib.hid k8
      clear k8
      have K9 := Lib.hid k9
      clear k9
      have HM := Lib.hid hM
      clear hM
      have F0 := Lib.hid f0
      clear f0
      have F1 := Lib.hid f1
      clear f1
      have F2 := Lib.hid f2
      clear f2
      have F5 := Lib.hid f5
      clear f5
      have F6 := Lib.hid f6
      clear f6
      have F7 := Lib.hid f7
      clear f7
      have Bx := B8.out.keep HM.out.ch (fun h => h)
      have c0 : w'.cell? ⟨b8, 0, none⟩ = some (.int .u64 (L28 : Nat)) := by rw [Bx.cell]; rfl
      have c1 : w'.cell? ⟨b8, 1, none⟩ = some (.slice A28 n28 c28) := by rw [Bx.cell]; rfl
      clear Bx hdep
      go_wp2_with fail
      rw [HI.out]; exact ⟨_, _, _, _, _, _, _, _, _, _, _, _, rfl, HM.out.other (k := 6) (.agg #[.int .u64 (L28 : Nat), .slice A28 n28 c28]) (by decide) (by decide) (by decide) (by decide), fun h => F0.out (upd_out h (by decide)), fun h => F1.out (upd_out h (by decide)), fun h => F2.out (upd_out h (by decide)), fun h => F5.out (upd_out h (by decide)), fun _ => rfl, fun h => F7.out (upd_out h (by decide)), fun h => upd_mono (K4.out (upd_out h (by decide))), fun h => upd_mono (K8.out (upd_out h (by decide))), fun h => upd_mono (K9.out (upd_out h (by decide)))⟩
    · intro D a' w' hD hdep hI KK hKK
      rw [HI.out] at hI
      obtain ⟨x32, x33, x34, x35, x36, x37, x38, x39, x40, x41, x10, x11, rfl, hM, f0, f1, f2, f5, f6, f7, k4, k8, k9⟩ := hI
      simp [Region.binds] at hdep
      have K4 := Lib.hid k4
      clear k4
      have K8 := Lib.hid k8
      clear k8
      have K9 := Lib.hid k9
      clear k9
      have HM := Lib.hid hM
      clear hM
      have F0 := Lib.hid f0
      clear f0
      have F1 := Lib.hid f1
      clear f1
      have F2 := Lib.hid f2
      clear f2
      have F5 := Lib.hid f5
      clear f5
      have F6 := Lib.hid f6
      clear f6
      have F7 := Lib.hid f7
      clear f7
      have Bx := B9.out.keep HM.out.ch (fun h => h)
      have c0 : w'.cell? ⟨b9, 0, none⟩ = some (.int .u64 (L31 : Nat)) := by rw [Bx.cell]; rfl
      have c1 : w'.cell? ⟨b9, 1, none⟩ = some (.slice A31 n31 c31) := by rw [Bx.cell]; rfl
      clear Bx hdep
      go_wp2_with fail
      rw [HI.out]; exact ⟨_, _, _, _, _, _, _, _, _, _, _, _, rfl, HM.out.other (k := 7) (.agg #[.int .u64 (L31 : Nat), .slice A31 n31 c31]) (by decide) (by decide) (by decide) (by decide), fun h => F0.out (upd_out h (by decide)), fun h => F1.out (upd_out h (by decide)), fun h => F2.out (upd_out h (by decide)), fun h => F5.out (upd_out h (by decide)), fun h => F6.out (upd_out h (by decide)), fun _ => rfl, fun h => upd_mono (K4.out (upd_out h (by decide))), fun h => upd_mono (K8.out (upd_out h (by decide))), fun h => upd_mono (K9.out (upd_out h (by decide)))⟩
    · intro D a' w' hD hdep hI KK hKK
      rw [HI.out] at hI
      obtain ⟨x32, x33, x34, x35, x36, x37, x38, x39, x40, x41, x10, x11, rfl, hM, f0, f1, f2, f5, f6, f7, k4, k8, k9⟩ := hI
      simp [Region.binds] at hdep
      have K4 := Lib.hid k4
      clear k4
      have K8 := Lib.hid k8
      clear k8
      have K9 := Lib.hid k9
      clear k9
      have ce : D 4 = true := by simp_all
      have CE := Lib.hid ce
      clear ce
      have d6 : D 6 = true := by simp_all
      have d7 : D 7 = true := by simp_all
      have HM := Lib.hid hM
      clear hM
      have F0 := Lib.hid f0
      clear f0
      have F1 := Lib.hid f1
      clear f1
      have F2 := Lib.hid f2
      clear f2
      have F5 := Lib.hid f5
      clear f5
      have F6 := Lib.hid f6
      clear f6
      have F7 := Lib.hid f7
      clear f7
      have e38 := F6.out d6
      subst e38
      have e39 := F7.out d7
      subst e39
      clear hdep d6 d7
      have HC := Lib.hid (HC4.out.trans HM.out.ch)
      go_wp2_with fail
      refine (bssymdiff_any _ _ _ _ _ _ _ (H28.out.keep HM.out.ch) (H31.out.keep HM.out.ch)).mono ?_
      rintro e w2 ⟨v2, rfl, hV2, hC2⟩
      have HV2 := Lib.hid hV2
      have HC2 := Lib.hid hC2
      clear hV2 hC2
      go_wp2_with fail
      rw [HI.out]; exact ⟨_, _, _, _, _, _, _, _, _, _, _, _, rfl, HM.out.call (k := 8) (by simp) (by decide) (by decide) (by decide) hD HC2.out HV2.out (fun _ => rfl), fun h => F0.out (upd_out h (by decide)), fun h => F1.out (upd_out h (by decide)), fun h => F2.out (upd_out h (by decide)), fun h => F5.out (upd_out h (by decide)), fun _ => rfl, fun _ => rfl, fun h => upd_mono (K4.out (upd_out h (by decide))), fun _ => upd_mono CE.out, fun h => upd_mono (K9.out (upd_out h (by decide)))⟩
    · intro D a' w' hD hdep hI KK hKK
      rw [HI.out] at hI
      obtain ⟨x32, x33, x34, x35, x36, x37, x38, x39, x40, x41, x10, x11, rfl, hM, f0, f1, f2, f5, f6, f7, k4, k8, k9⟩ := hI
      simp [Region.binds] at hdep
      have K4 := Lib.hid k4
      clear k4
      have K8 := Lib.hid k8
      clear k8
      have K9 := Lib.hid k9
      clear k9
      have ce : D 8 = true := by simp_all
      have CE := Lib.hid ce
      clear ce
      have d5 : D 5 = true := by simp_all
      have d8 : D 8 = true := by simp_all
      have HM := Lib.hid hM
      clear hM
      have F0 := Lib.hid f0
      clear f0
      have F1 := Lib.hid f1
      clear f1
      have F2 := Lib.hid f2
      clear f2
      have F5 := Lib.hid f5
      clear f5
      have F6 := Lib.hid f6
      clear f6
      have F7 := Lib.hid f7
      clear f7
      have e37 := F5.out d5
      subst e37
      obtain ⟨L40, g40, hR40, hV40⟩ := HM.out.val 8 (by decide) d8
      have V40 : Hid (IsB 0 w' x40 L40 g40) := Lib.hid hV40
      have R40 : Hid ((fun (L : Nat) (g : Nat → Bool) => (fun _ g => ∀ k, g k = (g28 k ^^ g31 k)) L g) L40 g40) := Lib.hid hR40
      clear hV40 hR40
      clear hdep d5 d8
      have HC := Lib.hid (HC4.out.trans HM.out.ch)
      go_wp2_with fail
      refine (bssymdiff_any _ _ _ _ _ _ _ (H26.out.keep HM.out.ch) V40.out).mono ?_
      rintro e w2 ⟨v2, rfl, hV2, hC2⟩
      have HV2 := Lib.hid hV2
      have HC2 := Lib.hid hC2
      clear hV2 hC2
      go_wp2_with fail
      rw [HI.out]; exact ⟨_, _, _, _, _, _, _, _, _, _, _, _, rfl, HM.out.call (k := 9) (by simp) (by decide) (by decide) (by decide) hD HC2.out HV2.out (fun k => by have h := R40.out k; simp only [h]), fun h => F0.out (upd_out h (by decide)), fun h => F1.out (upd_out h (by decide)), fun h => F2.out (upd_out h (by decide)), fun _ => rfl, fun h => F6.out (upd_out h (by decide)), fun h => F7.out (upd_out h (by decide)), fun h => upd_mono (K4.out (upd_out h (by decide))), fun h => upd_mono (K8.out (upd_out h (by decide))), fun _ => upd_mono CE.out⟩
    · intro D a' w' hD hdep hI KK hKK
      rw [HI.out] at hI
      obtain ⟨x32, x33, x34, x35, x36, x37, x38, x39, x40, x41, x10, x11, rfl, hM, f0, f1, f2, f5, f6, f7, k4, k8, k9⟩ := hI
      simp [Region.binds] at hdep
      have K4 := Lib.hid k4
      clear k4
      have K8 := Lib.hid k8
      clear k8
      have K9 := Lib.hid k9
      clear k9
      have HM := Lib.hid hM
      clear hM
      have F0 := Lib.hid f0
      clear f0
      have F1 := Lib.hid f1
      clear f1
      have F2 := Lib.hid f2
      clear f2
      have F5 := Lib.hid f5
      clear f5
      have F6 := Lib.hid f6
      clear f6
      have F7 := Lib.hid f7
      clear f7
      clear hdep
      go_wp2_with fail
      rw [HI.out]; exact ⟨_, _, _, _, _, _, _, _, _, _, _, _, rfl, HM.out.alloc (k := 10) (by simp) (by decide) (by decide) (by decide) hD (by decide) 25, fun h => F0.out (upd_out h (by decide)), fun h => F1.out (upd_out h (by decide)), fun h => F2.out (upd_out h (by decide)), fun h => F5.out (upd_out h (by decide)), fun h => F6.out (upd_out h (by decide)), fun h => F7.out (upd_out h (by decide)), fun h => upd_mono (K4.out (upd_out h (by decide))), fun h => upd_mono (K8.out (upd_out h (by decide))), fun h => upd_mono (K9.out (upd_out h (by decide)))⟩
    · intro D a' w' hD hdep hI KK hKK
      rw [HI.out] at hI
      obtain ⟨x32, x33, x34, x35, x36, x37, x38, x39, x40, x41, x10, x11, rfl, hM, f0, f1, f2, f5, f6, f7, k4, k8, k9⟩ := hI
      simp [Region.binds] at hdep
      have K4 := Lib.hid k4
      clear k4
      have K8 := Lib.hid k8
      clear k8
      have K9 := Lib.hid k9
      clear k9
      have HM := Lib.hid hM
      clear hM
      have F0 := Lib.hid f0
      clear f0
      have F1 := Lib.hid f1
      clear f1
      have F2 := Lib.hid f2
      clear f2
      have F5 := Lib.hid f5
      clear f5
      have F6 := Lib.hid f6
      clear f6
      have F7 := Lib.hid f7
      clear f7
      clear hdep
      go_wp2_with fail
      rw [HI.out]; exact ⟨_, _, _, _, _, _, _, _, _, _, _, _, rfl, HM.out.alloc (k := 11) (by simp) (by decide) (by decide) (by decide) hD (by decide) 25, fun h => F0.out (upd_out h (by decide)), fun h => F1.out (upd_out h (by decide)), fun h => F2.out (upd_out h (by decide)), fun h => F5.out (upd_out h (by decide)), fun h => F6.out (upd_out h (by decide)), fun h => F7.out (upd_out h (by decide)), fun h => upd_mono (K4.out (upd_out h (by decide))), fun h => upd_mono (K8.out (upd_out h (by decide))), fun h => upd_mono (K9.out (upd_out h (by decide)))⟩
    · intro D a' w' hD hdep hI KK hKK
      rw [HI.out] at hI
      obtain ⟨x32, x33, x34, x35, x36, x37, x38, x39, x40, x41, x10, x11, rfl, hM, f0, f1, f2, f5, f6, f7, k4, k8, k9⟩ := hI
      simp [Region.binds] at hdep
      have K4 := Lib.hid k4
      clear k4
      have K8 := Lib.hid k8
      clear k8
      have K9 := Lib.hid k9
      clear k9
      have d9 : D 9 = true := by simp_all
      have d10 : D 10 = true := by simp_all
      have d11 : D 11 = true := by simp_all
      have d8 := K9.out d9
      have d4 := K8.out d8
      have d3 := K4.out d4
      have HM := Lib.hid hM
      clear hM
      have F0 := Lib.hid f0
      clear f0
      have F1 := Lib.hid f1
      clear f1
      have F2 := Lib.hid f2
      clear f2
      have F5 := Lib.hid f5
      clear f5
      have F6 := Lib.hid f6
      clear f6
      have F7 := Lib.hid f7
      clear f7
      have hall : ∀ j, j ∈ [3, 4, 8, 9] ∨ j ∈ [10, 11] → D j = true := fun j hj => by
        have : j = 3 ∨ j = 4 ∨ j = 8 ∨ j = 9 ∨ j = 10 ∨ j = 11 := by simp at hj; omega
        rcases this with rfl | rfl | rfl | rfl | rfl | rfl <;> assumption
      obtain ⟨b, hb, _, c0, c1, z0, z1⟩ := HM.out.before (i := 10) (by decide) d10 hD
      have hb : x10 = _ := hb
      subst hb
      obtain ⟨L, g, _, hV⟩ := HM.out.val 4 (by decide) d4
      have hV : IsB 0 w' x36 L g := hV
      obtain ⟨A, n, c, rfl⟩ := hV.shape
      clear hV
      have Hall := Lib.hid hall
      clear hall hdep d3 d4 d8 d9 d11
      have Dal := Lib.hid d10
      clear d10
      go_wp2_with fail
      rw [HI.out]; exact ⟨_, _, _, _, _, _, _, _, _, _, _, _, rfl, HM.out.store (i := 10) (k := 12) (by decide) Dal.out rfl hD (by decide) (by decide) (by decide) (by decide) Hall.out rfl rfl undef, fun h => F0.out (upd_out h (by decide)), fun h => F1.out (upd_out h (by decide)), fun h => F2.out (upd_out h (by decide)), fun h => F5.out (upd_out h (by decide)), fun h => F6.out (upd_out h (by decide)), fun h => F7.out (upd_out h (by decide)), fun h => upd_mono (K4.out (upd_out h (by decide))), fun h => upd_mono (K8.out (upd_out h (by decide))), fun h => upd_mono (K9.out (upd_out h (by decide)))⟩
    · intro D a' w' hD hdep hI KK hKK
      rw [HI.out] at hI
      obtain ⟨x32, x33, x34, x35, x36, x37, x38, x39, x40, x41, x10, x11, rfl, hM, f0, f1, f2, f5, f6, f7, k4, k8, k9⟩ := hI
      simp [Region.binds] at hdep
      have K4 := Lib.hid k4
      clear k4
      have K8 := Lib.hid k8
      clear k8
      have K9 := Lib.hid k9
      clear k9
      have dst : D 12 = true := by simp_all
      have HM := Lib.hid hM
      clear hM
      have F0 := Lib.hid f0
      clear f0
      have F1 := Lib.hid f1
      clear f1
      have F2 := Lib.hid f2
      clear f2
      have F5 := Lib.hid f5
      clear f5
      have F6 := Lib.hid f6
      clear f6
      have F7 := Lib.hid f7
      clear f7
      have hall := HM.out.closed 10 (by decide) dst
      have d11 := hall 11 (by decide)
      have d9 := hall 9 (by decide)
      clear dst
      obtain ⟨b, hb, _, c0, c1, z0, z1⟩ := HM.out.before (i := 11) (by decide) d11 hD
      have hb : x11 = _ := hb
      subst hb
      obtain ⟨L, g, _, hV⟩ := HM.out.val 9 (by decide) d9
      have hV : IsB 0 w' x41 L g := hV
      obtain ⟨A, n, c, rfl⟩ := hV.shape
      clear hV
      have Hall := Lib.hid hall
      clear hall hdep d9
      have Dal := Lib.hid d11
      clear d11
      go_wp2_with fail
      rw [HI.out]; exact ⟨_, _, _, _, _, _, _, _, _, _, _, _, rfl, HM.out.store (i := 11) (k := 13) (by decide) Dal.out rfl hD (by decide) (by decide) (by decide) (by decide) Hall.out rfl rfl undef, fun h => F0.out (upd_out h (by decide)), fun h => F1.out (upd_out h (by decide)), fun h => F2.out (upd_out h (by decide)), fun h => F5.out (upd_out h (by decide)), fun h => F6.out (upd_out h (by decide)), fun h => F7.out (upd_out h (by decide)), fun h => upd_mono (K4.out (upd_out h (by decide))), fun h => upd_mono (K8.out (upd_out h (by decide))), fun h => upd_mono (K9.out (upd_out h (by decide)))⟩
  intro D a' w5 hD hI
  rw [HI.out] at hI
  obtain ⟨x32, x33, x34, x35, x36, x37, x38, x39, x40, x41, x10, x11, rfl, hM, f0, f1, f2, f5, f6, f7, _, _, _⟩ := hI
  have e32 := f0 (hD 0 (by decide))
  subst e32
  clear f0
  have e33 := f1 (hD 1 (by decide))
  subst e33
  clear f1
  have e34 := f2 (hD 2 (by decide))
  subst e34
  clear f2
  have e37 := f5 (hD 5 (by decide))
  subst e37
  clear f5
  have e38 := f6 (hD 6 (by decide))
  subst e38
  clear f6
  have e39 := f7 (hD 7 (by decide))
  subst e39
  clear f7
  obtain ⟨L35, g35, hR35, hV35⟩ := hM.val 3 (by decide) (hD 3 (by decide))
  have hV35 : IsB 0 w5 x35 L35 g35 := hV35
  obtain ⟨L36, g36, hR36, hV36⟩ := hM.val 4 (by decide) (hD 4 (by decide))
  have hV36 : IsB 0 w5 x36 L36 g36 := hV36
  obtain ⟨L40, g40, hR40, hV40⟩ := hM.val 8 (by decide) (hD 8 (by decide))
  have hV40 : IsB 0 w5 x40 L40 g40 := hV40
  obtain ⟨L41, g41, hR41, hV41⟩ := hM.val 9 (by decide) (hD 9 (by decide))
  have hV41 : IsB 0 w5 x41 L41 g41 := hV41
  obtain ⟨b10, e1, _, _, _, h1⟩ := hM.ptr 10 (by decide) (hD 10 (by decide))
  have e1 : x10 = _ := e1
  subst e1
  obtain ⟨l1, u1, e2, B10⟩ := h1 (hD 12 (by decide))
  have e2 : x36 = _ := e2
  have e4 : ∃ A n cap, x36 = .agg #[.int .u64 L36, .slice A n cap] := hV36.shape
  obtain ⟨A36, n36, c36, e3⟩ := e4
  rw [e3] at e2
  simp only [Value.agg.injEq, Array.mk.injEq, List.cons.injEq, and_true] at e2
  obtain ⟨rfl, rfl⟩ := e2
  subst e3
  obtain ⟨b11, e1, _, _, _, h1⟩ := hM.ptr 11 (by decide) (hD 11 (by decide))
  have e1 : x11 = _ := e1
  subst e1
  obtain ⟨l1, u1, e2, B11⟩ := h1 (hD 13 (by decide))
  have e2 : x41 = _ := e2
  have e4 : ∃ A n cap, x41 = .agg #[.int .u64 L41, .slice A n cap] := hV41.shape
  obtain ⟨A41, n41, c41, e3⟩ := e4
  rw [e3] at e2
  simp only [Value.agg.injEq, Array.mk.injEq, List.cons.injEq, and_true] at e2
  obtain ⟨rfl, rfl⟩ := e2
  subst e3
  obtain ⟨A35, n35, c35, rfl⟩ := hV35.shape
  obtain ⟨A40, n40, c40, rfl⟩ := hV40.shape
  have HC5 := Lib.hid (HC4.out.trans hM.ch)
  have hCC : Ch S0 w4 w5 := hM.ch
  clear HC4 hM
  have Hx := Lib.hid (H26.out.keep hCC)
  clear H26
  have H26 := Hx
  clear Hx
  have Hx := Lib.hid (H28.out.keep hCC)
  clear H28
  have H28 := Hx
  clear Hx
  have Hx := Lib.hid (H30.out.keep hCC)
  clear H30
  have H30 := Hx
  clear Hx
  have Hx := Lib.hid (H31.out.keep hCC)
  clear H31
  have H31 := Hx
  clear Hx
  have Bx := Lib.hid (Bp.out.keep hCC (fun h => h))
  clear Bp
  have Bp := Bx
  clear Bx
  have Bx := Lib.hid (Bq.out.keep hCC (fun h => h))
  clear Bq
  have Bq := Bx
  clear Bx
  have Bx := Lib.hid (Br.out.keep hCC (fun h => h))
  clear Br
  have Br := Bx
  clear Bx
  have Bx := Lib.hid (B7.out.keep hCC (fun h => h))
  clear B7
  have B7 := Bx
  clear Bx
  have Bx := Lib.hid (B8.out.keep hCC (fun h => h))
  clear B8
  have B8 := Bx
  clear Bx
  have Bx := Lib.hid (B9.out.keep hCC (fun h => h))
  clear B9
  have B9 := Bx
  clear Bx
  clear hCC
  have H35 : Hid (IsB 0 w5 (.agg #[.int .u64 (L35 : Nat), .slice A35 n35 c35]) L35 g35) := Lib.hid hV35
  clear hV35
  have HR35 : Hid ((fun (L : Nat) (g : Nat → Bool) => (fun _ g => ∀ k, g k = (g28 k || g31 k)) L g) L35 g35) := Lib.hid hR35
  clear hR35
  have H36 : Hid (IsB 0 w5 (.agg #[.int .u64 (L36 : Nat), .slice A36 n36 c36]) L36 g36) := Lib.hid hV36
  clear hV36
  have HR36 : Hid ((fun (L : Nat) (g : Nat → Bool) => (fun _ g => ∀ k, g k = (g26 k || (g28 k || g31 k))) L g) L36 g36) := Lib.hid hR36
  clear hR36
  have H40 : Hid (IsB 0 w5 (.agg #[.int .u64 (L40 : Nat), .slice A40 n40 c40]) L40 g40) := Lib.hid hV40
  clear hV40
  have HR40 : Hid ((fun (L : Nat) (g : Nat → Bool) => (fun _ g => ∀ k, g k = (g28 k ^^ g31 k)) L g) L40 g40) := Lib.hid hR40
  clear hR40
  have H41 : Hid (IsB 0 w5 (.agg #[.int .u64 (L41 : Nat), .slice A41 n41 c41]) L41 g41) := Lib.hid hV41
  clear hV41
  have HR41 : Hid ((fun (L : Nat) (g : Nat → Bool) => (fun _ g => ∀ k, g k = (g26 k ^^ (g28 k ^^ g31 k))) L g) L41 g41) := Lib.hid hR41
  clear hR41
  have Bx := Lib.hid B10
  clear B10
  have B10 := Bx
  clear Bx
  have Bx := Lib.hid B11
  clear B11
  have B11 := Bx
  clear Bx
  clear hD HI
  try clear I0
  try clear xp0 xp1
  try clear xpz
  have xpz := Bp.out.lt
  have xp0 := Bp.out.cell 0
  have xp1 := Bp.out.cell 1
  simp only [List.getElem?_toArray, List.getElem?_cons_zero, List.getElem?_cons_succ] at xp0 xp1
  try clear xq0 xq1
  try clear xqz
  have xqz := Bq.out.lt
  have xq0 := Bq.out.cell 0
  have xq1 := Bq.out.cell 1
  simp only [List.getElem?_toArray, List.getElem?_cons_zero, List.getElem?_cons_succ] at xq0 xq1
  try clear xr0 xr1
  try clear xrz
  have xrz := Br.out.lt
  have xr0 := Br.out.cell 0
  have xr1 := Br.out.cell 1
  simp only [List.getElem?_toArray, List.getElem?_cons_zero, List.getElem?_cons_succ] at xr0 xr1
  try clear x70 x71
  try clear x7z
  have x7z := B7.out.lt
  have x70 := B7.out.cell 0
  have x71 := B7.out.cell 1
  simp only [List.getElem?_toArray, List.getElem?_cons_zero, List.getElem?_cons_succ] at x70 x71
  try clear x80 x81
  try clear x8z
  have x8z := B8.out.lt
  have x80 := B8.out.cell 0
  have x81 := B8.out.cell 1
  simp only [List.getElem?_toArray, List.getElem?_cons_zero, List.getElem?_cons_succ] at x80 x81
  try clear x90 x91
  try clear x9z
  have x9z := B9.out.lt
  have x90 := B9.out.cell 0
  have x91 := B9.out.cell 1
  simp only [List.getElem?_toArray, List.getElem?_cons_zero, List.getElem?_cons_succ] at x90 x91
  try clear x100 x101
  try clear x10z
  have x10z := B10.out.lt
  have x100 := B10.out.cell 0
  have x101 := B10.out.cell 1
  simp only [List.getElem?_toArray, List.getElem?_cons_zero, List.getElem?_cons_succ] at x100 x101
  try clear x110 x111
  try clear x11z
  have x11z := B11.out.lt
  have x110 := B11.out.cell 0
  have x111 := B11.out.cell 1
  simp only [List.getElem?_toArray, List.getElem?_cons_zero, List.getElem?_cons_succ] at x110 x111
  have q36 : ∀ k, ((g26 k || g28 k) || g31 k) = g36 k := fun k => by have h := HR36.out k; exact ((Bool.or_assoc _ _ _).trans h.symm)
  have q41 : ∀ k, ((g26 k ^^ g28 k) ^^ g31 k) = g41 k := fun k => by have h := HR41.out k; exact ((Bool.xor_assoc _ _ _).trans h.symm)
  have s31 : g31 450 = true := by obtain ⟨g0, _, e⟩ := HR31.out; rw [e]; simp [Bit.put]
  have o26 : g26 450 = false := H26.out.off 450 (by have h : L26 ≤ 400 := HR26.out; omega)
  have o28 : g28 450 = false := H28.out.off 450 (by have h : L28 ≤ 400 := HR28.out; omega)
  have r36 : g36 450 = true := by rw [HR36.out 450, s31, Bool.or_true, Bool.or_true]
  have r41 : g41 450 = true := by rw [HR41.out 450, s31, o26, o28]; rfl
  have Q36 := Lib.hid q36
  have Q41 := Lib.hid q41
  have T36 := Lib.hid r36
  have T41 := Lib.hid r41
  clear q36 q41 s31 o26 o28 r36 r41
  go_wp2_with fail
  go_region_held3 (fun w' => w'.cell? ⟨b7, 0, none⟩ = some (.int .u64 (L26 : Nat)) ∧ w'.cell? ⟨b7, 1, none⟩ = some (.slice A26 n26 c26) ∧ w'.cell? ⟨b8, 0, none⟩ = some (.int .u64 (L28 : Nat)) ∧ w'.cell? ⟨b8, 1, none⟩ = some (.slice A28 n28 c28) ∧ w'.cell? ⟨b9, 0, none⟩ = some (.int .u64 (L31 : Nat)) ∧ w'.cell? ⟨b9, 1, none⟩ = some (.slice A31 n31 c31) ∧ w'.cell? ⟨b10, 0, none⟩ = some (.int .u64 (L36 : Nat)) ∧ w'.cell? ⟨b10, 1, none⟩ = some (.slice A36 n36 c36) ∧ w'.cell? ⟨b11, 0, none⟩ = some (.int .u64 (L41 : Nat)) ∧ w'.cell? ⟨b11, 1, none⟩ = some (.slice A41 n41 c41))
    (first | ((try dsimp only); (repeat' apply And.intro) <;> assumption) | (go_keep; done))
    (first
      | (go_at_call 18
         (with_reducible refine (bsunion_any _ _ _ _ _ _ _ (H26.out.keep (by first | exact Ch.refl _ _ | exact (Ch.refl _ _).alloc _ | exact (Ch.refl _ _).drew | exact ((Ch.refl _ _).alloc _).alloc _ | exact ((Ch.refl _ _).alloc _).drew | exact (((Ch.refl _ _).alloc _).alloc _).alloc _ | exact (((Ch.refl _ _).alloc _).alloc _).drew | exact ((((Ch.refl _ _).alloc _).alloc _).alloc _).drew | exact ((((Ch.refl _ _).alloc _).alloc _).alloc _).alloc _ | exact (((((Ch.refl _ _).alloc _).alloc _).alloc _).alloc _).drew)) (H28.out.keep (by first | exact Ch.refl _ _ | exact (Ch.refl _ _).alloc _ | exact (Ch.refl _ _).drew | exact ((Ch.refl _ _).alloc _).alloc _ | exact ((Ch.refl _ _).alloc _).drew | exact (((Ch.refl _ _).alloc _).alloc _).alloc _ | exact (((Ch.refl _ _).alloc _).alloc _).drew | exact ((((Ch.refl _ _).alloc _).alloc _).alloc _).drew | exact ((((Ch.refl _ _).alloc _).alloc _).alloc _).alloc _ | exact (((((Ch.refl _ _).alloc _).alloc _).alloc _).alloc _).drew))).mono ?_)
         rintro e w6 ⟨va, rfl, hV, hC⟩
         obtain ⟨La, hE⟩ : ∃ x, x = max L26 L28 := ⟨_, rfl⟩
         rw [← hE] at hV
         have Ea := Lib.hid hE
         clear hE
         obtain ⟨Aa, na, ca, rfl⟩ := hV.shape
         have hCC : Ch S0 w5 w6 := Ch.trans (by first | exact Ch.refl _ _ | exact (Ch.refl _ _).alloc _ | exact (Ch.refl _ _).drew | exact ((Ch.refl _ _).alloc _).alloc _ | exact ((Ch.refl _ _).alloc _).drew | exact (((Ch.refl _ _).alloc _).alloc _).alloc _ | exact (((Ch.refl _ _).alloc _).alloc _).drew | exact ((((Ch.refl _ _).alloc _).alloc _).alloc _).drew | exact ((((Ch.refl _ _).alloc _).alloc _).alloc _).alloc _ | exact (((((Ch.refl _ _).alloc _).alloc _).alloc _).alloc _).drew) hC
         have HC6 := Lib.hid (HC5.out.trans hCC)
         clear HC5
         have Hx := Lib.hid (H26.out.keep hCC)
         clear H26
         have H26 := Hx
         clear Hx
         have Hx := Lib.hid (H28.out.keep hCC)
         clear H28
         have H28 := Hx
         clear Hx
         have Hx := Lib.hid (H30.out.keep hCC)
         clear H30
         have H30 := Hx
         clear Hx
         have Hx := Lib.hid (H31.out.keep hCC)
         clear H31
         have H31 := Hx
         clear Hx
         have Hx := Lib.hid (H35.out.keep hCC)
         clear H35
         have H35 := Hx
         clear Hx
         have Hx := Lib.hid (H36.out.keep hCC)
         clear H36
         have H36 := Hx
         clear Hx
         have Hx := Lib.hid (H40.out.keep hCC)
         clear H40
         have H40 := Hx
         clear Hx
         have Hx := Lib.hid (H41.out.keep hCC)
         clear H41
         have H41 := Hx
         clear Hx
         have Bx := Lib.hid (Bp.out.keep hCC (fun h => h))
         clear Bp
         have Bp := Bx
         clear Bx
         have Bx := Lib.hid (Bq.out.keep hCC (fun h => h))
         clear Bq
         have Bq := Bx
         clear Bx
         have Bx := Lib.hid (Br.out.keep hCC (fun h => h))
         clear Br
         have Br := Bx
         clear Bx
         have Bx := Lib.hid (B7.out.keep hCC (fun h => h))
         clear B7
         have B7 := Bx
         clear Bx
         have Bx := Lib.hid (B8.out.keep hCC (fun h => h))
         clear B8
         have B8 := Bx
         clear Bx
         have Bx := Lib.hid (B9.out.keep hCC (fun h => h))
         clear B9
         have B9 := Bx
         clear Bx
         have Bx := Lib.hid (B10.out.keep hCC (fun h => h))
         clear B10
         have B10 := Bx
         clear Bx
         have Bx := Lib.hid (B11.out.keep hCC (fun h => h))
         clear B11
         have B11 := Bx
         clear Bx
         have Ha := Lib.hid (hV.mono (base' := 0) (Nat.zero_le _))
         clear hV
         clear hC hCC
         try clear xp0 xp1
         try clear xpz
         have xpz := Bp.out.lt
         have xp0 := Bp.out.cell 0
         have xp1 := Bp.out.cell 1
         simp only [List.getElem?_toArray, List.getElem?_cons_zero, List.getElem?_cons_succ] at xp0 xp1
         try clear xq0 xq1
         try clear xqz
         have xqz := Bq.out.lt
         have xq0 := Bq.out.cell 0
         have xq1 := Bq.out.cell 1
         simp only [List.getElem?_toArray, List.getElem?_cons_zero, List.getElem?_cons_succ] at xq0 xq1
         try clear xr0 xr1
         try clear xrz
         have xrz := Br.out.lt
         have xr0 := Br.out.cell 0
         have xr1 := Br.out.cell 1
         simp only [List.getElem?_toArray, List.getElem?_cons_zero, List.getElem?_cons_succ] at xr0 xr1
         try clear x70 x71
         try clear x7z
         have x7z := B7.out.lt
         have x70 := B7.out.cell 0
         have x71 := B7.out.cell 1
         simp only [List.getElem?_toArray, List.getElem?_cons_zero, List.getElem?_cons_succ] at x70 x71
         try clear x80 x81
         try clear x8z
         have x8z := B8.out.lt
         have x80 := B8.out.cell 0
         have x81 := B8.out.cell 1
         simp only [List.getElem?_toArray, List.getElem?_cons_zero, List.getElem?_cons_succ] at x80 x81
         try clear x90 x91
         try clear x9z
         have x9z := B9.out.lt
         have x90 := B9.out.cell 0
         have x91 := B9.out.cell 1
         simp only [List.getElem?_toArray, List.getElem?_cons_zero, List.getElem?_cons_succ] at x90 x91
         try clear x100 x101
         try clear x10z
         have x10z := B10.out.lt
         have x100 := B10.out.cell 0
         have x101 := B10.out.cell 1
         simp only [List.getElem?_toArray, List.getElem?_cons_zero, List.getElem?_cons_succ] at x100 x101
         try clear x110 x111
         try clear x11z
         have x11z := B11.out.lt
         have x110 := B11.out.cell 0
         have x111 := B11.out.cell 1
         simp only [List.getElem?_toArray, List.getElem?_cons_zero, List.getElem?_cons_succ] at x110 x111)
      | (go_at_call 18
         (with_reducible refine (bsunion_any _ _ _ _ _ _ _ (Ha.out.keep (by first | exact Ch.refl _ _ | exact (Ch.refl _ _).alloc _ | exact (Ch.refl _ _).drew | exact ((Ch.refl _ _).alloc _).alloc _ | exact ((Ch.refl _ _).alloc _).drew | exact (((Ch.refl _ _).alloc _).alloc _).alloc _ | exact (((Ch.refl _ _).alloc _).alloc _).drew | exact ((((Ch.refl _ _).alloc _).alloc _).alloc _).drew | exact ((((Ch.refl _ _).alloc _).alloc _).alloc _).alloc _ | exact (((((Ch.refl _ _).alloc _).alloc _).alloc _).alloc _).drew)) (H31.out.keep (by first | exact Ch.refl _ _ | exact (Ch.refl _ _).alloc _ | exact (Ch.refl _ _).drew | exact ((Ch.refl _ _).alloc _).alloc _ | exact ((Ch.refl _ _).alloc _).drew | exact (((Ch.refl _ _).alloc _).alloc _).alloc _ | exact (((Ch.refl _ _).alloc _).alloc _).drew | exact ((((Ch.refl _ _).alloc _).alloc _).alloc _).drew | exact ((((Ch.refl _ _).alloc _).alloc _).alloc _).alloc _ | exact (((((Ch.refl _ _).alloc _).alloc _).alloc _).alloc _).drew))).mono ?_)
         rintro e w7 ⟨vb, rfl, hV, hC⟩
         obtain ⟨Lb, hE⟩ : ∃ x, x = max La L31 := ⟨_, rfl⟩
         rw [← hE] at hV
         have Eb := Lib.hid hE
         clear hE
         obtain ⟨Ab, nb, cb, rfl⟩ := hV.shape
         have hCC : Ch S0 w6 w7 := Ch.trans (by first | exact Ch.refl _ _ | exact (Ch.refl _ _).alloc _ | exact (Ch.refl _ _).drew | exact ((Ch.refl _ _).alloc _).alloc _ | exact ((Ch.refl _ _).alloc _).drew | exact (((Ch.refl _ _).alloc _).alloc _).alloc _ | exact (((Ch.refl _ _).alloc _).alloc _).drew | exact ((((Ch.refl _ _).alloc _).alloc _).alloc _).drew | exact ((((Ch.refl _ _).alloc _).alloc _).alloc _).alloc _ | exact (((((Ch.refl _ _).alloc _).alloc _).alloc _).alloc _).drew) hC
         have HC7 := Lib.hid (HC6.out.trans hCC)
         clear HC6
         have Hx := Lib.hid (H26.out.keep hCC)
         clear H26
         have H26 := Hx
         clear Hx
         have Hx := Lib.hid (H28.out.keep hCC)
         clear H28
         have H28 := Hx
         clear Hx
         have Hx := Lib.hid (H30.out.keep hCC)
         clear H30
         have H30 := Hx
         clear Hx
         have Hx := Lib.hid (H31.out.keep hCC)
         clear H31
         have H31 := Hx
         clear Hx
         have Hx := Lib.hid (H35.out.keep hCC)
         clear H35
         have H35 := Hx
         clear Hx
         have Hx := Lib.hid (H36.out.keep hCC)
         clear H36
         have H36 := Hx
         clear Hx
         have Hx := Lib.hid (H40.out.keep hCC)
         clear H40
         have H40 := Hx
         clear Hx
         have Hx := Lib.hid (H41.out.keep hCC)
         clear H41
         have H41 := Hx
         clear Hx
         have Hx := Lib.hid (Ha.out.keep hCC)
         clear Ha
         have Ha := Hx
         clear Hx
         have Bx := Lib.hid (Bp.out.keep hCC (fun h => h))
         clear Bp
         have Bp := Bx
         clear Bx
         have Bx := Lib.hid (Bq.out.keep hCC (fun h => h))
         clear Bq
         have Bq := Bx
         clear Bx
         have Bx := Lib.hid (Br.out.keep hCC (fun h => h))
         clear Br
         have Br := Bx
         clear Bx
         have Bx := Lib.hid (B7.out.keep hCC (fun h => h))
         clear B7
         have B7 := Bx
         clear Bx
         have Bx := Lib.hid (B8.out.keep hCC (fun h => h))
         clear B8
         have B8 := Bx
         clear Bx
         have Bx := Lib.hid (B9.out.keep hCC (fun h => h))
         clear B9
         have B9 := Bx
         clear Bx
         have Bx := Lib.hid (B10.out.keep hCC (fun h => h))
         clear B10
         have B10 := Bx
         clear Bx
         have Bx := Lib.hid (B11.out.keep hCC (fun h => h))
         clear B11
         have B11 := Bx
         clear Bx
         have Hb := Lib.hid (hV.mono (base' := 0) (Nat.zero_le _))
         clear hV
         clear hC hCC
         try clear xp0 xp1
         try clear xpz
         have xpz := Bp.out.lt
         have xp0 := Bp.out.cell 0
         have xp1 := Bp.out.cell 1
         simp only [List.getElem?_toArray, List.getElem?_cons_zero, List.getElem?_cons_succ] at xp0 xp1
         try clear xq0 xq1
         try clear xqz
         have xqz := Bq.out.lt
         have xq0 := Bq.out.cell 0
         have xq1 := Bq.out.cell 1
         simp only [List.getElem?_toArray, List.getElem?_cons_zero, List.getElem?_cons_succ] at xq0 xq1
         try clear xr0 xr1
         try clear xrz
         have xrz := Br.out.lt
         have xr0 := Br.out.cell 0
         have xr1 := Br.out.cell 1
         simp only [List.getElem?_toArray, List.getElem?_cons_zero, List.getElem?_cons_succ] at xr0 xr1
         try clear x70 x71
         try clear x7z
         have x7z := B7.out.lt
         have x70 := B7.out.cell 0
         have x71 := B7.out.cell 1
         simp only [List.getElem?_toArray, List.getElem?_cons_zero, List.getElem?_cons_succ] at x70 x71
         try clear x80 x81
         try clear x8z
         have x8z := B8.out.lt
         have x80 := B8.out.cell 0
         have x81 := B8.out.cell 1
         simp only [List.getElem?_toArray, List.getElem?_cons_zero, List.getElem?_cons_succ] at x80 x81
         try clear x90 x91
         try clear x9z
         have x9z := B9.out.lt
         have x90 := B9.out.cell 0
         have x91 := B9.out.cell 1
         simp only [List.getElem?_toArray, List.getElem?_cons_zero, List.getElem?_cons_succ] at x90 x91
         try clear x100 x101
         try clear x10z
         have x10z := B10.out.lt
         have x100 := B10.out.cell 0
         have x101 := B10.out.cell 1
         simp only [List.getElem?_toArray, List.getElem?_cons_zero, List.getElem?_cons_succ] at x100 x101
         try clear x110 x111
         try clear x11z
         have x11z := B11.out.lt
         have x110 := B11.out.cell 0
         have x111 := B11.out.cell 1
         simp only [List.getElem?_toArray, List.getElem?_cons_zero, List.getElem?_cons_succ] at x110 x111)
      | (go_at_call 20
         (with_reducible refine (alike_true _ _ _ _ _ _ (H36.out.keep (by first | exact Ch.refl _ _ | exact (Ch.refl _ _).alloc _ | exact (Ch.refl _ _).drew | exact ((Ch.refl _ _).alloc _).alloc _ | exact ((Ch.refl _ _).alloc _).drew | exact (((Ch.refl _ _).alloc _).alloc _).alloc _ | exact (((Ch.refl _ _).alloc _).alloc _).drew | exact ((((Ch.refl _ _).alloc _).alloc _).alloc _).drew | exact ((((Ch.refl _ _).alloc _).alloc _).alloc _).alloc _ | exact (((((Ch.refl _ _).alloc _).alloc _).alloc _).alloc _).drew)) ((Hb.out.keep (by first | exact Ch.refl _ _ | exact (Ch.refl _ _).alloc _ | exact (Ch.refl _ _).drew | exact ((Ch.refl _ _).alloc _).alloc _ | exact ((Ch.refl _ _).alloc _).drew | exact (((Ch.refl _ _).alloc _).alloc _).alloc _ | exact (((Ch.refl _ _).alloc _).alloc _).drew | exact ((((Ch.refl _ _).alloc _).alloc _).alloc _).drew | exact ((((Ch.refl _ _).alloc _).alloc _).alloc _).alloc _ | exact (((((Ch.refl _ _).alloc _).alloc _).alloc _).alloc _).drew)).cast rfl Q36.out)).mono ?_)
         rintro e w8 ⟨rfl, hC⟩
         have hCC : Ch S0 w7 w8 := Ch.trans (by first | exact Ch.refl _ _ | exact (Ch.refl _ _).alloc _ | exact (Ch.refl _ _).drew | exact ((Ch.refl _ _).alloc _).alloc _ | exact ((Ch.refl _ _).alloc _).drew | exact (((Ch.refl _ _).alloc _).alloc _).alloc _ | exact (((Ch.refl _ _).alloc _).alloc _).drew | exact ((((Ch.refl _ _).alloc _).alloc _).alloc _).drew | exact ((((Ch.refl _ _).alloc _).alloc _).alloc _).alloc _ | exact (((((Ch.refl _ _).alloc _).alloc _).alloc _).alloc _).drew) hC
         have HC8 := Lib.hid (HC7.out.trans hCC)
         clear HC7
         have Hx := Lib.hid (H26.out.keep hCC)
         clear H26
         have H26 := Hx
         clear Hx
         have Hx := Lib.hid (H28.out.keep hCC)
         clear H28
         have H28 := Hx
         clear Hx
         have Hx := Lib.hid (H30.out.keep hCC)
         clear H30
         have H30 := Hx
         clear Hx
         have Hx := Lib.hid (H31.out.keep hCC)
         clear H31
         have H31 := Hx
         clear Hx
         have Hx := Lib.hid (H35.out.keep hCC)
         clear H35
         have H35 := Hx
         clear Hx
         have Hx := Lib.hid (H36.out.keep hCC)
         clear H36
         have H36 := Hx
         clear Hx
         have Hx := Lib.hid (H40.out.keep hCC)
         clear H40
         have H40 := Hx
         clear Hx
         have Hx := Lib.hid (H41.out.keep hCC)
         clear H41
         have H41 := Hx
         clear Hx
         have Hx := Lib.hid (Ha.out.keep hCC)
         clear Ha
         have Ha := Hx
         clear Hx
         have Hx := Lib.hid (Hb.out.keep hCC)
         clear Hb
         have Hb := Hx
         clear Hx
         have Bx := Lib.hid (Bp.out.keep hCC (fun h => h))
         clear Bp
         have Bp := Bx
         clear Bx
         have Bx := Lib.hid (Bq.out.keep hCC (fun h => h))
         clear Bq
         have Bq := Bx
         clear Bx
         have Bx := Lib.hid (Br.out.keep hCC (fun h => h))
         clear Br
         have Br := Bx
         clear Bx
         have Bx := Lib.hid (B7.out.keep hCC (fun h => h))
         clear B7
         have B7 := Bx
         clear Bx
         have Bx := Lib.hid (B8.out.keep hCC (fun h => h))
         clear B8
         have B8 := Bx
         clear Bx
         have Bx := Lib.hid (B9.out.keep hCC (fun h => h))
         clear B9
         have B9 := Bx
         clear Bx
         have Bx := Lib.hid (B10.out.keep hCC (fun h => h))
         clear B10
         have B10 := Bx
         clear Bx
         have Bx := Lib.hid (B11.out.keep hCC (fun h => h))
         clear B11
         have B11 := Bx
         clear Bx
         clear hC hCC
         try clear xp0 xp1
         try clear xpz
         have xpz := Bp.out.lt
         have xp0 := Bp.out.cell 0
         have xp1 := Bp.out.cell 1
         simp only [List.getElem?_toArray, List.getElem?_cons_zero, List.getElem?_cons_succ] at xp0 xp1
         try clear xq0 xq1
         try clear xqz
         have xqz := Bq.out.lt
         have xq0 := Bq.out.cell 0
         have xq1 := Bq.out.cell 1
         simp only [List.getElem?_toArray, List.getElem?_cons_zero, List.getElem?_cons_succ] at xq0 xq1
         try clear xr0 xr1
         try clear xrz
         have xrz := Br.out.lt
         have xr0 := Br.out.cell 0
         have xr1 := Br.out.cell 1
         simp only [List.getElem?_toArray, List.getElem?_cons_zero, List.getElem?_cons_succ] at xr0 xr1
         try clear x70 x71
         try clear x7z
         have x7z := B7.out.lt
         have x70 := B7.out.cell 0
         have x71 := B7.out.cell 1
         simp only [List.getElem?_toArray, List.getElem?_cons_zero, List.getElem?_cons_succ] at x70 x71
         try clear x80 x81
         try clear x8z
         have x8z := B8.out.lt
         have x80 := B8.out.cell 0
         have x81 := B8.out.cell 1
         simp only [List.getElem?_toArray, List.getElem?_cons_zero, List.getElem?_cons_succ] at x80 x81
         try clear x90 x91
         try clear x9z
         have x9z := B9.out.lt
         have x90 := B9.out.cell 0
         have x91 := B9.out.cell 1
         simp only [List.getElem?_toArray, List.getElem?_cons_zero, List.getElem?_cons_succ] at x90 x91
         try clear x100 x101
         try clear x10z
         have x10z := B10.out.lt
         have x100 := B10.out.cell 0
         have x101 := B10.out.cell 1
         simp only [List.getElem?_toArray, List.getElem?_cons_zero, List.getElem?_cons_succ] at x100 x101
         try clear x110 x111
         try clear x11z
         have x11z := B11.out.lt
         have x110 := B11.out.cell 0
         have x111 := B11.out.cell 1
         simp only [List.getElem?_toArray, List.getElem?_cons_zero, List.getElem?_cons_succ] at x110 x111)
      | (go_at_call 19
         (with_reducible refine (bssymdiff_any _ _ _ _ _ _ _ (H26.out.keep (by first | exact Ch.refl _ _ | exact (Ch.refl _ _).alloc _ | exact (Ch.refl _ _).drew | exact ((Ch.refl _ _).alloc _).alloc _ | exact ((Ch.refl _ _).alloc _).drew | exact (((Ch.refl _ _).alloc _).alloc _).alloc _ | exact (((Ch.refl _ _).alloc _).alloc _).drew | exact ((((Ch.refl _ _).alloc _).alloc _).alloc _).drew | exact ((((Ch.refl _ _).alloc _).alloc _).alloc _).alloc _ | exact (((((Ch.refl _ _).alloc _).alloc _).alloc _).alloc _).drew)) (H28.out.keep (by first | exact Ch.refl _ _ | exact (Ch.refl _ _).alloc _ | exact (Ch.refl _ _).drew | exact ((Ch.refl _ _).alloc _).alloc _ | exact ((Ch.refl _ _).alloc _).drew | exact (((Ch.refl _ _).alloc _).alloc _).alloc _ | exact (((Ch.refl _ _).alloc _).alloc _).drew | exact ((((Ch.refl _ _).alloc _).alloc _).alloc _).drew | exact ((((Ch.refl _ _).alloc _).alloc _).alloc _).alloc _ | exact (((((Ch.refl _ _).alloc _).alloc _).alloc _).alloc _).drew))).mono ?_)
         rintro e w9 ⟨vc, rfl, hV, hC⟩
         obtain ⟨Lc, hE⟩ : ∃ x, x = max L26 L28 := ⟨_, rfl⟩
         rw [← hE] at hV
         have Ec := Lib.hid hE
         clear hE
         obtain ⟨Ac, nc, cc, rfl⟩ := hV.shape
         have hCC : Ch S0 w8 w9 := Ch.trans (by first | exact Ch.refl _ _ | exact (Ch.refl _ _).alloc _ | exact (Ch.refl _ _).drew | exact ((Ch.refl _ _).alloc _).alloc _ | exact ((Ch.refl _ _).alloc _).drew | exact (((Ch.refl _ _).alloc _).alloc _).alloc _ | exact (((Ch.refl _ _).alloc _).alloc _).drew | exact ((((Ch.refl _ _).alloc _).alloc _).alloc _).drew | exact ((((Ch.refl _ _).alloc _).alloc _).alloc _).alloc _ | exact (((((Ch.refl _ _).alloc _).alloc _).alloc _).alloc _).drew) hC
         have HC9 := Lib.hid (HC8.out.trans hCC)
         clear HC8
         have Hx := Lib.hid (H26.out.keep hCC)
         clear H26
         have H26 := Hx
         clear Hx
         have Hx := Lib.hid (H28.out.keep hCC)
         clear H28
         have H28 := Hx
         clear Hx
         have Hx := Lib.hid (H30.out.keep hCC)
         clear H30
         have H30 := Hx
         clear Hx
         have Hx := Lib.hid (H31.out.keep hCC)
         clear H31
         have H31 := Hx
         clear Hx
         have Hx := Lib.hid (H35.out.keep hCC)
         clear H35
         have H35 := Hx
         clear Hx
         have Hx := Lib.hid (H36.out.keep hCC)
         clear H36
         have H36 := Hx
         clear Hx
         have Hx := Lib.hid (H40.out.keep hCC)
         clear H40
         have H40 := Hx
         clear Hx
         have Hx := Lib.hid (H41.out.keep hCC)
         clear H41
         have H41 := Hx
         clear Hx
         have Hx := Lib.hid (Ha.out.keep hCC)
         clear Ha
         have Ha := Hx
         clear Hx
         have Hx := Lib.hid (Hb.out.keep hCC)
         clear Hb
         have Hb := Hx
         clear Hx
         have Bx := Lib.hid (Bp.out.keep hCC (fun h => h))
         clear Bp
         have Bp := Bx
         clear Bx
         have Bx := Lib.hid (Bq.out.keep hCC (fun h => h))
         clear Bq
         have Bq := Bx
         clear Bx
         have Bx := Lib.hid (Br.out.keep hCC (fun h => h))
         clear Br
         have Br := Bx
         clear Bx
         have Bx := Lib.hid (B7.out.keep hCC (fun h => h))
         clear B7
         have B7 := Bx
         clear Bx
         have Bx := Lib.hid (B8.out.keep hCC (fun h => h))
         clear B8
         have B8 := Bx
         clear Bx
         have Bx := Lib.hid (B9.out.keep hCC (fun h => h))
         clear B9
         have B9 := Bx
         clear Bx
         have Bx := Lib.hid (B10.out.keep hCC (fun h => h))
         clear B10
         have B10 := Bx
         clear Bx
         have Bx := Lib.hid (B11.out.keep hCC (fun h => h))
         clear B11
         have B11 := Bx
         clear Bx
         have Hc := Lib.hid (hV.mono (base' := 0) (Nat.zero_le _))
         clear hV
         clear hC hCC
         try clear xp0 xp1
         try clear xpz
         have xpz := Bp.out.lt
         have xp0 := Bp.out.cell 0
         have xp1 := Bp.out.cell 1
         simp only [List.getElem?_toArray, List.getElem?_cons_zero, List.getElem?_cons_succ] at xp0 xp1
         try clear xq0 xq1
         try clear xqz
         have xqz := Bq.out.lt
         have xq0 := Bq.out.cell 0
         have xq1 := Bq.out.cell 1
         simp only [List.getElem?_toArray, List.getElem?_cons_zero, List.getElem?_cons_succ] at xq0 xq1
         try clear xr0 xr1
         try clear xrz
         have xrz := Br.out.lt
         have xr0 := Br.out.cell 0
         have xr1 := Br.out.cell 1
         simp only [List.getElem?_toArray, List.getElem?_cons_zero, List.getElem?_cons_succ] at xr0 xr1
         try clear x70 x71
         try clear x7z
         have x7z := B7.out.lt
         have x70 := B7.out.cell 0
         have x71 := B7.out.cell 1
         simp only [List.getElem?_toArray, List.getElem?_cons_zero, List.getElem?_cons_succ] at x70 x71
         try clear x80 x81
         try clear x8z
         have x8z := B8.out.lt
         have x80 := B8.out.cell 0
         have x81 := B8.out.cell 1
         simp only [List.getElem?_toArray, List.getElem?_cons_zero, List.getElem?_cons_succ] at x80 x81
         try clear x90 x91
         try clear x9z
         have x9z := B9.out.lt
         have x90 := B9.out.cell 0
         have x91 := B9.out.cell 1
         simp only [List.getElem?_toArray, List.getElem?_cons_zero, List.getElem?_cons_succ] at x90 x91
         try clear x100 x101
         try clear x10z
         have x10z := B10.out.lt
         have x100 := B10.out.cell 0
         have x101 := B10.out.cell 1
         simp only [List.getElem?_toArray, List.getElem?_cons_zero, List.getElem?_cons_succ] at x100 x101
         try clear x110 x111
         try clear x11z
         have x11z := B11.out.lt
         have x110 := B11.out.cell 0
         have x111 := B11.out.cell 1
         simp only [List.getElem?_toArray, List.getElem?_cons_zero, List.getElem?_cons_succ] at x110 x111)
      | (go_at_call 19
         (with_reducible refine (bssymdiff_any _ _ _ _ _ _ _ (Hc.out.keep (by first | exact Ch.refl _ _ | exact (Ch.refl _ _).alloc _ | exact (Ch.refl _ _).drew | exact ((Ch.refl _ _).alloc _).alloc _ | exact ((Ch.refl _ _).alloc _).drew | exact (((Ch.refl _ _).alloc _).alloc _).alloc _ | exact (((Ch.refl _ _).alloc _).alloc _).drew | exact ((((Ch.refl _ _).alloc _).alloc _).alloc _).drew | exact ((((Ch.refl _ _).alloc _).alloc _).alloc _).alloc _ | exact (((((Ch.refl _ _).alloc _).alloc _).alloc _).alloc _).drew)) (H31.out.keep (by first | exact Ch.refl _ _ | exact (Ch.refl _ _).alloc _ | exact (Ch.refl _ _).drew | exact ((Ch.refl _ _).alloc _).alloc _ | exact ((Ch.refl _ _).alloc _).drew | exact (((Ch.refl _ _).alloc _).alloc _).alloc _ | exact (((Ch.refl _ _).alloc _).alloc _).drew | exact ((((Ch.refl _ _).alloc _).alloc _).alloc _).drew | exact ((((Ch.refl _ _).alloc _).alloc _).alloc _).alloc _ | exact (((((Ch.refl _ _).alloc _).alloc _).alloc _).alloc _).drew))).mono ?_)
         rintro e w10 ⟨vd, rfl, hV, hC⟩
         obtain ⟨Ld, hE⟩ : ∃ x, x = max Lc L31 := ⟨_, rfl⟩
         rw [← hE] at hV
         have Ed := Lib.hid hE
         clear hE
         obtain ⟨Ad, nd, cd, rfl⟩ := hV.shape
         have hCC : Ch S0 w9 w10 := Ch.trans (by first | exact Ch.refl _ _ | exact (Ch.refl _ _).alloc _ | exact (Ch.refl _ _).drew | exact ((Ch.refl _ _).alloc _).alloc _ | exact ((Ch.refl _ _).alloc _).drew | exact (((Ch.refl _ _).alloc _).alloc _).alloc _ | exact (((Ch.refl _ _).alloc _).alloc _).drew | exact ((((Ch.refl _ _).alloc _).alloc _).alloc _).drew | exact ((((Ch.refl _ _).alloc _).alloc _).alloc _).alloc _ | exact (((((Ch.refl _ _).alloc _).alloc _).alloc _).alloc _).drew) hC
         have HC10 := Lib.hid (HC9.out.trans hCC)
         clear HC9
         have Hx := Lib.hid (H26.out.keep hCC)
         clear H26
         have H26 := Hx
         clear Hx
         have Hx := Lib.hid (H28.out.keep hCC)
         clear H28
         have H28 := Hx
         clear Hx
         have Hx := Lib.hid (H30.out.keep hCC)
         clear H30
         have H30 := Hx
         clear Hx
         have Hx := Lib.hid (H31.out.keep hCC)
         clear H31
         have H31 := Hx
         clear Hx
         have Hx := Lib.hid (H35.out.keep hCC)
         clear H35
         have H35 := Hx
         clear Hx
         have Hx := Lib.hid (H36.out.keep hCC)
         clear H36
         have H36 := Hx
         clear Hx
         have Hx := Lib.hid (H40.out.keep hCC)
         clear H40
         have H40 := Hx
         clear Hx
         have Hx := Lib.hid (H41.out.keep hCC)
         clear H41
         have H41 := Hx
         clear Hx
         have Hx := Lib.hid (Ha.out.keep hCC)
         clear Ha
         have Ha := Hx
         clear Hx
         have Hx := Lib.hid (Hb.out.keep hCC)
         clear Hb
         have Hb := Hx
         clear Hx
         have Hx := Lib.hid (Hc.out.keep hCC)
         clear Hc
         have Hc := Hx
         clear Hx
         have Bx := Lib.hid (Bp.out.keep hCC (fun h => h))
         clear Bp
         have Bp := Bx
         clear Bx
         have Bx := Lib.hid (Bq.out.keep hCC (fun h => h))
         clear Bq
         have Bq := Bx
         clear Bx
         have Bx := Lib.hid (Br.out.keep hCC (fun h => h))
         clear Br
         have Br := Bx
         clear Bx
         have Bx := Lib.hid (B7.out.keep hCC (fun h => h))
         clear B7
         have B7 := Bx
         clear Bx
         have Bx := Lib.hid (B8.out.keep hCC (fun h => h))
         clear B8
         have B8 := Bx
         clear Bx
         have Bx := Lib.hid (B9.out.keep hCC (fun h => h))
         clear B9
         have B9 := Bx
         clear Bx
         have Bx := Lib.hid (B10.out.keep hCC (fun h => h))
         clear B10
         have B10 := Bx
         clear Bx
         have Bx := Lib.hid (B11.out.keep hCC (fun h => h))
         clear B11
         have B11 := Bx
         clear Bx
         have Hd := Lib.hid (hV.mono (base' := 0) (Nat.zero_le _))
         clear hV
         clear hC hCC
         try clear xp0 xp1
         try clear xpz
         have xpz := Bp.out.lt
         have xp0 := Bp.out.cell 0
         have xp1 := Bp.out.cell 1
         simp only [List.getElem?_toArray, List.getElem?_cons_zero, List.getElem?_cons_succ] at xp0 xp1
         try clear xq0 xq1
         try clear xqz
         have xqz := Bq.out.lt
         have xq0 := Bq.out.cell 0
         have xq1 := Bq.out.cell 1
         simp only [List.getElem?_toArray, List.getElem?_cons_zero, List.getElem?_cons_succ] at xq0 xq1
         try clear xr0 xr1
         try clear xrz
         have xrz := Br.out.lt
         have xr0 := Br.out.cell 0
         have xr1 := Br.out.cell 1
         simp only [List.getElem?_toArray, List.getElem?_cons_zero, List.getElem?_cons_succ] at xr0 xr1
         try clear x70 x71
         try clear x7z
         have x7z := B7.out.lt
         have x70 := B7.out.cell 0
         have x71 := B7.out.cell 1
         simp only [List.getElem?_toArray, List.getElem?_cons_zero, List.getElem?_cons_succ] at x70 x71
         try clear x80 x81
         try clear x8z
         have x8z := B8.out.lt
         have x80 := B8.out.cell 0
         have x81 := B8.out.cell 1
         simp only [List.getElem?_toArray, List.getElem?_cons_zero, List.getElem?_cons_succ] at x80 x81
         try clear x90 x91
         try clear x9z
         have x9z := B9.out.lt
         have x90 := B9.out.cell 0
         have x91 := B9.out.cell 1
         simp only [List.getElem?_toArray, List.getElem?_cons_zero, List.getElem?_cons_succ] at x90 x91
         try clear x100 x101
         try clear x10z
         have x10z := B10.out.lt
         have x100 := B10.out.cell 0
         have x101 := B10.out.cell 1
         simp only [List.getElem?_toArray, List.getElem?_cons_zero, List.getElem?_cons_succ] at x100 x101
         try clear x110 x111
         try clear x11z
         have x11z := B11.out.lt
         have x110 := B11.out.cell 0
         have x111 := B11.out.cell 1
         simp only [List.getElem?_toArray, List.getElem?_cons_zero, List.getElem?_cons_succ] at x110 x111)
      | (go_at_call 20
         (with_reducible refine (alike_true _ _ _ _ _ _ (H41.out.keep (by first | exact Ch.refl _ _ | exact (Ch.refl _ _).alloc _ | exact (Ch.refl _ _).drew | exact ((Ch.refl _ _).alloc _).alloc _ | exact ((Ch.refl _ _).alloc _).drew | exact (((Ch.refl _ _).alloc _).alloc _).alloc _ | exact (((Ch.refl _ _).alloc _).alloc _).drew | exact ((((Ch.refl _ _).alloc _).alloc _).alloc _).drew | exact ((((Ch.refl _ _).alloc _).alloc _).alloc _).alloc _ | exact (((((Ch.refl _ _).alloc _).alloc _).alloc _).alloc _).drew)) ((Hd.out.keep (by first | exact Ch.refl _ _ | exact (Ch.refl _ _).alloc _ | exact (Ch.refl _ _).drew | exact ((Ch.refl _ _).alloc _).alloc _ | exact ((Ch.refl _ _).alloc _).drew | exact (((Ch.refl _ _).alloc _).alloc _).alloc _ | exact (((Ch.refl _ _).alloc _).alloc _).drew | exact ((((Ch.refl _ _).alloc _).alloc _).alloc _).drew | exact ((((Ch.refl _ _).alloc _).alloc _).alloc _).alloc _ | exact (((((Ch.refl _ _).alloc _).alloc _).alloc _).alloc _).drew)).cast rfl Q41.out)).mono ?_)
         rintro e w11 ⟨rfl, hC⟩
         have hCC : Ch S0 w10 w11 := Ch.trans (by first | exact Ch.refl _ _ | exact (Ch.refl _ _).alloc _ | exact (Ch.refl _ _).drew | exact ((Ch.refl _ _).alloc _).alloc _ | exact ((Ch.refl _ _).alloc _).drew | exact (((Ch.refl _ _).alloc _).alloc _).alloc _ | exact (((Ch.refl _ _).alloc _).alloc _).drew | exact ((((Ch.refl _ _).alloc _).alloc _).alloc _).drew | exact ((((Ch.refl _ _).alloc _).alloc _).alloc _).alloc _ | exact (((((Ch.refl _ _).alloc _).alloc _).alloc _).alloc _).drew) hC
         have HC11 := Lib.hid (HC10.out.trans hCC)
         clear HC10
         have Hx := Lib.hid (H26.out.keep hCC)
         clear H26
         have H26 := Hx
         clear Hx
         have Hx := Lib.hid (H28.out.keep hCC)
         clear H28
         have H28 := Hx
         clear Hx
         have Hx := Lib.hid (H30.out.keep hCC)
         clear H30
         have H30 := Hx
         clear Hx
         have Hx := Lib.hid (H31.out.keep hCC)
         clear H31
         have H31 := Hx
         clear Hx
         have Hx := Lib.hid (H35.out.keep hCC)
         clear H35
         have H35 := Hx
         clear Hx
         have Hx := Lib.hid (H36.out.keep hCC)
         clear H36
         have H36 := Hx
         clear Hx
         have Hx := Lib.hid (H40.out.keep hCC)
         clear H40
         have H40 := Hx
         clear Hx
         have Hx := Lib.hid (H41.out.keep hCC)
         clear H41
         have H41 := Hx
         clear Hx
         have Hx := Lib.hid (Ha.out.keep hCC)
         clear Ha
         have Ha := Hx
         clear Hx
         have Hx := Lib.hid (Hb.out.keep hCC)
         clear Hb
         have Hb := Hx
         clear Hx
         have Hx := Lib.hid (Hc.out.keep hCC)
         clear Hc
         have Hc := Hx
         clear Hx
         have Hx := Lib.hid (Hd.out.keep hCC)
         clear Hd
         have Hd := Hx
         clear Hx
         have Bx := Lib.hid (Bp.out.keep hCC (fun h => h))
         clear Bp
         have Bp := Bx
         clear Bx
         have Bx := Lib.hid (Bq.out.keep hCC (fun h => h))
         clear Bq
         have Bq := Bx
         clear Bx
         have Bx := Lib.hid (Br.out.keep hCC (fun h => h))
         clear Br
         have Br := Bx
         clear Bx
         have Bx := Lib.hid (B7.out.keep hCC (fun h => h))
         clear B7
         have B7 := Bx
         clear Bx
         have Bx := Lib.hid (B8.out.keep hCC (fun h => h))
         clear B8
         have B8 := Bx
         clear Bx
         have Bx := Lib.hid (B9.out.keep hCC (fun h => h))
         clear B9
         have B9 := Bx
         clear Bx
         have Bx := Lib.hid (B10.out.keep hCC (fun h => h))
         clear B10
         have B10 := Bx
         clear Bx
         have Bx := Lib.hid (B11.out.keep hCC (fun h => h))
         clear B11
         have B11 := Bx
         clear Bx
         clear hC hCC
         try clear xp0 xp1
         try clear xpz
         have xpz := Bp.out.lt
         have xp0 := Bp.out.cell 0
         have xp1 := Bp.out.cell 1
         simp only [List.getElem?_toArray, List.getElem?_cons_zero, List.getElem?_cons_succ] at xp0 xp1
         try clear xq0 xq1
         try clear xqz
         have xqz := Bq.out.lt
         have xq0 := Bq.out.cell 0
         have xq1 := Bq.out.cell 1
         simp only [List.getElem?_toArray, List.getElem?_cons_zero, List.getElem?_cons_succ] at xq0 xq1
         try clear xr0 xr1
         try clear xrz
         have xrz := Br.out.lt
         have xr0 := Br.out.cell 0
         have xr1 := Br.out.cell 1
         simp only [List.getElem?_toArray, List.getElem?_cons_zero, List.getElem?_cons_succ] at xr0 xr1
         try clear x70 x71
         try clear x7z
         have x7z := B7.out.lt
         have x70 := B7.out.cell 0
         have x71 := B7.out.cell 1
         simp only [List.getElem?_toArray, List.getElem?_cons_zero, List.getElem?_cons_succ] at x70 x71
         try clear x80 x81
         try clear x8z
         have x8z := B8.out.lt
         have x80 := B8.out.cell 0
         have x81 := B8.out.cell 1
         simp only [List.getElem?_toArray, List.getElem?_cons_zero, List.getElem?_cons_succ] at x80 x81
         try clear x90 x91
         try clear x9z
         have x9z := B9.out.lt
         have x90 := B9.out.cell 0
         have x91 := B9.out.cell 1
         simp only [List.getElem?_toArray, List.getElem?_cons_zero, List.getElem?_cons_succ] at x90 x91
         try clear x100 x101
         try clear x10z
         have x10z := B10.out.lt
         have x100 := B10.out.cell 0
         have x101 := B10.out.cell 1
         simp only [List.getElem?_toArray, List.getElem?_cons_zero, List.getElem?_cons_succ] at x100 x101
         try clear x110 x111
         try clear x11z
         have x11z := B11.out.lt
         have x110 := B11.out.cell 0
         have x111 := B11.out.cell 1
         simp only [List.getElem?_toArray, List.getElem?_cons_zero, List.getElem?_cons_succ] at x110 x111)
      | (go_at_call 17
         (with_reducible refine (bstest_true _ _ _ _ (H36.out.keep (by first | exact Ch.refl _ _ | exact (Ch.refl _ _).alloc _ | exact (Ch.refl _ _).drew | exact ((Ch.refl _ _).alloc _).alloc _ | exact ((Ch.refl _ _).alloc _).drew | exact (((Ch.refl _ _).alloc _).alloc _).alloc _ | exact (((Ch.refl _ _).alloc _).alloc _).drew | exact ((((Ch.refl _ _).alloc _).alloc _).alloc _).drew | exact ((((Ch.refl _ _).alloc _).alloc _).alloc _).alloc _ | exact (((((Ch.refl _ _).alloc _).alloc _).alloc _).alloc _).drew)) 450 450 (by omega) T36.out).mono ?_)
         rintro e w12 ⟨rfl, hC⟩
         have hCC : Ch S0 w11 w12 := Ch.trans (by first | exact Ch.refl _ _ | exact (Ch.refl _ _).alloc _ | exact (Ch.refl _ _).drew | exact ((Ch.refl _ _).alloc _).alloc _ | exact ((Ch.refl _ _).alloc _).drew | exact (((Ch.refl _ _).alloc _).alloc _).alloc _ | exact (((Ch.refl _ _).alloc _).alloc _).drew | exact ((((Ch.refl _ _).alloc _).alloc _).alloc _).drew | exact ((((Ch.refl _ _).alloc _).alloc _).alloc _).alloc _ | exact (((((Ch.refl _ _).alloc _).alloc _).alloc _).alloc _).drew) hC
         have HC12 := Lib.hid (HC11.out.trans hCC)
         clear HC11
         have Hx := Lib.hid (H26.out.keep hCC)
         clear H26
         have H26 := Hx
         clear Hx
         have Hx := Lib.hid (H28.out.keep hCC)
         clear H28
         have H28 := Hx
         clear Hx
         have Hx := Lib.hid (H30.out.keep hCC)
         clear H30
         have H30 := Hx
         clear Hx
         have Hx := Lib.hid (H31.out.keep hCC)
         clear H31
         have H31 := Hx
         clear Hx
         have Hx := Lib.hid (H35.out.keep hCC)
         clear H35
         have H35 := Hx
         clear Hx
         have Hx := Lib.hid (H36.out.keep hCC)
         clear H36
         have H36 := Hx
         clear Hx
         have Hx := Lib.hid (H40.out.keep hCC)
         clear H40
         have H40 := Hx
         clear Hx
         have Hx := Lib.hid (H41.out.keep hCC)
         clear H41
         have H41 := Hx
         clear Hx
         have Hx := Lib.hid (Ha.out.keep hCC)
         clear Ha
         have Ha := Hx
         clear Hx
         have Hx := Lib.hid (Hb.out.keep hCC)
         clear Hb
         have Hb := Hx
         clear Hx
         have Hx := Lib.hid (Hc.out.keep hCC)
         clear Hc
         have Hc := Hx
         clear Hx
         have Hx := Lib.hid (Hd.out.keep hCC)
         clear Hd
         have Hd := Hx
         clear Hx
         have Bx := Lib.hid (Bp.out.keep hCC (fun h => h))
         clear Bp
         have Bp := Bx
         clear Bx
         have Bx := Lib.hid (Bq.out.keep hCC (fun h => h))
         clear Bq
         have Bq := Bx
         clear Bx
         have Bx := Lib.hid (Br.out.keep hCC (fun h => h))
         clear Br
         have Br := Bx
         clear Bx
         have Bx := Lib.hid (B7.out.keep hCC (fun h => h))
         clear B7
         have B7 := Bx
         clear Bx
         have Bx := Lib.hid (B8.out.keep hCC (fun h => h))
         clear B8
         have B8 := Bx
         clear Bx
         have Bx := Lib.hid (B9.out.keep hCC (fun h => h))
         clear B9
         have B9 := Bx
         clear Bx
         have Bx := Lib.hid (B10.out.keep hCC (fun h => h))
         clear B10
         have B10 := Bx
         clear Bx
         have Bx := Lib.hid (B11.out.keep hCC (fun h => h))
         clear B11
         have B11 := Bx
         clear Bx
         clear hC hCC
         try clear xp0 xp1
         try clear xpz
         have xpz := Bp.out.lt
         have xp0 := Bp.out.cell 0
         have xp1 := Bp.out.cell 1
         simp only [List.getElem?_toArray, List.getElem?_cons_zero, List.getElem?_cons_succ] at xp0 xp1
         try clear xq0 xq1
         try clear xqz
         have xqz := Bq.out.lt
         have xq0 := Bq.out.cell 0
         have xq1 := Bq.out.cell 1
         simp only [List.getElem?_toArray, List.getElem?_cons_zero, List.getElem?_cons_succ] at xq0 xq1
         try clear xr0 xr1
         try clear xrz
         have xrz := Br.out.lt
         have xr0 := Br.out.cell 0
         have xr1 := Br.out.cell 1
         simp only [List.getElem?_toArray, List.getElem?_cons_zero, List.getElem?_cons_succ] at xr0 xr1
         try clear x70 x71
         try clear x7z
         have x7z := B7.out.lt
         have x70 := B7.out.cell 0
         have x71 := B7.out.cell 1
         simp only [List.getElem?_toArray, List.getElem?_cons_zero, List.getElem?_cons_succ] at x70 x71
         try clear x80 x81
         try clear x8z
         have x8z := B8.out.lt
         have x80 := B8.out.cell 0
         have x81 := B8.out.cell 1
         simp only [List.getElem?_toArray, List.getElem?_cons_zero, List.getElem?_cons_succ] at x80 x81
         try clear x90 x91
         try clear x9z
         have x9z := B9.out.lt
         have x90 := B9.out.cell 0
         have x91 := B9.out.cell 1
         simp only [List.getElem?_toArray, List.getElem?_cons_zero, List.getElem?_cons_succ] at x90 x91
         try clear x100 x101
         try clear x10z
         have x10z := B10.out.lt
         have x100 := B10.out.cell 0
         have x101 := B10.out.cell 1
         simp only [List.getElem?_toArray, List.getElem?_cons_zero, List.getElem?_cons_succ] at x100 x101
         try clear x110 x111
         try clear x11z
         have x11z := B11.out.lt
         have x110 := B11.out.cell 0
         have x111 := B11.out.cell 1
         simp only [List.getElem?_toArray, List.getElem?_cons_zero, List.getElem?_cons_succ] at x110 x111)
      | (go_at_call 17
         (with_reducible refine (bstest_true _ _ _ _ (H41.out.keep (by first | exact Ch.refl _ _ | exact (Ch.refl _ _).alloc _ | exact (Ch.refl _ _).drew | exact ((Ch.refl _ _).alloc _).alloc _ | exact ((Ch.refl _ _).alloc _).drew | exact (((Ch.refl _ _).alloc _).alloc _).alloc _ | exact (((Ch.refl _ _).alloc _).alloc _).drew | exact ((((Ch.refl _ _).alloc _).alloc _).alloc _).drew | exact ((((Ch.refl _ _).alloc _).alloc _).alloc _).alloc _ | exact (((((Ch.refl _ _).alloc _).alloc _).alloc _).alloc _).drew)) 450 450 (by omega) T41.out).mono ?_)
         rintro e w13 ⟨rfl, hC⟩
         have hCC : Ch S0 w12 w13 := Ch.trans (by first | exact Ch.refl _ _ | exact (Ch.refl _ _).alloc _ | exact (Ch.refl _ _).drew | exact ((Ch.refl _ _).alloc _).alloc _ | exact ((Ch.refl _ _).alloc _).drew | exact (((Ch.refl _ _).alloc _).alloc _).alloc _ | exact (((Ch.refl _ _).alloc _).alloc _).drew | exact ((((Ch.refl _ _).alloc _).alloc _).alloc _).drew | exact ((((Ch.refl _ _).alloc _).alloc _).alloc _).alloc _ | exact (((((Ch.refl _ _).alloc _).alloc _).alloc _).alloc _).drew) hC
         have HC13 := Lib.hid (HC12.out.trans hCC)
         clear HC12
         have Hx := Lib.hid (H26.out.keep hCC)
         clear H26
         have H26 := Hx
         clear Hx
         have Hx := Lib.hid (H28.out.keep hCC)
         clear H28
         have H28 := Hx
         clear Hx
         have Hx := Lib.hid (H30.out.keep hCC)
         clear H30
         have H30 := Hx
         clear Hx
         have Hx := Lib.hid (H31.out.keep hCC)
         clear H31
         have H31 := Hx
         clear Hx
         have Hx := Lib.hid (H35.out.keep hCC)
         clear H35
         have H35 := Hx
         clear Hx
         have Hx := Lib.hid (H36.out.keep hCC)
         clear H36
         have H36 := Hx
         clear Hx
         have Hx := Lib.hid (H40.out.keep hCC)
         clear H40
         have H40 := Hx
         clear Hx
         have Hx := Lib.hid (H41.out.keep hCC)
         clear H41
         have H41 := Hx
         clear Hx
         have Hx := Lib.hid (Ha.out.keep hCC)
         clear Ha
         have Ha := Hx
         clear Hx
         have Hx := Lib.hid (Hb.out.keep hCC)
         clear Hb
         have Hb := Hx
         clear Hx
         have Hx := Lib.hid (Hc.out.keep hCC)
         clear Hc
         have Hc := Hx
         clear Hx
         have Hx := Lib.hid (Hd.out.keep hCC)
         clear Hd
         have Hd := Hx
         clear Hx
         have Bx := Lib.hid (Bp.out.keep hCC (fun h => h))
         clear Bp
         have Bp := Bx
         clear Bx
         have Bx := Lib.hid (Bq.out.keep hCC (fun h => h))
         clear Bq
         have Bq := Bx
         clear Bx
         have Bx := Lib.hid (Br.out.keep hCC (fun h => h))
         clear Br
         have Br := Bx
         clear Bx
         have Bx := Lib.hid (B7.out.keep hCC (fun h => h))
         clear B7
         have B7 := Bx
         clear Bx
         have Bx := Lib.hid (B8.out.keep hCC (fun h => h))
         clear B8
         have B8 := Bx
         clear Bx
         have Bx := Lib.hid (B9.out.keep hCC (fun h => h))
         clear B9
         have B9 := Bx
         clear Bx
         have Bx := Lib.hid (B10.out.keep hCC (fun h => h))
         clear B10
         have B10 := Bx
         clear Bx
         have Bx := Lib.hid (B11.out.keep hCC (fun h => h))
         clear B11
         have B11 := Bx
         clear Bx
         clear hC hCC
         try clear xp0 xp1
         try clear xpz
         have xpz := Bp.out.lt
         have xp0 := Bp.out.cell 0
         have xp1 := Bp.out.cell 1
         simp only [List.getElem?_toArray, List.getElem?_cons_zero, List.getElem?_cons_succ] at xp0 xp1
         try clear xq0 xq1
         try clear xqz
         have xqz := Bq.out.lt
         have xq0 := Bq.out.cell 0
         have xq1 := Bq.out.cell 1
         simp only [List.getElem?_toArray, List.getElem?_cons_zero, List.getElem?_cons_succ] at xq0 xq1
         try clear xr0 xr1
         try clear xrz
         have xrz := Br.out.lt
         have xr0 := Br.out.cell 0
         have xr1 := Br.out.cell 1
         simp only [List.getElem?_toArray, List.getElem?_cons_zero, List.getElem?_cons_succ] at xr0 xr1
         try clear x70 x71
         try clear x7z
         have x7z := B7.out.lt
         have x70 := B7.out.cell 0
         have x71 := B7.out.cell 1
         simp only [List.getElem?_toArray, List.getElem?_cons_zero, List.getElem?_cons_succ] at x70 x71
         try clear x80 x81
         try clear x8z
         have x8z := B8.out.lt
         have x80 := B8.out.cell 0
         have x81 := B8.out.cell 1
         simp only [List.getElem?_toArray, List.getElem?_cons_zero, List.getElem?_cons_succ] at x80 x81
         try clear x90 x91
         try clear x9z
         have x9z := B9.out.lt
         have x90 := B9.out.cell 0
         have x91 := B9.out.cell 1
         simp only [List.getElem?_toArray, List.getElem?_cons_zero, List.getElem?_cons_succ] at x90 x91
         try clear x100 x101
         try clear x10z
         have x10z := B10.out.lt
         have x100 := B10.out.cell 0
         have x101 := B10.out.cell 1
         simp only [List.getElem?_toArray, List.getElem?_cons_zero, List.getElem?_cons_succ] at x100 x101
         try clear x110 x111
         try clear x11z
         have x11z := B11.out.lt
         have x110 := B11.out.cell 0
         have x111 := B11.out.cell 1
         simp only [List.getElem?_toArray, List.getElem?_cons_zero, List.getElem?_cons_succ] at x110 x111))
  go_wp2
  go_ret
  exact ⟨rfl, HC13.out⟩

end Go.Proofs.Ytgnhmgnpmbmjcaa
