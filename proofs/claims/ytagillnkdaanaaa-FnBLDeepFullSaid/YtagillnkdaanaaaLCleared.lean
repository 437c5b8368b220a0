/- THE WALK of FnBLDeepCleared. -/
import Derived.Test.YtagillnkdaanaaaLMore
import Derived.Test.YtagillnkdaanaaaN2
import Derived.Test.YtagillnkdaanaaaZb
namespace Go.Proofs.Ytagillnkdaanaaa
open Go.RowKit
set_option linter.unusedVariables false
set_option linter.unusedSimpArgs false

theorem bltest_is (v vd : Value) (M K n nd : Nat) (g : Nat → Bool) (f : Nat → Int) (loc : Nat → Nat) (w : World) (h : IsF w v M K n g) (hd : Dat w vd nd f) (hl : IsLoc nd f M loc) (r : Bool) (hr : allTo g loc K = r) :
    Calls Try.prog 9 #[v, vd] w fun e w' => e = .returned (.bool r) ∧ Ch S0 w w' := hr ▸ bltest_any v vd M K n nd g f loc w h hd hl

set_option maxRecDepth 100000 in
set_option maxHeartbeats 4000000 in
theorem cleared_small (m k : Nat) (P1 : Option Addr) (n1 c1 : Nat) (x1 : Nat → Nat) (P3 : Option Addr) (n3 c3 : Nat) (f3 : Nat → Int) (w : World) (hm : m < 65536) (hk : k < 256)
    (h1 : n1 ≤ 2147483647) (hA1 : WIn w P1 n1 x1) (h3 : n3 ≤ 2147483647) (hA3 : Raw w (.slice P3 n3 c3) n3 f3) :
    Calls Try.prog 4 #[.int .u16 m, .int .u8 k, .slice P1 n1 c1, .slice P3 n3 c3] w fun e w' => e = .returned (.bool true) ∧ Ch S0 w w' := by
  have X1 := Lib.hid hA1
  have X3 := Lib.hid hA3
  obtain ⟨M, hM⟩ : ∃ M, M = 1 + m % 700 := ⟨_, rfl⟩
  obtain ⟨K, hK⟩ : ∃ K, K = 1 + k % 8 := ⟨_, rfl⟩
  obtain ⟨n, hn⟩ : ∃ n, n = (M + 63) / 64 := ⟨_, rfl⟩
  have hb1 := fun w hA => blfilter_any m k n1 c1 P1 x1 w hm hk (by omega) hA
  have hnw := fun w => blnew_new M K w (by omega) (by omega)
  rw [← hM, ← hK, ← hn] at hb1
  rw [← hn] at hnw
  have F1 := Lib.hid hb1
  have FN := Lib.hid hnw
  clear hA1 hA3 hb1 hM hK hn hnw
  have HC0 := Lib.hid (Ch.refl S0 w)
  go_enter Try.func4, Try.ntmps4
  go_wp2_with fail
  refine (F1.out _ X1.out).mono ?_
  rintro e w1 ⟨v1, rfl, hV, hC⟩
  obtain ⟨A1, r1, rfl⟩ := hV.shape
  have hCC : Ch S0 w w1 := Ch.trans (by first | exact Ch.refl S0 _ | exact (Ch.refl S0 _).alloc _ | exact (Ch.refl S0 _).drew | exact ((Ch.refl S0 _).alloc _).alloc _ | exact ((Ch.refl S0 _).alloc _).drew | exact ((Ch.refl S0 _).drew).alloc _) hC
  have HC1 := Lib.hid (HC0.out.trans hCC)
  clear HC0
  have V1 := Lib.hid hV
  clear hV
  clear hC hCC
  go_wp2_with fail
  refine (bldata_any _ n3 f3 _ (X3.out.keep HC1.out)).mono ?_
  rintro e wD ⟨vd, nd3, rfl, hD, rfl⟩
  obtain ⟨BB3, d3, rfl⟩ := hD.shape
  have D3 := Lib.hid hD
  clear hD
  have hp := V1.out.pos
  have HP := Lib.hid hp
  have hs3 := D3.out.small
  obtain ⟨lc3, hl3⟩ := isLoc_ex nd3 f3 M hs3 (by omega) (by omega)
  have L3 := Lib.hid hl3
  clear hl3 hs3 hp
  go_wp2_with fail
  have Bp : Hid (Blk (w1.alloc (Obj.cells #[Value.int .u64 (M : Nat), .int .u64 (K : Nat), .slice A1 n r1] 27)) w1.heap.size #[Value.int .u64 (M : Nat), .int .u64 (K : Nat), .slice A1 n r1]) := Lib.hid (Blk.new _ _ _)
  have hCC : Ch S0 w1 (w1.alloc (Obj.cells #[Value.int .u64 (M : Nat), .int .u64 (K : Nat), .slice A1 n r1] 27)) := (Ch.refl _ _).alloc _
  have HC2 := Lib.hid (HC1.out.trans hCC)
  have Vx := Lib.hid (V1.out.keep hCC)
  clear V1
  have V1 := Vx
  clear Vx
  have Dx := Lib.hid (D3.out.keep hCC)
  clear D3
  have D3 := Dx
  clear Dx hCC HC1
  generalize w1.alloc (Obj.cells #[Value.int .u64 (M : Nat), .int .u64 (K : Nat), .slice A1 n r1] 27) = w2 at *
  generalize w1.heap.size = bp at *
  have xpz := Bp.out.lt
  have xp0 := Bp.out.cell 0
  have xp1 := Bp.out.cell 1
  have xp2 := Bp.out.cell 2
  simp only [List.getElem?_toArray, List.getElem?_cons_zero, List.getElem?_cons_succ] at xp0 xp1 xp2
  obtain ⟨I0, hI0⟩ : ∃ I0 : (Nat → Bool) → Act → World → Prop, I0 = (fun D a' w' => (∃ x27 x28 x29 x30 x31 x32 x33 x11 x12 : Value, a' = ({ tmps := #[(Value.int IntKind.u16 ↑m), (Value.int IntKind.u8 ↑k), (Value.slice P1 n1 c1), (Value.slice P3 n3 c3), undef, undef, undef, undef, (Value.bool false), (Value.pointer (some { block := bp, off := 0 })), (Value.slice BB3 nd3 d3), x11, x12, (Value.slice P1 n1 c1), (Value.int IntKind.i64 ↑n1), (Value.bool (decide ((2147483647 : Int) < ↑n1))), (Value.bool (decide ((2147483647 : Int) < ↑n1))), (Value.slice P3 n3 c3), (Value.int IntKind.i64 ↑n3), (Value.bool (decide ((2147483647 : Int) < ↑n3))), (Value.bool (decide ((2147483647 : Int) < ↑n1) || decide ((2147483647 : Int) < ↑n3))), (Value.int IntKind.u16 ↑m), (Value.int IntKind.u8 ↑k), (Value.slice P1 n1 c1), (Value.agg #[Value.int IntKind.u64 ↑M, Value.int IntKind.u64 ↑K, Value.slice A1 n r1]), (Value.slice P3 n3 c3), (Value.slice BB3 nd3 d3), x27, x28, x29, x30, x31, x32, x33, undef, undef, undef, undef, undef, undef, undef, undef, undef, undef, undef, undef, undef, undef, undef, undef, undef, undef, undef, undef, undef, undef, undef, undef, undef], defers := [] } : Act) ∧ RG w2 w' D [x27, x28, x29, x30, x31, x32, x33, x11, x12, undef, undef] [(fun _ _ => True), (fun (ww : World) (vv : Value) => IsF ww vv M K n (fun _ => false)), (fun _ _ => True), (fun _ _ => True), (fun _ _ => True), (fun _ _ => True), (fun (ww : World) (vv : Value) => IsF ww vv M K n (fun _ => false)), (fun _ _ => True), (fun _ _ => True), (fun _ _ => True), (fun _ _ => True)] [#[], #[], #[], #[], #[], #[], #[], #[Value.int .u64 0, Value.int .u64 0, Value.slice none 0 0], #[Value.int .u64 0, Value.int .u64 0, Value.slice none 0 0], #[], #[]] [1, 6] [7, 8] [0, 0, 0, 0, 0, 0, 0, 9, 10, 0, 0] [0, 0, 0, 0, 0, 0, 0, 1, 6, 0, 0] ∧ (D 0 = true → x27 = .agg #[.int .u64 (M : Nat), .int .u64 (K : Nat), .slice A1 n r1]) ∧ (D 2 = true → x29 = .pointer (some ⟨bp, 0, none⟩)) ∧ (D 3 = true → x30 = .int .u64 (M : Nat)) ∧ (D 4 = true → x31 = .pointer (some ⟨bp, 1, none⟩)) ∧ (D 5 = true → x32 = .int .u64 (K : Nat)) ∧ (D 6 = true → D 1 = true))) := ⟨_, rfl⟩
  have HI := Lib.hid hI0
  clear hI0
  refine region_inv2 (by kernel_rfl) (by kernel_rfl) I0 ?_ ?_ ?_
  · rw [HI.out]; exact ⟨_, _, _, _, _, _, _, _, _, rfl, RG.start _ _ _ _ _ _ _ _, (fun h => by cases h), (fun h => by cases h), (fun h => by cases h), (fun h => by cases h), (fun h => by cases h), (fun h => by cases h)⟩
  · refine ⟨?_, ?_, ?_, ?_, ?_, ?_, ?_, ?_, ?_, ?_, ?_, trivial⟩
    · intro D a' w' hD hdep hI KK hKK
      rw [HI.out] at hI
      obtain ⟨x27, x28, x29, x30, x31, x32, x33, x11, x12, rfl, hM, f0, f2, f3, f4, f5, k6⟩ := hI
      simp [Region.binds] at hdep
      have K6 := Lib.hid k6
      clear k6
      have HM := Lib.hid hM
      clear hM
      have F0 := Lib.hid f0
      clear f0
      have F2 := Lib.hid f2
      clear f2
      have F3 := Lib.hid f3
      clear f3
      have F4 := Lib.hid f4
      clear f4
      have F5 := Lib.hid f5
      clear f5
      have Bx := Bp.out.keep HM.out.ch (fun h => h)
      have y0 := Bx.cell 0
      have y1 := Bx.cell 1
      have y2 := Bx.cell 2
      simp only [List.getElem?_toArray, List.getElem?_cons_zero, List.getElem?_cons_succ] at y0 y1 y2
      clear Bx
      clear hdep
      go_wp2_with fail
      rw [HI.out]; exact ⟨_, _, _, _, _, _, _, _, _, rfl, HM.out.other (k := 0) (.agg #[.int .u64 (M : Nat), .int .u64 (K : Nat), .slice A1 n r1]) (by decide) (by decide) (by decide) (by decide), fun _ => rfl, fun h => F2.out (upd_out h (by decide)), fun h => F3.out (upd_out h (by decide)), fun h => F4.out (upd_out h (by decide)), fun h => F5.out (upd_out h (by decide)), fun h => upd_mono (K6.out (upd_out h (by decide)))⟩
    · intro D a' w' hD hdep hI KK hKK
      rw [HI.out] at hI
      obtain ⟨x27, x28, x29, x30, x31, x32, x33, x11, x12, rfl, hM, f0, f2, f3, f4, f5, k6⟩ := hI
      simp [Region.binds] at hdep
      have K6 := Lib.hid k6
      clear k6
      have d0 : D 0 = true := by simp_all
      have HM := Lib.hid hM
      clear hM
      have F0 := Lib.hid f0
      clear f0
      have F2 := Lib.hid f2
      clear f2
      have F3 := Lib.hid f3
      clear f3
      have F4 := Lib.hid f4
      clear f4
      have F5 := Lib.hid f5
      clear f5
      have e27 := F0.out d0
      subst e27
      clear hdep d0
      have HCr := Lib.hid (HC2.out.trans HM.out.ch)
      go_wp2_with fail
      refine (blclear_new _ M K n _ _ (V1.out.keep HM.out.ch)).mono ?_
      rintro e w5 ⟨v2, rfl, hV2, hC2⟩
      have HV2 := Lib.hid hV2
      have HC2 := Lib.hid hC2
      clear hV2 hC2
      go_wp2_with fail
      rw [HI.out]; exact ⟨_, _, _, _, _, _, _, _, _, rfl, HM.out.call (k := 1) (by simp) (by decide) (by decide) (by decide) hD HC2.out (IsF.fresh _ HV2.out.1 HV2.out.2), fun _ => rfl, fun h => F2.out (upd_out h (by decide)), fun h => F3.out (upd_out h (by decide)), fun h => F4.out (upd_out h (by decide)), fun h => F5.out (upd_out h (by decide)), fun h => upd_mono (K6.out (upd_out h (by decide)))⟩
    · intro D a' w' hD hdep hI KK hKK
      rw [HI.out] at hI
      obtain ⟨x27, x28, x29, x30, x31, x32, x33, x11, x12, rfl, hM, f0, f2, f3, f4, f5, k6⟩ := hI
      simp [Region.binds] at hdep
      have K6 := Lib.hid k6
      clear k6
      have HM := Lib.hid hM
      clear hM
      have F0 := Lib.hid f0
      clear f0
      have F2 := Lib.hid f2
      clear f2
      have F3 := Lib.hid f3
      clear f3
      have F4 := Lib.hid f4
      clear f4
      have F5 := Lib.hid f5
      clear f5
      clear hdep
      go_wp2_with fail
      rw [HI.out]; exact ⟨_, _, _, _, _, _, _, _, _, rfl, HM.out.other (k := 2) (.pointer (some ⟨bp, 0, none⟩)) (by decide) (by decide) (by decide) (by decide), fun h => F0.out (upd_out h (by decide)), fun _ => rfl, fun h => F3.out (upd_out h (by decide)), fun h => F4.out (upd_out h (by decide)), fun h => F5.out (upd_out h (by decide)), fun h => upd_mono (K6.out (upd_out h (by decide)))⟩
    · intro D a' w' hD hdep hI KK hKK
      rw [HI.out] at hI
      obtain ⟨x27, x28, x29, x30, x31, x32, x33, x11, x12, rfl, hM, f0, f2, f3, f4, f5, k6⟩ := hI
      simp [Region.binds] at hdep
      have K6 := Lib.hid k6
      clear k6
      have d2 : D 2 = true := by simp_all
      have HM := Lib.hid hM
      clear hM
      have F0 := Lib.hid f0
      clear f0
      have F2 := Lib.hid f2
      clear f2
      have F3 := Lib.hid f3
      clear f3
      have F4 := Lib.hid f4
      clear f4
      have F5 := Lib.hid f5
      clear f5
      have e29 := F2.out d2
      subst e29
      have Bx := Bp.out.keep HM.out.ch (fun h => h)
      have y0 := Bx.cell 0
      simp only [List.getElem?_toArray, List.getElem?_cons_zero, List.getElem?_cons_succ] at y0
      clear Bx
      clear hdep d2
      go_wp2_with fail
      rw [HI.out]; exact ⟨_, _, _, _, _, _, _, _, _, rfl, HM.out.other (k := 3) (.int .u64 (M : Nat)) (by decide) (by decide) (by decide) (by decide), fun h => F0.out (upd_out h (by decide)), fun _ => rfl, fun _ => rfl, fun h => F4.out (upd_out h (by decide)), fun h => F5.out (upd_out h (by decide)), fun h => upd_mono (K6.out (upd_out h (by decide)))⟩
    · intro D a' w' hD hdep hI KK hKK
      rw [HI.out] at hI
      obtain ⟨x27, x28, x29, x30, x31, x32, x33, x11, x12, rfl, hM, f0, f2, f3, f4, f5, k6⟩ := hI
      simp [Region.binds] at hdep
      have K6 := Lib.hid k6
      clear k6
      have HM := Lib.hid hM
      clear hM
      have F0 := Lib.hid f0
      clear f0
      have F2 := Lib.hid f2
      clear f2
      have F3 := Lib.hid f3
      clear f3
      have F4 := Lib.hid f4
      clear f4
      have F5 := Lib.hid f5
      clear f5
      clear hdep
      go_wp2_with fail
      rw [HI.out]; exact ⟨_, _, _, _, _, _, _, _, _, rfl, HM.out.other (k := 4) (.pointer (some ⟨bp, 1, none⟩)) (by decide) (by decide) (by decide) (by decide), fun h => F0.out (upd_out h (by decide)), fun h => F2.out (upd_out h (by decide)), fun h => F3.out (upd_out h (by decide)), fun _ => rfl, fun h => F5.out (upd_out h (by decide)), fun h => upd_mono (K6.out (upd_out h (by decide)))⟩
    · intro D a' w' hD hdep hI KK hKK
      rw [HI.out] at hI
      obtain ⟨x27, x28, x29, x30, x31, x32, x33, x11, x12, rfl, hM, f0, f2, f3, f4, f5, k6⟩ := hI
      simp [Region.binds] at hdep
      have K6 := Lib.hid k6
      clear k6
      have d4 : D 4 = true := by simp_all
      have HM := Lib.hid hM
      clear hM
      have F0 := Lib.hid f0
      clear f0
      have F2 := Lib.hid f2
      clear f2
      have F3 := Lib.hid f3
      clear f3
      have F4 := Lib.hid f4
      clear f4
      have F5 := Lib.hid f5
      clear f5
      have e31 := F4.out d4
      subst e31
      have Bx := Bp.out.keep HM.out.ch (fun h => h)
      have y1 := Bx.cell 1
      simp only [List.getElem?_toArray, List.getElem?_cons_zero, List.getElem?_cons_succ] at y1
      clear Bx
      clear hdep d4
      go_wp2_with fail
      rw [HI.out]; exact ⟨_, _, _, _, _, _, _, _, _, rfl, HM.out.other (k := 5) (.int .u64 (K : Nat)) (by decide) (by decide) (by decide) (by decide), fun h => F0.out (upd_out h (by decide)), fun h => F2.out (upd_out h (by decide)), fun h => F3.out (upd_out h (by decide)), fun _ => rfl, fun _ => rfl, fun h => upd_mono (K6.out (upd_out h (by decide)))⟩
    · intro D a' w' hD hdep hI KK hKK
      rw [HI.out] at hI
      obtain ⟨x27, x28, x29, x30, x31, x32, x33, x11, x12, rfl, hM, f0, f2, f3, f4, f5, k6⟩ := hI
      simp [Region.binds] at hdep
      have K6 := Lib.hid k6
      clear k6
      have ce : D 1 = true := by simp_all
      have CE := Lib.hid ce
      clear ce
      have d3 : D 3 = true := by simp_all
      have d5 : D 5 = true := by simp_all
      have HM := Lib.hid hM
      clear hM
      have F0 := Lib.hid f0
      clear f0
      have F2 := Lib.hid f2
      clear f2
      have F3 := Lib.hid f3
      clear f3
      have F4 := Lib.hid f4
      clear f4
      have F5 := Lib.hid f5
      clear f5
      have e30 := F3.out d3
      subst e30
      have e32 := F5.out d5
      subst e32
      clear hdep d3 d5
      have HCr := Lib.hid (HC2.out.trans HM.out.ch)
      go_wp2_with fail
      refine (FN.out _).mono ?_
      rintro e w5 ⟨v2, rfl, hV2, hC2⟩
      have HV2 := Lib.hid hV2
      have HC2 := Lib.hid hC2
      clear hV2 hC2
      go_wp2_with fail
      rw [HI.out]; exact ⟨_, _, _, _, _, _, _, _, _, rfl, HM.out.call (k := 6) (by simp) (by decide) (by decide) (by decide) hD HC2.out (IsF.fresh _ HV2.out.1 HV2.out.2), fun h => F0.out (upd_out h (by decide)), fun h => F2.out (upd_out h (by decide)), fun _ => rfl, fun h => F4.out (upd_out h (by decide)), fun _ => rfl, fun _ => upd_mono CE.out⟩
    · intro D a' w' hD hdep hI KK hKK
      rw [HI.out] at hI
      obtain ⟨x27, x28, x29, x30, x31, x32, x33, x11, x12, rfl, hM, f0, f2, f3, f4, f5, k6⟩ := hI
      simp [Region.binds] at hdep
      have K6 := Lib.hid k6
      clear k6
      have HM := Lib.hid hM
      clear hM
      have F0 := Lib.hid f0
      clear f0
      have F2 := Lib.hid f2
      clear f2
      have F3 := Lib.hid f3
      clear f3
      have F4 := Lib.hid f4
      clear f4
      have F5 := Lib.hid f5
      clear f5
      clear hdep
      go_wp2_with fail
      rw [HI.out]; exact ⟨_, _, _, _, _, _, _, _, _, rfl, HM.out.alloc (k := 7) (by simp) (by decide) (by decide) (by decide) hD (by decide) 27 rfl, fun h => F0.out (upd_out h (by decide)), fun h => F2.out (upd_out h (by decide)), fun h => F3.out (upd_out h (by decide)), fun h => F4.out (upd_out h (by decide)), fun h => F5.out (upd_out h (by decide)), fun h => upd_mono (K6.out (upd_out h (by decide)))⟩
    · intro D a' w' hD hdep hI KK hKK
      rw [HI.out] at hI
      obtain ⟨x27, x28, x29, x30, x31, x32, x33, x11, x12, rfl, hM, f0, f2, f3, f4, f5, k6⟩ := hI
      simp [Region.binds] at hdep
      have K6 := Lib.hid k6
      clear k6
      have HM := Lib.hid hM
      clear hM
      have F0 := Lib.hid f0
      clear f0
      have F2 := Lib.hid f2
      clear f2
      have F3 := Lib.hid f3
      clear f3
      have F4 := Lib.hid f4
      clear f4
      have F5 := Lib.hid f5
      clear f5
      clear hdep
      go_wp2_with fail
      rw [HI.out]; exact ⟨_, _, _, _, _, _, _, _, _, rfl, HM.out.alloc (k := 8) (by simp) (by decide) (by decide) (by decide) hD (by decide) 27 rfl, fun h => F0.out (upd_out h (by decide)), fun h => F2.out (upd_out h (by decide)), fun h => F3.out (upd_out h (by decide)), fun h => F4.out (upd_out h (by decide)), fun h => F5.out (upd_out h (by decide)), fun h => upd_mono (K6.out (upd_out h (by decide)))⟩
    · intro D a' w' hD hdep hI KK hKK
      rw [HI.out] at hI
      obtain ⟨x27, x28, x29, x30, x31, x32, x33, x11, x12, rfl, hM, f0, f2, f3, f4, f5, k6⟩ := hI
      simp [Region.binds] at hdep
      have K6 := Lib.hid k6
      clear k6
      have d6 : D 6 = true := by simp_all
      have d7 : D 7 = true := by simp_all
      have d8 : D 8 = true := by simp_all
      have d1 := K6.out d6
      have HM := Lib.hid hM
      clear hM
      have F0 := Lib.hid f0
      clear f0
      have F2 := Lib.hid f2
      clear f2
      have F3 := Lib.hid f3
      clear f3
      have F4 := Lib.hid f4
      clear f4
      have F5 := Lib.hid f5
      clear f5
      have hall : ∀ j, j ∈ ([1, 6] : List Nat) ∨ j ∈ ([7, 8] : List Nat) → D j = true := fun j hj => by
        have : j = 1 ∨ j = 6 ∨ j = 7 ∨ j = 8 := by simp at hj; omega
        rcases this with rfl | rfl | rfl | rfl <;> assumption
      obtain ⟨b, hb, hbW, hB0⟩ := HM.out.before 7 (by decide) d7 hD
      have hb : x11 = _ := hb
      subst hb
      have hB : Blk w' b #[Value.int .u64 0, Value.int .u64 0, Value.slice none 0 0] := hB0
      clear hB0
      have c0 := hB.cell 0
      have c1 := hB.cell 1
      have c2 := hB.cell 2
      have z0 := hB.free 0
      have z1 := hB.free 1
      have z2 := hB.free 2
      simp only [List.getElem?_toArray, List.getElem?_cons_zero, List.getElem?_cons_succ] at c0 c1 c2
      have hR : IsF w' x28 M K n (fun _ => false) := HM.out.at 1 (by decide) d1
      obtain ⟨A, r, rfl⟩ := hR.shape
      have HB := Lib.hid hB
      have Hall := Lib.hid hall
      have Dal := Lib.hid d7
      clear hB hall hdep hR d1 d6 d7 d8
      go_wp2_with fail
      rw [HI.out]; exact ⟨_, _, _, _, _, _, _, _, _, rfl, HM.out.store (i := 7) (k := 9) (by decide) Dal.out rfl hD (by decide) (by decide) (by decide) (by decide) Hall.out rfl (Ch.setCell (Ch.setCell (Ch.setCell (Ch.refl (S1 b) _) _ (fun _ => show S1 b b from rfl) _) _ (fun _ => show S1 b b from rfl) _) _ (fun _ => show S1 b b from rfl) _) (by have := (((HB.out.set 0 (.int .u64 (M : Nat))).set 1 (.int .u64 (K : Nat))).set 2 (.slice A n r)); simpa [Value.cells] using this) undef, fun h => F0.out (upd_out h (by decide)), fun h => F2.out (upd_out h (by decide)), fun h => F3.out (upd_out h (by decide)), fun h => F4.out (upd_out h (by decide)), fun h => F5.out (upd_out h (by decide)), fun h => upd_mono (K6.out (upd_out h (by decide)))⟩
    · intro D a' w' hD hdep hI KK hKK
      rw [HI.out] at hI
      obtain ⟨x27, x28, x29, x30, x31, x32, x33, x11, x12, rfl, hM, f0, f2, f3, f4, f5, k6⟩ := hI
      simp [Region.binds] at hdep
      have K6 := Lib.hid k6
      clear k6
      have dst : D 9 = true := by simp_all
      have HM := Lib.hid hM
      clear hM
      have F0 := Lib.hid f0
      clear f0
      have F2 := Lib.hid f2
      clear f2
      have F3 := Lib.hid f3
      clear f3
      have F4 := Lib.hid f4
      clear f4
      have F5 := Lib.hid f5
      clear f5
      have hall := HM.out.closed 7 (by decide) dst
      have d8 := hall 8 (by decide)
      have d6 := hall 6 (by decide)
      clear dst
      obtain ⟨b, hb, hbW, hB0⟩ := HM.out.before 8 (by decide) d8 hD
      have hb : x12 = _ := hb
      subst hb
      have hB : Blk w' b #[Value.int .u64 0, Value.int .u64 0, Value.slice none 0 0] := hB0
      clear hB0
      have c0 := hB.cell 0
      have c1 := hB.cell 1
      have c2 := hB.cell 2
      have z0 := hB.free 0
      have z1 := hB.free 1
      have z2 := hB.free 2
      simp only [List.getElem?_toArray, List.getElem?_cons_zero, List.getElem?_cons_succ] at c0 c1 c2
      have hR : IsF w' x33 M K n (fun _ => false) := HM.out.at 6 (by decide) d6
      obtain ⟨A, r, rfl⟩ := hR.shape
      have HB := Lib.hid hB
      have Hall := Lib.hid hall
      have Dal := Lib.hid d8
      clear hB hall hdep hR d8 d6
      go_wp2_with fail
      rw [HI.out]; exact ⟨_, _, _, _, _, _, _, _, _, rfl, HM.out.store (i := 8) (k := 10) (by decide) Dal.out rfl hD (by decide) (by decide) (by decide) (by decide) Hall.out rfl (Ch.setCell (Ch.setCell (Ch.setCell (Ch.refl (S1 b) _) _ (fun _ => show S1 b b from rfl) _) _ (fun _ => show S1 b b from rfl) _) _ (fun _ => show S1 b b from rfl) _) (by have := (((HB.out.set 0 (.int .u64 (M : Nat))).set 1 (.int .u64 (K : Nat))).set 2 (.slice A n r)); simpa [Value.cells] using this) undef, fun h => F0.out (upd_out h (by decide)), fun h => F2.out (upd_out h (by decide)), fun h => F3.out (upd_out h (by decide)), fun h => F4.out (upd_out h (by decide)), fun h => F5.out (upd_out h (by decide)), fun h => upd_mono (K6.out (upd_out h (by decide)))⟩
  intro D a' w3 hD hI
  rw [HI.out] at hI
  obtain ⟨x27, x28, x29, x30, x31, x32, x33, x11, x12, rfl, hM, f0, f2, f3, f4, f5, _⟩ := hI
  have e27 := f0 (hD 0 (by decide))
  subst e27
  clear f0
  have e29 := f2 (hD 2 (by decide))
  subst e29
  clear f2
  have e30 := f3 (hD 3 (by decide))
  subst e30
  clear f3
  have e31 := f4 (hD 4 (by decide))
  subst e31
  clear f4
  have e32 := f5 (hD 5 (by decide))
  subst e32
  clear f5
  obtain ⟨b11, e1, hlo11, hhi11, _, h1⟩ := hM.ptr 7 (by decide) (hD 7 (by decide))
  have e1 : x11 = _ := e1
  subst e1
  try clear e1
  have hB11 : Blk w3 b11 (x28).cells := h1 (hD 9 (by decide))
  clear h1
  obtain ⟨b12, e1, hlo12, hhi12, _, h1⟩ := hM.ptr 8 (by decide) (hD 8 (by decide))
  have e1 : x12 = _ := e1
  subst e1
  try clear e1
  have hB12 : Blk w3 b12 (x33).cells := h1 (hD 10 (by decide))
  clear h1
  have hR28 : IsF w3 x28 M K n (fun _ => false) := hM.at 1 (by decide) (hD 1 (by decide))
  have hR33 : IsF w3 x33 M K n (fun _ => false) := hM.at 6 (by decide) (hD 6 (by decide))
  have hCC : Ch S0 w2 w3 := hM.ch
  clear hM hD HI
  try clear I0
  obtain ⟨Ag, rg, rfl⟩ := hR28.shape
  obtain ⟨Ah, rh, rfl⟩ := hR33.shape
  have Vg := Lib.hid hR28
  have Vh := Lib.hid hR33
  have HC3 := Lib.hid (HC2.out.trans hCC)
  have Vx := Lib.hid (V1.out.keep hCC)
  clear V1
  have V1 := Vx
  have Dx := Lib.hid (D3.out.keep hCC)
  clear D3
  have D3 := Dx
  clear Vx Dx HC2
  have Bg := Lib.hid hB11
  have Bh := Lib.hid hB12
  simp only [Value.cells] at Bg Bh
  clear hB11 hB12 hR28 hR33 hCC xp0 xp1 xp2 xpz Bp
  generalize b11 = bg at *
  generalize b12 = bh at *
  have xgz := Bg.out.lt
  have xg0 := Bg.out.cell 0
  have xg1 := Bg.out.cell 1
  have xg2 := Bg.out.cell 2
  simp only [List.getElem?_toArray, List.getElem?_cons_zero, List.getElem?_cons_succ] at xg0 xg1 xg2
  have xhz := Bh.out.lt
  have xh0 := Bh.out.cell 0
  have xh1 := Bh.out.cell 1
  have xh2 := Bh.out.cell 2
  simp only [List.getElem?_toArray, List.getElem?_cons_zero, List.getElem?_cons_succ] at xh0 xh1 xh2
  go_wp2_with fail
  go_region_held3 (fun w' => w'.cell? ⟨bg, 0, none⟩ = some (.int .u64 (M : Nat)) ∧ w'.cell? ⟨bg, 1, none⟩ = some (.int .u64 (K : Nat)) ∧ w'.cell? ⟨bg, 2, none⟩ = some (.slice Ag n rg) ∧ w'.cell? ⟨bh, 0, none⟩ = some (.int .u64 (M : Nat)) ∧ w'.cell? ⟨bh, 1, none⟩ = some (.int .u64 (K : Nat)) ∧ w'.cell? ⟨bh, 2, none⟩ = some (.slice Ah n rh))
    (first | ((try dsimp only); (repeat' apply And.intro) <;> assumption) | (go_keep; done))
    (first
      | (go_at_call 9
         (with_reducible refine (bltest_is _ _ M K n nd3 _ _ lc3 _ (Vg.out.keep (by first | exact Ch.refl S0 _ | exact (Ch.refl S0 _).alloc _ | exact (Ch.refl S0 _).drew | exact ((Ch.refl S0 _).alloc _).alloc _ | exact ((Ch.refl S0 _).alloc _).drew | exact ((Ch.refl S0 _).drew).alloc _)) (D3.out.keep (by first | exact Ch.refl S0 _ | exact (Ch.refl S0 _).alloc _ | exact (Ch.refl S0 _).drew | exact ((Ch.refl S0 _).alloc _).alloc _ | exact ((Ch.refl S0 _).alloc _).drew | exact ((Ch.refl S0 _).drew).alloc _)) L3.out false (found_none HP.out.2.2.2.2.1)).mono ?_)
         rintro e w4 ⟨rfl, hC⟩
         have hCC : Ch S0 w3 w4 := Ch.trans (by first | exact Ch.refl S0 _ | exact (Ch.refl S0 _).alloc _ | exact (Ch.refl S0 _).drew | exact ((Ch.refl S0 _).alloc _).alloc _ | exact ((Ch.refl S0 _).alloc _).drew | exact ((Ch.refl S0 _).drew).alloc _) hC
         have HC4 := Lib.hid (HC3.out.trans hCC)
         clear HC3
         have Vx := Lib.hid (V1.out.keep hCC)
         clear V1
         have V1 := Vx
         clear Vx
         have Vx := Lib.hid (Vg.out.keep hCC)
         clear Vg
         have Vg := Vx
         clear Vx
         have Vx := Lib.hid (Vh.out.keep hCC)
         clear Vh
         have Vh := Vx
         clear Vx
         have Dx := Lib.hid (D3.out.keep hCC)
         clear D3
         have D3 := Dx
         clear Dx
         have Bx := Lib.hid (Bg.out.keep hCC (fun h => h))
         clear Bg
         have Bg := Bx
         clear Bx
         have Bx := Lib.hid (Bh.out.keep hCC (fun h => h))
         clear Bh
         have Bh := Bx
         clear Bx
         clear hC hCC
         try clear xgz xg0 xg1 xg2
         have xgz := Bg.out.lt
         have xg0 := Bg.out.cell 0
         have xg1 := Bg.out.cell 1
         have xg2 := Bg.out.cell 2
         simp only [List.getElem?_toArray, List.getElem?_cons_zero, List.getElem?_cons_succ] at xg0 xg1 xg2
         try clear xhz xh0 xh1 xh2
         have xhz := Bh.out.lt
         have xh0 := Bh.out.cell 0
         have xh1 := Bh.out.cell 1
         have xh2 := Bh.out.cell 2
         simp only [List.getElem?_toArray, List.getElem?_cons_zero, List.getElem?_cons_succ] at xh0 xh1 xh2)
      | (go_at_call 13
         (with_reducible refine (blequal_true _ _ M K n _ _ (Vg.out.keep (by first | exact Ch.refl S0 _ | exact (Ch.refl S0 _).alloc _ | exact (Ch.refl S0 _).drew | exact ((Ch.refl S0 _).alloc _).alloc _ | exact ((Ch.refl S0 _).alloc _).drew | exact ((Ch.refl S0 _).drew).alloc _)) (Vh.out.keep (by first | exact Ch.refl S0 _ | exact (Ch.refl S0 _).alloc _ | exact (Ch.refl S0 _).drew | exact ((Ch.refl S0 _).alloc _).alloc _ | exact ((Ch.refl S0 _).alloc _).drew | exact ((Ch.refl S0 _).drew).alloc _))).mono ?_)
         rintro e w5 ⟨rfl, hC⟩
         have hCC : Ch S0 w4 w5 := Ch.trans (by first | exact Ch.refl S0 _ | exact (Ch.refl S0 _).alloc _ | exact (Ch.refl S0 _).drew | exact ((Ch.refl S0 _).alloc _).alloc _ | exact ((Ch.refl S0 _).alloc _).drew | exact ((Ch.refl S0 _).drew).alloc _) hC
         have HC5 := Lib.hid (HC4.out.trans hCC)
         clear HC4
         have Vx := Lib.hid (V1.out.keep hCC)
         clear V1
         have V1 := Vx
         clear Vx
         have Vx := Lib.hid (Vg.out.keep hCC)
         clear Vg
         have Vg := Vx
         clear Vx
         have Vx := Lib.hid (Vh.out.keep hCC)
         clear Vh
         have Vh := Vx
         clear Vx
         have Dx := Lib.hid (D3.out.keep hCC)
         clear D3
         have D3 := Dx
         clear Dx
         have Bx := Lib.hid (Bg.out.keep hCC (fun h => h))
         clear Bg
         have Bg := Bx
         clear Bx
         have Bx := Lib.hid (Bh.out.keep hCC (fun h => h))
         clear Bh
         have Bh := Bx
         clear Bx
         clear hC hCC
         try clear xgz xg0 xg1 xg2
         have xgz := Bg.out.lt
         have xg0 := Bg.out.cell 0
         have xg1 := Bg.out.cell 1
         have xg2 := Bg.out.cell 2
         simp only [List.getElem?_toArray, List.getElem?_cons_zero, List.getElem?_cons_succ] at xg0 xg1 xg2
         try clear xhz xh0 xh1 xh2
         have xhz := Bh.out.lt
         have xh0 := Bh.out.cell 0
         have xh1 := Bh.out.cell 1
         have xh2 := Bh.out.cell 2
         simp only [List.getElem?_toArray, List.getElem?_cons_zero, List.getElem?_cons_succ] at xh0 xh1 xh2)
      | (go_at_call 10
         (with_reducible refine (bladd_any _ _ M K n nd3 _ _ lc3 _ (Vg.out.keep (by first | exact Ch.refl S0 _ | exact (Ch.refl S0 _).alloc _ | exact (Ch.refl S0 _).drew | exact ((Ch.refl S0 _).alloc _).alloc _ | exact ((Ch.refl S0 _).alloc _).drew | exact ((Ch.refl S0 _).drew).alloc _)) (D3.out.keep (by first | exact Ch.refl S0 _ | exact (Ch.refl S0 _).alloc _ | exact (Ch.refl S0 _).drew | exact ((Ch.refl S0 _).alloc _).alloc _ | exact ((Ch.refl S0 _).alloc _).drew | exact ((Ch.refl S0 _).drew).alloc _)) L3.out).mono ?_)
         rintro e w6 ⟨va, rfl, hV, hC⟩
         obtain ⟨Aa, ra, rfl⟩ := hV.shape
         have hCC : Ch S0 w5 w6 := Ch.trans (by first | exact Ch.refl S0 _ | exact (Ch.refl S0 _).alloc _ | exact (Ch.refl S0 _).drew | exact ((Ch.refl S0 _).alloc _).alloc _ | exact ((Ch.refl S0 _).alloc _).drew | exact ((Ch.refl S0 _).drew).alloc _) hC
         have HC6 := Lib.hid (HC5.out.trans hCC)
         clear HC5
         have Vx := Lib.hid (V1.out.keep hCC)
         clear V1
         have V1 := Vx
         clear Vx
         have Vx := Lib.hid (Vg.out.keep hCC)
         clear Vg
         have Vg := Vx
         clear Vx
         have Vx := Lib.hid (Vh.out.keep hCC)
         clear Vh
         have Vh := Vx
         clear Vx
         have Dx := Lib.hid (D3.out.keep hCC)
         clear D3
         have D3 := Dx
         clear Dx
         have Bx := Lib.hid (Bg.out.keep hCC (fun h => h))
         clear Bg
         have Bg := Bx
         clear Bx
         have Bx := Lib.hid (Bh.out.keep hCC (fun h => h))
         clear Bh
         have Bh := Bx
         clear Bx
         have Va := Lib.hid hV
         clear hV
         clear hC hCC
         try clear xgz xg0 xg1 xg2
         have xgz := Bg.out.lt
         have xg0 := Bg.out.cell 0
         have xg1 := Bg.out.cell 1
         have xg2 := Bg.out.cell 2
         simp only [List.getElem?_toArray, List.getElem?_cons_zero, List.getElem?_cons_succ] at xg0 xg1 xg2
         try clear xhz xh0 xh1 xh2
         have xhz := Bh.out.lt
         have xh0 := Bh.out.cell 0
         have xh1 := Bh.out.cell 1
         have xh2 := Bh.out.cell 2
         simp only [List.getElem?_toArray, List.getElem?_cons_zero, List.getElem?_cons_succ] at xh0 xh1 xh2)
      | (go_at_call 10
         (with_reducible refine (bladd_any _ _ M K n nd3 _ _ lc3 _ (Vh.out.keep (by first | exact Ch.refl S0 _ | exact (Ch.refl S0 _).alloc _ | exact (Ch.refl S0 _).drew | exact ((Ch.refl S0 _).alloc _).alloc _ | exact ((Ch.refl S0 _).alloc _).drew | exact ((Ch.refl S0 _).drew).alloc _)) (D3.out.keep (by first | exact Ch.refl S0 _ | exact (Ch.refl S0 _).alloc _ | exact (Ch.refl S0 _).drew | exact ((Ch.refl S0 _).alloc _).alloc _ | exact ((Ch.refl S0 _).alloc _).drew | exact ((Ch.refl S0 _).drew).alloc _)) L3.out).mono ?_)
         rintro e w7 ⟨vb, rfl, hV, hC⟩
         obtain ⟨Ab, rb, rfl⟩ := hV.shape
         have hCC : Ch S0 w6 w7 := Ch.trans (by first | exact Ch.refl S0 _ | exact (Ch.refl S0 _).alloc _ | exact (Ch.refl S0 _).drew | exact ((Ch.refl S0 _).alloc _).alloc _ | exact ((Ch.refl S0 _).alloc _).drew | exact ((Ch.refl S0 _).drew).alloc _) hC
         have HC7 := Lib.hid (HC6.out.trans hCC)
         clear HC6
         have Vx := Lib.hid (V1.out.keep hCC)
         clear V1
         have V1 := Vx
         clear Vx
         have Vx := Lib.hid (Vg.out.keep hCC)
         clear Vg
         have Vg := Vx
         clear Vx
         have Vx := Lib.hid (Vh.out.keep hCC)
         clear Vh
         have Vh := Vx
         clear Vx
         have Vx := Lib.hid (Va.out.keep hCC)
         clear Va
         have Va := Vx
         clear Vx
         have Dx := Lib.hid (D3.out.keep hCC)
         clear D3
         have D3 := Dx
         clear Dx
         have Bx := Lib.hid (Bg.out.keep hCC (fun h => h))
         clear Bg
         have Bg := Bx
         clear Bx
         have Bx := Lib.hid (Bh.out.keep hCC (fun h => h))
         clear Bh
         have Bh := Bx
         clear Bx
         have Vb := Lib.hid hV
         clear hV
         clear hC hCC
         try clear xgz xg0 xg1 xg2
         have xgz := Bg.out.lt
         have xg0 := Bg.out.cell 0
         have xg1 := Bg.out.cell 1
         have xg2 := Bg.out.cell 2
         simp only [List.getElem?_toArray, List.getElem?_cons_zero, List.getElem?_cons_succ] at xg0 xg1 xg2
         try clear xhz xh0 xh1 xh2
         have xhz := Bh.out.lt
         have xh0 := Bh.out.cell 0
         have xh1 := Bh.out.cell 1
         have xh2 := Bh.out.cell 2
         simp only [List.getElem?_toArray, List.getElem?_cons_zero, List.getElem?_cons_succ] at xh0 xh1 xh2)
      | (go_at_call 13
         (with_reducible refine (blequal_true _ _ M K n _ _ (Va.out.keep (by first | exact Ch.refl S0 _ | exact (Ch.refl S0 _).alloc _ | exact (Ch.refl S0 _).drew | exact ((Ch.refl S0 _).alloc _).alloc _ | exact ((Ch.refl S0 _).alloc _).drew | exact ((Ch.refl S0 _).drew).alloc _)) (Vb.out.keep (by first | exact Ch.refl S0 _ | exact (Ch.refl S0 _).alloc _ | exact (Ch.refl S0 _).drew | exact ((Ch.refl S0 _).alloc _).alloc _ | exact ((Ch.refl S0 _).alloc _).drew | exact ((Ch.refl S0 _).drew).alloc _))).mono ?_)
         rintro e w8 ⟨rfl, hC⟩
         have hCC : Ch S0 w7 w8 := Ch.trans (by first | exact Ch.refl S0 _ | exact (Ch.refl S0 _).alloc _ | exact (Ch.refl S0 _).drew | exact ((Ch.refl S0 _).alloc _).alloc _ | exact ((Ch.refl S0 _).alloc _).drew | exact ((Ch.refl S0 _).drew).alloc _) hC
         have HC8 := Lib.hid (HC7.out.trans hCC)
         clear HC7
         have Vx := Lib.hid (V1.out.keep hCC)
         clear V1
         have V1 := Vx
         clear Vx
         have Vx := Lib.hid (Vg.out.keep hCC)
         clear Vg
         have Vg := Vx
         clear Vx
         have Vx := Lib.hid (Vh.out.keep hCC)
         clear Vh
         have Vh := Vx
         clear Vx
         have Vx := Lib.hid (Va.out.keep hCC)
         clear Va
         have Va := Vx
         clear Vx
         have Vx := Lib.hid (Vb.out.keep hCC)
         clear Vb
         have Vb := Vx
         clear Vx
         have Dx := Lib.hid (D3.out.keep hCC)
         clear D3
         have D3 := Dx
         clear Dx
         have Bx := Lib.hid (Bg.out.keep hCC (fun h => h))
         clear Bg
         have Bg := Bx
         clear Bx
         have Bx := Lib.hid (Bh.out.keep hCC (fun h => h))
         clear Bh
         have Bh := Bx
         clear Bx
         clear hC hCC
         try clear xgz xg0 xg1 xg2
         have xgz := Bg.out.lt
         have xg0 := Bg.out.cell 0
         have xg1 := Bg.out.cell 1
         have xg2 := Bg.out.cell 2
         simp only [List.getElem?_toArray, List.getElem?_cons_zero, List.getElem?_cons_succ] at xg0 xg1 xg2
         try clear xhz xh0 xh1 xh2
         have xhz := Bh.out.lt
         have xh0 := Bh.out.cell 0
         have xh1 := Bh.out.cell 1
         have xh2 := Bh.out.cell 2
         simp only [List.getElem?_toArray, List.getElem?_cons_zero, List.getElem?_cons_succ] at xh0 xh1 xh2)
      | (go_at_call 10
         (with_reducible refine (bladd_any _ _ M K n nd3 _ _ lc3 _ (Vg.out.keep (by first | exact Ch.refl S0 _ | exact (Ch.refl S0 _).alloc _ | exact (Ch.refl S0 _).drew | exact ((Ch.refl S0 _).alloc _).alloc _ | exact ((Ch.refl S0 _).alloc _).drew | exact ((Ch.refl S0 _).drew).alloc _)) (D3.out.keep (by first | exact Ch.refl S0 _ | exact (Ch.refl S0 _).alloc _ | exact (Ch.refl S0 _).drew | exact ((Ch.refl S0 _).alloc _).alloc _ | exact ((Ch.refl S0 _).alloc _).drew | exact ((Ch.refl S0 _).drew).alloc _)) L3.out).mono ?_)
         rintro e w9 ⟨vc, rfl, hV, hC⟩
         obtain ⟨Ac, rc, rfl⟩ := hV.shape
         have hCC : Ch S0 w8 w9 := Ch.trans (by first | exact Ch.refl S0 _ | exact (Ch.refl S0 _).alloc _ | exact (Ch.refl S0 _).drew | exact ((Ch.refl S0 _).alloc _).alloc _ | exact ((Ch.refl S0 _).alloc _).drew | exact ((Ch.refl S0 _).drew).alloc _) hC
         have HC9 := Lib.hid (HC8.out.trans hCC)
         clear HC8
         have Vx := Lib.hid (V1.out.keep hCC)
         clear V1
         have V1 := Vx
         clear Vx
         have Vx := Lib.hid (Vg.out.keep hCC)
         clear Vg
         have Vg := Vx
         clear Vx
         have Vx := Lib.hid (Vh.out.keep hCC)
         clear Vh
         have Vh := Vx
         clear Vx
         have Vx := Lib.hid (Va.out.keep hCC)
         clear Va
         have Va := Vx
         clear Vx
         have Vx := Lib.hid (Vb.out.keep hCC)
         clear Vb
         have Vb := Vx
         clear Vx
         have Dx := Lib.hid (D3.out.keep hCC)
         clear D3
         have D3 := Dx
         clear Dx
         have Bx := Lib.hid (Bg.out.keep hCC (fun h => h))
         clear Bg
         have Bg := Bx
         clear Bx
         have Bx := Lib.hid (Bh.out.keep hCC (fun h => h))
         clear Bh
         have Bh := Bx
         clear Bx
         have Vc := Lib.hid hV
         clear hV
         clear hC hCC
         try clear xgz xg0 xg1 xg2
         have xgz := Bg.out.lt
         have xg0 := Bg.out.cell 0
         have xg1 := Bg.out.cell 1
         have xg2 := Bg.out.cell 2
         simp only [List.getElem?_toArray, List.getElem?_cons_zero, List.getElem?_cons_succ] at xg0 xg1 xg2
         try clear xhz xh0 xh1 xh2
         have xhz := Bh.out.lt
         have xh0 := Bh.out.cell 0
         have xh1 := Bh.out.cell 1
         have xh2 := Bh.out.cell 2
         simp only [List.getElem?_toArray, List.getElem?_cons_zero, List.getElem?_cons_succ] at xh0 xh1 xh2)
      | (go_at_call 9
         (with_reducible refine (bltest_is _ _ M K n nd3 _ _ lc3 _ (Vc.out.keep (by first | exact Ch.refl S0 _ | exact (Ch.refl S0 _).alloc _ | exact (Ch.refl S0 _).drew | exact ((Ch.refl S0 _).alloc _).alloc _ | exact ((Ch.refl S0 _).alloc _).drew | exact ((Ch.refl S0 _).drew).alloc _)) (D3.out.keep (by first | exact Ch.refl S0 _ | exact (Ch.refl S0 _).alloc _ | exact (Ch.refl S0 _).drew | exact ((Ch.refl S0 _).alloc _).alloc _ | exact ((Ch.refl S0 _).alloc _).drew | exact ((Ch.refl S0 _).drew).alloc _)) L3.out true (found_added _ _ _)).mono ?_)
         rintro e w10 ⟨rfl, hC⟩
         have hCC : Ch S0 w9 w10 := Ch.trans (by first | exact Ch.refl S0 _ | exact (Ch.refl S0 _).alloc _ | exact (Ch.refl S0 _).drew | exact ((Ch.refl S0 _).alloc _).alloc _ | exact ((Ch.refl S0 _).alloc _).drew | exact ((Ch.refl S0 _).drew).alloc _) hC
         have HC10 := Lib.hid (HC9.out.trans hCC)
         clear HC9
         have Vx := Lib.hid (V1.out.keep hCC)
         clear V1
         have V1 := Vx
         clear Vx
         have Vx := Lib.hid (Vg.out.keep hCC)
         clear Vg
         have Vg := Vx
         clear Vx
         have Vx := Lib.hid (Vh.out.keep hCC)
         clear Vh
         have Vh := Vx
         clear Vx
         have Vx := Lib.hid (Va.out.keep hCC)
         clear Va
         have Va := Vx
         clear Vx
         have Vx := Lib.hid (Vb.out.keep hCC)
         clear Vb
         have Vb := Vx
         clear Vx
         have Vx := Lib.hid (Vc.out.keep hCC)
         clear Vc
         have Vc := Vx
         clear Vx
         have Dx := Lib.hid (D3.out.keep hCC)
         clear D3
         have D3 := Dx
         clear Dx
         have Bx := Lib.hid (Bg.out.keep hCC (fun h => h))
         clear Bg
         have Bg := Bx
         clear Bx
         have Bx := Lib.hid (Bh.out.keep hCC (fun h => h))
         clear Bh
         have Bh := Bx
         clear Bx
         clear hC hCC
         try clear xgz xg0 xg1 xg2
         have xgz := Bg.out.lt
         have xg0 := Bg.out.cell 0
         have xg1 := Bg.out.cell 1
         have xg2 := Bg.out.cell 2
         simp only [List.getElem?_toArray, List.getElem?_cons_zero, List.getElem?_cons_succ] at xg0 xg1 xg2
         try clear xhz xh0 xh1 xh2
         have xhz := Bh.out.lt
         have xh0 := Bh.out.cell 0
         have xh1 := Bh.out.cell 1
         have xh2 := Bh.out.cell 2
         simp only [List.getElem?_toArray, List.getElem?_cons_zero, List.getElem?_cons_succ] at xh0 xh1 xh2))
  go_wp2_with fail
  go_ret
  exact ⟨rfl, HC10.out.trans (by first | exact Ch.refl S0 _ | exact (Ch.refl S0 _).alloc _ | exact (Ch.refl S0 _).drew | exact ((Ch.refl S0 _).alloc _).alloc _ | exact ((Ch.refl S0 _).alloc _).drew | exact ((Ch.refl S0 _).drew).alloc _)⟩
end Go.Proofs.Ytagillnkdaanaaa
