/- THE WALK of FnHLBlocks. -/
import Derived.Test.YtdcjjicdpoakfaaW
namespace Go.Proofs.Ytdcjjicdpoakfaa
open Go.RowKit
set_option linter.unusedVariables false
set_option linter.unusedSimpArgs false

theorem pow_four (s : Nat) : (2 : Int) ^ (2 * s) = ((4 ^ s : Nat) : Int) := by
  rw [show (4 : Nat) ^ s = 2 ^ (2 * s) from by rw [Nat.pow_mul], Int.natCast_pow]; rfl
theorem four_le {s : Nat} (h : s ≤ 31) : 4 ^ s ≤ 4611686018427387904 := show 4 ^ s ≤ 4 ^ 31 from Nat.pow_le_pow_right (by decide) h
theorem val_h (n s N P h : Nat) (hN : N = n / 4) (hn : n < 18446744073709551616) (hP : P = 4 ^ s) (hh : h = N / P * P) : wrap64 (wrap64 ((n : Int) / 4) / 2 ^ (2 * s) * 2 ^ (2 * s)) = (h : Int) := by
  have h1 : wrap64 ((n : Int) / 4) = (N : Int) := by unfold wrap64; omega
  have h2 : N / P * P ≤ N := Nat.div_mul_le_self N P
  rw [h1, pow_four, ← hP, show (N : Int) / (P : Int) * (P : Int) = ((N / P * P : Nat) : Int) from by rw [Int.natCast_mul]; rfl, ← hh]
  unfold wrap64; omega
theorem val_m (s P m : Nat) (hs : s ≤ 31) (hP : P = 4 ^ s) (hm : m = P - 1) : wrap64 (wrap64 (2 ^ (2 * s)) - 1) = (m : Int) := by
  have h1 := four_le hs
  have h2 : 0 < 4 ^ s := Nat.pow_pos (by decide)
  rw [pow_four, ← hP]
  have e : wrap64 (P : Int) = (P : Int) := by unfold wrap64; omega
  rw [e]
  unfold wrap64; omega
theorem val_r (a m r : Nat) (ha : a < 18446744073709551616) (hm : m < 4611686018427387904) (hr : r = a / 4 &&& m) : bits BinOp.and IntKind.i64 (wrap64 ((a : Int) / 4)) (m : Int) = (r : Int) := by
  have h1 : wrap64 ((a : Int) / 4) = ((a / 4 : Nat) : Int) := by unfold wrap64; omega
  rw [h1, i64_and_nat _ _ (by omega) (by omega), ← hr]
theorem val_sum (h r t : Nat) (e : t = h + r) (ht : t < 4611686018427387904) : wrap64 ((h : Int) + (r : Int)) = (t : Int) := by unfold wrap64; omega
/-- The numbers of the block. -/
theorem in_block (N s P h r : Nat) (hN : N < 4611686018427387904) (hs : s ≤ 31) (hP : P = 4 ^ s) (hh : h = N / P * P) (hr : r < P) : (h + r) / P = h / P ∧ h + r < 4611686018427387904 := by
  have hP0 : 0 < P := by omega
  have h1 : h / P = N / P := by rw [hh, Nat.mul_div_cancel _ hP0]
  have h2 : (h + r) / P = N / P := by rw [hh, Nat.mul_comm, Nat.mul_add_div hP0, Nat.div_eq_of_lt hr, Nat.add_zero]
  have h3 : 4611686018427387904 = P * 4 ^ (31 - s) := by rw [hP, ← Nat.pow_add, show s + (31 - s) = 31 from by omega]
  have h4 : N / P < 4 ^ (31 - s) := Nat.div_lt_of_lt_mul (by rw [← h3]; exact hN)
  refine ⟨by rw [h1, h2], ?_⟩
  have h5 : P * (N / P + 1) ≤ P * 4 ^ (31 - s) := Nat.mul_le_mul_left _ h4
  rw [← h3, Nat.mul_add, Nat.mul_one] at h5
  rw [hh, Nat.mul_comm]
  omega
theorem same_square (s t u : Nat) (hs : s ≤ 31) (h : t / 4 ^ s = u / 4 ^ s) : (dec 31 t).1 / 2 ^ s = (dec 31 u).1 / 2 ^ s ∧ (dec 31 t).2 / 2 ^ s = (dec 31 u).2 / 2 ^ s := by
  have := dec_high s (31 - s) t u h
  rwa [show s + (31 - s) = 31 from by omega] at this
theorem encode_of (t x y : Nat) (ht : t < 4611686018427387904) (hx : (dec 31 t).1 = x) (hy : (dec 31 t).2 = y) (w : World) :
    Calls Try.prog 7 #[.int .i32 (x : Nat), .int .i32 (y : Nat)] w fun e w' => e = .returned (.int .i64 t) ∧ Ch S0 w w' := by
  subst hx hy
  exact encode_any t ht w

theorem hldecode_of (h x y : Nat) (hD : ∀ w, Calls Try.prog 6 #[.int .i64 (h : Nat)] w fun e w' => e = .returned (.tuple #[.int .i32 (x : Nat), .int .i32 (y : Nat)]) ∧ Ch S0 w w') (w : World) :
    Calls Try.prog 4 #[.int .i64 (h : Nat)] w fun e w' => e = .returned (.tuple #[.int .i32 (x : Nat), .int .i32 (y : Nat)]) ∧ Ch S0 w w' := by
  have HD := Lib.hid hD
  clear hD
  go_enter Try.func4, Try.ntmps4
  go_wp2_with fail
  refine (HD.out _).mono ?_
  rintro e w1 ⟨rfl, hC⟩
  have HC := Lib.hid hC
  clear hC
  go_wp2
  go_ret2
  exact ⟨rfl, HC.out⟩
theorem hlencode_of (t x y : Nat) (hD : ∀ w, Calls Try.prog 7 #[.int .i32 (x : Nat), .int .i32 (y : Nat)] w fun e w' => e = .returned (.int .i64 (t : Nat)) ∧ Ch S0 w w') (w : World) :
    Calls Try.prog 5 #[.int .i32 (x : Nat), .int .i32 (y : Nat)] w fun e w' => e = .returned (.int .i64 (t : Nat)) ∧ Ch S0 w w' := by
  have HD := Lib.hid hD
  clear hD
  go_enter Try.func5, Try.ntmps5
  go_wp2_with fail
  refine (HD.out _).mono ?_
  rintro e w1 ⟨rfl, hC⟩
  have HC := Lib.hid hC
  clear hC
  go_wp2
  go_ret
  exact ⟨rfl, HC.out⟩
set_option maxRecDepth 100000 in
set_option maxHeartbeats 1000000 in
theorem blocks_walk (n k a : Nat) (hn : n < 18446744073709551616) (hk : k < 256) (ha : a < 18446744073709551616) (w : World) :
    Calls Try.prog 3 #[.int .u64 n, .int .u8 k, .int .u64 a] w fun e w' => e = .returned (.bool true) ∧ Ch S0 w w' := by
  obtain ⟨N, eN⟩ : ∃ N, N = n / 4 := ⟨_, rfl⟩
  obtain ⟨P, eP⟩ : ∃ P, P = 4 ^ (k % 32) := ⟨_, rfl⟩
  obtain ⟨h, eh⟩ : ∃ h, h = N / P * P := ⟨_, rfl⟩
  obtain ⟨m, em⟩ : ∃ m, m = P - 1 := ⟨_, rfl⟩
  obtain ⟨r, er⟩ : ∃ r, r = a / 4 &&& m := ⟨_, rfl⟩
  have hs : k % 32 ≤ 31 := by omega
  have hP1 : 0 < P := by rw [eP]; exact Nat.pow_pos (by decide)
  have hP2 := four_le hs
  rw [← eP] at hP2
  have hrm : r ≤ m := by rw [er]; exact Nat.and_le_right
  have hNl : N < 4611686018427387904 := by omega
  obtain ⟨b0, b0'⟩ := in_block N (k % 32) P h 0 hNl hs eP eh hP1
  obtain ⟨b1, b1'⟩ := in_block N (k % 32) P h m hNl hs eP eh (by omega)
  obtain ⟨b2, b2'⟩ := in_block N (k % 32) P h r hNl hs eP eh (by omega)
  rw [Nat.add_zero] at b0'
  obtain ⟨h1, e1⟩ : ∃ h1, h1 = h + m := ⟨_, rfl⟩
  obtain ⟨h2, e2⟩ : ∃ h2, h2 = h + r := ⟨_, rfl⟩
  have V0 := Lib.hid (val_h n (k % 32) N P h eN hn eP eh)
  have V1 := Lib.hid (val_m (k % 32) P m hs eP em)
  have V2 := Lib.hid (val_r a m r ha (by omega) er)
  have V3 := Lib.hid (val_sum h m h1 e1 (by omega))
  have V4 := Lib.hid (val_sum h r h2 e2 (by omega))
  have HT : Hid (∀ i, i < 3 → ∃ T : Nat, (#[Value.int .i64 (h : Nat), Value.int .i64 (h1 : Nat), Value.int .i64 (h2 : Nat)])[i]? = some (.int .i64 (T : Nat)) ∧ T < 4611686018427387904 ∧ T / 4 ^ (k % 32) = h / 4 ^ (k % 32)) := Lib.hid fun i hi => by
    rw [← eP]
    match i, hi with
    | 0, _ => exact ⟨h, rfl, b0', rfl⟩
    | 1, _ => exact ⟨h1, rfl, by omega, by rw [e1]; exact b1⟩
    | 2, _ => exact ⟨h2, rfl, by omega, by rw [e2]; exact b2⟩
  have HH := Lib.hid b0'
  have HS := Lib.hid hs
  clear hn ha eN eP eh em er hP1 hP2 hrm hNl b0 b0' b1 b1' b2 b2' e1 e2 hs
  go_enter Try.func3, Try.ntmps3
  go_wp2_with fail
  rw [V0.out, V1.out, V2.out, V3.out, V4.out]
  have hB : Blk (w.alloc (Obj.cells #[Value.int .i64 (h : Nat), Value.int .i64 (h1 : Nat), Value.int .i64 (h2 : Nat)] 2)) w.heap.size #[Value.int .i64 (h : Nat), Value.int .i64 (h1 : Nat), Value.int .i64 (h2 : Nat)] := Blk.new _ _ _
  have HB := Lib.hid hB
  have HW : Hid (Ch S0 w (w.alloc (Obj.cells #[Value.int .i64 (h : Nat), Value.int .i64 (h1 : Nat), Value.int .i64 (h2 : Nat)] 2))) := Lib.hid ((Ch.refl _ _).alloc _)
  clear hB
  go_loopw [45] (fun v wr => ∃ i : Nat, i ≤ 3 ∧ v = .int .i64 i ∧ Blk wr w.heap.size #[Value.int .i64 (h : Nat), Value.int .i64 (h1 : Nat), Value.int .i64 (h2 : Nat)] ∧ Ch S0 w wr) (fun v _ => 3 - (intOf v).toNat)
  case atStart => exact ⟨0, by omega, rfl, HB.out, HW.out⟩
  case round =>
    clear HB HW
    obtain ⟨i, hi, rfl, hB, hC⟩ := hrel
    by_cases hlt : i < 3
    · obtain ⟨T, hT, hTl, hTh⟩ := HT.out i hlt
      have c0 : wr.cell? ⟨w.heap.size, i, none⟩ = some (.int .i64 (T : Nat)) := by rw [hB.cell]; exact hT
      have hsq := same_square (k % 32) T h HS.out hTh
      obtain ⟨xa, hxa⟩ : ∃ x, (dec 31 h).1 = x := ⟨_, rfl⟩
      obtain ⟨ya, hya⟩ : ∃ x, (dec 31 h).2 = x := ⟨_, rfl⟩
      obtain ⟨xc, hxc⟩ : ∃ x, (dec 31 T).1 = x := ⟨_, rfl⟩
      obtain ⟨yc, hyc⟩ : ∃ x, (dec 31 T).2 = x := ⟨_, rfl⟩
      have D1 := Lib.hid (decode_any h HH.out)
      have D2 := Lib.hid (decode_any T hTl)
      have D3 := Lib.hid (encode_of T xc yc hTl hxc hyc)
      rw [hxa, hya] at D1
      rw [hxc, hyc] at D2
      rw [hxa, hya, hxc, hyc] at hsq
      obtain ⟨z1, hz1⟩ : ∃ z, xa / 2 ^ (k % 32) = z := ⟨_, rfl⟩
      obtain ⟨z2, hz2⟩ : ∃ z, ya / 2 ^ (k % 32) = z := ⟨_, rfl⟩
      rw [hz1, hz2] at hsq
      have s1 : (xa : Int) / 2 ^ (k % 32) = (z1 : Int) := by rw [← hz1, show (2 : Int) ^ (k % 32) = ((2 ^ (k % 32) : Nat) : Int) from (Int.natCast_pow 2 _).symm]; rfl
      have s2 : (ya : Int) / 2 ^ (k % 32) = (z2 : Int) := by rw [← hz2, show (2 : Int) ^ (k % 32) = ((2 ^ (k % 32) : Nat) : Int) from (Int.natCast_pow 2 _).symm]; rfl
      have s3 : (xc : Int) / 2 ^ (k % 32) = (z1 : Int) := by rw [← hsq.1, show (2 : Int) ^ (k % 32) = ((2 ^ (k % 32) : Nat) : Int) from (Int.natCast_pow 2 _).symm]; rfl
      have s4 : (yc : Int) / 2 ^ (k % 32) = (z2 : Int) := by rw [← hsq.2, show (2 : Int) ^ (k % 32) = ((2 ^ (k % 32) : Nat) : Int) from (Int.natCast_pow 2 _).symm]; rfl
      have HB := Lib.hid hB
      have HC := Lib.hid hC
      clear hT hTl hTh hsq hxa hya hxc hyc hz1 hz2 hB hC
      go_wp2_with fail
      refine (hldecode_of h xa ya D1.out _).mono ?_
      rintro e w1 ⟨rfl, hC1⟩
      have HC1 := Lib.hid (HC.out.trans hC1)
      have HB1 := Lib.hid (HB.out.keep hC1 (fun h => h))
      clear hC1 c0
      go_wp2_with fail
      refine (hldecode_of T xc yc D2.out _).mono ?_
      rintro e w2 ⟨rfl, hC2⟩
      have HC2 := Lib.hid (HC1.out.trans hC2)
      have HB2 := Lib.hid (HB1.out.keep hC2 (fun h => h))
      clear hC2
      go_wp2_with fail
      refine (hlencode_of T xc yc D3.out _).mono ?_
      rintro e w3 ⟨rfl, hC3⟩
      have HC3 := Lib.hid (HC2.out.trans hC3)
      have HB3 := Lib.hid (HB2.out.keep hC3 (fun h => h))
      clear hC3
      go_wp2_with fail
      go_roundw
      case rel => exact ⟨i + 1, hlt, by go_num, HB3.out, HC3.out⟩
      case measure => simp [intOf]; omega
    · obtain rfl : i = 3 := by omega
      have HC := Lib.hid hC
      clear hB hC
      go_wp2_with fail
      go_ret
      exact ⟨rfl, HC.out⟩
end Go.Proofs.Ytdcjjicdpoakfaa
