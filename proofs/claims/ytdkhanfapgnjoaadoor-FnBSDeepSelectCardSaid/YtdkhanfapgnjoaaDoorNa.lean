/- WALKS: select64, Select, Rank. -/
import Derived.Test.YtdkhanfapgnjoaaDoorPa
import Derived.Test.YtdkhanfapgnjoaaDoorWx
import Derived.Deep.Cut
namespace Go.Proofs.YtdkhanfapgnjoaaDoor
open Go.RowKit
set_option linter.unusedVariables false
set_option linter.unusedSimpArgs false

set_option maxRecDepth 100000 in
set_option maxHeartbeats 4000000 in
/-- By halves; the last byte bit by bit. -/
theorem select64_any (x j : Nat) (hx : x < 18446744073709551616) (hj : j < Bit.pc x) (w : World) :
    Calls Tryd.prog 28 #[.int .u64 x, .int .u64 j] w fun e w' => (∃ r : Nat, e = .returned (.int .u64 r) ∧ r < 64 ∧ x.testBit r = true ∧ Bit.cnt x.testBit r = j) ∧ w = w' := by
  have hp0 := Bit.pc_le x
  have hj0 : j < 64 := by omega
  have W0 := Lib.hid (Bit.Win.start hx hj)
  have HX := Lib.hid hx
  clear hj hp0
  go_enter Tryd.func28, Tryd.ntmps28
  obtain ⟨lo0, hlo0⟩ : ∃ lo, lo = x % 4294967296 := ⟨_, rfl⟩
  obtain ⟨hi0, hhi0⟩ : ∃ hi, hi = x / 4294967296 := ⟨_, rfl⟩
  have elo0 : bits BinOp.and IntKind.u64 (x : Int) 4294967295 = (lo0 : Nat) := by rw [show ((4294967295 : Int)) = ((4294967295 : Nat) : Int) from rfl, u64_and_nat x _ (by have := W0.out.fit (by decide); exact this) (by omega), show (4294967295 : Nat) = 2 ^ 32 - 1 from rfl, Nat.and_two_pow_sub_one_eq_mod, hlo0]
  have ehi0 : (x : Int) / 4294967296 = (hi0 : Nat) := by omega
  have hll0 : lo0 < 18446744073709551616 := by omega
  obtain ⟨p0, hp0⟩ : ∃ p, Bit.pc lo0 = p := ⟨_, rfl⟩
  have hpl0 : p0 ≤ 64 := by have := Bit.pc_le lo0; omega
  have hcall0 := fun w => onesCount_any lo0 hll0 w
  rw [hp0] at hcall0
  have HC0 := Lib.hid hcall0
  have HL0 := Lib.hid hlo0
  have HH0 := Lib.hid hhi0
  have HP0 := Lib.hid hp0
  have hli0 : hi0 < 4294967296 := by omega
  have hll20 : lo0 < 4294967296 := by omega
  clear hcall0 hll0 hlo0 hhi0 hp0
  go_upto_if 17 with (go_at_call 27; refine (HC0.out _).mono ?_; rintro e w1 ⟨rfl, rfl⟩)
  go_cut [1, 5, 6] from 17 (fun v1 v5 v6 wc => ∃ k s y : Nat, v1 = .int .u64 k ∧ v5 = .int .i64 s ∧ v6 = .int .u64 y ∧ Hid (Bit.Win x s 32 y j k) ∧ k < 64 ∧ s + 32 ≤ 64 ∧ y < 4294967296 ∧ wc = w)
  case first =>
    by_cases hb0 : p0 ≤ j
    · obtain ⟨K0, hK0⟩ : ∃ k, k = j - p0 := ⟨_, rfl⟩
      have eK0 : (j : Int) - (p0 : Nat) = (K0 : Nat) := by omega
      have hbi0 : (p0 : Int) ≤ (j : Nat) := by omega
      have W1 : Hid (Bit.Win x (0 + 32) 32 hi0 j K0) := Lib.hid (by have h := W0.out.high (h := 32) (by omega) (by rw [show (2 ^ 32 : Nat) = 4294967296 from rfl, ← HL0.out, HP0.out]; exact hb0); rw [show (2 ^ 32 : Nat) = 4294967296 from rfl, ← HL0.out, HP0.out, ← HH0.out, ← hK0] at h; exact h)
      clear hK0
      go_wp2_with fail
      go_meet
      exact ⟨K0, 0 + 32, hi0, rfl, by go_num, rfl, W1, by omega, by omega, by omega, rfl⟩
    · have hbi0 : ¬ (p0 : Int) ≤ (j : Nat) := by omega
      have W1 : Hid (Bit.Win x 0 32 lo0 j j) := Lib.hid (by have h := W0.out.low (h := 32) (by omega) (by rw [show (2 ^ 32 : Nat) = 4294967296 from rfl, ← HL0.out, HP0.out]; omega); rw [show (2 ^ 32 : Nat) = 4294967296 from rfl, ← HL0.out] at h; exact h)
      go_wp2_with fail
      go_meet
      exact ⟨j, 0, lo0, rfl, rfl, rfl, W1, by omega, by omega, by omega, rfl⟩
  clear elo0 ehi0 HL0 HH0 HP0 HC0 W0 hpl0 hli0 hll20
  obtain ⟨k0, s0, y0, rfl, rfl, rfl, W1, hk0, hs0, hy0, hwc0⟩ := hcut
  obtain rfl : w = wc := hwc0.symm
  obtain ⟨lo1, hlo1⟩ : ∃ lo, lo = y0 % 65536 := ⟨_, rfl⟩
  obtain ⟨hi1, hhi1⟩ : ∃ hi, hi = y0 / 65536 := ⟨_, rfl⟩
  have elo1 : bits BinOp.and IntKind.u64 (y0 : Int) 65535 = (lo1 : Nat) := by rw [show ((65535 : Int)) = ((65535 : Nat) : Int) from rfl, u64_and_nat y0 _ (by have := W1.out.fit (by decide); exact this) (by omega), show (65535 : Nat) = 2 ^ 16 - 1 from rfl, Nat.and_two_pow_sub_one_eq_mod, hlo1]
  have ehi1 : (y0 : Int) / 65536 = (hi1 : Nat) := by omega
  have hll1 : lo1 < 18446744073709551616 := by omega
  obtain ⟨p1, hp1⟩ : ∃ p, Bit.pc lo1 = p := ⟨_, rfl⟩
  have hpl1 : p1 ≤ 64 := by have := Bit.pc_le lo1; omega
  have hcall1 := fun w => onesCount_any lo1 hll1 w
  rw [hp1] at hcall1
  have HC1 := Lib.hid hcall1
  have HL1 := Lib.hid hlo1
  have HH1 := Lib.hid hhi1
  have HP1 := Lib.hid hp1
  have hli1 : hi1 < 4294967296 := by omega
  have hll21 : lo1 < 4294967296 := by omega
  clear hcall1 hll1 hlo1 hhi1 hp1
  go_upto_if 33 with (go_at_call 27; refine (HC1.out _).mono ?_; rintro e w1 ⟨rfl, rfl⟩)
  go_cut [1, 5, 6] from 33 (fun v1 v5 v6 wc => ∃ k s y : Nat, v1 = .int .u64 k ∧ v5 = .int .i64 s ∧ v6 = .int .u64 y ∧ Hid (Bit.Win x s 16 y j k) ∧ k < 64 ∧ s + 16 ≤ 64 ∧ y < 4294967296 ∧ wc = w)
  case first =>
    by_cases hb1 : p1 ≤ k0
    · obtain ⟨K1, hK1⟩ : ∃ k, k = k0 - p1 := ⟨_, rfl⟩
      have eK1 : (k0 : Int) - (p1 : Nat) = (K1 : Nat) := by omega
      have hbi1 : (p1 : Int) ≤ (k0 : Nat) := by omega
      have W2 : Hid (Bit.Win x (s0 + 16) 16 hi1 j K1) := Lib.hid (by have h := W1.out.high (h := 16) (by omega) (by rw [show (2 ^ 16 : Nat) = 65536 from rfl, ← HL1.out, HP1.out]; exact hb1); rw [show (2 ^ 16 : Nat) = 65536 from rfl, ← HL1.out, HP1.out, ← HH1.out, ← hK1] at h; exact h)
      clear hK1
      go_wp2_with fail
      go_meet
      exact ⟨K1, s0 + 16, hi1, rfl, by go_num, rfl, W2, by omega, by omega, by omega, rfl⟩
    · have hbi1 : ¬ (p1 : Int) ≤ (k0 : Nat) := by omega
      have W2 : Hid (Bit.Win x s0 16 lo1 j k0) := Lib.hid (by have h := W1.out.low (h := 16) (by omega) (by rw [show (2 ^ 16 : Nat) = 65536 from rfl, ← HL1.out, HP1.out]; omega); rw [show (2 ^ 16 : Nat) = 65536 from rfl, ← HL1.out] at h; exact h)
      go_wp2_with fail
      go_meet
      exact ⟨k0, s0, lo1, rfl, rfl, rfl, W2, by omega, by omega, by omega, rfl⟩
  clear elo1 ehi1 HL1 HH1 HP1 HC1 W1 hpl1 hli1 hll21
  obtain ⟨k1, s1, y1, rfl, rfl, rfl, W2, hk1, hs1, hy1, hwc1⟩ := hcut
  obtain rfl : w = wc := hwc1.symm
  obtain ⟨lo2, hlo2⟩ : ∃ lo, lo = y1 % 256 := ⟨_, rfl⟩
  obtain ⟨hi2, hhi2⟩ : ∃ hi, hi = y1 / 256 := ⟨_, rfl⟩
  have elo2 : bits BinOp.and IntKind.u64 (y1 : Int) 255 = (lo2 : Nat) := by rw [show ((255 : Int)) = ((255 : Nat) : Int) from rfl, u64_and_nat y1 _ (by have := W2.out.fit (by decide); exact this) (by omega), show (255 : Nat) = 2 ^ 8 - 1 from rfl, Nat.and_two_pow_sub_one_eq_mod, hlo2]
  have ehi2 : (y1 : Int) / 256 = (hi2 : Nat) := by omega
  have hll2 : lo2 < 18446744073709551616 := by omega
  obtain ⟨p2, hp2⟩ : ∃ p, Bit.pc lo2 = p := ⟨_, rfl⟩
  have hpl2 : p2 ≤ 64 := by have := Bit.pc_le lo2; omega
  have hcall2 := fun w => onesCount_any lo2 hll2 w
  rw [hp2] at hcall2
  have HC2 := Lib.hid hcall2
  have HL2 := Lib.hid hlo2
  have HH2 := Lib.hid hhi2
  have HP2 := Lib.hid hp2
  have hli2 : hi2 < 4294967296 := by omega
  have hll22 : lo2 < 4294967296 := by omega
  clear hcall2 hll2 hlo2 hhi2 hp2
  go_upto_if 49 with (go_at_call 27; refine (HC2.out _).mono ?_; rintro e w1 ⟨rfl, rfl⟩)
  go_cut [1, 5, 6] from 49 (fun v1 v5 v6 wc => ∃ k s y : Nat, v1 = .int .u64 k ∧ v5 = .int .i64 s ∧ v6 = .int .u64 y ∧ Hid (Bit.Win x s 8 y j k) ∧ k < 64 ∧ s + 8 ≤ 64 ∧ y < 4294967296 ∧ wc = w)
  case first =>
    by_cases hb2 : p2 ≤ k1
    · obtain ⟨K2, hK2⟩ : ∃ k, k = k1 - p2 := ⟨_, rfl⟩
      have eK2 : (k1 : Int) - (p2 : Nat) = (K2 : Nat) := by omega
      have hbi2 : (p2 : Int) ≤ (k1 : Nat) := by omega
      have W3 : Hid (Bit.Win x (s1 + 8) 8 hi2 j K2) := Lib.hid (by have h := W2.out.high (h := 8) (by omega) (by rw [show (2 ^ 8 : Nat) = 256 from rfl, ← HL2.out, HP2.out]; exact hb2); rw [show (2 ^ 8 : Nat) = 256 from rfl, ← HL2.out, HP2.out, ← HH2.out, ← hK2] at h; exact h)
      clear hK2
      go_wp2_with fail
      go_meet
      exact ⟨K2, s1 + 8, hi2, rfl, by go_num, rfl, W3, by omega, by omega, by omega, rfl⟩
    · have hbi2 : ¬ (p2 : Int) ≤ (k1 : Nat) := by omega
      have W3 : Hid (Bit.Win x s1 8 lo2 j k1) := Lib.hid (by have h := W2.out.low (h := 8) (by omega) (by rw [show (2 ^ 8 : Nat) = 256 from rfl, ← HL2.out, HP2.out]; omega); rw [show (2 ^ 8 : Nat) = 256 from rfl, ← HL2.out] at h; exact h)
      go_wp2_with fail
      go_meet
      exact ⟨k1, s1, lo2, rfl, rfl, rfl, W3, by omega, by omega, by omega, rfl⟩
  clear elo2 ehi2 HL2 HH2 HP2 HC2 W2 hpl2 hli2 hll22
  obtain ⟨k2, s2, y2, rfl, rfl, rfl, W3, hk2, hs2, hy2, hwc2⟩ := hcut
  obtain rfl : w = wc := hwc2.symm
  go_wp2_with fail
  go_loopw [1, 9] (fun vj vc wr => ∃ c t : Nat, c ≤ 8 ∧ vj = .int .u64 t ∧ vc = .int .i64 c ∧ Hid (t + Bit.cnt (y2).testBit c = k2) ∧ t < 64 ∧ wr = w) (fun _ vc _ => 8 - (intOf vc).toNat)
  case atStart => exact ⟨0, k2, by omega, rfl, rfl, Lib.hid (by simp [Bit.cnt]), by omega, rfl⟩
  case round =>
    obtain ⟨c, t, hc, rfl, rfl, HT, ht, hwr⟩ := hrel
    obtain rfl : w = wr := hwr.symm
    have hc8 : c < 8 := Nat.lt_of_not_le fun h => by obtain rfl : c = 8 := (by omega); have := W3.out.more; have := HT.out; omega
    have hci : (c : Int) < 8 := by omega
    obtain ⟨b, hb⟩ : ∃ b, b = y2 / 2 ^ c % 2 := ⟨_, rfl⟩
    have hb2 : b < 2 := by omega
    have hbv : bits BinOp.and IntKind.u64 ((y2 : Int) / 2 ^ c) 1 = (b : Nat) := by rw [show ((y2 : Int) / 2 ^ c) = ((y2 / 2 ^ c : Nat) : Int) from by simp, show (1 : Int) = ((1 : Nat) : Int) from rfl, u64_and_nat _ _ (Nat.lt_of_le_of_lt (Nat.div_le_self _ _) (W3.out.fit (by decide))) (by omega), Nat.and_one_is_mod, ← hb]
    have hcnt : Bit.cnt (y2).testBit (c + 1) = Bit.cnt (y2).testBit c + b := by rw [Bit.cnt_bit, ← hb]
    have HB := Lib.hid hb
    have HN := Lib.hid hcnt
    clear hb hcnt
    by_cases hb1 : b = 1
    · subst hb1
      by_cases ht0 : t = 0
      · subst ht0
        go_wp2_with fail
        go_ret
        obtain ⟨h1, h2⟩ := W3.out.found hc8 HB.out.symm (by have := HT.out; omega)
        exact ⟨⟨s2 + c, int_eq (by omega), by omega, h1, h2⟩, rfl⟩
      · have hne : ¬ ((t : Int) - 1 + 1 = 0) := by omega
        have ht1 : (1 : Int) ≤ t := by omega
        go_wp2_with fail
        go_roundw
        case rel => exact ⟨c + 1, t - 1, by omega, by go_num, by go_num, Lib.hid (by have := HT.out; have := HN.out; omega), by omega, by trivial⟩
        case measure => simp [intOf]; omega
    · obtain rfl : b = 0 := by omega
      go_wp2_with fail
      go_roundw
      case rel => exact ⟨c + 1, t, by omega, by go_num, by go_num, Lib.hid (by have := HT.out; have := HN.out; omega), by omega, by trivial⟩
      case measure => simp [intOf]; omega
end Go.Proofs.YtdkhanfapgnjoaaDoor
