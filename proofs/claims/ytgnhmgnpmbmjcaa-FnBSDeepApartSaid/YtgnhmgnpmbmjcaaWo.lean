/- WALKS: the word from a place on, the bits between two places. -/
import Derived.Test.YtgnhmgnpmbmjcaaWn
import Derived.Test.YtgnhmgnpmbmjcaaWl
namespace Go.Proofs.Ytgnhmgnpmbmjcaa
open Go.RowKit
set_option linter.unusedVariables false
set_option linter.unusedSimpArgs false
theorem word_val (x y n m : Nat) (hx : x < 18446744073709551616) : bits BinOp.or IntKind.u64 ((x : Int) / 2 ^ n) (IntKind.u64.wrap ((y : Int) * 2 ^ m)) = ((x / 2 ^ n ||| y * 2 ^ m % 18446744073709551616 : Nat) : Int) := by
  have e1 : (x : Int) / 2 ^ n = ((x / 2 ^ n : Nat) : Int) := by rw [show (2 : Int) ^ n = ((2 ^ n : Nat) : Int) from (Int.natCast_pow 2 n).symm]; rfl
  have e2 : IntKind.u64.wrap ((y : Int) * 2 ^ m) = ((y * 2 ^ m % 18446744073709551616 : Nat) : Int) := by
    rw [show (2 : Int) ^ m = ((2 ^ m : Nat) : Int) from (Int.natCast_pow 2 m).symm, ← Int.natCast_mul, IntKind.wrap_u64]; rfl
  rw [e1, e2]
  exact u64_or_nat _ _ (Nat.lt_of_le_of_lt (Nat.div_le_self _ _) hx) (Nat.mod_lt _ (by decide))
theorem word_val0 (x n : Nat) (hx : x < 18446744073709551616) : bits BinOp.or IntKind.u64 ((x : Int) / 2 ^ n) 0 = ((x / 2 ^ n ||| 0 * 2 ^ (64 - n) % 18446744073709551616 : Nat) : Int) := by
  have e1 : (x : Int) / 2 ^ n = ((x / 2 ^ n : Nat) : Int) := by rw [show (2 : Int) ^ n = ((2 ^ n : Nat) : Int) from (Int.natCast_pow 2 n).symm]; rfl
  rw [e1, show (0 : Int) = ((0 : Nat) : Int) from rfl, u64_or_nat _ _ (Nat.lt_of_le_of_lt (Nat.div_le_self _ _) hx) (by decide), Nat.zero_mul, Nat.zero_mod]
set_option maxRecDepth 100000 in
theorem word_any (b sb L i : Nat) (g : Nat → Bool) (w : World) (h : BS w b sb L g) (hi : i ≤ 10000) (x : Int) (hx : x = i) :
    Calls Try.prog 54 #[.pointer (some ⟨b, 0, none⟩), .int .u64 x] w fun r w' => r = .returned (.int .u64 (Bit.at64 g i : Nat)) ∧ Ch S0 w w' := by
  subst hx
  obtain ⟨cap, c0, c1, h4, h5, f0, f1, fs, h6⟩ := h.look
  have H6 := Lib.hid h6
  clear h6 fs
  go_enter Try.func54, Try.ntmps54
  go_wp2_with fail
  refine (wordsIndex_any i _ rfl (by omega) _).mono ?_
  rintro r w1 ⟨rfl, rfl⟩
  have hoff := h.off
  have HF := Lib.hid hoff
  clear hoff h
  by_cases h0 : i / 64 < nw L
  · have hd : decide ((i : Int) / 64 < (nw L : Nat)) = true := by simp; omega
    have d0 := H6.out (i / 64) h0
    have hi0 : (0 : Int) ≤ (i : Int) / 64 := by omega
    have hi1 : ((i : Int) / 64).toNat = i / 64 := by omega
    by_cases h2 : i / 64 + 1 < nw L
    · have hd2 : decide ((i : Int) / 64 + 1 < (nw L : Nat)) = true := by simp; omega
      have d2 := H6.out (i / 64 + 1) h2
      have hi2 : (0 : Int) ≤ (i : Int) / 64 + 1 := by omega
      have hi3 : ((i : Int) / 64 + 1).toNat = i / 64 + 1 := by omega
      go_wp2_with fail
      go_ret
      exact ⟨int_eq (by rw [word_val _ _ _ _ (Bit.wd_lt _ _), Bit.at64_eq g i _ _ rfl rfl]), Ch.refl _ _⟩
    · have hd2 : decide ((i : Int) / 64 + 1 < (nw L : Nat)) = false := by simp; omega
      go_wp2_with fail
      go_ret
      exact ⟨int_eq (by rw [word_val0 _ _ (Bit.wd_lt _ _), Bit.at64_eq g i _ _ rfl (Bit.wd_none HF.out (by unfold nw at h2; omega)).symm]), Ch.refl _ _⟩
  · have hd : decide ((i : Int) / 64 < (nw L : Nat)) = false := by simp; omega
    have hd2 : decide ((i : Int) / 64 + 1 < (nw L : Nat)) = false := by simp; omega
    go_wp2_with fail
    go_ret
    refine ⟨int_eq ?_, Ch.refl _ _⟩
    have e := Bit.at64_eq g i 0 0 (Bit.wd_none HF.out (by unfold nw at h0; omega)).symm (Bit.wd_none HF.out (by unfold nw at h0; omega)).symm
    rw [← e, Nat.zero_div, Nat.zero_mul, Nat.zero_mod]
    rfl

theorem low_mask (n : Nat) (h : n < 64) : IntKind.u64.wrap (IntKind.u64.wrap (2 ^ n) - 1) = ((2 ^ n - 1 : Nat) : Int) := by
  have hp : 0 < 2 ^ n := Nat.pow_pos (by decide)
  have hq := Bit.two_pow_lt64 n h
  rw [wrap_two n h, show ((2 ^ n : Nat) : Int) - 1 = ((2 ^ n - 1 : Nat) : Int) from by omega]
  exact u64_fit _ (by omega)
theorem mask_in (x a b : Nat) (hx : x < 18446744073709551616) (ha : a < 64) (hb : b < 64) : bits BinOp.and IntKind.u64 (x : Int) (bits BinOp.andNot IntKind.u64 (IntKind.u64.wrap (IntKind.u64.wrap (2 ^ a) - 1)) (IntKind.u64.wrap (IntKind.u64.wrap (2 ^ b) - 1))) = ((x &&& ((2 ^ a - 1) &&& (18446744073709551615 - (2 ^ b - 1))) : Nat) : Int) := by
  rw [low_mask a ha, low_mask b hb, u64_andNot_nat _ _ (low_lt _ (by omega)) (low_lt _ (by omega)), u64_and_nat _ _ hx (Nat.lt_of_le_of_lt Nat.and_le_left (low_lt _ (by omega)))]
theorem mask_from (x b : Nat) (hx : x < 18446744073709551616) (hb : b < 64) : bits BinOp.and IntKind.u64 (x : Int) (bits BinOp.xor IntKind.u64 IntKind.u64.max (IntKind.u64.wrap (IntKind.u64.wrap (2 ^ b) - 1))) = ((x &&& (18446744073709551615 - (2 ^ b - 1)) : Nat) : Int) := by
  rw [low_mask b hb, show IntKind.u64.max = ((18446744073709551615 : Nat) : Int) from rfl, u64_xor_nat _ _ (by omega) (low_lt _ (by omega)), all_xor _ (low_lt _ (by omega)), u64_and_nat _ _ hx (by omega)]
theorem mask_to (x a : Nat) (hx : x < 18446744073709551616) (ha : a < 64) : bits BinOp.and IntKind.u64 (x : Int) (IntKind.u64.wrap (IntKind.u64.wrap (2 ^ a) - 1)) = ((x &&& (2 ^ a - 1) : Nat) : Int) := by
  rw [low_mask a ha, u64_and_nat _ _ hx (low_lt _ (by omega))]
theorem onesCount_of (v : Int) (x : Nat) (hv : v = x) (hx : x < 18446744073709551616) (p : Nat) (hp : Bit.pc x = p) (w : World) :
    Calls Try.prog 82 #[.int .u64 v] w fun e w' => e = .returned (.int .i64 (p : Nat)) ∧ w = w' ∧ p ≤ 64 := by
  subst hv hp
  exact (onesCount_any x hx w).mono fun _ _ ⟨h1, h2⟩ => ⟨h1, h2, Bit.pc_le x⟩
theorem popcnt_of (sb o n cap j0 : Nat) (g : Nat → Bool) (w : World) (hn : n ≤ 100000) (hc : ∀ j, j < n → w.cell? ⟨sb, o + j, none⟩ = some (.int .u64 (Bit.wd g (j0 + j) : Nat))) (m : Nat) (hm : Bit.ones g (64 * j0) (64 * (j0 + n)) = m) (v : Value) (hv : v = .slice (some ⟨sb, o, none⟩) n cap) :
    Calls Try.prog 83 #[v] w fun e w' => e = .returned (.int .u64 (m : Nat)) ∧ Ch S0 w w' := by
  subst hm hv
  exact popcnt_any sb o n cap j0 g w hn hc

set_option maxRecDepth 100000 in
set_option maxHeartbeats 1000000 in
theorem between_any (b sb L s e : Nat) (g : Nat → Bool) (w : World) (h : BS w b sb L g) (hs : s ≤ 10000) (he : e ≤ 10000) (hL : L ≤ 20000) (x y : Int) (hx : x = s) (hy : y = e) :
    Calls Try.prog 55 #[.pointer (some ⟨b, 0, none⟩), .int .u64 x, .int .u64 y] w fun r w' => r = .returned (.int .u64 (Bit.ones g s e : Nat)) ∧ Ch S0 w w' := by
  subst hx hy
  obtain ⟨cap, c0, c1, h4, h5, f0, f1, fs, h6⟩ := h.look
  have HF := Lib.hid h.off
  have H6 := Lib.hid h6
  have H := Lib.hid h
  clear h6 fs h
  go_enter Try.func55, Try.ntmps55
  go_wp2_with fail
  refine (panicIfNull_any _ _).mono ?_
  rintro r w1 ⟨rfl, rfl⟩
  by_cases hc : L < e
  · have HE := Lib.hid (Bit.ones_clamp HF.out s e (by omega))
    have hm1 : bits BinOp.and IntKind.u64 (s : Int) 63 = ((s % 64 : Nat) : Int) := by rw [show (63 : Int) = ((63 : Nat) : Int) from rfl, u64_and_nat _ _ (by omega) (by omega), nat_mask6]
    have hm2 : bits BinOp.and IntKind.u64 (L : Int) 63 = ((L % 64 : Nat) : Int) := by rw [show (63 : Int) = ((63 : Nat) : Int) from rfl, u64_and_nat _ _ (by omega) (by omega), nat_mask6]
    by_cases hst : s < L
    · have d0 := H6.out (s / 64) (by unfold nw; omega)
      have hi0 : (0 : Int) ≤ (s : Int) / 64 := by omega
      have hi1 : ((s : Int) / 64).toNat = s / 64 := by omega
      have hi2 : (s : Int) / 64 < (nw L : Nat) := by unfold nw; omega
      by_cases hq : s / 64 = L / 64
      · have hqd : ((s : Int) / 64 == (L : Int) / 64) = true := beq_iff_eq.2 (by omega)
        obtain ⟨p, hp⟩ : ∃ p, Bit.ones g s L = p := ⟨_, rfl⟩
        have hw := Bit.ones_within g s L hq (by omega)
        rw [hp] at hw
        have HP := Lib.hid hp
        have HW := Lib.hid hw
        clear hq hp hw
        go_wp2_with fail
        refine (onesCount_of _ _ (mask_in _ _ _ (Bit.wd_lt _ _) (by omega) (by omega)) (Nat.lt_of_le_of_lt Nat.and_le_left (Bit.wd_lt _ _)) p HW.out _).mono ?_
        rintro r w1 ⟨rfl, rfl, hp64⟩
        go_wp2_with fail
        go_ret
        exact ⟨int_eq (by rw [HE.out]; rw [HP.out]), Ch.refl _ _⟩
      · have hqd : ((s : Int) / 64 == (L : Int) / 64) = false := beq_eq_false_iff_ne.2 (by omega)
        obtain ⟨p, hp⟩ : ∃ p, Bit.ones g s (64 * (s / 64) + 64) = p := ⟨_, rfl⟩
        have hw := Bit.ones_first g s
        rw [hp] at hw
        have HW := Lib.hid hw
        have HP := Lib.hid hp
        have HQ := Lib.hid hq
        clear hq hw hp
        go_wp2_with fail
        refine (onesCount_of _ _ (mask_from _ _ (Bit.wd_lt _ _) (by omega)) (Nat.lt_of_le_of_lt Nat.and_le_left (Bit.wd_lt _ _)) p HW.out _).mono ?_
        rintro r w1 ⟨rfl, rfl, hp64⟩
        obtain ⟨m, hm⟩ : ∃ m, Bit.ones g (64 * (s / 64) + 64) (64 * (L / 64)) = m := ⟨_, rfl⟩
        have hml : m ≤ 20000 := by have := Bit.ones_le g (64 * (s / 64) + 64) (64 * (L / 64)); omega
        have HM := Lib.hid hm
        clear hm
        by_cases hj : s / 64 + 1 < L / 64
        · have hjd : decide ((s : Int) / 64 + 1 < (L : Int) / 64) = true := by simp; omega
          have hi3 : (0 : Int) ≤ (s : Int) / 64 + 1 := by omega
          have hi4 : ((s : Int) / 64 + 1).toNat = s / 64 + 1 := by omega
          have hi5 : (((L : Nat) : Int) / 64).toNat = L / 64 := by omega
          have hi6 : ((L : Nat) : Int) / 64 ≤ (nw L : Nat) := by unfold nw; omega
          have hi7 : (s : Int) / 64 + 1 ≤ ((L : Nat) : Int) / 64 := by omega
          go_wp2_with fail
          refine (popcnt_of sb (s / 64 + 1) (L / 64 - (s / 64 + 1)) _ (s / 64 + 1) g _ (by omega) (fun j hj => H6.out _ (by unfold nw; omega)) m (by rw [show s / 64 + 1 + (L / 64 - (s / 64 + 1)) = L / 64 by omega]; exact HM.out) _ rfl).mono ?_
          rintro r w1 ⟨rfl, hC⟩
          have hB := H.out.keep hC (fun h => h) (fun h => h)
          have HC := Lib.hid hC
          clear c0 c1 d0 f0 f1 hC h4 h5 H6
          obtain ⟨cap2, c0, c1, h4, h5, f0, f1, fs, h6⟩ := hB.look
          have H6 := Lib.hid h6
          clear h6 fs hB
          by_cases hz : L % 64 = 0
          · have hzd : decide ((0 : Int) < ((L : Nat) : Int) % 64) = false := by simp; omega
            have HZ := Lib.hid hz
            clear hz
            go_wp2_with fail
            go_ret
            have q1 := HZ.out
            have e1 := Bit.ones_add g (show s ≤ 64 * (s / 64) + 64 by omega) (show 64 * (s / 64) + 64 ≤ L by omega)
            have e3 : 64 * (L / 64) = L := by omega
            have e2 := HM.out
            rw [e3] at e2
            refine ⟨int_eq ?_, HC.out⟩
            rw [HE.out];
            rw [e1, HP.out, e2]
            omega
          · have hzd : decide ((0 : Int) < ((L : Nat) : Int) % 64) = true := by simp; omega
            have hi8 : (0 : Int) ≤ ((L : Nat) : Int) / 64 := by omega
            have hi9 : ((L : Nat) : Int) / 64 < (nw L : Nat) := by unfold nw; omega
            have hi5 : (((L : Nat) : Int) / 64).toNat = L / 64 := by omega
            have d1 := H6.out (L / 64) (by unfold nw; omega)
            obtain ⟨q, hq⟩ : ∃ q, Bit.ones g (64 * (L / 64)) L = q := ⟨_, rfl⟩
            have hw := Bit.ones_last g L
            rw [hq] at hw
            have HW2 := Lib.hid hw
            have HQ2 := Lib.hid hq
            clear hq hw hz
            go_wp2_with fail
            refine (onesCount_of _ _ (mask_to _ _ (Bit.wd_lt _ _) (by omega)) (Nat.lt_of_le_of_lt Nat.and_le_left (Bit.wd_lt _ _)) q HW2.out _).mono ?_
            rintro r w1 ⟨rfl, rfl, hq64⟩
            go_wp2_with fail
            go_ret
            have e1 := Bit.ones_add g (show s ≤ 64 * (s / 64) + 64 by omega) (show 64 * (s / 64) + 64 ≤ L by omega)
            have e3 := Bit.ones_add g (show 64 * (s / 64) + 64 ≤ 64 * (L / 64) by omega) (show 64 * (L / 64) ≤ L by omega)
            refine ⟨int_eq ?_, HC.out⟩
            rw [HE.out];
            rw [e1, e3, HP.out, HM.out, HQ2.out]
            omega
        · have hjd : decide ((s : Int) / 64 + 1 < (L : Int) / 64) = false := by simp; omega
          have hm0 : m = 0 := by
            have := HM.out
            have hq := HQ.out
            rw [Bit.ones_back g (by omega)] at this
            omega
          have HM0 := Lib.hid hm0
          have hq := HQ.out
          clear hm0
          by_cases hz : L % 64 = 0
          · have hzd : decide ((0 : Int) < ((L : Nat) : Int) % 64) = false := by simp; omega
            have HZ := Lib.hid hz
            clear hz
            go_wp2_with fail
            go_ret
            have q1 := HZ.out
            have e1 := Bit.ones_add g (show s ≤ 64 * (s / 64) + 64 by omega) (show 64 * (s / 64) + 64 ≤ L by omega)
            have e3 : 64 * (L / 64) = L := by omega
            have e2 := HM.out
            rw [e3] at e2
            refine ⟨int_eq ?_, Ch.refl _ _⟩
            rw [HE.out];
            rw [e1, HP.out, e2]
            have q0 := HM0.out; omega
          · have hzd : decide ((0 : Int) < ((L : Nat) : Int) % 64) = true := by simp; omega
            have hi8 : (0 : Int) ≤ ((L : Nat) : Int) / 64 := by omega
            have hi9 : ((L : Nat) : Int) / 64 < (nw L : Nat) := by unfold nw; omega
            have hi5 : (((L : Nat) : Int) / 64).toNat = L / 64 := by omega
            have d1 := H6.out (L / 64) (by unfold nw; omega)
            obtain ⟨q, hq⟩ : ∃ q, Bit.ones g (64 * (L / 64)) L = q := ⟨_, rfl⟩
            have hw := Bit.ones_last g L
            rw [hq] at hw
            have HW2 := Lib.hid hw
            have HQ2 := Lib.hid hq
            clear hq hw hz
            go_wp2_with fail
            refine (onesCount_of _ _ (mask_to _ _ (Bit.wd_lt _ _) (by omega)) (Nat.lt_of_le_of_lt Nat.and_le_left (Bit.wd_lt _ _)) q HW2.out _).mono ?_
            rintro r w1 ⟨rfl, rfl, hq64⟩
            go_wp2_with fail
            go_ret
            have e1 := Bit.ones_add g (show s ≤ 64 * (s / 64) + 64 by omega) (show 64 * (s / 64) + 64 ≤ L by omega)
            have e3 := Bit.ones_add g (show 64 * (s / 64) + 64 ≤ 64 * (L / 64) by omega) (show 64 * (L / 64) ≤ L by omega)
            refine ⟨int_eq ?_, Ch.refl _ _⟩
            rw [HE.out];
            rw [e1, e3, HP.out, HM.out, HQ2.out]
            have q0 := HM0.out; omega
    · go_wp2_with fail
      go_ret
      exact ⟨int_eq (by rw [HE.out]; rw [Bit.ones_back _ (by omega)]; rfl), Ch.refl _ _⟩
  · have HE := 0
    have hm1 : bits BinOp.and IntKind.u64 (s : Int) 63 = ((s % 64 : Nat) : Int) := by rw [show (63 : Int) = ((63 : Nat) : Int) from rfl, u64_and_nat _ _ (by omega) (by omega), nat_mask6]
    have hm2 : bits BinOp.and IntKind.u64 (e : Int) 63 = ((e % 64 : Nat) : Int) := by rw [show (63 : Int) = ((63 : Nat) : Int) from rfl, u64_and_nat _ _ (by omega) (by omega), nat_mask6]
    by_cases hst : s < e
    · have d0 := H6.out (s / 64) (by unfold nw; omega)
      have hi0 : (0 : Int) ≤ (s : Int) / 64 := by omega
      have hi1 : ((s : Int) / 64).toNat = s / 64 := by omega
      have hi2 : (s : Int) / 64 < (nw L : Nat) := by unfold nw; omega
      by_cases hq : s / 64 = e / 64
      · have hqd : ((s : Int) / 64 == (e : Int) / 64) = true := beq_iff_eq.2 (by omega)
        obtain ⟨p, hp⟩ : ∃ p, Bit.ones g s e = p := ⟨_, rfl⟩
        have hw := Bit.ones_within g s e hq (by omega)
        rw [hp] at hw
        have HP := Lib.hid hp
        have HW := Lib.hid hw
        clear hq hp hw
        go_wp2_with fail
        refine (onesCount_of _ _ (mask_in _ _ _ (Bit.wd_lt _ _) (by omega) (by omega)) (Nat.lt_of_le_of_lt Nat.and_le_left (Bit.wd_lt _ _)) p HW.out _).mono ?_
        rintro r w1 ⟨rfl, rfl, hp64⟩
        go_wp2_with fail
        go_ret
        exact ⟨int_eq (by  rw [HP.out]), Ch.refl _ _⟩
      · have hqd : ((s : Int) / 64 == (e : Int) / 64) = false := beq_eq_false_iff_ne.2 (by omega)
        obtain ⟨p, hp⟩ : ∃ p, Bit.ones g s (64 * (s / 64) + 64) = p := ⟨_, rfl⟩
        have hw := Bit.ones_first g s
        rw [hp] at hw
        have HW := Lib.hid hw
        have HP := Lib.hid hp
        have HQ := Lib.hid hq
        clear hq hw hp
        go_wp2_with fail
        refine (onesCount_of _ _ (mask_from _ _ (Bit.wd_lt _ _) (by omega)) (Nat.lt_of_le_of_lt Nat.and_le_left (Bit.wd_lt _ _)) p HW.out _).mono ?_
        rintro r w1 ⟨rfl, rfl, hp64⟩
        obtain ⟨m, hm⟩ : ∃ m, Bit.ones g (64 * (s / 64) + 64) (64 * (e / 64)) = m := ⟨_, rfl⟩
        have hml : m ≤ 20000 := by have := Bit.ones_le g (64 * (s / 64) + 64) (64 * (e / 64)); omega
        have HM := Lib.hid hm
        clear hm
        by_cases hj : s / 64 + 1 < e / 64
        · have hjd : decide ((s : Int) / 64 + 1 < (e : Int) / 64) = true := by simp; omega
          have hi3 : (0 : Int) ≤ (s : Int) / 64 + 1 := by omega
          have hi4 : ((s : Int) / 64 + 1).toNat = s / 64 + 1 := by omega
          have hi5 : (((e : Nat) : Int) / 64).toNat = e / 64 := by omega
          have hi6 : ((e : Nat) : Int) / 64 ≤ (nw L : Nat) := by unfold nw; omega
          have hi7 : (s : Int) / 64 + 1 ≤ ((e : Nat) : Int) / 64 := by omega
          go_wp2_with fail
          refine (popcnt_of sb (s / 64 + 1) (e / 64 - (s / 64 + 1)) _ (s / 64 + 1) g _ (by omega) (fun j hj => H6.out _ (by unfold nw; omega)) m (by rw [show s / 64 + 1 + (e / 64 - (s / 64 + 1)) = e / 64 by omega]; exact HM.out) _ rfl).mono ?_
          rintro r w1 ⟨rfl, hC⟩
          have hB := H.out.keep hC (fun h => h) (fun h => h)
          have HC := Lib.hid hC
          clear c0 c1 d0 f0 f1 hC h4 h5 H6
          obtain ⟨cap2, c0, c1, h4, h5, f0, f1, fs, h6⟩ := hB.look
          have H6 := Lib.hid h6
          clear h6 fs hB
          by_cases hz : e % 64 = 0
          · have hzd : decide ((0 : Int) < ((e : Nat) : Int) % 64) = false := by simp; omega
            have HZ := Lib.hid hz
            clear hz
            go_wp2_with fail
            go_ret
            have q1 := HZ.out
            have e1 := Bit.ones_add g (show s ≤ 64 * (s / 64) + 64 by omega) (show 64 * (s / 64) + 64 ≤ e by omega)
            have e3 : 64 * (e / 64) = e := by omega
            have e2 := HM.out
            rw [e3] at e2
            refine ⟨int_eq ?_, HC.out⟩
            
            rw [e1, HP.out, e2]
            omega
          · have hzd : decide ((0 : Int) < ((e : Nat) : Int) % 64) = true := by simp; omega
            have hi8 : (0 : Int) ≤ ((e : Nat) : Int) / 64 := by omega
            have hi9 : ((e : Nat) : Int) / 64 < (nw L : Nat) := by unfold nw; omega
            have hi5 : (((e : Nat) : Int) / 64).toNat = e / 64 := by omega
            have d1 := H6.out (e / 64) (by unfold nw; omega)
            obtain ⟨q, hq⟩ : ∃ q, Bit.ones g (64 * (e / 64)) e = q := ⟨_, rfl⟩
            have hw := Bit.ones_last g e
            rw [hq] at hw
            have HW2 := Lib.hid hw
            have HQ2 := Lib.hid hq
            clear hq hw hz
            go_wp2_with fail
            refine (onesCount_of _ _ (mask_to _ _ (Bit.wd_lt _ _) (by omega)) (Nat.lt_of_le_of_lt Nat.and_le_left (Bit.wd_lt _ _)) q HW2.out _).mono ?_
            rintro r w1 ⟨rfl, rfl, hq64⟩
            go_wp2_with fail
            go_ret
            have e1 := Bit.ones_add g (show s ≤ 64 * (s / 64) + 64 by omega) (show 64 * (s / 64) + 64 ≤ e by omega)
            have e3 := Bit.ones_add g (show 64 * (s / 64) + 64 ≤ 64 * (e / 64) by omega) (show 64 * (e / 64) ≤ e by omega)
            refine ⟨int_eq ?_, HC.out⟩
            
            rw [e1, e3, HP.out, HM.out, HQ2.out]
            omega
        · have hjd : decide ((s : Int) / 64 + 1 < (e : Int) / 64) = false := by simp; omega
          have hm0 : m = 0 := by
            have := HM.out
            have hq := HQ.out
            rw [Bit.ones_back g (by omega)] at this
            omega
          have HM0 := Lib.hid hm0
          have hq := HQ.out
          clear hm0
          by_cases hz : e % 64 = 0
          · have hzd : decide ((0 : Int) < ((e : Nat) : Int) % 64) = false := by simp; omega
            have HZ := Lib.hid hz
            clear hz
            go_wp2_with fail
            go_ret
            have q1 := HZ.out
            have e1 := Bit.ones_add g (show s ≤ 64 * (s / 64) + 64 by omega) (show 64 * (s / 64) + 64 ≤ e by omega)
            have e3 : 64 * (e / 64) = e := by omega
            have e2 := HM.out
            rw [e3] at e2
            refine ⟨int_eq ?_, Ch.refl _ _⟩
            
            rw [e1, HP.out, e2]
            have q0 := HM0.out; omega
          · have hzd : decide ((0 : Int) < ((e : Nat) : Int) % 64) = true := by simp; omega
            have hi8 : (0 : Int) ≤ ((e : Nat) : Int) / 64 := by omega
            have hi9 : ((e : Nat) : Int) / 64 < (nw L : Nat) := by unfold nw; omega
            have hi5 : (((e : Nat) : Int) / 64).toNat = e / 64 := by omega
            have d1 := H6.out (e / 64) (by unfold nw; omega)
            obtain ⟨q, hq⟩ : ∃ q, Bit.ones g (64 * (e / 64)) e = q := ⟨_, rfl⟩
            have hw := Bit.ones_last g e
            rw [hq] at hw
            have HW2 := Lib.hid hw
            have HQ2 := Lib.hid hq
            clear hq hw hz
            go_wp2_with fail
            refine (onesCount_of _ _ (mask_to _ _ (Bit.wd_lt _ _) (by omega)) (Nat.lt_of_le_of_lt Nat.and_le_left (Bit.wd_lt _ _)) q HW2.out _).mono ?_
            rintro r w1 ⟨rfl, rfl, hq64⟩
            go_wp2_with fail
            go_ret
            have e1 := Bit.ones_add g (show s ≤ 64 * (s / 64) + 64 by omega) (show 64 * (s / 64) + 64 ≤ e by omega)
            have e3 := Bit.ones_add g (show 64 * (s / 64) + 64 ≤ 64 * (e / 64) by omega) (show 64 * (e / 64) ≤ e by omega)
            refine ⟨int_eq ?_, Ch.refl _ _⟩
            
            rw [e1, e3, HP.out, HM.out, HQ2.out]
            have q0 := HM0.out; omega
    · go_wp2_with fail
      go_ret
      exact ⟨int_eq (by  rw [Bit.ones_back _ (by omega)]; rfl), Ch.refl _ _⟩
end Go.Proofs.Ytgnhmgnpmbmjcaa
