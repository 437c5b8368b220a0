/- WALKS: FlipRange. -/
import Derived.Test.YtgnhmgnpmbmjcaaWk
namespace Go.Proofs.Ytgnhmgnpmbmjcaa
open Go.RowKit
set_option linter.unusedVariables false
set_option linter.unusedSimpArgs false

theorem all_xor (y : Nat) (h : y < 18446744073709551616) : 18446744073709551615 ^^^ y = 18446744073709551615 - y := by
  apply Nat.eq_of_testBit_eq
  intro k
  rw [Nat.testBit_xor, Bit.compl_test y k h, show 18446744073709551615 = 2 ^ 64 - 1 from rfl, Nat.testBit_two_pow_sub_one]
  by_cases hk : k < 64
  · simp [hk]
  · have : y < 2 ^ k := Nat.lt_of_lt_of_le (show y < 2 ^ 64 from h) (Nat.pow_le_pow_right (by decide) (by omega))
    simp [hk, Nat.testBit_lt_two_pow this]
theorem flip_first (g : Nat → Bool) (s : Nat) : bits BinOp.xor IntKind.u64 ((Bit.wd g (s / 64) : Nat) : Int) (bits BinOp.xor IntKind.u64 IntKind.u64.max (IntKind.u64.wrap (18446744073709551615 * 2 ^ ((s : Int) % 64).toNat))) = ((Bit.wd (preR g s) (s / 64) : Nat) : Int) := by
  have e : ((s : Int) % 64).toNat = s % 64 := by omega
  have hp : 0 < 2 ^ (s % 64) := Nat.pow_pos (by decide)
  have hq := Bit.two_pow_lt64 (s % 64) (by omega)
  rw [e, first_mask _ (by omega), show IntKind.u64.max = ((18446744073709551615 : Nat) : Int) from rfl, u64_xor_nat _ _ (by omega) (high_lt _), all_xor _ (high_lt _), u64_xor_nat _ _ (Bit.wd_lt _ _) (by omega), show 18446744073709551615 - (18446744073709551616 - 2 ^ (s % 64)) = 2 ^ (s % 64) - 1 from by omega, preR_first]
theorem mix_pre (g : Nat → Bool) (s e j : Nat) : Bit.wd (mix j (flipR g s e) (preR g s)) j = Bit.wd (preR g s) j := Bit.wd_congr fun k hk => by unfold mix; rw [if_neg (by omega)]
theorem flip_mid (g : Nat → Bool) (s e j : Nat) (h1 : s / 64 ≤ j) (h2 : j < e / 64) : bits BinOp.xor IntKind.u64 IntKind.u64.max ((Bit.wd (mix j (flipR g s e) (preR g s)) j : Nat) : Int) = ((Bit.wd (flipR g s e) j : Nat) : Int) := by
  rw [mix_pre, show IntKind.u64.max = ((18446744073709551615 : Nat) : Int) from rfl, u64_xor_nat _ _ (by omega) (Bit.wd_lt _ _), all_xor _ (Bit.wd_lt _ _), flipR_mid g s e j h1 h2]
theorem flip_last (g : Nat → Bool) (s e t : Nat) (ht : t = (64 - e % 64) % 64) (h0 : t ≠ 0) (hs : s < e) : bits BinOp.xor IntKind.u64 ((Bit.wd (mix (e / 64) (flipR g s e) (preR g s)) (e / 64) : Nat) : Int) ((18446744073709551615 : Int) / 2 ^ ((t : Int) % 64).toNat) = ((Bit.wd (flipR g s e) (e / 64) : Nat) : Int) := by
  rw [mix_pre, show ((t : Int) % 64).toNat = t from by omega, last_mask t (e % 64) (by omega) (by omega), u64_xor_nat _ _ (Bit.wd_lt _ _) (low_lt _ (by omega)), flipR_last g s e hs]
theorem mix_flipR_start (g : Nat → Bool) (s e : Nat) : mix (s / 64) (flipR g s e) (preR g s) = preR g s := by
  funext k; unfold mix; split
  · exact flipR_below g s e k (by assumption)
  · rfl
theorem mix_flipR_end (g : Nat → Bool) (s e m : Nat) (h : e ≤ 64 * m) (hs : s < e) : mix m (flipR g s e) (preR g s) = flipR g s e := by
  funext k; unfold mix; split
  · rfl
  · rw [flipR_above g s e k (by omega), preR_above g s k (by omega)]

set_option maxRecDepth 100000 in
set_option maxHeartbeats 1000000 in
theorem flipRange_in (b sb L s e : Nat) (g : Nat → Bool) (w : World) (h : BS w b sb L g) (hs : s < e) (he : e ≤ L) (hL : L ≤ 40000) :
    Calls Try.prog 52 #[.pointer (some ⟨b, 0, none⟩), .int .u64 s, .int .u64 e] w fun r w' => r = .returned (.pointer (some ⟨b, 0, none⟩)) ∧ BS w' b sb L (flipR g s e) ∧ Ch (S2 b sb) w w' := by
  have hne := h.ne
  have hne' := Ne.symm hne
  have hi1 : (s : Int) / 64 ≤ (e : Int) / 64 := by omega
  have hi2 : (e : Int) / 64 ≤ (nw L : Nat) := by unfold nw; omega
  obtain ⟨cap, c0, c1, h4, h5, f0, f1, fs, h6⟩ := h.look
  have hoff := h.off
  have hofp : ∀ k, L ≤ k → preR g s k = false := fun k hk => by rw [preR_above _ _ _ (by omega)]; exact hoff k hk
  have hofs : ∀ k, L ≤ k → flipR g s e k = false := fun k hk => by rw [flipR_above _ _ _ _ (by omega)]; exact hoff k hk
  have hnw1 : s / 64 < nw L := by unfold nw; omega
  have hnw2 : e / 64 ≤ nw L := by unfold nw; omega
  have hse : s / 64 ≤ e / 64 := by omega
  have d0 := h6 (s / 64) hnw1
  have e0 := fs (s / 64)
  have hb : (0 : Int) ≤ (s : Int) / 64 := by omega
  have hb' : (s : Int) / 64 < (nw L : Nat) := by omega
  have ht : ((s : Int) / 64).toNat = s / 64 := by omega
  have hst := fun (x : Int) (hx : x = ((Bit.wd (preR g s) (s / 64) : Nat) : Int)) => BS.store (g' := preR g s) h (s / 64) hnw1 hx (fun j hj _ => preR_other g s j hj) hofp
  have HS := Lib.hid hst
  have HO := Lib.hid hofp
  have HO2 := Lib.hid hofs
  clear h fs h6 hoff hofs hofp hst
  go_enter Try.func52, Try.ntmps52
  go_wp2_with fail
  go_still_tail 13, (by kernel_rfl)
  still_call (wordsIndex_any s _ rfl (by omega) _).mono fun _ _ ⟨h1, h2⟩ => ⟨h1, h2.symm⟩
  repeat still_step
  refine wpStill_nil ?_
  go_wp2_with fail
  go_loopw [53] (fun k wr => ∃ m : Nat, m ≤ e / 64 - s / 64 ∧ k = .int .i64 m ∧ BS wr b sb L (mix (s / 64 + m) (flipR g s e) (preR g s)) ∧ Ch (S2 b sb) w wr) (fun k _ => e / 64 - s / 64 - (intOf k).toNat)
  case atStart => exact ⟨0, Nat.zero_le _, rfl, (HS.out _ (by have := flip_first g s; rwa [show ((s : Int) % 64).toNat = s % 64 from by omega] at this)).drew.to (mix_flipR_start g s e).symm, ((Ch.refl _ _).setCell _ (fun _ => Or.inr rfl) _).drew⟩
  case round =>
    obtain ⟨m, hm, rfl, hJ, hC⟩ := hrel
    clear c0 c1 f0 f1 d0 e0
    obtain ⟨cap2, c0, c1, _, _, f0, f1, fs, h6⟩ := hJ.look
    by_cases hlt : m < e / 64 - s / 64
    · have d0 := fs (s / 64 + m)
      have d1 := h6 (s / 64 + m) (by omega)
      have hwr : IntKind.i64.wrap ((s : Int) / 64 + (m : Int)) = (s : Int) / 64 + m := IntWalk.i64_in _ (by omega)
      have hi0 : (0 : Int) ≤ IntKind.i64.wrap ((s : Int) / 64 + (m : Int)) := by rw [hwr]; omega
      have hi3 : IntKind.i64.wrap ((s : Int) / 64 + (m : Int)) < (nw L : Nat) := by rw [hwr]; omega
      have hi4 : (IntKind.i64.wrap ((s : Int) / 64 + (m : Int))).toNat = s / 64 + m := by rw [hwr]; omega
      clear hwr
      have hst := fun (x : Int) (hx : x = ((Bit.wd (flipR g s e) (s / 64 + m) : Nat) : Int)) => (hJ.storeMix (by omega) hx HO2.out HO.out).drew
      have HT := Lib.hid hst
      have HC := Lib.hid hC
      have HM := Lib.hid hm
      clear hst hJ hC fs h6 hm
      go_wp2_with fail
      go_still_tail 18, (by kernel_rfl)
      repeat still_step
      go_wp2_with fail
      go_roundw
      case rel =>
        have q := HM.out
        exact ⟨m + 1, by omega, by go_num, HT.out _ (flip_mid g s e (s / 64 + m) (by omega) (by omega)), (HC.out.setCell _ (fun _ => Or.inr rfl) _).drew⟩
      case measure =>
        have q := HM.out
        simp [intOf]; omega
    · obtain rfl : m = e / 64 - s / 64 := by omega
      have HJ := Lib.hid hJ
      have HC := Lib.hid hC
      have d0 := fs (e / 64)
      have d1 := fun hz => h6 (e / 64) hz
      have D1 := Lib.hid d1
      clear hJ hC fs h6 hlt hm d1
      go_wp2_with fail
      have hw := fun W => wordsIndex_neg e (IntKind.u64.wrap (-(e : Int))) rfl (by omega) W
      obtain ⟨t, ht⟩ : ∃ t, t = (64 - e % 64) % 64 := ⟨_, rfl⟩
      rw [← ht] at hw
      refine (hw _).mono ?_
      rintro r w1 ⟨rfl, rfl⟩
      have HT := Lib.hid ht
      clear hw
      by_cases hz : t = 0
      · have hzz : ((t : Int) == 0) = true := beq_iff_eq.2 (by omega)
        have HZ := Lib.hid hz
        clear hz ht
        go_wp2_with fail
        go_ret
        have q := HT.out
        have q2 := HZ.out
        exact ⟨rfl,  (HJ.out.to (mix_flipR_end g s e _ (by omega) hs)) , HC.out⟩
      · have hzz : ((t : Int) == 0) = false := beq_eq_false_iff_ne.2 (by omega)
        have htl : t < 64 := by omega
        have HZ := Lib.hid hz
        have hen : e / 64 < nw L := by unfold nw; omega
        have d1 := D1.out hen
        have hi0 : (0 : Int) ≤ (e : Int) / 64 := by omega
        have hi3 : (e : Int) / 64 < (nw L : Nat) := by omega
        have hi4 : ((e : Int) / 64).toNat = e / 64 := by omega
        clear hz ht
        go_wp2_with fail
        go_still_tail 12, (by kernel_rfl)
        still_call (wordsIndex_any t _ rfl (by omega) _).mono fun _ _ ⟨h1, h2⟩ => ⟨h1, h2.symm⟩
        repeat still_step
        refine wpStill_nil ?_
        have hst := fun (x : Int) (hx : x = ((Bit.wd (flipR g s e) (e / 64) : Nat) : Int)) => ((HJ.out.to (show mix (s / 64 + (e / 64 - s / 64)) (flipR g s e) (preR g s) = mix (e / 64) (flipR g s e) (preR g s) from by rw [show s / 64 + (e / 64 - s / 64) = e / 64 from by omega])).storeMix hen hx HO2.out HO.out).drew.to (mix_flipR_end g s e _ (by omega) hs)
        have HT2 := Lib.hid hst
        clear hst
        go_wp2_with fail
        go_ret
        have q := HT.out
        exact ⟨rfl,  (HT2.out _ (flip_last g s e t q HZ.out hs)) , (HC.out.setCell _ (fun _ => Or.inr rfl) _).drew⟩

set_option maxRecDepth 100000 in
set_option maxHeartbeats 1000000 in
theorem flipRange_out (b sb L s e : Nat) (g : Nat → Bool) (w : World) (h : BS w b sb L g) (hs : s < e) (hL : L < e) (he : e ≤ 40000) :
    Calls Try.prog 52 #[.pointer (some ⟨b, 0, none⟩), .int .u64 s, .int .u64 e] w fun r w' => r = .returned (.pointer (some ⟨b, 0, none⟩)) ∧ Out w w' b sb e (flipR g s e) := by
  obtain ⟨_, x0, _⟩ := h.look
  have hlt := h.lt
  have H := Lib.hid h
  clear h
  go_enter Try.func52, Try.ntmps52
  go_wp2_with fail
  have hext := (extend_any b sb L (e - 1) g w H.out (by omega) (by omega))
  rw [show ((e - 1 : Nat) : Int) = (e : Int) - 1 from by omega, show e - 1 + 1 = e from by omega] at hext
  refine hext.mono ?_
  rintro r wE ⟨rfl, sb1, h, hsb, hCE⟩
  have HCE := Lib.hid hCE
  clear hext hCE x0
  have hne := h.ne
  have hne' := Ne.symm hne
  have hi1 : (s : Int) / 64 ≤ (e : Int) / 64 := by omega
  have hi2 : (e : Int) / 64 ≤ (nw e : Nat) := by unfold nw; omega
  obtain ⟨cap, c0, c1, h4, h5, f0, f1, fs, h6⟩ := h.look
  have hoff := h.off
  have hofp : ∀ k, e ≤ k → preR g s k = false := fun k hk => by rw [preR_above _ _ _ (by omega)]; exact hoff k hk
  have hofs : ∀ k, e ≤ k → flipR g s e k = false := fun k hk => by rw [flipR_above _ _ _ _ (by omega)]; exact hoff k hk
  have hnw1 : s / 64 < nw e := by unfold nw; omega
  have hnw2 : e / 64 ≤ nw e := by unfold nw; omega
  have hse : s / 64 ≤ e / 64 := by omega
  have d0 := h6 (s / 64) hnw1
  have e0 := fs (s / 64)
  have hb : (0 : Int) ≤ (s : Int) / 64 := by omega
  have hb' : (s : Int) / 64 < (nw e : Nat) := by omega
  have ht : ((s : Int) / 64).toNat = s / 64 := by omega
  have hst := fun (x : Int) (hx : x = ((Bit.wd (preR g s) (s / 64) : Nat) : Int)) => BS.store (g' := preR g s) h (s / 64) hnw1 hx (fun j hj _ => preR_other g s j hj) hofp
  have HS := Lib.hid hst
  have HO := Lib.hid hofp
  have HO2 := Lib.hid hofs
  clear h fs h6 hoff hofs hofp hst
  go_wp2_with fail
  go_still_tail 13, (by kernel_rfl)
  still_call (wordsIndex_any s _ rfl (by omega) _).mono fun _ _ ⟨h1, h2⟩ => ⟨h1, h2.symm⟩
  repeat still_step
  refine wpStill_nil ?_
  go_wp2_with fail
  go_loopw [53] (fun k wr => ∃ m : Nat, m ≤ e / 64 - s / 64 ∧ k = .int .i64 m ∧ BS wr b sb1 e (mix (s / 64 + m) (flipR g s e) (preR g s)) ∧ Ch (S2 b sb) w wr) (fun k _ => e / 64 - s / 64 - (intOf k).toNat)
  case atStart => exact ⟨0, Nat.zero_le _, rfl, (HS.out _ (by have := flip_first g s; rwa [show ((s : Int) % 64).toNat = s % 64 from by omega] at this)).drew.to (mix_flipR_start g s e).symm, (HCE.out.setCell _ (fun h => by rcases hsb with rfl | h2; exact Or.inr rfl; simp at h; omega) _).drew⟩
  case round =>
    obtain ⟨m, hm, rfl, hJ, hC⟩ := hrel
    clear c0 c1 f0 f1 d0 e0
    obtain ⟨cap2, c0, c1, _, _, f0, f1, fs, h6⟩ := hJ.look
    by_cases hlt : m < e / 64 - s / 64
    · have d0 := fs (s / 64 + m)
      have d1 := h6 (s / 64 + m) (by omega)
      have hwr : IntKind.i64.wrap ((s : Int) / 64 + (m : Int)) = (s : Int) / 64 + m := IntWalk.i64_in _ (by omega)
      have hi0 : (0 : Int) ≤ IntKind.i64.wrap ((s : Int) / 64 + (m : Int)) := by rw [hwr]; omega
      have hi3 : IntKind.i64.wrap ((s : Int) / 64 + (m : Int)) < (nw e : Nat) := by rw [hwr]; omega
      have hi4 : (IntKind.i64.wrap ((s : Int) / 64 + (m : Int))).toNat = s / 64 + m := by rw [hwr]; omega
      clear hwr
      have hst := fun (x : Int) (hx : x = ((Bit.wd (flipR g s e) (s / 64 + m) : Nat) : Int)) => (hJ.storeMix (by omega) hx HO2.out HO.out).drew
      have HT := Lib.hid hst
      have HC := Lib.hid hC
      have HM := Lib.hid hm
      clear hst hJ hC fs h6 hm
      go_wp2_with fail
      go_still_tail 18, (by kernel_rfl)
      repeat still_step
      go_wp2_with fail
      go_roundw
      case rel =>
        have q := HM.out
        exact ⟨m + 1, by omega, by go_num, HT.out _ (flip_mid g s e (s / 64 + m) (by omega) (by omega)), (HC.out.setCell _ (fun h => by rcases hsb with rfl | h2; exact Or.inr rfl; simp at h; omega) _).drew⟩
      case measure =>
        have q := HM.out
        simp [intOf]; omega
    · obtain rfl : m = e / 64 - s / 64 := by omega
      have HJ := Lib.hid hJ
      have HC := Lib.hid hC
      have d0 := fs (e / 64)
      have d1 := fun hz => h6 (e / 64) hz
      have D1 := Lib.hid d1
      clear hJ hC fs h6 hlt hm d1
      go_wp2_with fail
      have hw := fun W => wordsIndex_neg e (IntKind.u64.wrap (-(e : Int))) rfl (by omega) W
      obtain ⟨t, ht⟩ : ∃ t, t = (64 - e % 64) % 64 := ⟨_, rfl⟩
      rw [← ht] at hw
      refine (hw _).mono ?_
      rintro r w1 ⟨rfl, rfl⟩
      have HT := Lib.hid ht
      clear hw
      by_cases hz : t = 0
      · have hzz : ((t : Int) == 0) = true := beq_iff_eq.2 (by omega)
        have HZ := Lib.hid hz
        clear hz ht
        go_wp2_with fail
        go_ret
        have q := HT.out
        have q2 := HZ.out
        exact ⟨rfl, sb1,  (HJ.out.to (mix_flipR_end g s e _ (by omega) hs)) , hsb, HC.out⟩
      · have hzz : ((t : Int) == 0) = false := beq_eq_false_iff_ne.2 (by omega)
        have htl : t < 64 := by omega
        have HZ := Lib.hid hz
        have hen : e / 64 < nw e := by unfold nw; omega
        have d1 := D1.out hen
        have hi0 : (0 : Int) ≤ (e : Int) / 64 := by omega
        have hi3 : (e : Int) / 64 < (nw e : Nat) := by omega
        have hi4 : ((e : Int) / 64).toNat = e / 64 := by omega
        clear hz ht
        go_wp2_with fail
        go_still_tail 12, (by kernel_rfl)
        still_call (wordsIndex_any t _ rfl (by omega) _).mono fun _ _ ⟨h1, h2⟩ => ⟨h1, h2.symm⟩
        repeat still_step
        refine wpStill_nil ?_
        have hst := fun (x : Int) (hx : x = ((Bit.wd (flipR g s e) (e / 64) : Nat) : Int)) => ((HJ.out.to (show mix (s / 64 + (e / 64 - s / 64)) (flipR g s e) (preR g s) = mix (e / 64) (flipR g s e) (preR g s) from by rw [show s / 64 + (e / 64 - s / 64) = e / 64 from by omega])).storeMix hen hx HO2.out HO.out).drew.to (mix_flipR_end g s e _ (by omega) hs)
        have HT2 := Lib.hid hst
        clear hst
        go_wp2_with fail
        go_ret
        have q := HT.out
        exact ⟨rfl, sb1,  (HT2.out _ (flip_last g s e t q HZ.out hs)) , hsb, (HC.out.setCell _ (fun h => by rcases hsb with rfl | h2; exact Or.inr rfl; simp at h; omega) _).drew⟩

theorem flipRange_any (b sb L s e : Nat) (g : Nat → Bool) (w : World) (h : BS w b sb L g) (hs : s < e) (hL : L ≤ 40000) (he : e ≤ 40000) (x y : Int) (hx : x = s) (hy : y = e) :
    Calls Try.prog 52 #[.pointer (some ⟨b, 0, none⟩), .int .u64 x, .int .u64 y] w fun r w' => r = .returned (.pointer (some ⟨b, 0, none⟩)) ∧ Out w w' b sb (max L e) (flipR g s e) := by
  subst hx hy
  by_cases hq : e ≤ L
  · refine (flipRange_in b sb L s e g w h hs hq hL).mono ?_
    rintro r w' ⟨h1, h2, h3⟩
    exact ⟨h1, sb, by rw [Nat.max_eq_left hq]; exact h2, Or.inl rfl, h3⟩
  · refine (flipRange_out b sb L s e g w h hs (by omega) he).mono ?_
    rintro r w' ⟨h1, h2⟩
    exact ⟨h1, by rw [Nat.max_eq_right (by omega)]; exact h2⟩

end Go.Proofs.Ytgnhmgnpmbmjcaa
