/- WALKS: ClearAll, SetAll. -/
import Derived.Test.YtgnhmgnpmbmjcaaWz
namespace Go.Proofs.Ytgnhmgnpmbmjcaa
open Go.RowKit
set_option linter.unusedVariables false
set_option linter.unusedSimpArgs false
set_option maxRecDepth 100000 in
set_option maxHeartbeats 1000000 in
theorem clearAll_any (b sb L : Nat) (g : Nat → Bool) (w : World) (h : BS w b sb L g) (hL : L ≤ 40000) :
    Calls Try.prog 68 #[.pointer (some ⟨b, 0, none⟩)] w fun e w' => e = .returned (.pointer (some ⟨b, 0, none⟩)) ∧ BS w' b sb L (fun _ => false) ∧ Ch (S2 b sb) w w' := by
  have hne := h.ne
  have hne' := Ne.symm hne
  have hoff := h.off
  obtain ⟨cap, c0, c1, h4, h5, f0, f1, fs, h6⟩ := h.look
  have H := Lib.hid h
  have HO := Lib.hid hoff
  clear h fs h6 hoff
  go_enter Try.func68, Try.ntmps68
  go_wp2_with fail
  go_loopw [18] (fun v wr => ∃ m : Nat, m ≤ nw L ∧ v = .int .i64 m ∧ BS wr b sb L (mix m (fun _ => false) g) ∧ Ch (S2 b sb) w wr) (fun v _ => nw L - (intOf v).toNat)
  case atStart => exact ⟨0, Nat.zero_le _, rfl, by rw [mix_zero]; exact H.out, Ch.refl _ _⟩
  case round =>
    obtain ⟨m, hm, rfl, hJ, hC⟩ := hrel
    clear c0 c1 f0 f1
    by_cases hlt : m < nw L
    · obtain ⟨cap2, c0, c1, _, _, f0, f1, fs, h6⟩ := hJ.look
      have d0 := h6 m hlt
      have e0 := fs m
      have i0 : (m : Int) < (nw L : Nat) := by omega
      have hst := fun (x : Int) (hx : x = ((Bit.wd (fun _ => false) m : Nat) : Int)) => hJ.storeMix hlt hx (fun _ _ => rfl) HO.out
      have HS := Lib.hid hst
      have HC := Lib.hid hC
      clear hst hJ hC fs h6
      go_wp2_with fail
      go_roundw
      case rel => exact ⟨m + 1, hlt, by go_num, HS.out _ (by rw [Bit.wd_zero fun _ _ => rfl]; rfl), HC.out.setCell _ (fun _ => Or.inr rfl) _⟩
      case measure => simp [intOf] <;> omega
    · obtain rfl : m = nw L := by omega
      have HF := Lib.hid (hJ.to (show mix (nw L) (fun _ => false) g = fun _ => false from by
        funext k; unfold mix; split
        · rfl
        · exact HO.out k (by unfold nw at *; omega)))
      have HC := Lib.hid hC
      clear hJ hC
      go_wp2_with fail
      go_ret
      exact ⟨rfl, HF.out, HC.out⟩
theorem Mv.lim0 {w : World} {b sb db L' n0 cap M capd lim lim' : Nat} {g f : Nat → Bool} (h : Mv w b sb db L' n0 cap M capd g f lim) (hl : lim' ≤ lim) : Mv w b sb db L' n0 cap M capd g f lim' := by
  obtain ⟨h1, h2, hb, ⟨S, k1, k2⟩, hd⟩ := h
  exact ⟨h1, h2, hb, ⟨S, k1, fun j hj => k2 j (by omega)⟩, hd⟩
theorem Mv.bs {w : World} {b sb L cap lim : Nat} {g f : Nat → Bool} (h : Mv w b sb sb L (nw L) cap (nw L) cap g f lim) (hc : nw L ≤ cap) (hc2 : cap ≤ 100000) (hoff : ∀ k, L ≤ k → f k = false) : BS w b sb L f := by
  obtain ⟨h1, h2, hb, _, C, k3, k4, k5⟩ := h
  exact ⟨h1, hoff, cap, C, hb, k3, k4, hc, hc2, k5⟩
theorem clean_val (L e : Nat) (hz : ¬ L % 64 = 0) (he : e = 64 - L % 64) : bits BinOp.and IntKind.u64 ((Bit.wd (fun _ => true) (nw L - 1) : Nat) : Int) (18446744073709551615 / 2 ^ e) = ((Bit.wd (fun k => decide (k < L)) (nw L - 1) : Nat) : Int) := by
  rw [last_mask e (L % 64) (by omega) (by omega), u64_and_nat _ _ (Bit.wd_lt _ _) (low_lt _ (by omega)), Bit.wd_low (nw L - 1) (L % 64) (by omega), Bit.wd_and]
  refine congrArg (fun n : Nat => (n : Int)) (Bit.wd_congr fun k hk => ?_)
  rw [Bool.true_and, Bool.eq_iff_iff]
  simp only [decide_eq_true_eq]
  unfold nw
  omega
theorem isExact_any (b L : Nat) (w : World) (h : w.cell? ⟨b, 0, none⟩ = some (.int .u64 (L : Nat))) (hL : L ≤ 40000) :
    Calls Try.prog 91 #[.pointer (some ⟨b, 0, none⟩)] w fun e w' => e = .returned (.bool (L % 64 == 0)) ∧ w = w' := by
  go_enter Try.func91, Try.ntmps91
  go_wp2_with fail
  refine (wordsIndex_any L _ rfl (by omega) _).mono ?_
  rintro r w1 ⟨rfl, rfl⟩
  have e : (((L % 64 : Nat) : Int) == 0) = (L % 64 == 0) := by rw [Bool.eq_iff_iff]; simp; omega
  go_wp2_with fail
  go_ret
  refine ⟨?_, rfl⟩
  rw [← e]
  rfl
set_option maxRecDepth 100000 in
set_option maxHeartbeats 1000000 in
theorem clean_any (b sb L cap : Nat) (g : Nat → Bool) (w : World) (h : Mv w b sb sb L (nw L) cap (nw L) cap g (fun _ => true) 0) (h4 : nw L ≤ cap) (hL : L ≤ 40000) :
    Calls Try.prog 87 #[.pointer (some ⟨b, 0, none⟩)] w fun e w' => e = .returned (.tuple #[]) ∧ Mv w' b sb sb L (nw L) cap (nw L) cap g (fun k => decide (k < L)) 0 ∧ Ch (S2 b sb) w w' := by
  obtain ⟨c0, c1, f0, f1, _, dd, fd⟩ := h.look
  have H := Lib.hid h
  have DD := Lib.hid dd
  have FD := Lib.hid fd
  clear h dd fd
  go_enter Try.func87, Try.ntmps87
  go_wp2_with fail
  refine (isExact_any b L _ c0 hL).mono ?_
  rintro r w1 ⟨rfl, rfl⟩
  by_cases hz : L % 64 = 0
  · have hzd : (L % 64 == 0) = true := beq_iff_eq.2 hz
    rw [hzd]
    have HF := Lib.hid (H.out.to (f' := fun k => decide (k < L)) (fun j hj => Bit.wd_congr fun k hk => by simp; unfold nw at hj; omega))
    clear hzd hz
    go_wp2_with fail
    go_end0
    exact ⟨rfl, HF.out, Ch.refl _ _⟩
  · have hzd : (L % 64 == 0) = false := beq_eq_false_iff_ne.2 hz
    rw [hzd]
    have hn : 0 < nw L := by unfold nw; omega
    have d0 := DD.out (nw L - 1) (by omega)
    have e0 := FD.out (nw L - 1)
    have hwr : IntKind.i64.wrap ((nw L : Int) - 1) = (nw L : Int) - 1 := IntWalk.i64_in _ (by unfold nw; omega)
    have i0 : (0 : Int) ≤ IntKind.i64.wrap ((nw L : Int) - 1) := by rw [hwr]; omega
    have i1 : (IntKind.i64.wrap ((nw L : Int) - 1)).toNat = nw L - 1 := by rw [hwr]; omega
    have i2 : IntKind.i64.wrap ((nw L : Int) - 1) < (nw L : Nat) := by rw [hwr]; omega
    have HZ := Lib.hid hz
    clear hzd hz hwr
    have HS := Lib.hid fun (x : Int) (hx : x = ((Bit.wd (fun k => decide (k < L)) (nw L - 1) : Nat) : Int)) => H.out.store (f' := fun k => decide (k < L)) (lim' := 0) (nw L - 1) (by omega) h4 hx (fun j hj hj2 => Bit.wd_congr fun k hk => by simp; unfold nw at hj hj2; omega) (Nat.zero_le _) (Nat.zero_le _)
    go_wp2_with fail
    go_still_tail 21, (by kernel_rfl)
    repeat (first | still_step | (still_call (wordsIndex_any L _ rfl (by omega) _).mono fun _ _ ⟨h1, h2⟩ => ⟨h1, h2.symm⟩))
    try (refine wpStill_nil ?_)
    go_wp2_with fail
    go_end0
    exact ⟨rfl, (HS.out _ (by first | exact clean_val L _ HZ.out rfl | exact clean_val L _ HZ.out (by omega) | exact clean_val L _ HZ.out (by rw [IntKind.wrap_u64]; omega))).drew, ((Ch.refl _ _).setCell _ (fun _ => Or.inr rfl) _).drew⟩
set_option maxRecDepth 100000 in
set_option maxHeartbeats 1000000 in
theorem setAll_any (b sb L : Nat) (g : Nat → Bool) (w : World) (h : BS w b sb L g) (hL : L ≤ 40000) :
    Calls Try.prog 69 #[.pointer (some ⟨b, 0, none⟩)] w fun e w' => e = .returned (.pointer (some ⟨b, 0, none⟩)) ∧ BS w' b sb L (fun k => decide (k < L)) ∧ Ch (S2 b sb) w w' := by
  have hne := h.ne
  have hne' := Ne.symm hne
  have hoff := h.off
  obtain ⟨cap, c0, c1, h4, h5, f0, f1, fs, h6⟩ := h.look
  have H := Lib.hid h
  have HO := Lib.hid hoff
  clear h fs h6 hoff
  have HM := Lib.hid (H.out.mvIn c1)
  go_enter Try.func69, Try.ntmps69
  go_wp2_with fail
  go_loopw [18] (fun v wr => ∃ m : Nat, m ≤ nw L ∧ v = .int .i64 m ∧ Mv wr b sb sb L (nw L) cap (nw L) cap g (mix m (fun _ => true) g) 0 ∧ Ch (S2 b sb) w wr) (fun v _ => nw L - (intOf v).toNat)
  case atStart => exact ⟨0, Nat.zero_le _, rfl, by rw [mix_zero]; exact HM.out.lim0 (Nat.zero_le _), Ch.refl _ _⟩
  case round =>
    obtain ⟨m, hm, rfl, hJ, hC⟩ := hrel
    clear c0 c1 f0 f1
    by_cases hlt : m < nw L
    · obtain ⟨c0, c1, f0, f1, _, dd, fd⟩ := hJ.look
      have d0 := dd m hlt
      have e0 := fd m
      have i0 : (m : Int) < (nw L : Nat) := by omega
      have HS := Lib.hid fun (x : Int) (hx : x = ((Bit.wd (mix (m + 1) (fun _ => true) g) m : Nat) : Int)) => hJ.store (lim' := 0) m hlt h4 hx (fun j hj _ => wd_mix_other m j _ _ hj) (Nat.zero_le _) (Nat.zero_le _)
      have HC := Lib.hid hC
      clear hJ hC dd fd
      go_wp2_with fail
      go_roundw
      case rel => exact ⟨m + 1, hlt, by go_num, HS.out _ (by rw [wd_mix_at, ← Bit.wd_all m]; rfl), HC.out.setCell _ (fun _ => Or.inr rfl) _⟩
      case measure => simp [intOf] <;> omega
    · obtain rfl : m = nw L := by omega
      have HJ := Lib.hid (hJ.to (f' := fun _ => true) (fun j hj => wd_mix_lt _ _ _ _ hj))
      have HC := Lib.hid hC
      clear hJ hC
      go_wp2_with fail
      refine (clean_any b sb L cap g _ HJ.out h4 hL).mono ?_
      rintro r w1 ⟨rfl, hM2, hC2⟩
      have HF := Lib.hid (hM2.bs h4 h5 (fun k hk => by simp; omega))
      have HC2 := Lib.hid (HC.out.trans hC2)
      clear hM2 hC2
      go_wp2_with fail
      go_ret
      exact ⟨rfl, HF.out, HC2.out⟩
theorem BS.words2 {w : World} {b sb L : Nat} {g g' : Nat → Bool} (h : BS w b sb L g) (e : ∀ j, j < nw L → Bit.wd g' j = Bit.wd g j) (hoff : ∀ k, L ≤ k → g' k = false) : BS w b sb L g' := by
  obtain ⟨hne, _, cap, C, h1, h2, h3, h4, h5, h6⟩ := h
  exact ⟨hne, hoff, cap, C, h1, h2, h3, h4, h5, fun j hj => by rw [e j hj]; exact h6 j hj⟩
set_option maxRecDepth 100000 in
set_option maxHeartbeats 2000000 in
theorem ipDiff_any (b1 s1 b2 s2 L1 L2 : Nat) (g1 g2 : Nat → Bool) (w : World) (h1 : BS w b1 s1 L1 g1) (h2 : BS w b2 s2 L2 g2) (hL : L1 ≤ 40000) (hL2 : L2 ≤ 40000) (hb : b1 ≠ b2) (hs : s1 ≠ s2) (hx : b1 ≠ s2) (hy : s1 ≠ b2) :
    Calls Try.prog 72 #[.pointer (some ⟨b1, 0, none⟩), .pointer (some ⟨b2, 0, none⟩)] w fun e w' => e = .returned (.tuple #[]) ∧ BS w' b1 s1 L1 (fun k => g1 k && !g2 k) ∧ Ch (S2 b1 s1) w w' := by
  have H1 := Lib.hid h1
  have H2 := Lib.hid h2
  have O1 := Lib.hid h1.off
  have O2 := Lib.hid h2.off
  have hne1 := h1.ne
  have hne2 := h2.ne
  have hne1' := Ne.symm hne1
  have hb' := Ne.symm hb
  have hs' := Ne.symm hs
  have hx' := Ne.symm hx
  have hy' := Ne.symm hy
  clear h1 h2
  go_enter Try.func72, Try.ntmps72
  go_wp2_with fail
  refine (panicIfNull_any _ _).mono ?_
  rintro r w1 ⟨rfl, rfl⟩
  go_wp2_with fail
  refine (panicIfNull_any _ _).mono ?_
  rintro r w1 ⟨rfl, rfl⟩
  go_wp2_with fail
  refine (wordCount_any b2 s2 L2 g2 _ H2.out (by omega)).mono ?_
  rintro r w1 ⟨rfl, rfl⟩
  go_wp2_with fail
  refine (wordCount_any b1 s1 L1 g1 _ H1.out (by omega)).mono ?_
  rintro r w1 ⟨rfl, rfl⟩
  by_cases hc : nw L1 < nw L2
  · have hcd : decide (nw L1 < nw L2) = true := by simp; omega
    go_wp2_with fail
    refine (wordCount_any b1 s1 L1 g1 _ H1.out (by omega)).mono ?_
    rintro r w1 ⟨rfl, rfl⟩
    have dw : ∀ j, j < nw L1 → nw L1 ≤ j → Bit.wd (fun k => g1 k && !g2 k) j = Bit.wd g1 j := fun j hj hl => Bit.wd_congr fun k hk => by
      omega
    have DW := Lib.hid dw
    clear dw
    by_cases hz : nw L1 = 0
    · go_wp2_with fail
      refine bodyPost_ret (results_none rfl _ _ _) rfl ⟨rfl, H1.out.words2 (fun j hj => DW.out j hj (by omega)) (fun k hk => by simp [O1.out k hk]), Ch.refl _ _⟩
    · have hl0 : ¬ ((nw L1 : Nat) : Int) ≤ 0 := by omega
      have i0 : (0 : Int) ≤ ((nw L1 : Nat) : Int) - 1 := by omega
      have i1 : (((nw L1 : Nat) : Int) - 1).toNat = nw L1 - 1 := by omega
      have i2 : ((nw L1 : Nat) : Int) - 1 < (nw L1 : Nat) := by omega
      have i3 : ((nw L1 : Nat) : Int) - 1 < (nw L2 : Nat) := by omega
      obtain ⟨cap1, c0, c1, _, _, f0, f1, fs1, h6⟩ := H1.out.look
      obtain ⟨cap2, k0, k1, _, _, _, _, fs2, k6⟩ := H2.out.look
      have d1 := h6 (nw L1 - 1) (by omega)
      have d2 := k6 (nw L1 - 1) (by omega)
      clear fs1 fs2 h6 k6
      go_wp2_with fail
      go_quiet (fail)
      go_wp2_with fail
      clear d1 d2 c0 c1 k0 k1 f0 f1
      go_loopw [7] (fun v wr => ∃ m : Nat, m ≤ nw L1 ∧ v = .int .i64 m ∧ BS wr b1 s1 L1 (mix m (fun k => g1 k && !g2 k) g1) ∧ Ch (S2 b1 s1) w wr) (fun v _ => nw L1 - (intOf v).toNat)
      case atStart => exact ⟨0, Nat.zero_le _, rfl, by rw [mix_zero]; exact H1.out.keep (drewN_ch S0 _ _) (fun h => h) (fun h => h), drewN_ch _ _ _⟩
      case round =>
        obtain ⟨m, hm, rfl, hJ, hC⟩ := hrel
        by_cases hlt : m < nw L1
        · have hJ2 := H2.out.keep hC (fun e => by rcases e with e | e <;> omega) (fun e => by rcases e with e | e <;> omega)
          obtain ⟨cap3, c0, c1, _, _, f0, f1, fs1, h6⟩ := hJ.look
          obtain ⟨cap4, k0, k1, _, _, _, _, fs2, k6⟩ := hJ2.look
          have d1 := h6 m (by omega)
          have d2 := k6 m (by omega)
          have e1 := fs1 m
          have u0 : (0 : Int) ≤ (m : Int) := by omega
          have u1 : (m : Int) < (nw L1 : Nat) := by omega
          have u2 : (m : Int) < (nw L2 : Nat) := by omega
          have u3 : m < nw L1 := by omega
          have u4 : m < nw L2 := by omega
          have hw : Bit.wd (mix m (fun k => g1 k && !g2 k) g1) m = Bit.wd g1 m := Bit.wd_congr fun k hk => by unfold mix; rw [if_neg (by omega)]
          rw [hw] at d1
          have HS := Lib.hid fun (x : Int) (hx : x = ((Bit.wd (fun k => g1 k && !g2 k) m : Nat) : Int)) => (hJ.storeMix u3 hx (fun k hk => by simp [O1.out k hk]) O1.out).drew
          have HC := Lib.hid hC
          clear hJ hJ2 hC fs1 fs2 h6 k6 hw
          go_wp2_with fail
          go_still_tail 10, (by kernel_rfl)
          repeat still_step
          try (refine wpStill_nil ?_)
          go_wp2_with fail
          go_roundw
          case rel => exact ⟨m + 1, hlt, by go_num, HS.out _ (by rw [u64_andNot_nat _ _ (Bit.wd_lt _ _) (Bit.wd_lt _ _), Bit.wd_andNot]), (HC.out.setCell _ (fun _ => Or.inr rfl) _).drew⟩
          case measure => simp [intOf] <;> omega
        · obtain rfl : m = nw L1 := by omega
          have HF := Lib.hid (hJ.words2 (g' := (fun k => g1 k && !g2 k)) (fun j hj => by
            by_cases q : j < nw L1
            · rw [wd_mix_lt _ _ _ _ q]
            · rw [wd_mix_ge _ _ _ _ (by omega), DW.out j hj (by omega)]) (fun k hk => by simp [O1.out k hk]))
          have HC := Lib.hid hC
          clear hJ hC
          go_wp2_with fail
          go_end0
          exact ⟨rfl, HF.out, HC.out⟩
  · have hcd : decide (nw L1 < nw L2) = false := by simp; omega
    have dw : ∀ j, j < nw L1 → nw L2 ≤ j → Bit.wd (fun k => g1 k && !g2 k) j = Bit.wd g1 j := fun j hj hl => Bit.wd_congr fun k hk => by
      have := O2.out (64 * j + k) (by unfold nw at hl; omega); simp [this]
    have DW := Lib.hid dw
    clear dw
    by_cases hz : nw L2 = 0
    · go_wp2_with fail
      refine bodyPost_ret (results_none rfl _ _ _) rfl ⟨rfl, H1.out.words2 (fun j hj => DW.out j hj (by omega)) (fun k hk => by simp [O1.out k hk]), Ch.refl _ _⟩
    · have hl0 : ¬ ((nw L2 : Nat) : Int) ≤ 0 := by omega
      have i0 : (0 : Int) ≤ ((nw L2 : Nat) : Int) - 1 := by omega
      have i1 : (((nw L2 : Nat) : Int) - 1).toNat = nw L2 - 1 := by omega
      have i2 : ((nw L2 : Nat) : Int) - 1 < (nw L1 : Nat) := by omega
      have i3 : ((nw L2 : Nat) : Int) - 1 < (nw L2 : Nat) := by omega
      obtain ⟨cap1, c0, c1, _, _, f0, f1, fs1, h6⟩ := H1.out.look
      obtain ⟨cap2, k0, k1, _, _, _, _, fs2, k6⟩ := H2.out.look
      have d1 := h6 (nw L2 - 1) (by omega)
      have d2 := k6 (nw L2 - 1) (by omega)
      clear fs1 fs2 h6 k6
      go_wp2_with fail
      go_quiet (fail)
      go_wp2_with fail
      clear d1 d2 c0 c1 k0 k1 f0 f1
      go_loopw [7] (fun v wr => ∃ m : Nat, m ≤ nw L2 ∧ v = .int .i64 m ∧ BS wr b1 s1 L1 (mix m (fun k => g1 k && !g2 k) g1) ∧ Ch (S2 b1 s1) w wr) (fun v _ => nw L2 - (intOf v).toNat)
      case atStart => exact ⟨0, Nat.zero_le _, rfl, by rw [mix_zero]; exact H1.out.keep (drewN_ch S0 _ _) (fun h => h) (fun h => h), drewN_ch _ _ _⟩
      case round =>
        obtain ⟨m, hm, rfl, hJ, hC⟩ := hrel
        by_cases hlt : m < nw L2
        · have hJ2 := H2.out.keep hC (fun e => by rcases e with e | e <;> omega) (fun e => by rcases e with e | e <;> omega)
          obtain ⟨cap3, c0, c1, _, _, f0, f1, fs1, h6⟩ := hJ.look
          obtain ⟨cap4, k0, k1, _, _, _, _, fs2, k6⟩ := hJ2.look
          have d1 := h6 m (by omega)
          have d2 := k6 m (by omega)
          have e1 := fs1 m
          have u0 : (0 : Int) ≤ (m : Int) := by omega
          have u1 : (m : Int) < (nw L1 : Nat) := by omega
          have u2 : (m : Int) < (nw L2 : Nat) := by omega
          have u3 : m < nw L1 := by omega
          have u4 : m < nw L2 := by omega
          have hw : Bit.wd (mix m (fun k => g1 k && !g2 k) g1) m = Bit.wd g1 m := Bit.wd_congr fun k hk => by unfold mix; rw [if_neg (by omega)]
          rw [hw] at d1
          have HS := Lib.hid fun (x : Int) (hx : x = ((Bit.wd (fun k => g1 k && !g2 k) m : Nat) : Int)) => (hJ.storeMix u3 hx (fun k hk => by simp [O1.out k hk]) O1.out).drew
          have HC := Lib.hid hC
          clear hJ hJ2 hC fs1 fs2 h6 k6 hw
          go_wp2_with fail
          go_still_tail 10, (by kernel_rfl)
          repeat still_step
          try (refine wpStill_nil ?_)
          go_wp2_with fail
          go_roundw
          case rel => exact ⟨m + 1, hlt, by go_num, HS.out _ (by rw [u64_andNot_nat _ _ (Bit.wd_lt _ _) (Bit.wd_lt _ _), Bit.wd_andNot]), (HC.out.setCell _ (fun _ => Or.inr rfl) _).drew⟩
          case measure => simp [intOf] <;> omega
        · obtain rfl : m = nw L2 := by omega
          have HF := Lib.hid (hJ.words2 (g' := (fun k => g1 k && !g2 k)) (fun j hj => by
            by_cases q : j < nw L2
            · rw [wd_mix_lt _ _ _ _ q]
            · rw [wd_mix_ge _ _ _ _ (by omega), DW.out j hj (by omega)]) (fun k hk => by simp [O1.out k hk]))
          have HC := Lib.hid hC
          clear hJ hC
          go_wp2_with fail
          go_end0
          exact ⟨rfl, HF.out, HC.out⟩
end Go.Proofs.Ytgnhmgnpmbmjcaa
