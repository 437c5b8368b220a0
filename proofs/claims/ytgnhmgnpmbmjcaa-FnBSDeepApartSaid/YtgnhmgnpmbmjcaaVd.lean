/- WALKS: InPlaceUnion, InPlaceSymmetricDifference. -/
import Derived.Test.YtgnhmgnpmbmjcaaVc
namespace Go.Proofs.Ytgnhmgnpmbmjcaa
open Go.RowKit
set_option linter.unusedVariables false
set_option linter.unusedSimpArgs false

set_option maxRecDepth 100000 in
set_option maxHeartbeats 2000000 in
theorem ipUnion_any (b1 s1 b2 s2 L1 L2 : Nat) (g1 g2 : Nat → Bool) (w : World) (h1 : BS w b1 s1 L1 g1) (h2 : BS w b2 s2 L2 g2) (hL : L1 ≤ 40000) (hL2 : L2 ≤ 40000) (hb : b1 ≠ b2) (hs : s1 ≠ s2) (hx : b1 ≠ s2) (hy : s1 ≠ b2) :
    Calls Try.prog 71 #[.pointer (some ⟨b1, 0, none⟩), .pointer (some ⟨b2, 0, none⟩)] w fun e w' => e = .returned (.tuple #[]) ∧ Out w w' b1 s1 (max L1 L2) (fun k => g1 k || g2 k) := by
  have H1 := Lib.hid h1
  have H2 := Lib.hid h2
  have O1 := Lib.hid h1.off
  have O2 := Lib.hid h2.off
  have hne1 := h1.ne
  have hne2 := h2.ne
  have hl1 := h1.lt
  have hl2 := h2.lt
  have hne1' := Ne.symm hne1
  have hb' := Ne.symm hb
  have hs' := Ne.symm hs
  have hx' := Ne.symm hx
  have hy' := Ne.symm hy
  clear h1 h2
  go_enter Try.func71, Try.ntmps71
  go_wp2_with fail
  refine (panicIfNull_any _ _).mono ?_
  rintro r w1 ⟨rfl, rfl⟩
  go_wp2_with fail
  refine (panicIfNull_any _ _).mono ?_
  rintro r w1 ⟨rfl, rfl⟩
  go_wp2_with fail
  refine (wordCount_any b2 s2 L2 g2 _ H2.out (by omega)).mono ?_
  rintro r w1 ⟨rfl, rfl⟩
  go_wp2_with fail
  refine (wordCount_any b1 s1 L1 g1 _ H1.out (by omega)).mono ?_
  rintro r w1 ⟨rfl, rfl⟩
  by_cases hc : nw L1 < nw L2
  · have hcd : decide (nw L1 < nw L2) = true := by simp; omega
    have hLL : L1 < L2 := by unfold nw at hc; omega
    go_wp2_with fail
    refine (wordCount_any b1 s1 L1 g1 _ H1.out (by omega)).mono ?_
    rintro r w1 ⟨rfl, rfl⟩
    have h0' : 0 < L2 := by omega
    have hx1 : decide ((0 : Int) < (L2 : Int)) = true := by simp; omega
    have hx2 : decide ((L1 : Int) ≤ (L2 : Int) - 1) = true := by simp; omega
    obtain ⟨cap1, c0, c1, _, _, f0, f1, _, _⟩ := H1.out.look
    obtain ⟨cap2, k0, k1, _, _, _, _, _, _⟩ := H2.out.look
    go_wp2_with fail
    go_quiet (fail)
    go_wp2_with fail
    have hext := extend_any b1 s1 L1 (L2 - 1) g1 (w.drewN nq) (H1.out.keep (drewN_ch S0 _ _) (fun h => h) (fun h => h)) (by omega) (by omega)
    rw [show ((L2 - 1 : Nat) : Int) = (L2 : Int) - 1 from by omega, show L2 - 1 + 1 = L2 from by omega] at hext
    refine hext.mono ?_
    rintro r wE ⟨rfl, sb1, hBE, hsb0, hCE0⟩
    have hsb : sb1 = s1 ∨ w.heap.size ≤ sb1 := hsb0
    have hsx : s2 ≠ sb1 ∧ b2 ≠ sb1 := by rcases hsb with rfl | h2 <;> omega
    obtain ⟨hsx1, hsx2⟩ := hsx
    have hsx1' := Ne.symm hsx1
    have hsx2' := Ne.symm hsx2
    have hneE := hBE.ne
    have hneE' := Ne.symm hneE
    have hCE : Ch (S2 b1 s1) w wE := (drewN_ch _ _ _).trans hCE0
    have HB := Lib.hid hBE
    have HCE := Lib.hid hCE
    have H2E := Lib.hid (H2.out.keep hCE (fun e => by rcases e with e | e <;> omega) (fun e => by rcases e with e | e <;> omega))
    have hsz := hCE.size
    clear hext hBE hCE hCE0 hsb0 c0 c1 k0 k1 f0 f1
    obtain ⟨cap1, c0, c1, _, _, f0, f1, fs1, h6⟩ := HB.out.look
    obtain ⟨cap2, k0, k1, _, _, _, _, fs2, k6⟩ := H2E.out.look
    by_cases hlz : nw L1 = 0
    · have hlz0 : ¬ 0 < nw L1 := by omega
      have hc2 : 0 < nw L2 := by omega
      have HZ := Lib.hid hlz
      clear fs1 fs2 h6 k6
      go_wp2_with fail
      go_loopw [8] (fun v wr => ∃ m : Nat, nw L1 ≤ m ∧ m ≤ nw L2 ∧ v = .int .i64 m ∧ BS wr b1 sb1 L2 (mix m (fun k => g1 k || g2 k) g1) ∧ Ch (S2 b1 s1) w wr) (fun v _ => nw L2 - (intOf v).toNat)
      case atStart => exact ⟨0, by have := HZ.out; omega, Nat.zero_le _, rfl, by rw [mix_zero]; exact HB.out, HCE.out⟩
      case round =>
        obtain ⟨m, hm1, hm, rfl, hJ, hC⟩ := hrel
        have hJ2 := H2.out.keep hC (fun e => by rcases e with e | e <;> omega) (fun e => by rcases e with e | e <;> omega)
        clear c0 c1 k0 k1 f0 f1
        obtain ⟨cap3, c0, c1, _, _, f0, f1, fs1, h6⟩ := hJ.look
        obtain ⟨cap4, k0, k1, _, _, _, _, fs2, k6⟩ := hJ2.look
        by_cases hlt : m < nw L2
        · have d1 := h6 m (by omega)
          have d2 := k6 m (by omega)
          have e1 := fs1 m
          have u0 : (0 : Int) ≤ (m : Int) := by omega
          have u2 : (m : Int) < (nw L2 : Nat) := by omega
          have HS := Lib.hid fun (x : Int) (hx : x = ((Bit.wd (fun k => g1 k || g2 k) m : Nat) : Int)) => (hJ.storeMix hlt hx (fun k hk => by simp [O1.out k (by omega), O2.out k (by omega)]) (fun k hk => O1.out k (by omega))).drew
          have HC := Lib.hid hC
          clear hJ hJ2 hC fs1 fs2 h6 k6
          go_wp2_with fail
          go_still_tail 13, (by kernel_rfl)
          repeat still_step
          try (refine wpStill_nil ?_)
          go_wp2_with fail
          go_roundw
          case rel => exact ⟨m + 1, by omega, hlt, by go_num, HS.out _ (congrArg (fun n : Nat => (n : Int)) (Bit.wd_congr fun k hk => by simp [O1.out (64 * m + k) (by unfold nw at hm1; omega)])), (HC.out.setCell _ (fun h => by rcases hsb with rfl | h2; exact Or.inr rfl; simp at h; omega) _).drew⟩
          case measure => simp [intOf] <;> omega
        · obtain rfl : m = nw L2 := by omega
          have HF := Lib.hid (hJ.words2 (g' := (fun k => g1 k || g2 k)) (fun j hj => (wd_mix_lt _ _ _ _ hj).symm) (fun k hk => by simp [O1.out k (by omega), O2.out k (by omega)]))
          have HC := Lib.hid hC
          clear hJ hJ2 hC fs1 fs2 h6 k6
          go_wp2_with fail
          go_end0
          exact ⟨rfl, sb1, by rw [Nat.max_eq_right (by omega)]; exact HF.out, hsb, HC.out⟩
    have hl0 : 0 < nw L1 := by omega
    have i0 : (0 : Int) ≤ ((nw L1 : Nat) : Int) - 1 := by omega
    have i1 : (((nw L1 : Nat) : Int) - 1).toNat = nw L1 - 1 := by omega
    have i2 : ((nw L1 : Nat) : Int) - 1 < (nw L2 : Nat) := by omega
    have i3 : ((nw L1 : Nat) : Int) - 1 < (nw L2 : Nat) := by omega
    have d1 := h6 (nw L1 - 1) (by omega)
    have d2 := k6 (nw L1 - 1) (by omega)
    clear fs1 fs2 h6 k6
    go_wp2_with fail
    go_quiet (fail)
    go_wp2_with fail
    clear d1 d2 c0 c1 k0 k1 f0 f1
    · skip
      go_loopw [7] (fun v wr => ∃ m : Nat, m ≤ nw L1 ∧ v = .int .i64 m ∧ BS wr b1 sb1 L2 (mix m (fun k => g1 k || g2 k) g1) ∧ Ch (S2 b1 s1) w wr) (fun v _ => nw L1 - (intOf v).toNat)
      case atStart => exact ⟨0, Nat.zero_le _, rfl, by rw [mix_zero]; first | exact HB.out.keep (drewN_ch S0 _ _) (fun h => h) (fun h => h) | exact H1.out.keep (drewN_ch S0 _ _) (fun h => h) (fun h => h), by first | exact HCE.out.trans (drewN_ch _ _ _) | exact drewN_ch _ _ _⟩
      case round =>
        obtain ⟨m, hm, rfl, hJ, hC⟩ := hrel
        by_cases hlt : m < nw L1
        · have hJ2 := H2.out.keep hC (fun e => by rcases e with e | e <;> omega) (fun e => by rcases e with e | e <;> omega)
          obtain ⟨cap3, c0, c1, _, _, f0, f1, fs1, h6⟩ := hJ.look
          obtain ⟨cap4, k0, k1, _, _, _, _, fs2, k6⟩ := hJ2.look
          have d1 := h6 m (by omega)
          have d2 := k6 m (by omega)
          have e1 := fs1 m
          have u0 : (0 : Int) ≤ (m : Int) := by omega
          have u1 : (m : Int) < (nw L2 : Nat) := by omega
          have u1' : (m : Int) < (nw L1 : Nat) := by omega
          have u2 : (m : Int) < (nw L2 : Nat) := by omega
          have u3 : m < nw L2 := by omega
          have u4 : m < nw L2 := by omega
          have hw : Bit.wd (mix m (fun k => g1 k || g2 k) g1) m = Bit.wd g1 m := Bit.wd_congr fun k hk => by unfold mix; rw [if_neg (by omega)]
          rw [hw] at d1
          have HS := Lib.hid fun (x : Int) (hx : x = ((Bit.wd (fun k => g1 k || g2 k) m : Nat) : Int)) => (hJ.storeMix u3 hx (fun k hk => by simp [O1.out k (by omega), O2.out k (by omega)]) (fun k hk => O1.out k (by omega))).drew
          have HC := Lib.hid hC
          clear hJ hJ2 hC fs1 fs2 h6 k6 hw
          go_wp2_with fail
          go_still_tail 10, (by kernel_rfl)
          repeat still_step
          try (refine wpStill_nil ?_)
          go_wp2_with fail
          go_roundw
          case rel => exact ⟨m + 1, hlt, by go_num, HS.out _ (by rw [u64_or_nat _ _ (Bit.wd_lt _ _) (Bit.wd_lt _ _), Bit.wd_or]), (HC.out.setCell _ (fun h => by rcases hsb with rfl | h2; exact Or.inr rfl; simp at h; omega) _).drew⟩
          case measure => simp [intOf] <;> omega
        · obtain rfl : m = nw L1 := by omega
          have HJ := Lib.hid hJ
          have HC := Lib.hid hC
          have hJ2 := H2.out.keep hC (fun e => by rcases e with e | e <;> omega) (fun e => by rcases e with e | e <;> omega)
          obtain ⟨cap4, k0, k1, _, _, _, _, fs2, k6⟩ := hJ2.look
          obtain ⟨cap3, c0, c1, _, _, _, _, _, _⟩ := hJ.look
          clear hJ hC hJ2 fs2 k6
          go_wp2_with fail
          go_loopw [8] (fun v wr => ∃ m : Nat, nw L1 ≤ m ∧ m ≤ nw L2 ∧ v = .int .i64 m ∧ BS wr b1 sb1 L2 (mix m (fun k => g1 k || g2 k) g1) ∧ Ch (S2 b1 s1) w wr) (fun v _ => nw L2 - (intOf v).toNat)
          case atStart => exact ⟨nw L1, Nat.le_refl _, by omega, rfl, HJ.out, HC.out⟩
          case round =>
            obtain ⟨m, hm1, hm, rfl, hJ, hC⟩ := hrel
            have hJ2 := H2.out.keep hC (fun e => by rcases e with e | e <;> omega) (fun e => by rcases e with e | e <;> omega)
            clear c0 c1 k0 k1 HJ HC
            obtain ⟨cap3, c0, c1, _, _, f0, f1, fs1, h6⟩ := hJ.look
            obtain ⟨cap4, k0, k1, _, _, _, _, fs2, k6⟩ := hJ2.look
            by_cases hlt : m < nw L2
            · have d1 := h6 m (by omega)
              have d2 := k6 m (by omega)
              have e1 := fs1 m
              have u0 : (0 : Int) ≤ (m : Int) := by omega
              have u2 : (m : Int) < (nw L2 : Nat) := by omega
              have HS := Lib.hid fun (x : Int) (hx : x = ((Bit.wd (fun k => g1 k || g2 k) m : Nat) : Int)) => (hJ.storeMix hlt hx (fun k hk => by simp [O1.out k (by omega), O2.out k (by omega)]) (fun k hk => O1.out k (by omega))).drew
              have HC := Lib.hid hC
              clear hJ hJ2 hC fs1 fs2 h6 k6
              go_wp2_with fail
              go_still_tail 13, (by kernel_rfl)
              repeat still_step
              try (refine wpStill_nil ?_)
              go_wp2_with fail
              go_roundw
              case rel => exact ⟨m + 1, by omega, hlt, by go_num, HS.out _ (congrArg (fun n : Nat => (n : Int)) (Bit.wd_congr fun k hk => by simp [O1.out (64 * m + k) (by unfold nw at hm1; omega)])), (HC.out.setCell _ (fun h => by rcases hsb with rfl | h2; exact Or.inr rfl; simp at h; omega) _).drew⟩
              case measure => simp [intOf] <;> omega
            · obtain rfl : m = nw L2 := by omega
              have HF := Lib.hid (hJ.words2 (g' := (fun k => g1 k || g2 k)) (fun j hj => (wd_mix_lt _ _ _ _ hj).symm) (fun k hk => by simp [O1.out k (by omega), O2.out k (by omega)]))
              have HC := Lib.hid hC
              clear hJ hJ2 hC fs1 fs2 h6 k6
              go_wp2_with fail
              go_end0
              exact ⟨rfl, sb1, by rw [Nat.max_eq_right (by omega)]; exact HF.out, hsb, HC.out⟩
  have hcd : decide (nw L1 < nw L2) = false := by simp; omega
  by_cases hLL : L1 < L2
  · have hnn : nw L2 = nw L1 := by unfold nw at *; omega
    have HNN := Lib.hid hnn
    clear hnn
    have h0' : 0 < L2 := by omega
    have hx1 : decide ((0 : Int) < (L2 : Int)) = true := by simp; omega
    have hx2 : decide ((L1 : Int) ≤ (L2 : Int) - 1) = true := by simp; omega
    obtain ⟨cap1, c0, c1, _, _, f0, f1, _, _⟩ := H1.out.look
    obtain ⟨cap2, k0, k1, _, _, _, _, _, _⟩ := H2.out.look
    go_wp2_with fail
    go_quiet (fail)
    go_wp2_with fail
    have hext := extend_any b1 s1 L1 (L2 - 1) g1 (w.drewN nq) (H1.out.keep (drewN_ch S0 _ _) (fun h => h) (fun h => h)) (by omega) (by omega)
    rw [show ((L2 - 1 : Nat) : Int) = (L2 : Int) - 1 from by omega, show L2 - 1 + 1 = L2 from by omega] at hext
    refine hext.mono ?_
    rintro r wE ⟨rfl, sb1, hBE, hsb0, hCE0⟩
    have hsb : sb1 = s1 ∨ w.heap.size ≤ sb1 := hsb0
    have hsx : s2 ≠ sb1 ∧ b2 ≠ sb1 := by rcases hsb with rfl | h2 <;> omega
    obtain ⟨hsx1, hsx2⟩ := hsx
    have hsx1' := Ne.symm hsx1
    have hsx2' := Ne.symm hsx2
    have hneE := hBE.ne
    have hneE' := Ne.symm hneE
    have hCE : Ch (S2 b1 s1) w wE := (drewN_ch _ _ _).trans hCE0
    have HB := Lib.hid hBE
    have HCE := Lib.hid hCE
    have H2E := Lib.hid (H2.out.keep hCE (fun e => by rcases e with e | e <;> omega) (fun e => by rcases e with e | e <;> omega))
    have hsz := hCE.size
    clear hext hBE hCE hCE0 hsb0 c0 c1 k0 k1 f0 f1
    obtain ⟨cap1, c0, c1, _, _, f0, f1, fs1, h6⟩ := HB.out.look
    obtain ⟨cap2, k0, k1, _, _, _, _, fs2, k6⟩ := H2E.out.look
    have hl0 : 0 < nw L2 := by unfold nw; omega
    have i0 : (0 : Int) ≤ ((nw L2 : Nat) : Int) - 1 := by omega
    have i1 : (((nw L2 : Nat) : Int) - 1).toNat = nw L2 - 1 := by omega
    have i2 : ((nw L2 : Nat) : Int) - 1 < (nw L2 : Nat) := by omega
    have i3 : ((nw L2 : Nat) : Int) - 1 < (nw L2 : Nat) := by omega
    have d1 := h6 (nw L2 - 1) (by omega)
    have d2 := k6 (nw L2 - 1) (by omega)
    clear fs1 fs2 h6 k6
    go_wp2_with fail
    go_quiet (fail)
    go_wp2_with fail
    clear d1 d2 c0 c1 k0 k1 f0 f1
    · skip
      go_loopw [7] (fun v wr => ∃ m : Nat, m ≤ nw L2 ∧ v = .int .i64 m ∧ BS wr b1 sb1 L2 (mix m (fun k => g1 k || g2 k) g1) ∧ Ch (S2 b1 s1) w wr) (fun v _ => nw L2 - (intOf v).toNat)
      case atStart => exact ⟨0, Nat.zero_le _, rfl, by rw [mix_zero]; first | exact HB.out.keep (drewN_ch S0 _ _) (fun h => h) (fun h => h) | exact H1.out.keep (drewN_ch S0 _ _) (fun h => h) (fun h => h), by first | exact HCE.out.trans (drewN_ch _ _ _) | exact drewN_ch _ _ _⟩
      case round =>
        obtain ⟨m, hm, rfl, hJ, hC⟩ := hrel
        by_cases hlt : m < nw L2
        · have hJ2 := H2.out.keep hC (fun e => by rcases e with e | e <;> omega) (fun e => by rcases e with e | e <;> omega)
          obtain ⟨cap3, c0, c1, _, _, f0, f1, fs1, h6⟩ := hJ.look
          obtain ⟨cap4, k0, k1, _, _, _, _, fs2, k6⟩ := hJ2.look
          have d1 := h6 m (by omega)
          have d2 := k6 m (by omega)
          have e1 := fs1 m
          have u0 : (0 : Int) ≤ (m : Int) := by omega
          have u1 : (m : Int) < (nw L2 : Nat) := by omega
          have u1' : (m : Int) < (nw L1 : Nat) := by omega
          have u2 : (m : Int) < (nw L2 : Nat) := by omega
          have u3 : m < nw L2 := by omega
          have u4 : m < nw L2 := by omega
          have hw : Bit.wd (mix m (fun k => g1 k || g2 k) g1) m = Bit.wd g1 m := Bit.wd_congr fun k hk => by unfold mix; rw [if_neg (by omega)]
          rw [hw] at d1
          have HS := Lib.hid fun (x : Int) (hx : x = ((Bit.wd (fun k => g1 k || g2 k) m : Nat) : Int)) => (hJ.storeMix u3 hx (fun k hk => by simp [O1.out k (by omega), O2.out k (by omega)]) (fun k hk => O1.out k (by omega))).drew
          have HC := Lib.hid hC
          clear hJ hJ2 hC fs1 fs2 h6 k6 hw
          go_wp2_with fail
          go_still_tail 10, (by kernel_rfl)
          repeat still_step
          try (refine wpStill_nil ?_)
          go_wp2_with fail
          go_roundw
          case rel => exact ⟨m + 1, hlt, by go_num, HS.out _ (by rw [u64_or_nat _ _ (Bit.wd_lt _ _) (Bit.wd_lt _ _), Bit.wd_or]), (HC.out.setCell _ (fun h => by rcases hsb with rfl | h2; exact Or.inr rfl; simp at h; omega) _).drew⟩
          case measure => simp [intOf] <;> omega
        · obtain rfl : m = nw L2 := by omega
          have HF := Lib.hid (hJ.words2 (g' := (fun k => g1 k || g2 k)) (fun j hj => by
            by_cases q : j < nw L2
            · rw [wd_mix_lt _ _ _ _ q]
            · rw [wd_mix_ge _ _ _ _ (by omega)]
              exact Bit.wd_congr fun k hk => by simp [O2.out (64 * j + k) (by unfold nw at q; omega)]) (fun k hk => by simp [O1.out k (by omega), O2.out k (by omega)]))
          have HC := Lib.hid hC
          have hJ2 := H2.out.keep hC (fun e => by rcases e with e | e <;> omega) (fun e => by rcases e with e | e <;> omega)
          obtain ⟨cap4, k0, k1, _, _, _, _, fs2, k6⟩ := hJ2.look
          clear hJ hC hJ2 fs2 k6
          go_wp2_with fail
          go_end0
          exact ⟨rfl, sb1, by rw [Nat.max_eq_right (by omega)]; exact HF.out, hsb, HC.out⟩
  by_cases h0 : L2 = 0
  · have HZ0 := Lib.hid h0
    have h0' : ¬ 0 < L2 := by omega
    clear h0
    have hx1 : decide ((0 : Int) < (L2 : Int)) = false := by simp; omega
    obtain ⟨cap1, c0, c1, _, _, f0, f1, _, _⟩ := H1.out.look
    obtain ⟨cap2, k0, k1, _, _, _, _, _, _⟩ := H2.out.look
    go_wp2_with fail
    go_quiet (fail)
    have hn0' : nw L2 = 0 := by have := HZ0.out; unfold nw; omega
    have hn0 : ¬ 0 < nw L2 := by omega
    have HN0 := Lib.hid hn0'
    clear hn0'
    go_wp2_with fail
    have hn0 := HN0.out
    go_end0
    exact ⟨rfl, s1, by
      rw [Nat.max_eq_left (by omega)]
      exact (H1.out.keep (drewN_ch S0 _ _) (fun h => h) (fun h => h)).words2 (fun j hj => Bit.wd_congr fun k hk => by simp [O2.out (64 * j + k) (by omega)]) (fun k hk => by simp [O1.out k hk, O2.out k (by omega)]), Or.inl rfl, drewN_ch _ _ _⟩
  · have h0' : 0 < L2 := by omega
    have hx1 : decide ((0 : Int) < (L2 : Int)) = true := by simp; omega
    have hx2 : decide ((L1 : Int) ≤ (L2 : Int) - 1) = false := by simp; omega
    obtain ⟨cap1, c0, c1, _, _, f0, f1, _, _⟩ := H1.out.look
    obtain ⟨cap2, k0, k1, _, _, _, _, _, _⟩ := H2.out.look
    go_wp2_with fail
    go_quiet (fail)
    have HB := Lib.hid (H1.out.keep (drewN_ch S0 w nq) (fun h => h) (fun h => h))
    have HCE : Hid (Ch (S2 b1 s1) w (w.drewN nq)) := Lib.hid (drewN_ch _ _ _)
    obtain ⟨_, _, _, _, _, _, _, fs1, h6⟩ := H1.out.look
    obtain ⟨_, _, _, _, _, _, _, fs2, k6⟩ := H2.out.look
    have hl0 : 0 < nw L2 := by unfold nw; omega
    have i0 : (0 : Int) ≤ ((nw L2 : Nat) : Int) - 1 := by omega
    have i1 : (((nw L2 : Nat) : Int) - 1).toNat = nw L2 - 1 := by omega
    have i2 : ((nw L2 : Nat) : Int) - 1 < (nw L1 : Nat) := by unfold nw; omega
    have i3 : ((nw L2 : Nat) : Int) - 1 < (nw L2 : Nat) := by omega
    have d1 := h6 (nw L2 - 1) (by unfold nw; omega)
    have d2 := k6 (nw L2 - 1) (by omega)
    clear fs1 fs2 h6 k6
    go_wp2_with fail
    go_quiet (fail)
    go_wp2_with fail
    clear d1 d2 c0 c1 k0 k1 f0 f1
    · skip
      go_loopw [7] (fun v wr => ∃ m : Nat, m ≤ nw L2 ∧ v = .int .i64 m ∧ BS wr b1 s1 L1 (mix m (fun k => g1 k || g2 k) g1) ∧ Ch (S2 b1 s1) w wr) (fun v _ => nw L2 - (intOf v).toNat)
      case atStart => exact ⟨0, Nat.zero_le _, rfl, by rw [mix_zero]; first | exact HB.out.keep (drewN_ch S0 _ _) (fun h => h) (fun h => h) | exact H1.out.keep (drewN_ch S0 _ _) (fun h => h) (fun h => h), by first | exact HCE.out.trans (drewN_ch _ _ _) | exact drewN_ch _ _ _⟩
      case round =>
        obtain ⟨m, hm, rfl, hJ, hC⟩ := hrel
        by_cases hlt : m < nw L2
        · have hJ2 := H2.out.keep hC (fun e => by rcases e with e | e <;> omega) (fun e => by rcases e with e | e <;> omega)
          obtain ⟨cap3, c0, c1, _, _, f0, f1, fs1, h6⟩ := hJ.look
          obtain ⟨cap4, k0, k1, _, _, _, _, fs2, k6⟩ := hJ2.look
          have d1 := h6 m (by omega)
          have d2 := k6 m (by omega)
          have e1 := fs1 m
          have u0 : (0 : Int) ≤ (m : Int) := by omega
          have u1 : (m : Int) < (nw L1 : Nat) := by omega
          have u1' : (m : Int) < (nw L1 : Nat) := by omega
          have u2 : (m : Int) < (nw L2 : Nat) := by omega
          have u3 : m < nw L1 := by omega
          have u4 : m < nw L2 := by omega
          have hw : Bit.wd (mix m (fun k => g1 k || g2 k) g1) m = Bit.wd g1 m := Bit.wd_congr fun k hk => by unfold mix; rw [if_neg (by omega)]
          rw [hw] at d1
          have HS := Lib.hid fun (x : Int) (hx : x = ((Bit.wd (fun k => g1 k || g2 k) m : Nat) : Int)) => (hJ.storeMix u3 hx (fun k hk => by simp [O1.out k (by omega), O2.out k (by omega)]) (fun k hk => O1.out k (by omega))).drew
          have HC := Lib.hid hC
          clear hJ hJ2 hC fs1 fs2 h6 k6 hw
          go_wp2_with fail
          go_still_tail 10, (by kernel_rfl)
          repeat still_step
          try (refine wpStill_nil ?_)
          go_wp2_with fail
          go_roundw
          case rel => exact ⟨m + 1, hlt, by go_num, HS.out _ (by rw [u64_or_nat _ _ (Bit.wd_lt _ _) (Bit.wd_lt _ _), Bit.wd_or]), (HC.out.setCell _ (fun _ => Or.inr rfl) _).drew⟩
          case measure => simp [intOf] <;> omega
        · obtain rfl : m = nw L2 := by omega
          have HF := Lib.hid (hJ.words2 (g' := (fun k => g1 k || g2 k)) (fun j hj => by
            by_cases q : j < nw L2
            · rw [wd_mix_lt _ _ _ _ q]
            · rw [wd_mix_ge _ _ _ _ (by omega)]
              exact Bit.wd_congr fun k hk => by simp [O2.out (64 * j + k) (by unfold nw at q; omega)]) (fun k hk => by simp [O1.out k (by omega), O2.out k (by omega)]))
          have HC := Lib.hid hC
          have hJ2 := H2.out.keep hC (fun e => by rcases e with e | e <;> omega) (fun e => by rcases e with e | e <;> omega)
          obtain ⟨cap4, k0, k1, _, _, _, _, fs2, k6⟩ := hJ2.look
          clear hJ hC hJ2 fs2 k6
          go_wp2_with fail
          go_end0
          exact ⟨rfl, s1, by rw [Nat.max_eq_left (by omega)]; exact HF.out, Or.inl rfl, HC.out⟩

set_option maxRecDepth 100000 in
set_option maxHeartbeats 2000000 in
theorem ipSym_any (b1 s1 b2 s2 L1 L2 : Nat) (g1 g2 : Nat → Bool) (w : World) (h1 : BS w b1 s1 L1 g1) (h2 : BS w b2 s2 L2 g2) (hL : L1 ≤ 40000) (hL2 : L2 ≤ 40000) (hb : b1 ≠ b2) (hs : s1 ≠ s2) (hx : b1 ≠ s2) (hy : s1 ≠ b2) :
    Calls Try.prog 73 #[.pointer (some ⟨b1, 0, none⟩), .pointer (some ⟨b2, 0, none⟩)] w fun e w' => e = .returned (.tuple #[]) ∧ Out w w' b1 s1 (max L1 L2) (fun k => g1 k ^^ g2 k) := by
  have H1 := Lib.hid h1
  have H2 := Lib.hid h2
  have O1 := Lib.hid h1.off
  have O2 := Lib.hid h2.off
  have hne1 := h1.ne
  have hne2 := h2.ne
  have hl1 := h1.lt
  have hl2 := h2.lt
  have hne1' := Ne.symm hne1
  have hb' := Ne.symm hb
  have hs' := Ne.symm hs
  have hx' := Ne.symm hx
  have hy' := Ne.symm hy
  clear h1 h2
  go_enter Try.func73, Try.ntmps73
  go_wp2_with fail
  refine (panicIfNull_any _ _).mono ?_
  rintro r w1 ⟨rfl, rfl⟩
  go_wp2_with fail
  refine (panicIfNull_any _ _).mono ?_
  rintro r w1 ⟨rfl, rfl⟩
  go_wp2_with fail
  refine (wordCount_any b2 s2 L2 g2 _ H2.out (by omega)).mono ?_
  rintro r w1 ⟨rfl, rfl⟩
  go_wp2_with fail
  refine (wordCount_any b1 s1 L1 g1 _ H1.out (by omega)).mono ?_
  rintro r w1 ⟨rfl, rfl⟩
  by_cases hc : nw L1 < nw L2
  · have hcd : decide (nw L1 < nw L2) = true := by simp; omega
    have hLL : L1 < L2 := by unfold nw at hc; omega
    go_wp2_with fail
    refine (wordCount_any b1 s1 L1 g1 _ H1.out (by omega)).mono ?_
    rintro r w1 ⟨rfl, rfl⟩
    have h0' : 0 < L2 := by omega
    have hx1 : decide ((0 : Int) < (L2 : Int)) = true := by simp; omega
    have hx2 : decide ((L1 : Int) ≤ (L2 : Int) - 1) = true := by simp; omega
    obtain ⟨cap1, c0, c1, _, _, f0, f1, _, _⟩ := H1.out.look
    obtain ⟨cap2, k0, k1, _, _, _, _, _, _⟩ := H2.out.look
    go_wp2_with fail
    go_quiet (fail)
    go_wp2_with fail
    have hext := extend_any b1 s1 L1 (L2 - 1) g1 (w.drewN nq) (H1.out.keep (drewN_ch S0 _ _) (fun h => h) (fun h => h)) (by omega) (by omega)
    rw [show ((L2 - 1 : Nat) : Int) = (L2 : Int) - 1 from by omega, show L2 - 1 + 1 = L2 from by omega] at hext
    refine hext.mono ?_
    rintro r wE ⟨rfl, sb1, hBE, hsb0, hCE0⟩
    have hsb : sb1 = s1 ∨ w.heap.size ≤ sb1 := hsb0
    have hsx : s2 ≠ sb1 ∧ b2 ≠ sb1 := by rcases hsb with rfl | h2 <;> omega
    obtain ⟨hsx1, hsx2⟩ := hsx
    have hsx1' := Ne.symm hsx1
    have hsx2' := Ne.symm hsx2
    have hneE := hBE.ne
    have hneE' := Ne.symm hneE
    have hCE : Ch (S2 b1 s1) w wE := (drewN_ch _ _ _).trans hCE0
    have HB := Lib.hid hBE
    have HCE := Lib.hid hCE
    have H2E := Lib.hid (H2.out.keep hCE (fun e => by rcases e with e | e <;> omega) (fun e => by rcases e with e | e <;> omega))
    have hsz := hCE.size
    clear hext hBE hCE hCE0 hsb0 c0 c1 k0 k1 f0 f1
    obtain ⟨cap1, c0, c1, _, _, f0, f1, fs1, h6⟩ := HB.out.look
    obtain ⟨cap2, k0, k1, _, _, _, _, fs2, k6⟩ := H2E.out.look
    by_cases hlz : nw L1 = 0
    · have hlz0 : ¬ 0 < nw L1 := by omega
      have hc2 : 0 < nw L2 := by omega
      have HZ := Lib.hid hlz
      clear fs1 fs2 h6 k6
      go_wp2_with fail
      go_loopw [8] (fun v wr => ∃ m : Nat, nw L1 ≤ m ∧ m ≤ nw L2 ∧ v = .int .i64 m ∧ BS wr b1 sb1 L2 (mix m (fun k => g1 k ^^ g2 k) g1) ∧ Ch (S2 b1 s1) w wr) (fun v _ => nw L2 - (intOf v).toNat)
      case atStart => exact ⟨0, by have := HZ.out; omega, Nat.zero_le _, rfl, by rw [mix_zero]; exact HB.out, HCE.out⟩
      case round =>
        obtain ⟨m, hm1, hm, rfl, hJ, hC⟩ := hrel
        have hJ2 := H2.out.keep hC (fun e => by rcases e with e | e <;> omega) (fun e => by rcases e with e | e <;> omega)
        clear c0 c1 k0 k1 f0 f1
        obtain ⟨cap3, c0, c1, _, _, f0, f1, fs1, h6⟩ := hJ.look
        obtain ⟨cap4, k0, k1, _, _, _, _, fs2, k6⟩ := hJ2.look
        by_cases hlt : m < nw L2
        · have d1 := h6 m (by omega)
          have d2 := k6 m (by omega)
          have e1 := fs1 m
          have u0 : (0 : Int) ≤ (m : Int) := by omega
          have u2 : (m : Int) < (nw L2 : Nat) := by omega
          have HS := Lib.hid fun (x : Int) (hx : x = ((Bit.wd (fun k => g1 k ^^ g2 k) m : Nat) : Int)) => (hJ.storeMix hlt hx (fun k hk => by simp [O1.out k (by omega), O2.out k (by omega)]) (fun k hk => O1.out k (by omega))).drew
          have HC := Lib.hid hC
          clear hJ hJ2 hC fs1 fs2 h6 k6
          go_wp2_with fail
          go_still_tail 13, (by kernel_rfl)
          repeat still_step
          try (refine wpStill_nil ?_)
          go_wp2_with fail
          go_roundw
          case rel => exact ⟨m + 1, by omega, hlt, by go_num, HS.out _ (congrArg (fun n : Nat => (n : Int)) (Bit.wd_congr fun k hk => by simp [O1.out (64 * m + k) (by unfold nw at hm1; omega)])), (HC.out.setCell _ (fun h => by rcases hsb with rfl | h2; exact Or.inr rfl; simp at h; omega) _).drew⟩
          case measure => simp [intOf] <;> omega
        · obtain rfl : m = nw L2 := by omega
          have HF := Lib.hid (hJ.words2 (g' := (fun k => g1 k ^^ g2 k)) (fun j hj => (wd_mix_lt _ _ _ _ hj).symm) (fun k hk => by simp [O1.out k (by omega), O2.out k (by omega)]))
          have HC := Lib.hid hC
          clear hJ hJ2 hC fs1 fs2 h6 k6
          go_wp2_with fail
          go_end0
          exact ⟨rfl, sb1, by rw [Nat.max_eq_right (by omega)]; exact HF.out, hsb, HC.out⟩
    have hl0 : 0 < nw L1 := by omega
    have i0 : (0 : Int) ≤ ((nw L1 : Nat) : Int) - 1 := by omega
    have i1 : (((nw L1 : Nat) : Int) - 1).toNat = nw L1 - 1 := by omega
    have i2 : ((nw L1 : Nat) : Int) - 1 < (nw L2 : Nat) := by omega
    have i3 : ((nw L1 : Nat) : Int) - 1 < (nw L2 : Nat) := by omega
    have d1 := h6 (nw L1 - 1) (by omega)
    have d2 := k6 (nw L1 - 1) (by omega)
    clear fs1 fs2 h6 k6
    go_wp2_with fail
    go_quiet (fail)
    go_wp2_with fail
    clear d1 d2 c0 c1 k0 k1 f0 f1
    · skip
      go_loopw [7] (fun v wr => ∃ m : Nat, m ≤ nw L1 ∧ v = .int .i64 m ∧ BS wr b1 sb1 L2 (mix m (fun k => g1 k ^^ g2 k) g1) ∧ Ch (S2 b1 s1) w wr) (fun v _ => nw L1 - (intOf v).toNat)
      case atStart => exact ⟨0, Nat.zero_le _, rfl, by rw [mix_zero]; first | exact HB.out.keep (drewN_ch S0 _ _) (fun h => h) (fun h => h) | exact H1.out.keep (drewN_ch S0 _ _) (fun h => h) (fun h => h), by first | exact HCE.out.trans (drewN_ch _ _ _) | exact drewN_ch _ _ _⟩
      case round =>
        obtain ⟨m, hm, rfl, hJ, hC⟩ := hrel
        by_cases hlt : m < nw L1
        · have hJ2 := H2.out.keep hC (fun e => by rcases e with e | e <;> omega) (fun e => by rcases e with e | e <;> omega)
          obtain ⟨cap3, c0, c1, _, _, f0, f1, fs1, h6⟩ := hJ.look
          obtain ⟨cap4, k0, k1, _, _, _, _, fs2, k6⟩ := hJ2.look
          have d1 := h6 m (by omega)
          have d2 := k6 m (by omega)
          have e1 := fs1 m
          have u0 : (0 : Int) ≤ (m : Int) := by omega
          have u1 : (m : Int) < (nw L2 : Nat) := by omega
          have u1' : (m : Int) < (nw L1 : Nat) := by omega
          have u2 : (m : Int) < (nw L2 : Nat) := by omega
          have u3 : m < nw L2 := by omega
          have u4 : m < nw L2 := by omega
          have hw : Bit.wd (mix m (fun k => g1 k ^^ g2 k) g1) m = Bit.wd g1 m := Bit.wd_congr fun k hk => by unfold mix; rw [if_neg (by omega)]
          rw [hw] at d1
          have HS := Lib.hid fun (x : Int) (hx : x = ((Bit.wd (fun k => g1 k ^^ g2 k) m : Nat) : Int)) => (hJ.storeMix u3 hx (fun k hk => by simp [O1.out k (by omega), O2.out k (by omega)]) (fun k hk => O1.out k (by omega))).drew
          have HC := Lib.hid hC
          clear hJ hJ2 hC fs1 fs2 h6 k6 hw
          go_wp2_with fail
          go_still_tail 10, (by kernel_rfl)
          repeat still_step
          try (refine wpStill_nil ?_)
          go_wp2_with fail
          go_roundw
          case rel => exact ⟨m + 1, hlt, by go_num, HS.out _ (by rw [u64_xor_nat _ _ (Bit.wd_lt _ _) (Bit.wd_lt _ _), Bit.wd_xor]), (HC.out.setCell _ (fun h => by rcases hsb with rfl | h2; exact Or.inr rfl; simp at h; omega) _).drew⟩
          case measure => simp [intOf] <;> omega
        · obtain rfl : m = nw L1 := by omega
          have HJ := Lib.hid hJ
          have HC := Lib.hid hC
          have hJ2 := H2.out.keep hC (fun e => by rcases e with e | e <;> omega) (fun e => by rcases e with e | e <;> omega)
          obtain ⟨cap4, k0, k1, _, _, _, _, fs2, k6⟩ := hJ2.look
          obtain ⟨cap3, c0, c1, _, _, _, _, _, _⟩ := hJ.look
          clear hJ hC hJ2 fs2 k6
          go_wp2_with fail
          go_loopw [8] (fun v wr => ∃ m : Nat, nw L1 ≤ m ∧ m ≤ nw L2 ∧ v = .int .i64 m ∧ BS wr b1 sb1 L2 (mix m (fun k => g1 k ^^ g2 k) g1) ∧ Ch (S2 b1 s1) w wr) (fun v _ => nw L2 - (intOf v).toNat)
          case atStart => exact ⟨nw L1, Nat.le_refl _, by omega, rfl, HJ.out, HC.out⟩
          case round =>
            obtain ⟨m, hm1, hm, rfl, hJ, hC⟩ := hrel
            have hJ2 := H2.out.keep hC (fun e => by rcases e with e | e <;> omega) (fun e => by rcases e with e | e <;> omega)
            clear c0 c1 k0 k1 HJ HC
            obtain ⟨cap3, c0, c1, _, _, f0, f1, fs1, h6⟩ := hJ.look
            obtain ⟨cap4, k0, k1, _, _, _, _, fs2, k6⟩ := hJ2.look
            by_cases hlt : m < nw L2
            · have d1 := h6 m (by omega)
              have d2 := k6 m (by omega)
              have e1 := fs1 m
              have u0 : (0 : Int) ≤ (m : Int) := by omega
              have u2 : (m : Int) < (nw L2 : Nat) := by omega
              have HS := Lib.hid fun (x : Int) (hx : x = ((Bit.wd (fun k => g1 k ^^ g2 k) m : Nat) : Int)) => (hJ.storeMix hlt hx (fun k hk => by simp [O1.out k (by omega), O2.out k (by omega)]) (fun k hk => O1.out k (by omega))).drew
              have HC := Lib.hid hC
              clear hJ hJ2 hC fs1 fs2 h6 k6
              go_wp2_with fail
              go_still_tail 13, (by kernel_rfl)
              repeat still_step
              try (refine wpStill_nil ?_)
              go_wp2_with fail
              go_roundw
              case rel => exact ⟨m + 1, by omega, hlt, by go_num, HS.out _ (congrArg (fun n : Nat => (n : Int)) (Bit.wd_congr fun k hk => by simp [O1.out (64 * m + k) (by unfold nw at hm1; omega)])), (HC.out.setCell _ (fun h => by rcases hsb with rfl | h2; exact Or.inr rfl; simp at h; omega) _).drew⟩
              case measure => simp [intOf] <;> omega
            · obtain rfl : m = nw L2 := by omega
              have HF := Lib.hid (hJ.words2 (g' := (fun k => g1 k ^^ g2 k)) (fun j hj => (wd_mix_lt _ _ _ _ hj).symm) (fun k hk => by simp [O1.out k (by omega), O2.out k (by omega)]))
              have HC := Lib.hid hC
              clear hJ hJ2 hC fs1 fs2 h6 k6
              go_wp2_with fail
              go_end0
              exact ⟨rfl, sb1, by rw [Nat.max_eq_right (by omega)]; exact HF.out, hsb, HC.out⟩
  have hcd : decide (nw L1 < nw L2) = false := by simp; omega
  by_cases hLL : L1 < L2
  · have hnn : nw L2 = nw L1 := by unfold nw at *; omega
    have HNN := Lib.hid hnn
    clear hnn
    have h0' : 0 < L2 := by omega
    have hx1 : decide ((0 : Int) < (L2 : Int)) = true := by simp; omega
    have hx2 : decide ((L1 : Int) ≤ (L2 : Int) - 1) = true := by simp; omega
    obtain ⟨cap1, c0, c1, _, _, f0, f1, _, _⟩ := H1.out.look
    obtain ⟨cap2, k0, k1, _, _, _, _, _, _⟩ := H2.out.look
    go_wp2_with fail
    go_quiet (fail)
    go_wp2_with fail
    have hext := extend_any b1 s1 L1 (L2 - 1) g1 (w.drewN nq) (H1.out.keep (drewN_ch S0 _ _) (fun h => h) (fun h => h)) (by omega) (by omega)
    rw [show ((L2 - 1 : Nat) : Int) = (L2 : Int) - 1 from by omega, show L2 - 1 + 1 = L2 from by omega] at hext
    refine hext.mono ?_
    rintro r wE ⟨rfl, sb1, hBE, hsb0, hCE0⟩
    have hsb : sb1 = s1 ∨ w.heap.size ≤ sb1 := hsb0
    have hsx : s2 ≠ sb1 ∧ b2 ≠ sb1 := by rcases hsb with rfl | h2 <;> omega
    obtain ⟨hsx1, hsx2⟩ := hsx
    have hsx1' := Ne.symm hsx1
    have hsx2' := Ne.symm hsx2
    have hneE := hBE.ne
    have hneE' := Ne.symm hneE
    have hCE : Ch (S2 b1 s1) w wE := (drewN_ch _ _ _).trans hCE0
    have HB := Lib.hid hBE
    have HCE := Lib.hid hCE
    have H2E := Lib.hid (H2.out.keep hCE (fun e => by rcases e with e | e <;> omega) (fun e => by rcases e with e | e <;> omega))
    have hsz := hCE.size
    clear hext hBE hCE hCE0 hsb0 c0 c1 k0 k1 f0 f1
    obtain ⟨cap1, c0, c1, _, _, f0, f1, fs1, h6⟩ := HB.out.look
    obtain ⟨cap2, k0, k1, _, _, _, _, fs2, k6⟩ := H2E.out.look
    have hl0 : 0 < nw L2 := by unfold nw; omega
    have i0 : (0 : Int) ≤ ((nw L2 : Nat) : Int) - 1 := by omega
    have i1 : (((nw L2 : Nat) : Int) - 1).toNat = nw L2 - 1 := by omega
    have i2 : ((nw L2 : Nat) : Int) - 1 < (nw L2 : Nat) := by omega
    have i3 : ((nw L2 : Nat) : Int) - 1 < (nw L2 : Nat) := by omega
    have d1 := h6 (nw L2 - 1) (by omega)
    have d2 := k6 (nw L2 - 1) (by omega)
    clear fs1 fs2 h6 k6
    go_wp2_with fail
    go_quiet (fail)
    go_wp2_with fail
    clear d1 d2 c0 c1 k0 k1 f0 f1
    · skip
      go_loopw [7] (fun v wr => ∃ m : Nat, m ≤ nw L2 ∧ v = .int .i64 m ∧ BS wr b1 sb1 L2 (mix m (fun k => g1 k ^^ g2 k) g1) ∧ Ch (S2 b1 s1) w wr) (fun v _ => nw L2 - (intOf v).toNat)
      case atStart => exact ⟨0, Nat.zero_le _, rfl, by rw [mix_zero]; first | exact HB.out.keep (drewN_ch S0 _ _) (fun h => h) (fun h => h) | exact H1.out.keep (drewN_ch S0 _ _) (fun h => h) (fun h => h), by first | exact HCE.out.trans (drewN_ch _ _ _) | exact drewN_ch _ _ _⟩
      case round =>
        obtain ⟨m, hm, rfl, hJ, hC⟩ := hrel
        by_cases hlt : m < nw L2
        · have hJ2 := H2.out.keep hC (fun e => by rcases e with e | e <;> omega) (fun e => by rcases e with e | e <;> omega)
          obtain ⟨cap3, c0, c1, _, _, f0, f1, fs1, h6⟩ := hJ.look
          obtain ⟨cap4, k0, k1, _, _, _, _, fs2, k6⟩ := hJ2.look
          have d1 := h6 m (by omega)
          have d2 := k6 m (by omega)
          have e1 := fs1 m
          have u0 : (0 : Int) ≤ (m : Int) := by omega
          have u1 : (m : Int) < (nw L2 : Nat) := by omega
          have u1' : (m : Int) < (nw L1 : Nat) := by omega
          have u2 : (m : Int) < (nw L2 : Nat) := by omega
          have u3 : m < nw L2 := by omega
          have u4 : m < nw L2 := by omega
          have hw : Bit.wd (mix m (fun k => g1 k ^^ g2 k) g1) m = Bit.wd g1 m := Bit.wd_congr fun k hk => by unfold mix; rw [if_neg (by omega)]
          rw [hw] at d1
          have HS := Lib.hid fun (x : Int) (hx : x = ((Bit.wd (fun k => g1 k ^^ g2 k) m : Nat) : Int)) => (hJ.storeMix u3 hx (fun k hk => by simp [O1.out k (by omega), O2.out k (by omega)]) (fun k hk => O1.out k (by omega))).drew
          have HC := Lib.hid hC
          clear hJ hJ2 hC fs1 fs2 h6 k6 hw
          go_wp2_with fail
          go_still_tail 10, (by kernel_rfl)
          repeat still_step
          try (refine wpStill_nil ?_)
          go_wp2_with fail
          go_roundw
          case rel => exact ⟨m + 1, hlt, by go_num, HS.out _ (by rw [u64_xor_nat _ _ (Bit.wd_lt _ _) (Bit.wd_lt _ _), Bit.wd_xor]), (HC.out.setCell _ (fun h => by rcases hsb with rfl | h2; exact Or.inr rfl; simp at h; omega) _).drew⟩
          case measure => simp [intOf] <;> omega
        · obtain rfl : m = nw L2 := by omega
          have HF := Lib.hid (hJ.words2 (g' := (fun k => g1 k ^^ g2 k)) (fun j hj => by
            by_cases q : j < nw L2
            · rw [wd_mix_lt _ _ _ _ q]
            · rw [wd_mix_ge _ _ _ _ (by omega)]
              exact Bit.wd_congr fun k hk => by simp [O2.out (64 * j + k) (by unfold nw at q; omega)]) (fun k hk => by simp [O1.out k (by omega), O2.out k (by omega)]))
          have HC := Lib.hid hC
          have hJ2 := H2.out.keep hC (fun e => by rcases e with e | e <;> omega) (fun e => by rcases e with e | e <;> omega)
          obtain ⟨cap4, k0, k1, _, _, _, _, fs2, k6⟩ := hJ2.look
          clear hJ hC hJ2 fs2 k6
          go_wp2_with fail
          go_end0
          exact ⟨rfl, sb1, by rw [Nat.max_eq_right (by omega)]; exact HF.out, hsb, HC.out⟩
  by_cases h0 : L2 = 0
  · have HZ0 := Lib.hid h0
    have h0' : ¬ 0 < L2 := by omega
    clear h0
    have hx1 : decide ((0 : Int) < (L2 : Int)) = false := by simp; omega
    obtain ⟨cap1, c0, c1, _, _, f0, f1, _, _⟩ := H1.out.look
    obtain ⟨cap2, k0, k1, _, _, _, _, _, _⟩ := H2.out.look
    go_wp2_with fail
    go_quiet (fail)
    have hn0' : nw L2 = 0 := by have := HZ0.out; unfold nw; omega
    have hn0 : ¬ 0 < nw L2 := by omega
    have HN0 := Lib.hid hn0'
    clear hn0'
    go_wp2_with fail
    have hn0 := HN0.out
    go_end0
    exact ⟨rfl, s1, by
      rw [Nat.max_eq_left (by omega)]
      exact (H1.out.keep (drewN_ch S0 _ _) (fun h => h) (fun h => h)).words2 (fun j hj => Bit.wd_congr fun k hk => by simp [O2.out (64 * j + k) (by omega)]) (fun k hk => by simp [O1.out k hk, O2.out k (by omega)]), Or.inl rfl, drewN_ch _ _ _⟩
  · have h0' : 0 < L2 := by omega
    have hx1 : decide ((0 : Int) < (L2 : Int)) = true := by simp; omega
    have hx2 : decide ((L1 : Int) ≤ (L2 : Int) - 1) = false := by simp; omega
    obtain ⟨cap1, c0, c1, _, _, f0, f1, _, _⟩ := H1.out.look
    obtain ⟨cap2, k0, k1, _, _, _, _, _, _⟩ := H2.out.look
    go_wp2_with fail
    go_quiet (fail)
    have HB := Lib.hid (H1.out.keep (drewN_ch S0 w nq) (fun h => h) (fun h => h))
    have HCE : Hid (Ch (S2 b1 s1) w (w.drewN nq)) := Lib.hid (drewN_ch _ _ _)
    obtain ⟨_, _, _, _, _, _, _, fs1, h6⟩ := H1.out.look
    obtain ⟨_, _, _, _, _, _, _, fs2, k6⟩ := H2.out.look
    have hl0 : 0 < nw L2 := by unfold nw; omega
    have i0 : (0 : Int) ≤ ((nw L2 : Nat) : Int) - 1 := by omega
    have i1 : (((nw L2 : Nat) : Int) - 1).toNat = nw L2 - 1 := by omega
    have i2 : ((nw L2 : Nat) : Int) - 1 < (nw L1 : Nat) := by unfold nw; omega
    have i3 : ((nw L2 : Nat) : Int) - 1 < (nw L2 : Nat) := by omega
    have d1 := h6 (nw L2 - 1) (by unfold nw; omega)
    have d2 := k6 (nw L2 - 1) (by omega)
    clear fs1 fs2 h6 k6
    go_wp2_with fail
    go_quiet (fail)
    go_wp2_with fail
    clear d1 d2 c0 c1 k0 k1 f0 f1
    · skip
      go_loopw [7] (fun v wr => ∃ m : Nat, m ≤ nw L2 ∧ v = .int .i64 m ∧ BS wr b1 s1 L1 (mix m (fun k => g1 k ^^ g2 k) g1) ∧ Ch (S2 b1 s1) w wr) (fun v _ => nw L2 - (intOf v).toNat)
      case atStart => exact ⟨0, Nat.zero_le _, rfl, by rw [mix_zero]; first | exact HB.out.keep (drewN_ch S0 _ _) (fun h => h) (fun h => h) | exact H1.out.keep (drewN_ch S0 _ _) (fun h => h) (fun h => h), by first | exact HCE.out.trans (drewN_ch _ _ _) | exact drewN_ch _ _ _⟩
      case round =>
        obtain ⟨m, hm, rfl, hJ, hC⟩ := hrel
        by_cases hlt : m < nw L2
        · have hJ2 := H2.out.keep hC (fun e => by rcases e with e | e <;> omega) (fun e => by rcases e with e | e <;> omega)
          obtain ⟨cap3, c0, c1, _, _, f0, f1, fs1, h6⟩ := hJ.look
          obtain ⟨cap4, k0, k1, _, _, _, _, fs2, k6⟩ := hJ2.look
          have d1 := h6 m (by omega)
          have d2 := k6 m (by omega)
          have e1 := fs1 m
          have u0 : (0 : Int) ≤ (m : Int) := by omega
          have u1 : (m : Int) < (nw L1 : Nat) := by omega
          have u1' : (m : Int) < (nw L1 : Nat) := by omega
          have u2 : (m : Int) < (nw L2 : Nat) := by omega
          have u3 : m < nw L1 := by omega
          have u4 : m < nw L2 := by omega
          have hw : Bit.wd (mix m (fun k => g1 k ^^ g2 k) g1) m = Bit.wd g1 m := Bit.wd_congr fun k hk => by unfold mix; rw [if_neg (by omega)]
          rw [hw] at d1
          have HS := Lib.hid fun (x : Int) (hx : x = ((Bit.wd (fun k => g1 k ^^ g2 k) m : Nat) : Int)) => (hJ.storeMix u3 hx (fun k hk => by simp [O1.out k (by omega), O2.out k (by omega)]) (fun k hk => O1.out k (by omega))).drew
          have HC := Lib.hid hC
          clear hJ hJ2 hC fs1 fs2 h6 k6 hw
          go_wp2_with fail
          go_still_tail 10, (by kernel_rfl)
          repeat still_step
          try (refine wpStill_nil ?_)
          go_wp2_with fail
          go_roundw
          case rel => exact ⟨m + 1, hlt, by go_num, HS.out _ (by rw [u64_xor_nat _ _ (Bit.wd_lt _ _) (Bit.wd_lt _ _), Bit.wd_xor]), (HC.out.setCell _ (fun _ => Or.inr rfl) _).drew⟩
          case measure => simp [intOf] <;> omega
        · obtain rfl : m = nw L2 := by omega
          have HF := Lib.hid (hJ.words2 (g' := (fun k => g1 k ^^ g2 k)) (fun j hj => by
            by_cases q : j < nw L2
            · rw [wd_mix_lt _ _ _ _ q]
            · rw [wd_mix_ge _ _ _ _ (by omega)]
              exact Bit.wd_congr fun k hk => by simp [O2.out (64 * j + k) (by unfold nw at q; omega)]) (fun k hk => by simp [O1.out k (by omega), O2.out k (by omega)]))
          have HC := Lib.hid hC
          have hJ2 := H2.out.keep hC (fun e => by rcases e with e | e <;> omega) (fun e => by rcases e with e | e <;> omega)
          obtain ⟨cap4, k0, k1, _, _, _, _, fs2, k6⟩ := hJ2.look
          clear hJ hC hJ2 fs2 k6
          go_wp2_with fail
          go_end0
          exact ⟨rfl, s1, by rw [Nat.max_eq_left (by omega)]; exact HF.out, Or.inl rfl, HC.out⟩

end Go.Proofs.Ytgnhmgnpmbmjcaa
