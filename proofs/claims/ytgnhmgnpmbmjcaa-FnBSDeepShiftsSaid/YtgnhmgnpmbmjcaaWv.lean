/- WALKS: ShiftLeft. -/
import Derived.Test.YtgnhmgnpmbmjcaaWu
import Derived.Handy
namespace Go.Proofs.Ytgnhmgnpmbmjcaa
open Go.RowKit
set_option linter.unusedVariables false
set_option linter.unusedSimpArgs false
theorem mix_all (m : Nat) (f g : Nat → Bool) : mix m f (mix m g f) = f := by
  funext k; unfold mix; split
  · rfl
  · rfl
theorem mix_down (q P j : Nat) {f g : Nat → Bool} (h : j ≠ q + P) : Bit.wd (mix (q + P) f g) j = Bit.wd (mix (q + 1 + P) f g) j := by
  by_cases q1 : j < q + P
  · rw [wd_mix_lt _ _ _ _ q1, wd_mix_lt _ _ _ _ (by omega)]
  · rw [wd_mix_ge _ _ _ _ (by omega), wd_mix_ge _ _ _ _ (by omega)]
theorem Mv.new {w : World} {b sb L' n0 cap M capd lim : Nat} {g f : Nat → Bool} (h : Mv w b sb sb L' n0 cap M capd g f lim) (N : Nat) {db : Nat} (hd : db = w.heap.size) : Mv (w.alloc (.cells (Array.replicate N (.int .u64 0)) 38)) b sb db L' n0 cap N N g (fun _ => false) lim := by
  obtain ⟨h1, h2, hb, ⟨S, k1, k2⟩, C, k3, k4, k5⟩ := h
  have hl := hb.lt
  subst hd
  refine ⟨h1, by omega, hb.alloc _, ⟨S, k1.alloc _, k2⟩, _, Blk.new _ _ _, by simp, fun j hj => ?_⟩
  rw [Bit.wd_zero (fun _ _ => rfl)]
  simp [hj]
theorem Mv.lim {w : World} {b sb db L' n0 cap M capd lim lim' : Nat} {g f : Nat → Bool} (h : Mv w b sb db L' n0 cap M capd g f lim) (hl : lim' ≤ lim) : Mv w b sb db L' n0 cap M capd g f lim' := by
  obtain ⟨h1, h2, hb, ⟨S, k1, k2⟩, hd⟩ := h
  exact ⟨h1, h2, hb, ⟨S, k1, fun j hj => k2 j (by omega)⟩, hd⟩
theorem pow_int (n : Nat) : (2 : Int) ^ n = ((2 ^ n : Nat) : Int) := (Int.natCast_pow 2 n).symm
theorem shl_val0 (g : Nat → Bool) (n : Nat) : IntKind.u64.wrap (((Bit.wd g 0 : Nat) : Int) * 2 ^ (n % 64)) = ((Bit.wd (shR g n) (0 + n / 64) : Nat) : Int) := by
  rw [Nat.zero_add, ← shR_wd0, pow_int, ← Int.natCast_mul, IntKind.wrap_u64]; rfl
theorem shl_over (g : Nat → Bool) (n j : Nat) (hs : ¬ n % 64 = 0) (h : Bit.wd g (j + 1) = 0) : ((Bit.wd g j : Nat) : Int) / 2 ^ (64 - n % 64) = ((Bit.wd (shR g n) (j + n / 64 + 1) : Nat) : Int) := by
  rw [show j + n / 64 + 1 = j + 1 + n / 64 from by omega, ← shR_wdTop g n j hs h, pow_int]; rfl
theorem shl_val (g : Nat → Bool) (n q : Nat) (hq : 0 < q) (hs : ¬ n % 64 = 0) : bits BinOp.or IntKind.u64 (IntKind.u64.wrap (((Bit.wd g q : Nat) : Int) * 2 ^ (n % 64))) (((Bit.wd g (q - 1) : Nat) : Int) / 2 ^ (64 - n % 64)) = ((Bit.wd (shR g n) (q + n / 64) : Nat) : Int) := by
  obtain ⟨j, rfl⟩ : ∃ j, q = j + 1 := ⟨q - 1, by omega⟩
  have e3 : IntKind.u64.wrap (((Bit.wd g (j + 1) : Nat) : Int) * 2 ^ (n % 64)) = ((Bit.wd g (j + 1) * 2 ^ (n % 64) % 18446744073709551616 : Nat) : Int) := by
    rw [pow_int, ← Int.natCast_mul, IntKind.wrap_u64]; rfl
  have e4 : ((Bit.wd g j : Nat) : Int) / 2 ^ (64 - n % 64) = ((Bit.wd g j / 2 ^ (64 - n % 64) : Nat) : Int) := by rw [pow_int]; rfl
  rw [e3, Nat.add_sub_cancel, e4, u64_or_nat _ _ (Nat.mod_lt _ (by decide)) (Nat.lt_of_le_of_lt (Nat.div_le_self _ _) (Bit.wd_lt _ _)), shR_wd g n j hs]
set_option maxRecDepth 100000 in
set_option maxHeartbeats 4000000 in
theorem shl_any (b sb L n : Nat) (g : Nat → Bool) (w : World) (h : BS w b sb L g) (hL : L ≤ 20000) (hn : n ≤ 10000) (x : Int) (hx : x = n) :
    Calls Try.prog 59 #[.pointer (some ⟨b, 0, none⟩), .int .u64 x] w fun r w' => r = .returned (.tuple #[]) ∧ ∃ L', L ≤ L' ∧ L' ≤ L + n ∧ Out w w' b sb L' (shR g n) := by
  subst hx
  have hne := h.ne
  have hne' := Ne.symm hne
  obtain ⟨cap, c0, c1, h4, h5, f0, f1, fs, h6⟩ := h.look
  have H := Lib.hid h
  have hb := h.lt
  clear h6 fs h
  go_enter Try.func59, Try.ntmps59
  go_wp2_with fail
  refine (panicIfNull_any _ _).mono ?_
  rintro r w1 ⟨rfl, rfl⟩
  by_cases hn0 : n = 0
  · subst hn0
    go_wp2_with fail
    refine bodyPost_ret (results_none rfl _ _ _) rfl ⟨rfl, L, by omega, by omega, sb, by rw [shR_zero]; exact H.out, Or.inl rfl, Ch.refl _ _⟩
  · have hnd : ((n : Int) == 0) = false := beq_eq_false_iff_ne.2 (by omega)
    go_wp2_with fail
    refine (top_any b sb L g _ H.out (by omega)).mono ?_
    rintro r w1 ⟨⟨t, htL, htg, hta, rfl⟩ | ⟨hz, rfl⟩, hC⟩
    · have hB := H.out.keep hC (fun h => h) (fun h => h)
      have HC := Lib.hid hC
      have HB := Lib.hid hB
      have HTG := Lib.hid htg
      have HTA := Lib.hid hta
      clear c0 c1 f0 f1 h4 h5 hC htg hta cap
      obtain ⟨cap, c0, c1, h4, h5, f0, f1, fs, h6⟩ := hB.look
      have DS := Lib.hid h6
      have FS := Lib.hid fs
      clear fs h6 hB
      go_wp2_with fail
      refine (wordsNeeded_any (t + n + 1) _ (by omega) (by omega) _).mono ?_
      rintro r w2 ⟨rfl, rfl⟩
      obtain ⟨N, hN⟩ : ∃ N, N = nw (t + n + 1) := ⟨_, rfl⟩
      rw [← hN]
      have HN := Lib.hid hN
      clear hN
      by_cases hA : N ≤ nw L
      · have hAd : decide ((nw L : Int) < (N : Nat)) = false := by simp; omega
        have hAd2 : decide (nw L < N) = false := by simp; omega
        by_cases hM : L ≤ t + n
        · have hMd : decide ((L : Int) ≤ (t : Int) + n) = true := by simp; omega
          have MV := Lib.hid ((HB.out.mvIn c1).len (L'' := t + n + 1) (x := (t : Int) + n + 1) (by omega))
          have CH : Hid (Ch (S2 b sb) w _) := Lib.hid ((HC.out.mono (fun _ _ h => h.elim)).setCell ⟨b, 0, none⟩ (fun _ => Or.inl rfl) (.int .u64 ((t : Int) + n + 1)))
          have hNu : N ≤ 1000 := by have := HN.out; unfold nw at this; omega
          have hMc : (nw L) ≤ cap := by omega
          have hNM : N ≤ (nw L) := by omega
          have hML : (nw L) = nw (t + n + 1) := by have := HN.out; unfold nw at *; omega
          have hoffS : ∀ k, (t + n + 1) ≤ k → shR g n k = false := fun k hk => shR_off HTA.out (by omega)
          have HOF := Lib.hid hoffS
          have HML := Lib.hid hML
          have hh0 : ∀ j, (t / 64) < j → Bit.wd g j = 0 := fun j hj => wd_above HTA.out (by omega)
          have HH := Lib.hid hh0
          have hg0 : ∀ j, (t / 64) < j → Bit.wd g j = 0 := fun j hj => wd_above HTA.out (by omega)
          have HH0 := Lib.hid hg0
          have htN : t + n < 64 * N := by have := HN.out; unfold nw at this; omega
          have hDL : t / 64 < nw L := by unfold nw; omega
          clear hML hoffS hh0 hg0

          by_cases hs : n % 64 = 0
          · have hsd : ((n : Int) % 64 == 0) = true := beq_iff_eq.2 (by omega)
            have hNk : N - n / 64 = t / 64 + 1 := by have := HN.out; unfold nw at this; omega
            have hPN : n / 64 ≤ N := by omega
            go_wp2_with fail
            generalize (w1.setCell ⟨b, 0, none⟩ (.int .u64 ((t : Int) + n + 1))) = W1 at *
            clear c0 c1 f0 f1
            obtain ⟨c0, c1, f0, f1, _, _, _⟩ := MV.out.look
            obtain ⟨W2, hcp, hM2, hC2⟩ := MV.out.drew.copy (n / 64) (t / 64 + 1) (N - n / 64) (cap - n / 64) (nw L) cap (by rw [hNk]; exact (Nat.min_eq_right (by omega)).symm) (by omega) (by omega) (mix (n / 64) g (shR g n))
              (fun j hj => by rw [wd_mix_ge _ _ _ _ (by omega), Nat.add_comm, ← shR_pages g n j hs])
              (fun j _ hj => by
                by_cases q : j < n / 64
                · rw [wd_mix_lt _ _ _ _ q]
                · rw [wd_mix_ge _ _ _ _ (by omega), shR_high g n t j HTA.out (by omega), HH.out j (by omega)])
            have MV2 := Lib.hid hM2
            have CH2 : Hid (Ch (S2 b sb) w W2) := Lib.hid ((CH.out.drew).trans' hC2 (fun i hi e => by simp only [S1] at e; exact Or.inr e))
            have i0 : (0 : Int) ≤ (n : Int) / 64 := by omega
            have i1 : ((n : Int) / 64).toNat = n / 64 := by omega
            have i2 : (n : Int) / 64 ≤ (N : Nat) := by omega
            have i3 : (N : Int) ≤ (cap : Nat) := by omega
            have i4 : N ≤ cap := by omega
            clear hM2 hC2 MV CH hs hNk
            
            go_still_tail 8, (by kernel_rfl)
            repeat still_step
            try (refine wpStill_nil ?_)
            go_wp2_with fail
            go_loopw [13] (fun v wr => ∃ q : Nat, q ≤ (n / 64) ∧ v = .int .i64 q ∧ Mv wr b sb sb (t + n + 1) (nw L) cap (nw L) cap g (mix q (shR g n) (mix (n / 64) g (shR g n))) 0 ∧ Ch (S2 b sb) w wr) (fun v _ => (n / 64) - (intOf v).toNat)
            case atStart => exact ⟨0, Nat.zero_le _, by go_num, by rw [mix_zero]; exact MV2.out, CH2.out⟩
            case round =>
              clear MV2 CH2
              obtain ⟨q, hq, rfl, hJ, hC⟩ := hrel
              obtain ⟨c0, c1, f0, f1, _, dd, fd⟩ := hJ.look
              by_cases hlt : q < (n / 64)
              · have e1 := dd q (by omega)
                have e2 := fd q
                have MJ := Lib.hid hJ
                have CJ := Lib.hid hC
                clear hJ hC dd fd
                have HS := Lib.hid fun (x : Int) (hx : x = ((Bit.wd (mix (q + 1) (shR g n) (mix (n / 64) g (shR g n))) q : Nat) : Int)) => MJ.out.store (lim' := 0) q (by omega) hMc hx (fun j hj _ => wd_mix_other q j _ _ hj) (Nat.zero_le _) (Nat.zero_le _)
                go_wp2_with fail
                go_roundw
                case rel => exact ⟨q + 1, hlt, by go_num, HS.out _ (by rw [wd_mix_at, shR_low g n q hlt]; rfl), CJ.out.setCell _ (fun _ => Or.inr rfl) _⟩
                case measure => simp [intOf]; omega
              · obtain rfl : q = (n / 64) := by omega
                have MJ := Lib.hid (hJ.done HML.out hMc (by omega) (by rw [mix_all]; exact HOF.out))
                have CJ := Lib.hid hC
                clear hJ hC dd fd
                go_wp2_with fail
                go_end0
                exact ⟨rfl, (t + n + 1), by omega, by omega, sb, MJ.out.to (mix_all _ _ _), Or.inl rfl, CJ.out.setCell _ (fun _ => Or.inl rfl) _⟩
          · have hsd : ((n : Int) % 64 == 0) = false := beq_eq_false_iff_ne.2 (by omega)
            have d0 := DS.out (t / 64) hDL
            by_cases ho : 64 ≤ t % 64 + n % 64
            · have hod : decide ((64 : Int) ≤ (t : Int) % 64 + (n : Int) % 64) = true := by simp; omega
              have j1 : t / 64 + n / 64 + 1 < (nw L) := by omega
              have i0 : (0 : Int) ≤ (t : Int) / 64 + (n : Int) / 64 + 1 := by omega
              have i1 : ((t : Int) / 64 + (n : Int) / 64 + 1).toNat = t / 64 + n / 64 + 1 := by omega
              have i2 : (t : Int) / 64 + (n : Int) / 64 + 1 < ((nw L) : Nat) := by omega
              have i3 : (0 : Int) ≤ (t : Int) / 64 := by omega
              have i4 : ((t : Int) / 64).toNat = t / 64 := by omega
              have i5 : (t : Int) / 64 < (nw L : Nat) := by omega
              have d1 := DS.out (t / 64 + n / 64 + 1) j1
              have d2 := FS.out (t / 64 + n / 64 + 1)
              have MV1 := Lib.hid fun (x : Int) (hx : x = ((Bit.wd (mix (t / 64 + 1 + n / 64) g (shR g n)) (t / 64 + n / 64 + 1) : Nat) : Int)) => MV.out.store (f' := mix (t / 64 + 1 + n / 64) g (shR g n)) (lim' := t / 64 + 1) (t / 64 + n / 64 + 1) j1 hMc hx (fun j hj _ => by
                by_cases q : j < t / 64 + 1 + n / 64
                · rw [wd_mix_lt _ _ _ _ q]
                · rw [wd_mix_ge _ _ _ _ (by omega), shR_high g n t j HTA.out (by omega), HH.out j (by omega)]) (by omega) (by omega)
              go_wp2_with fail
              go_loopw [12] (fun v wr => ∃ x : Int, ∃ m : Nat, x + 1 = m ∧ m ≤ (t / 64) + 1 ∧ v = .int .i64 x ∧ Mv wr b sb sb (t + n + 1) (nw L) cap (nw L) cap g (mix (m + (n / 64)) g (shR g n)) m ∧ Ch (S2 b sb) w wr) (fun v _ => (intOf v + 1).toNat)
              case atStart => exact ⟨(t / 64), (t / 64) + 1, by omega, Nat.le_refl _, by go_num, MV1.out (((Bit.wd g (t / 64) : Nat) : Int) / 2 ^ (64 - n % 64)) (by rw [wd_mix_ge _ _ _ _ (by omega)]; exact shl_over g n (t / 64) hs (HH0.out _ (by omega))), CH.out.setCell _ (fun _ => Or.inr rfl) _⟩
              case round =>
                clear MV1 CH MV
                obtain ⟨x, m, hxm, hm, rfl, hJ, hC⟩ := hrel
                obtain ⟨c0, c1, f0, f1, ds, dd, fd⟩ := hJ.look
                by_cases hx : 0 ≤ x
                · obtain ⟨q, rfl⟩ : ∃ q : Nat, x = q := ⟨x.toNat, by omega⟩
                  obtain rfl : m = q + 1 := by omega
                  have e0 := ds q (by omega)
                  have e1 := dd (q + (n / 64)) (by omega)
                  have e2 := fd (q + (n / 64))
                  have e3 := fun hq0 : q ≠ 0 => ds (q - 1) (by omega)
                  have E3 := Lib.hid e3
                  have MJ := Lib.hid hJ
                  have CJ := Lib.hid hC
                  clear hJ hC ds dd fd e3 hx
                  have HS := Lib.hid fun (x : Int) (hx : x = ((Bit.wd (mix (q + (n / 64)) g (shR g n)) (q + (n / 64)) : Nat) : Int)) => MJ.out.store (lim' := q) (q + (n / 64)) (by omega) hMc hx (fun j hj _ => mix_down _ _ _ hj) (by omega) (by omega)
                  by_cases hq0 : q = 0
                  · have hq1 : ¬ 0 < q := by omega
                    have HQ := Lib.hid hq0
                    clear hq0
                    go_wp2_with fail
                    go_roundw
                    case rel => exact ⟨(q : Int) - 1, q, by omega, by omega, by go_num, HS.out _ (by rw [wd_mix_ge _ _ _ _ (Nat.le_refl _)]; have hq := HQ.out; subst hq; exact shl_val0 g n), CJ.out.setCell _ (fun _ => Or.inr rfl) _⟩
                    case measure => simp [intOf]
                  · have hq1 : 0 < q := by omega
                    have hwr3 : IntKind.i64.wrap ((n : Int) / 64) = (n : Int) / 64 := IntWalk.i64_in _ (by omega)
                    have hwr2 : IntKind.i64.wrap ((q : Int) + IntKind.i64.wrap ((n : Int) / 64)) = (q : Int) + (n : Int) / 64 := by rw [hwr3]; exact IntWalk.i64_in _ (by omega)
                    have l0 : (0 : Int) ≤ IntKind.i64.wrap ((q : Int) + IntKind.i64.wrap ((n : Int) / 64)) := by rw [hwr2]; omega
                    have l1 : (IntKind.i64.wrap ((q : Int) + IntKind.i64.wrap ((n : Int) / 64))).toNat = q + n / 64 := by rw [hwr2]; omega
                    have l2 : IntKind.i64.wrap ((q : Int) + IntKind.i64.wrap ((n : Int) / 64)) < ((nw L) : Nat) := by rw [hwr2]; omega
                    clear hwr3
                    have u0 : (0 : Int) ≤ (q : Int) := by omega
                    have u1 : (q : Int) < (nw L : Nat) := by omega
                    have u3 : q < nw L := by omega
                    clear hwr2
                    have e4 := E3.out hq0
                    have hwr : IntKind.i64.wrap ((q : Int) - 1) = (q : Int) - 1 := IntWalk.i64_in _ (by omega)
                    have k0 : (0 : Int) ≤ IntKind.i64.wrap ((q : Int) - 1) := by rw [hwr]; omega
                    have k1 : (IntKind.i64.wrap ((q : Int) - 1)).toNat = q - 1 := by rw [hwr]; omega
                    have k2 : IntKind.i64.wrap ((q : Int) - 1) < (nw L : Nat) := by rw [hwr]; omega
                    have HQ := Lib.hid hq0
                    clear hwr hq0
                    go_wp2_with fail
                    go_still_tail 27, (by kernel_rfl)
                    repeat still_step
                    try (refine wpStill_nil ?_)
                    go_wp2_with fail
                    go_roundw
                    case rel => exact ⟨(q : Int) - 1, q, by omega, by omega, by go_num, (HS.out _ (by rw [wd_mix_ge _ _ _ _ (Nat.le_refl _)]; exact shl_val g n q hq1 hs)).drew, (CJ.out.setCell _ (fun _ => Or.inr rfl) _).drew⟩
                    case measure => simp [intOf]
                · obtain rfl : m = 0 := by omega
                  have MV2 := Lib.hid (by rw [Nat.zero_add] at hJ; exact hJ)
                  have CH2 := Lib.hid hC
                  clear hJ hC ds dd fd
                  go_wp2_with fail
                  go_loopw [13] (fun v wr => ∃ q : Nat, q ≤ (n / 64) ∧ v = .int .i64 q ∧ Mv wr b sb sb (t + n + 1) (nw L) cap (nw L) cap g (mix q (shR g n) (mix (n / 64) g (shR g n))) 0 ∧ Ch (S2 b sb) w wr) (fun v _ => (n / 64) - (intOf v).toNat)
                  case atStart => exact ⟨0, Nat.zero_le _, by go_num, by rw [mix_zero]; exact MV2.out, CH2.out⟩
                  case round =>
                    clear MV2 CH2
                    obtain ⟨q, hq, rfl, hJ, hC⟩ := hrel
                    obtain ⟨c0, c1, f0, f1, _, dd, fd⟩ := hJ.look
                    by_cases hlt : q < (n / 64)
                    · have e1 := dd q (by omega)
                      have e2 := fd q
                      have MJ := Lib.hid hJ
                      have CJ := Lib.hid hC
                      clear hJ hC dd fd
                      have HS := Lib.hid fun (x : Int) (hx : x = ((Bit.wd (mix (q + 1) (shR g n) (mix (n / 64) g (shR g n))) q : Nat) : Int)) => MJ.out.store (lim' := 0) q (by omega) hMc hx (fun j hj _ => wd_mix_other q j _ _ hj) (Nat.zero_le _) (Nat.zero_le _)
                      go_wp2_with fail
                      go_roundw
                      case rel => exact ⟨q + 1, hlt, by go_num, HS.out _ (by rw [wd_mix_at, shR_low g n q hlt]; rfl), CJ.out.setCell _ (fun _ => Or.inr rfl) _⟩
                      case measure => simp [intOf]; omega
                    · obtain rfl : q = (n / 64) := by omega
                      have MJ := Lib.hid (hJ.done HML.out hMc (by omega) (by rw [mix_all]; exact HOF.out))
                      have CJ := Lib.hid hC
                      clear hJ hC dd fd
                      go_wp2_with fail
                      go_end0
                      exact ⟨rfl, (t + n + 1), by omega, by omega, sb, MJ.out.to (mix_all _ _ _), Or.inl rfl, CJ.out.setCell _ (fun _ => Or.inl rfl) _⟩
            · have hod : decide ((64 : Int) ≤ (t : Int) % 64 + (n : Int) % 64) = false := by simp; omega
              have MV1 : Hid (Mv (w1.setCell ⟨b, 0, none⟩ (.int .u64 ((t : Int) + n + 1))) b sb sb (t + n + 1) (nw L) cap (nw L) cap g (mix (t / 64 + 1 + n / 64) g (shR g n)) (t / 64 + 1)) := Lib.hid (Mv.lim (MV.out.to (fun j hj => by
                by_cases q : j < t / 64 + 1 + n / 64
                · rw [wd_mix_lt _ _ _ _ q]
                · rw [wd_mix_ge _ _ _ _ (by omega), shR_high g n t j HTA.out (by omega), HH.out j (by omega)])) (by omega))
              have CH1 := CH
              clear MV CH
              go_wp2_with fail
              go_loopw [12] (fun v wr => ∃ x : Int, ∃ m : Nat, x + 1 = m ∧ m ≤ (t / 64) + 1 ∧ v = .int .i64 x ∧ Mv wr b sb sb (t + n + 1) (nw L) cap (nw L) cap g (mix (m + (n / 64)) g (shR g n)) m ∧ Ch (S2 b sb) w wr) (fun v _ => (intOf v + 1).toNat)
              case atStart => exact ⟨(t / 64), (t / 64) + 1, by omega, Nat.le_refl _, by go_num, MV1.out, CH1.out⟩
              case round =>
                clear MV1 CH1
                obtain ⟨x, m, hxm, hm, rfl, hJ, hC⟩ := hrel
                obtain ⟨c0, c1, f0, f1, ds, dd, fd⟩ := hJ.look
                by_cases hx : 0 ≤ x
                · obtain ⟨q, rfl⟩ : ∃ q : Nat, x = q := ⟨x.toNat, by omega⟩
                  obtain rfl : m = q + 1 := by omega
                  have e0 := ds q (by omega)
                  have e1 := dd (q + (n / 64)) (by omega)
                  have e2 := fd (q + (n / 64))
                  have e3 := fun hq0 : q ≠ 0 => ds (q - 1) (by omega)
                  have E3 := Lib.hid e3
                  have MJ := Lib.hid hJ
                  have CJ := Lib.hid hC
                  clear hJ hC ds dd fd e3 hx
                  have HS := Lib.hid fun (x : Int) (hx : x = ((Bit.wd (mix (q + (n / 64)) g (shR g n)) (q + (n / 64)) : Nat) : Int)) => MJ.out.store (lim' := q) (q + (n / 64)) (by omega) hMc hx (fun j hj _ => mix_down _ _ _ hj) (by omega) (by omega)
                  by_cases hq0 : q = 0
                  · have hq1 : ¬ 0 < q := by omega
                    have HQ := Lib.hid hq0
                    clear hq0
                    go_wp2_with fail
                    go_roundw
                    case rel => exact ⟨(q : Int) - 1, q, by omega, by omega, by go_num, HS.out _ (by rw [wd_mix_ge _ _ _ _ (Nat.le_refl _)]; have hq := HQ.out; subst hq; exact shl_val0 g n), CJ.out.setCell _ (fun _ => Or.inr rfl) _⟩
                    case measure => simp [intOf]
                  · have hq1 : 0 < q := by omega
                    have hwr3 : IntKind.i64.wrap ((n : Int) / 64) = (n : Int) / 64 := IntWalk.i64_in _ (by omega)
                    have hwr2 : IntKind.i64.wrap ((q : Int) + IntKind.i64.wrap ((n : Int) / 64)) = (q : Int) + (n : Int) / 64 := by rw [hwr3]; exact IntWalk.i64_in _ (by omega)
                    have l0 : (0 : Int) ≤ IntKind.i64.wrap ((q : Int) + IntKind.i64.wrap ((n : Int) / 64)) := by rw [hwr2]; omega
                    have l1 : (IntKind.i64.wrap ((q : Int) + IntKind.i64.wrap ((n : Int) / 64))).toNat = q + n / 64 := by rw [hwr2]; omega
                    have l2 : IntKind.i64.wrap ((q : Int) + IntKind.i64.wrap ((n : Int) / 64)) < ((nw L) : Nat) := by rw [hwr2]; omega
                    clear hwr3
                    have u0 : (0 : Int) ≤ (q : Int) := by omega
                    have u1 : (q : Int) < (nw L : Nat) := by omega
                    have u3 : q < nw L := by omega
                    clear hwr2
                    have e4 := E3.out hq0
                    have hwr : IntKind.i64.wrap ((q : Int) - 1) = (q : Int) - 1 := IntWalk.i64_in _ (by omega)
                    have k0 : (0 : Int) ≤ IntKind.i64.wrap ((q : Int) - 1) := by rw [hwr]; omega
                    have k1 : (IntKind.i64.wrap ((q : Int) - 1)).toNat = q - 1 := by rw [hwr]; omega
                    have k2 : IntKind.i64.wrap ((q : Int) - 1) < (nw L : Nat) := by rw [hwr]; omega
                    have HQ := Lib.hid hq0
                    clear hwr hq0
                    go_wp2_with fail
                    go_still_tail 27, (by kernel_rfl)
                    repeat still_step
                    try (refine wpStill_nil ?_)
                    go_wp2_with fail
                    go_roundw
                    case rel => exact ⟨(q : Int) - 1, q, by omega, by omega, by go_num, (HS.out _ (by rw [wd_mix_ge _ _ _ _ (Nat.le_refl _)]; exact shl_val g n q hq1 hs)).drew, (CJ.out.setCell _ (fun _ => Or.inr rfl) _).drew⟩
                    case measure => simp [intOf]
                · obtain rfl : m = 0 := by omega
                  have MV2 := Lib.hid (by rw [Nat.zero_add] at hJ; exact hJ)
                  have CH2 := Lib.hid hC
                  clear hJ hC ds dd fd
                  go_wp2_with fail
                  go_loopw [13] (fun v wr => ∃ q : Nat, q ≤ (n / 64) ∧ v = .int .i64 q ∧ Mv wr b sb sb (t + n + 1) (nw L) cap (nw L) cap g (mix q (shR g n) (mix (n / 64) g (shR g n))) 0 ∧ Ch (S2 b sb) w wr) (fun v _ => (n / 64) - (intOf v).toNat)
                  case atStart => exact ⟨0, Nat.zero_le _, by go_num, by rw [mix_zero]; exact MV2.out, CH2.out⟩
                  case round =>
                    clear MV2 CH2
                    obtain ⟨q, hq, rfl, hJ, hC⟩ := hrel
                    obtain ⟨c0, c1, f0, f1, _, dd, fd⟩ := hJ.look
                    by_cases hlt : q < (n / 64)
                    · have e1 := dd q (by omega)
                      have e2 := fd q
                      have MJ := Lib.hid hJ
                      have CJ := Lib.hid hC
                      clear hJ hC dd fd
                      have HS := Lib.hid fun (x : Int) (hx : x = ((Bit.wd (mix (q + 1) (shR g n) (mix (n / 64) g (shR g n))) q : Nat) : Int)) => MJ.out.store (lim' := 0) q (by omega) hMc hx (fun j hj _ => wd_mix_other q j _ _ hj) (Nat.zero_le _) (Nat.zero_le _)
                      go_wp2_with fail
                      go_roundw
                      case rel => exact ⟨q + 1, hlt, by go_num, HS.out _ (by rw [wd_mix_at, shR_low g n q hlt]; rfl), CJ.out.setCell _ (fun _ => Or.inr rfl) _⟩
                      case measure => simp [intOf]; omega
                    · obtain rfl : q = (n / 64) := by omega
                      have MJ := Lib.hid (hJ.done HML.out hMc (by omega) (by rw [mix_all]; exact HOF.out))
                      have CJ := Lib.hid hC
                      clear hJ hC dd fd
                      go_wp2_with fail
                      go_end0
                      exact ⟨rfl, (t + n + 1), by omega, by omega, sb, MJ.out.to (mix_all _ _ _), Or.inl rfl, CJ.out.setCell _ (fun _ => Or.inl rfl) _⟩
        · have hMd : decide ((L : Int) ≤ (t : Int) + n) = false := by simp; omega
          have MV := Lib.hid (HB.out.mvIn c1)
          have CH : Hid (Ch (S2 b sb) w _) := Lib.hid (HC.out.mono (fun _ _ h => h.elim))
          have hNu : N ≤ 1000 := by have := HN.out; unfold nw at this; omega
          have hMc : (nw L) ≤ cap := by omega
          have hNM : N ≤ (nw L) := by omega
          have hML : (nw L) = nw L := by have := HN.out; unfold nw at *; omega
          have hoffS : ∀ k, L ≤ k → shR g n k = false := fun k hk => shR_off HTA.out (by omega)
          have HOF := Lib.hid hoffS
          have HML := Lib.hid hML
          have hh0 : ∀ j, (t / 64) < j → Bit.wd g j = 0 := fun j hj => wd_above HTA.out (by omega)
          have HH := Lib.hid hh0
          have hg0 : ∀ j, (t / 64) < j → Bit.wd g j = 0 := fun j hj => wd_above HTA.out (by omega)
          have HH0 := Lib.hid hg0
          have htN : t + n < 64 * N := by have := HN.out; unfold nw at this; omega
          have hDL : t / 64 < nw L := by unfold nw; omega
          clear hML hoffS hh0 hg0

          by_cases hs : n % 64 = 0
          · have hsd : ((n : Int) % 64 == 0) = true := beq_iff_eq.2 (by omega)
            have hNk : N - n / 64 = t / 64 + 1 := by have := HN.out; unfold nw at this; omega
            have hPN : n / 64 ≤ N := by omega
            
            obtain ⟨W2, hcp, hM2, hC2⟩ := MV.out.drew.copy (n / 64) (t / 64 + 1) (N - n / 64) (cap - n / 64) (nw L) cap (by rw [hNk]; exact (Nat.min_eq_right (by omega)).symm) (by omega) (by omega) (mix (n / 64) g (shR g n))
              (fun j hj => by rw [wd_mix_ge _ _ _ _ (by omega), Nat.add_comm, ← shR_pages g n j hs])
              (fun j _ hj => by
                by_cases q : j < n / 64
                · rw [wd_mix_lt _ _ _ _ q]
                · rw [wd_mix_ge _ _ _ _ (by omega), shR_high g n t j HTA.out (by omega), HH.out j (by omega)])
            have MV2 := Lib.hid hM2
            have CH2 : Hid (Ch (S2 b sb) w W2) := Lib.hid ((CH.out.drew).trans' hC2 (fun i hi e => by simp only [S1] at e; exact Or.inr e))
            have i0 : (0 : Int) ≤ (n : Int) / 64 := by omega
            have i1 : ((n : Int) / 64).toNat = n / 64 := by omega
            have i2 : (n : Int) / 64 ≤ (N : Nat) := by omega
            have i3 : (N : Int) ≤ (cap : Nat) := by omega
            have i4 : N ≤ cap := by omega
            clear hM2 hC2 MV CH hs hNk
            go_wp2_with fail
            go_still_tail 8, (by kernel_rfl)
            repeat still_step
            try (refine wpStill_nil ?_)
            go_wp2_with fail
            go_loopw [13] (fun v wr => ∃ q : Nat, q ≤ (n / 64) ∧ v = .int .i64 q ∧ Mv wr b sb sb L (nw L) cap (nw L) cap g (mix q (shR g n) (mix (n / 64) g (shR g n))) 0 ∧ Ch (S2 b sb) w wr) (fun v _ => (n / 64) - (intOf v).toNat)
            case atStart => exact ⟨0, Nat.zero_le _, by go_num, by rw [mix_zero]; exact MV2.out, CH2.out⟩
            case round =>
              clear MV2 CH2
              obtain ⟨q, hq, rfl, hJ, hC⟩ := hrel
              obtain ⟨c0, c1, f0, f1, _, dd, fd⟩ := hJ.look
              by_cases hlt : q < (n / 64)
              · have e1 := dd q (by omega)
                have e2 := fd q
                have MJ := Lib.hid hJ
                have CJ := Lib.hid hC
                clear hJ hC dd fd
                have HS := Lib.hid fun (x : Int) (hx : x = ((Bit.wd (mix (q + 1) (shR g n) (mix (n / 64) g (shR g n))) q : Nat) : Int)) => MJ.out.store (lim' := 0) q (by omega) hMc hx (fun j hj _ => wd_mix_other q j _ _ hj) (Nat.zero_le _) (Nat.zero_le _)
                go_wp2_with fail
                go_roundw
                case rel => exact ⟨q + 1, hlt, by go_num, HS.out _ (by rw [wd_mix_at, shR_low g n q hlt]; rfl), CJ.out.setCell _ (fun _ => Or.inr rfl) _⟩
                case measure => simp [intOf]; omega
              · obtain rfl : q = (n / 64) := by omega
                have MJ := Lib.hid (hJ.done rfl hMc (by omega) (by rw [mix_all]; exact HOF.out))
                have CJ := Lib.hid hC
                clear hJ hC dd fd
                go_wp2_with fail
                go_end0
                exact ⟨rfl, L, by omega, by omega, sb, MJ.out.to (mix_all _ _ _), Or.inl rfl, CJ.out.setCell _ (fun _ => Or.inl rfl) _⟩
          · have hsd : ((n : Int) % 64 == 0) = false := beq_eq_false_iff_ne.2 (by omega)
            have d0 := DS.out (t / 64) hDL
            by_cases ho : 64 ≤ t % 64 + n % 64
            · have hod : decide ((64 : Int) ≤ (t : Int) % 64 + (n : Int) % 64) = true := by simp; omega
              have j1 : t / 64 + n / 64 + 1 < (nw L) := by omega
              have i0 : (0 : Int) ≤ (t : Int) / 64 + (n : Int) / 64 + 1 := by omega
              have i1 : ((t : Int) / 64 + (n : Int) / 64 + 1).toNat = t / 64 + n / 64 + 1 := by omega
              have i2 : (t : Int) / 64 + (n : Int) / 64 + 1 < ((nw L) : Nat) := by omega
              have i3 : (0 : Int) ≤ (t : Int) / 64 := by omega
              have i4 : ((t : Int) / 64).toNat = t / 64 := by omega
              have i5 : (t : Int) / 64 < (nw L : Nat) := by omega
              have d1 := DS.out (t / 64 + n / 64 + 1) j1
              have d2 := FS.out (t / 64 + n / 64 + 1)
              have MV1 := Lib.hid fun (x : Int) (hx : x = ((Bit.wd (mix (t / 64 + 1 + n / 64) g (shR g n)) (t / 64 + n / 64 + 1) : Nat) : Int)) => MV.out.store (f' := mix (t / 64 + 1 + n / 64) g (shR g n)) (lim' := t / 64 + 1) (t / 64 + n / 64 + 1) j1 hMc hx (fun j hj _ => by
                by_cases q : j < t / 64 + 1 + n / 64
                · rw [wd_mix_lt _ _ _ _ q]
                · rw [wd_mix_ge _ _ _ _ (by omega), shR_high g n t j HTA.out (by omega), HH.out j (by omega)]) (by omega) (by omega)
              go_wp2_with fail
              go_loopw [12] (fun v wr => ∃ x : Int, ∃ m : Nat, x + 1 = m ∧ m ≤ (t / 64) + 1 ∧ v = .int .i64 x ∧ Mv wr b sb sb L (nw L) cap (nw L) cap g (mix (m + (n / 64)) g (shR g n)) m ∧ Ch (S2 b sb) w wr) (fun v _ => (intOf v + 1).toNat)
              case atStart => exact ⟨(t / 64), (t / 64) + 1, by omega, Nat.le_refl _, by go_num, MV1.out (((Bit.wd g (t / 64) : Nat) : Int) / 2 ^ (64 - n % 64)) (by rw [wd_mix_ge _ _ _ _ (by omega)]; exact shl_over g n (t / 64) hs (HH0.out _ (by omega))), CH.out.setCell _ (fun _ => Or.inr rfl) _⟩
              case round =>
                clear MV1 CH MV
                obtain ⟨x, m, hxm, hm, rfl, hJ, hC⟩ := hrel
                obtain ⟨c0, c1, f0, f1, ds, dd, fd⟩ := hJ.look
                by_cases hx : 0 ≤ x
                · obtain ⟨q, rfl⟩ : ∃ q : Nat, x = q := ⟨x.toNat, by omega⟩
                  obtain rfl : m = q + 1 := by omega
                  have e0 := ds q (by omega)
                  have e1 := dd (q + (n / 64)) (by omega)
                  have e2 := fd (q + (n / 64))
                  have e3 := fun hq0 : q ≠ 0 => ds (q - 1) (by omega)
                  have E3 := Lib.hid e3
                  have MJ := Lib.hid hJ
                  have CJ := Lib.hid hC
                  clear hJ hC ds dd fd e3 hx
                  have HS := Lib.hid fun (x : Int) (hx : x = ((Bit.wd (mix (q + (n / 64)) g (shR g n)) (q + (n / 64)) : Nat) : Int)) => MJ.out.store (lim' := q) (q + (n / 64)) (by omega) hMc hx (fun j hj _ => mix_down _ _ _ hj) (by omega) (by omega)
                  by_cases hq0 : q = 0
                  · have hq1 : ¬ 0 < q := by omega
                    have HQ := Lib.hid hq0
                    clear hq0
                    go_wp2_with fail
                    go_roundw
                    case rel => exact ⟨(q : Int) - 1, q, by omega, by omega, by go_num, HS.out _ (by rw [wd_mix_ge _ _ _ _ (Nat.le_refl _)]; have hq := HQ.out; subst hq; exact shl_val0 g n), CJ.out.setCell _ (fun _ => Or.inr rfl) _⟩
                    case measure => simp [intOf]
                  · have hq1 : 0 < q := by omega
                    have hwr3 : IntKind.i64.wrap ((n : Int) / 64) = (n : Int) / 64 := IntWalk.i64_in _ (by omega)
                    have hwr2 : IntKind.i64.wrap ((q : Int) + IntKind.i64.wrap ((n : Int) / 64)) = (q : Int) + (n : Int) / 64 := by rw [hwr3]; exact IntWalk.i64_in _ (by omega)
                    have l0 : (0 : Int) ≤ IntKind.i64.wrap ((q : Int) + IntKind.i64.wrap ((n : Int) / 64)) := by rw [hwr2]; omega
                    have l1 : (IntKind.i64.wrap ((q : Int) + IntKind.i64.wrap ((n : Int) / 64))).toNat = q + n / 64 := by rw [hwr2]; omega
                    have l2 : IntKind.i64.wrap ((q : Int) + IntKind.i64.wrap ((n : Int) / 64)) < ((nw L) : Nat) := by rw [hwr2]; omega
                    clear hwr3
                    have u0 : (0 : Int) ≤ (q : Int) := by omega
                    have u1 : (q : Int) < (nw L : Nat) := by omega
                    have u3 : q < nw L := by omega
                    clear hwr2
                    have e4 := E3.out hq0
                    have hwr : IntKind.i64.wrap ((q : Int) - 1) = (q : Int) - 1 := IntWalk.i64_in _ (by omega)
                    have k0 : (0 : Int) ≤ IntKind.i64.wrap ((q : Int) - 1) := by rw [hwr]; omega
                    have k1 : (IntKind.i64.wrap ((q : Int) - 1)).toNat = q - 1 := by rw [hwr]; omega
                    have k2 : IntKind.i64.wrap ((q : Int) - 1) < (nw L : Nat) := by rw [hwr]; omega
                    have HQ := Lib.hid hq0
                    clear hwr hq0
                    go_wp2_with fail
                    go_still_tail 27, (by kernel_rfl)
                    repeat still_step
                    try (refine wpStill_nil ?_)
                    go_wp2_with fail
                    go_roundw
                    case rel => exact ⟨(q : Int) - 1, q, by omega, by omega, by go_num, (HS.out _ (by rw [wd_mix_ge _ _ _ _ (Nat.le_refl _)]; exact shl_val g n q hq1 hs)).drew, (CJ.out.setCell _ (fun _ => Or.inr rfl) _).drew⟩
                    case measure => simp [intOf]
                · obtain rfl : m = 0 := by omega
                  have MV2 := Lib.hid (by rw [Nat.zero_add] at hJ; exact hJ)
                  have CH2 := Lib.hid hC
                  clear hJ hC ds dd fd
                  go_wp2_with fail
                  go_loopw [13] (fun v wr => ∃ q : Nat, q ≤ (n / 64) ∧ v = .int .i64 q ∧ Mv wr b sb sb L (nw L) cap (nw L) cap g (mix q (shR g n) (mix (n / 64) g (shR g n))) 0 ∧ Ch (S2 b sb) w wr) (fun v _ => (n / 64) - (intOf v).toNat)
                  case atStart => exact ⟨0, Nat.zero_le _, by go_num, by rw [mix_zero]; exact MV2.out, CH2.out⟩
                  case round =>
                    clear MV2 CH2
                    obtain ⟨q, hq, rfl, hJ, hC⟩ := hrel
                    obtain ⟨c0, c1, f0, f1, _, dd, fd⟩ := hJ.look
                    by_cases hlt : q < (n / 64)
                    · have e1 := dd q (by omega)
                      have e2 := fd q
                      have MJ := Lib.hid hJ
                      have CJ := Lib.hid hC
                      clear hJ hC dd fd
                      have HS := Lib.hid fun (x : Int) (hx : x = ((Bit.wd (mix (q + 1) (shR g n) (mix (n / 64) g (shR g n))) q : Nat) : Int)) => MJ.out.store (lim' := 0) q (by omega) hMc hx (fun j hj _ => wd_mix_other q j _ _ hj) (Nat.zero_le _) (Nat.zero_le _)
                      go_wp2_with fail
                      go_roundw
                      case rel => exact ⟨q + 1, hlt, by go_num, HS.out _ (by rw [wd_mix_at, shR_low g n q hlt]; rfl), CJ.out.setCell _ (fun _ => Or.inr rfl) _⟩
                      case measure => simp [intOf]; omega
                    · obtain rfl : q = (n / 64) := by omega
                      have MJ := Lib.hid (hJ.done rfl hMc (by omega) (by rw [mix_all]; exact HOF.out))
                      have CJ := Lib.hid hC
                      clear hJ hC dd fd
                      go_wp2_with fail
                      go_end0
                      exact ⟨rfl, L, by omega, by omega, sb, MJ.out.to (mix_all _ _ _), Or.inl rfl, CJ.out.setCell _ (fun _ => Or.inl rfl) _⟩
            · have hod : decide ((64 : Int) ≤ (t : Int) % 64 + (n : Int) % 64) = false := by simp; omega
              have MV1 : Hid (Mv w1 b sb sb L (nw L) cap (nw L) cap g (mix (t / 64 + 1 + n / 64) g (shR g n)) (t / 64 + 1)) := Lib.hid (Mv.lim (MV.out.to (fun j hj => by
                by_cases q : j < t / 64 + 1 + n / 64
                · rw [wd_mix_lt _ _ _ _ q]
                · rw [wd_mix_ge _ _ _ _ (by omega), shR_high g n t j HTA.out (by omega), HH.out j (by omega)])) (by omega))
              have CH1 := CH
              clear MV CH
              go_wp2_with fail
              go_loopw [12] (fun v wr => ∃ x : Int, ∃ m : Nat, x + 1 = m ∧ m ≤ (t / 64) + 1 ∧ v = .int .i64 x ∧ Mv wr b sb sb L (nw L) cap (nw L) cap g (mix (m + (n / 64)) g (shR g n)) m ∧ Ch (S2 b sb) w wr) (fun v _ => (intOf v + 1).toNat)
              case atStart => exact ⟨(t / 64), (t / 64) + 1, by omega, Nat.le_refl _, by go_num, MV1.out, CH1.out⟩
              case round =>
                clear MV1 CH1
                obtain ⟨x, m, hxm, hm, rfl, hJ, hC⟩ := hrel
                obtain ⟨c0, c1, f0, f1, ds, dd, fd⟩ := hJ.look
                by_cases hx : 0 ≤ x
                · obtain ⟨q, rfl⟩ : ∃ q : Nat, x = q := ⟨x.toNat, by omega⟩
                  obtain rfl : m = q + 1 := by omega
                  have e0 := ds q (by omega)
                  have e1 := dd (q + (n / 64)) (by omega)
                  have e2 := fd (q + (n / 64))
                  have e3 := fun hq0 : q ≠ 0 => ds (q - 1) (by omega)
                  have E3 := Lib.hid e3
                  have MJ := Lib.hid hJ
                  have CJ := Lib.hid hC
                  clear hJ hC ds dd fd e3 hx
                  have HS := Lib.hid fun (x : Int) (hx : x = ((Bit.wd (mix (q + (n / 64)) g (shR g n)) (q + (n / 64)) : Nat) : Int)) => MJ.out.store (lim' := q) (q + (n / 64)) (by omega) hMc hx (fun j hj _ => mix_down _ _ _ hj) (by omega) (by omega)
                  by_cases hq0 : q = 0
                  · have hq1 : ¬ 0 < q := by omega
                    have HQ := Lib.hid hq0
                    clear hq0
                    go_wp2_with fail
                    go_roundw
                    case rel => exact ⟨(q : Int) - 1, q, by omega, by omega, by go_num, HS.out _ (by rw [wd_mix_ge _ _ _ _ (Nat.le_refl _)]; have hq := HQ.out; subst hq; exact shl_val0 g n), CJ.out.setCell _ (fun _ => Or.inr rfl) _⟩
                    case measure => simp [intOf]
                  · have hq1 : 0 < q := by omega
                    have hwr3 : IntKind.i64.wrap ((n : Int) / 64) = (n : Int) / 64 := IntWalk.i64_in _ (by omega)
                    have hwr2 : IntKind.i64.wrap ((q : Int) + IntKind.i64.wrap ((n : Int) / 64)) = (q : Int) + (n : Int) / 64 := by rw [hwr3]; exact IntWalk.i64_in _ (by omega)
                    have l0 : (0 : Int) ≤ IntKind.i64.wrap ((q : Int) + IntKind.i64.wrap ((n : Int) / 64)) := by rw [hwr2]; omega
                    have l1 : (IntKind.i64.wrap ((q : Int) + IntKind.i64.wrap ((n : Int) / 64))).toNat = q + n / 64 := by rw [hwr2]; omega
                    have l2 : IntKind.i64.wrap ((q : Int) + IntKind.i64.wrap ((n : Int) / 64)) < ((nw L) : Nat) := by rw [hwr2]; omega
                    clear hwr3
                    have u0 : (0 : Int) ≤ (q : Int) := by omega
                    have u1 : (q : Int) < (nw L : Nat) := by omega
                    have u3 : q < nw L := by omega
                    clear hwr2
                    have e4 := E3.out hq0
                    have hwr : IntKind.i64.wrap ((q : Int) - 1) = (q : Int) - 1 := IntWalk.i64_in _ (by omega)
                    have k0 : (0 : Int) ≤ IntKind.i64.wrap ((q : Int) - 1) := by rw [hwr]; omega
                    have k1 : (IntKind.i64.wrap ((q : Int) - 1)).toNat = q - 1 := by rw [hwr]; omega
                    have k2 : IntKind.i64.wrap ((q : Int) - 1) < (nw L : Nat) := by rw [hwr]; omega
                    have HQ := Lib.hid hq0
                    clear hwr hq0
                    go_wp2_with fail
                    go_still_tail 27, (by kernel_rfl)
                    repeat still_step
                    try (refine wpStill_nil ?_)
                    go_wp2_with fail
                    go_roundw
                    case rel => exact ⟨(q : Int) - 1, q, by omega, by omega, by go_num, (HS.out _ (by rw [wd_mix_ge _ _ _ _ (Nat.le_refl _)]; exact shl_val g n q hq1 hs)).drew, (CJ.out.setCell _ (fun _ => Or.inr rfl) _).drew⟩
                    case measure => simp [intOf]
                · obtain rfl : m = 0 := by omega
                  have MV2 := Lib.hid (by rw [Nat.zero_add] at hJ; exact hJ)
                  have CH2 := Lib.hid hC
                  clear hJ hC ds dd fd
                  go_wp2_with fail
                  go_loopw [13] (fun v wr => ∃ q : Nat, q ≤ (n / 64) ∧ v = .int .i64 q ∧ Mv wr b sb sb L (nw L) cap (nw L) cap g (mix q (shR g n) (mix (n / 64) g (shR g n))) 0 ∧ Ch (S2 b sb) w wr) (fun v _ => (n / 64) - (intOf v).toNat)
                  case atStart => exact ⟨0, Nat.zero_le _, by go_num, by rw [mix_zero]; exact MV2.out, CH2.out⟩
                  case round =>
                    clear MV2 CH2
                    obtain ⟨q, hq, rfl, hJ, hC⟩ := hrel
                    obtain ⟨c0, c1, f0, f1, _, dd, fd⟩ := hJ.look
                    by_cases hlt : q < (n / 64)
                    · have e1 := dd q (by omega)
                      have e2 := fd q
                      have MJ := Lib.hid hJ
                      have CJ := Lib.hid hC
                      clear hJ hC dd fd
                      have HS := Lib.hid fun (x : Int) (hx : x = ((Bit.wd (mix (q + 1) (shR g n) (mix (n / 64) g (shR g n))) q : Nat) : Int)) => MJ.out.store (lim' := 0) q (by omega) hMc hx (fun j hj _ => wd_mix_other q j _ _ hj) (Nat.zero_le _) (Nat.zero_le _)
                      go_wp2_with fail
                      go_roundw
                      case rel => exact ⟨q + 1, hlt, by go_num, HS.out _ (by rw [wd_mix_at, shR_low g n q hlt]; rfl), CJ.out.setCell _ (fun _ => Or.inr rfl) _⟩
                      case measure => simp [intOf]; omega
                    · obtain rfl : q = (n / 64) := by omega
                      have MJ := Lib.hid (hJ.done rfl hMc (by omega) (by rw [mix_all]; exact HOF.out))
                      have CJ := Lib.hid hC
                      clear hJ hC dd fd
                      go_wp2_with fail
                      go_end0
                      exact ⟨rfl, L, by omega, by omega, sb, MJ.out.to (mix_all _ _ _), Or.inl rfl, CJ.out.setCell _ (fun _ => Or.inl rfl) _⟩
      · have hAd : decide ((nw L : Int) < (N : Nat)) = true := by simp; omega
        have hAd2 : decide (nw L < N) = true := by simp; omega
        have hM : L ≤ t + n := by have := HN.out; unfold nw at *; omega
        have hMd : decide ((L : Int) ≤ (t : Int) + n) = true := by simp; omega
        have MV := Lib.hid (((HB.out.mvIn c1).len (L'' := t + n + 1) (x := (t : Int) + n + 1) (by omega)).new N (db := w1.heap.size) (by simp))
        have CH : Hid (Ch (S2 b sb) w _) := Lib.hid (((HC.out.mono (fun _ _ h => h.elim)).setCell ⟨b, 0, none⟩ (fun _ => Or.inl rfl) (.int .u64 ((t : Int) + n + 1))).alloc (.cells (Array.replicate N (.int .u64 0)) 38))
        have hNu : N ≤ 1000 := by have := HN.out; unfold nw at this; omega
        have hMc : N ≤ N := by omega
        have hNM : N ≤ N := by omega
        have hML : N = nw (t + n + 1) := by have := HN.out; unfold nw at *; omega
        have hoffS : ∀ k, (t + n + 1) ≤ k → shR g n k = false := fun k hk => shR_off HTA.out (by omega)
        have HOF := Lib.hid hoffS
        have HML := Lib.hid hML
        have hh0 : ∀ j, (t / 64) < j → Bit.wd (fun _ => false) j = 0 := fun j hj => Bit.wd_zero fun _ _ => rfl
        have HH := Lib.hid hh0
        have hg0 : ∀ j, (t / 64) < j → Bit.wd g j = 0 := fun j hj => wd_above HTA.out (by omega)
        have HH0 := Lib.hid hg0
        have htN : t + n < 64 * N := by have := HN.out; unfold nw at this; omega
        have hDL : t / 64 < nw L := by unfold nw; omega
        clear hML hoffS hh0 hg0
        have hmk := make74 N N (Nat.le_refl _) (by omega) w1
        have hbl : b < w1.heap.size := by have := HB.out.lt; omega
        have hsl : sb < w1.heap.size := by have := HB.out.lt; omega
        have hbn : b ≠ w1.heap.size := by omega
        have hsn : sb ≠ w1.heap.size := by omega
        have hnb : w1.heap.size ≠ b := by omega
        have hns : w1.heap.size ≠ sb := by omega
        have HCS : Hid (w.heap.size ≤ w1.heap.size) := Lib.hid HC.out.size

        by_cases hs : n % 64 = 0
        · have hsd : ((n : Int) % 64 == 0) = true := beq_iff_eq.2 (by omega)
          have hNk : N - n / 64 = t / 64 + 1 := by have := HN.out; unfold nw at this; omega
          have hPN : n / 64 ≤ N := by omega
          go_wp2_with fail
          generalize ((w1.setCell ⟨b, 0, none⟩ (.int .u64 ((t : Int) + n + 1))).alloc (.cells (Array.replicate N (.int .u64 0)) 38)) = W1 at *
          clear c0 c1 f0 f1
          obtain ⟨c0, c1, f0, f1, _, _, _⟩ := MV.out.look
          obtain ⟨W2, hcp, hM2, hC2⟩ := MV.out.drew.copy (n / 64) (t / 64 + 1) (N - n / 64) (N - n / 64) (nw L) cap (by rw [hNk]; exact (Nat.min_eq_right (by omega)).symm) (by omega) (by omega) (mix (n / 64) (fun _ => false) (shR g n))
            (fun j hj => by rw [wd_mix_ge _ _ _ _ (by omega), Nat.add_comm, ← shR_pages g n j hs])
            (fun j _ hj => by
              by_cases q : j < n / 64
              · rw [wd_mix_lt _ _ _ _ q]
              · rw [wd_mix_ge _ _ _ _ (by omega), shR_high g n t j HTA.out (by omega), HH.out j (by omega)])
          have MV2 := Lib.hid hM2
          have CH2 : Hid (Ch (S2 b sb) w W2) := Lib.hid ((CH.out.drew).trans' hC2 (fun i hi e => by simp only [S1] at e; have := HCS.out; omega))
          have i0 : (0 : Int) ≤ (n : Int) / 64 := by omega
          have i1 : ((n : Int) / 64).toNat = n / 64 := by omega
          have i2 : (n : Int) / 64 ≤ (N : Nat) := by omega
          have i3 : (N : Int) ≤ (N : Nat) := by omega
          have i4 : N ≤ N := by omega
          clear hM2 hC2 MV CH hs hNk
          
          go_still_tail 8, (by kernel_rfl)
          repeat still_step
          try (refine wpStill_nil ?_)
          go_wp2_with fail
          go_loopw [13] (fun v wr => ∃ q : Nat, q ≤ (n / 64) ∧ v = .int .i64 q ∧ Mv wr b sb w1.heap.size (t + n + 1) (nw L) cap N N g (mix q (shR g n) (mix (n / 64) (fun _ => false) (shR g n))) 0 ∧ Ch (S2 b sb) w wr) (fun v _ => (n / 64) - (intOf v).toNat)
          case atStart => exact ⟨0, Nat.zero_le _, by go_num, by rw [mix_zero]; exact MV2.out, CH2.out⟩
          case round =>
            clear MV2 CH2
            obtain ⟨q, hq, rfl, hJ, hC⟩ := hrel
            obtain ⟨c0, c1, f0, f1, _, dd, fd⟩ := hJ.look
            by_cases hlt : q < (n / 64)
            · have e1 := dd q (by omega)
              have e2 := fd q
              have MJ := Lib.hid hJ
              have CJ := Lib.hid hC
              clear hJ hC dd fd
              have HS := Lib.hid fun (x : Int) (hx : x = ((Bit.wd (mix (q + 1) (shR g n) (mix (n / 64) (fun _ => false) (shR g n))) q : Nat) : Int)) => MJ.out.store (lim' := 0) q (by omega) hMc hx (fun j hj _ => wd_mix_other q j _ _ hj) (Nat.zero_le _) (Nat.zero_le _)
              go_wp2_with fail
              go_roundw
              case rel => exact ⟨q + 1, hlt, by go_num, HS.out _ (by rw [wd_mix_at, shR_low g n q hlt]; rfl), CJ.out.setCell _ (fun hl => by have := HCS.out; simp at hl; omega) _⟩
              case measure => simp [intOf]; omega
            · obtain rfl : q = (n / 64) := by omega
              have MJ := Lib.hid (hJ.done HML.out hMc (by omega) (by rw [mix_all]; exact HOF.out))
              have CJ := Lib.hid hC
              clear hJ hC dd fd
              go_wp2_with fail
              go_end0
              exact ⟨rfl, (t + n + 1), by omega, by omega, w1.heap.size, MJ.out.to (mix_all _ _ _), Or.inr HCS.out, CJ.out.setCell _ (fun _ => Or.inl rfl) _⟩
        · have hsd : ((n : Int) % 64 == 0) = false := beq_eq_false_iff_ne.2 (by omega)
          have d0 := DS.out (t / 64) hDL
          by_cases ho : 64 ≤ t % 64 + n % 64
          · have hod : decide ((64 : Int) ≤ (t : Int) % 64 + (n : Int) % 64) = true := by simp; omega
            have j1 : t / 64 + n / 64 + 1 < N := by omega
            have i0 : (0 : Int) ≤ (t : Int) / 64 + (n : Int) / 64 + 1 := by omega
            have i1 : ((t : Int) / 64 + (n : Int) / 64 + 1).toNat = t / 64 + n / 64 + 1 := by omega
            have i2 : (t : Int) / 64 + (n : Int) / 64 + 1 < (N : Nat) := by omega
            have i3 : (0 : Int) ≤ (t : Int) / 64 := by omega
            have i4 : ((t : Int) / 64).toNat = t / 64 := by omega
            have i5 : (t : Int) / 64 < (nw L : Nat) := by omega
            
            
            have MV1 := Lib.hid fun (x : Int) (hx : x = ((Bit.wd (mix (t / 64 + 1 + n / 64) (fun _ => false) (shR g n)) (t / 64 + n / 64 + 1) : Nat) : Int)) => MV.out.store (f' := mix (t / 64 + 1 + n / 64) (fun _ => false) (shR g n)) (lim' := t / 64 + 1) (t / 64 + n / 64 + 1) j1 hMc hx (fun j hj _ => by
              by_cases q : j < t / 64 + 1 + n / 64
              · rw [wd_mix_lt _ _ _ _ q]
              · rw [wd_mix_ge _ _ _ _ (by omega), shR_high g n t j HTA.out (by omega), HH.out j (by omega)]) (by omega) (by omega)
            go_wp2_with fail
            go_loopw [12] (fun v wr => ∃ x : Int, ∃ m : Nat, x + 1 = m ∧ m ≤ (t / 64) + 1 ∧ v = .int .i64 x ∧ Mv wr b sb w1.heap.size (t + n + 1) (nw L) cap N N g (mix (m + (n / 64)) (fun _ => false) (shR g n)) m ∧ Ch (S2 b sb) w wr) (fun v _ => (intOf v + 1).toNat)
            case atStart => exact ⟨(t / 64), (t / 64) + 1, by omega, Nat.le_refl _, by go_num, (by have q := MV1.out (((Bit.wd g (t / 64) : Nat) : Int) / 2 ^ (64 - n % 64)) (by rw [wd_mix_ge _ _ _ _ (by omega)]; exact shl_over g n (t / 64) hs (HH0.out _ (by omega))); rw [World.setCell_alloc_at _ _ _ _ _ (by simp)] at q; exact q), ((HC.out.mono (fun _ _ h => h.elim)).setCell ⟨b, 0, none⟩ (fun _ => Or.inl rfl) (.int .u64 ((t : Int) + n + 1))).alloc _⟩
            case round =>
              clear MV1 CH MV
              obtain ⟨x, m, hxm, hm, rfl, hJ, hC⟩ := hrel
              obtain ⟨c0, c1, f0, f1, ds, dd, fd⟩ := hJ.look
              by_cases hx : 0 ≤ x
              · obtain ⟨q, rfl⟩ : ∃ q : Nat, x = q := ⟨x.toNat, by omega⟩
                obtain rfl : m = q + 1 := by omega
                have e0 := ds q (by omega)
                have e1 := dd (q + (n / 64)) (by omega)
                have e2 := fd (q + (n / 64))
                have e3 := fun hq0 : q ≠ 0 => ds (q - 1) (by omega)
                have E3 := Lib.hid e3
                have MJ := Lib.hid hJ
                have CJ := Lib.hid hC
                clear hJ hC ds dd fd e3 hx
                have HS := Lib.hid fun (x : Int) (hx : x = ((Bit.wd (mix (q + (n / 64)) (fun _ => false) (shR g n)) (q + (n / 64)) : Nat) : Int)) => MJ.out.store (lim' := q) (q + (n / 64)) (by omega) hMc hx (fun j hj _ => mix_down _ _ _ hj) (by omega) (by omega)
                by_cases hq0 : q = 0
                · have hq1 : ¬ 0 < q := by omega
                  have HQ := Lib.hid hq0
                  clear hq0
                  go_wp2_with fail
                  go_roundw
                  case rel => exact ⟨(q : Int) - 1, q, by omega, by omega, by go_num, HS.out _ (by rw [wd_mix_ge _ _ _ _ (Nat.le_refl _)]; have hq := HQ.out; subst hq; exact shl_val0 g n), CJ.out.setCell _ (fun hl => by have := HCS.out; simp at hl; omega) _⟩
                  case measure => simp [intOf]
                · have hq1 : 0 < q := by omega
                  have hwr3 : IntKind.i64.wrap ((n : Int) / 64) = (n : Int) / 64 := IntWalk.i64_in _ (by omega)
                  have hwr2 : IntKind.i64.wrap ((q : Int) + IntKind.i64.wrap ((n : Int) / 64)) = (q : Int) + (n : Int) / 64 := by rw [hwr3]; exact IntWalk.i64_in _ (by omega)
                  have l0 : (0 : Int) ≤ IntKind.i64.wrap ((q : Int) + IntKind.i64.wrap ((n : Int) / 64)) := by rw [hwr2]; omega
                  have l1 : (IntKind.i64.wrap ((q : Int) + IntKind.i64.wrap ((n : Int) / 64))).toNat = q + n / 64 := by rw [hwr2]; omega
                  have l2 : IntKind.i64.wrap ((q : Int) + IntKind.i64.wrap ((n : Int) / 64)) < (N : Nat) := by rw [hwr2]; omega
                  clear hwr3
                  have u0 : (0 : Int) ≤ (q : Int) := by omega
                  have u1 : (q : Int) < (nw L : Nat) := by omega
                  have u3 : q < nw L := by omega
                  clear hwr2
                  have e4 := E3.out hq0
                  have hwr : IntKind.i64.wrap ((q : Int) - 1) = (q : Int) - 1 := IntWalk.i64_in _ (by omega)
                  have k0 : (0 : Int) ≤ IntKind.i64.wrap ((q : Int) - 1) := by rw [hwr]; omega
                  have k1 : (IntKind.i64.wrap ((q : Int) - 1)).toNat = q - 1 := by rw [hwr]; omega
                  have k2 : IntKind.i64.wrap ((q : Int) - 1) < (nw L : Nat) := by rw [hwr]; omega
                  have HQ := Lib.hid hq0
                  clear hwr hq0
                  go_wp2_with fail
                  go_still_tail 27, (by kernel_rfl)
                  repeat still_step
                  try (refine wpStill_nil ?_)
                  go_wp2_with fail
                  go_roundw
                  case rel => exact ⟨(q : Int) - 1, q, by omega, by omega, by go_num, (HS.out _ (by rw [wd_mix_ge _ _ _ _ (Nat.le_refl _)]; exact shl_val g n q hq1 hs)).drew, (CJ.out.setCell _ (fun hl => by have := HCS.out; simp at hl; omega) _).drew⟩
                  case measure => simp [intOf]
              · obtain rfl : m = 0 := by omega
                have MV2 := Lib.hid (by rw [Nat.zero_add] at hJ; exact hJ)
                have CH2 := Lib.hid hC
                clear hJ hC ds dd fd
                go_wp2_with fail
                go_loopw [13] (fun v wr => ∃ q : Nat, q ≤ (n / 64) ∧ v = .int .i64 q ∧ Mv wr b sb w1.heap.size (t + n + 1) (nw L) cap N N g (mix q (shR g n) (mix (n / 64) (fun _ => false) (shR g n))) 0 ∧ Ch (S2 b sb) w wr) (fun v _ => (n / 64) - (intOf v).toNat)
                case atStart => exact ⟨0, Nat.zero_le _, by go_num, by rw [mix_zero]; exact MV2.out, CH2.out⟩
                case round =>
                  clear MV2 CH2
                  obtain ⟨q, hq, rfl, hJ, hC⟩ := hrel
                  obtain ⟨c0, c1, f0, f1, _, dd, fd⟩ := hJ.look
                  by_cases hlt : q < (n / 64)
                  · have e1 := dd q (by omega)
                    have e2 := fd q
                    have MJ := Lib.hid hJ
                    have CJ := Lib.hid hC
                    clear hJ hC dd fd
                    have HS := Lib.hid fun (x : Int) (hx : x = ((Bit.wd (mix (q + 1) (shR g n) (mix (n / 64) (fun _ => false) (shR g n))) q : Nat) : Int)) => MJ.out.store (lim' := 0) q (by omega) hMc hx (fun j hj _ => wd_mix_other q j _ _ hj) (Nat.zero_le _) (Nat.zero_le _)
                    go_wp2_with fail
                    go_roundw
                    case rel => exact ⟨q + 1, hlt, by go_num, HS.out _ (by rw [wd_mix_at, shR_low g n q hlt]; rfl), CJ.out.setCell _ (fun hl => by have := HCS.out; simp at hl; omega) _⟩
                    case measure => simp [intOf]; omega
                  · obtain rfl : q = (n / 64) := by omega
                    have MJ := Lib.hid (hJ.done HML.out hMc (by omega) (by rw [mix_all]; exact HOF.out))
                    have CJ := Lib.hid hC
                    clear hJ hC dd fd
                    go_wp2_with fail
                    go_end0
                    exact ⟨rfl, (t + n + 1), by omega, by omega, w1.heap.size, MJ.out.to (mix_all _ _ _), Or.inr HCS.out, CJ.out.setCell _ (fun _ => Or.inl rfl) _⟩
          · have hod : decide ((64 : Int) ≤ (t : Int) % 64 + (n : Int) % 64) = false := by simp; omega
            have MV1 : Hid (Mv ((w1.setCell ⟨b, 0, none⟩ (.int .u64 ((t : Int) + n + 1))).alloc (.cells (Array.replicate N (.int .u64 0)) 38)) b sb w1.heap.size (t + n + 1) (nw L) cap N N g (mix (t / 64 + 1 + n / 64) (fun _ => false) (shR g n)) (t / 64 + 1)) := Lib.hid (Mv.lim (MV.out.to (fun j hj => by
              by_cases q : j < t / 64 + 1 + n / 64
              · rw [wd_mix_lt _ _ _ _ q]
              · rw [wd_mix_ge _ _ _ _ (by omega), shR_high g n t j HTA.out (by omega), HH.out j (by omega)])) (by omega))
            have CH1 := CH
            clear MV CH
            go_wp2_with fail
            go_loopw [12] (fun v wr => ∃ x : Int, ∃ m : Nat, x + 1 = m ∧ m ≤ (t / 64) + 1 ∧ v = .int .i64 x ∧ Mv wr b sb w1.heap.size (t + n + 1) (nw L) cap N N g (mix (m + (n / 64)) (fun _ => false) (shR g n)) m ∧ Ch (S2 b sb) w wr) (fun v _ => (intOf v + 1).toNat)
            case atStart => exact ⟨(t / 64), (t / 64) + 1, by omega, Nat.le_refl _, by go_num, MV1.out, CH1.out⟩
            case round =>
              clear MV1 CH1
              obtain ⟨x, m, hxm, hm, rfl, hJ, hC⟩ := hrel
              obtain ⟨c0, c1, f0, f1, ds, dd, fd⟩ := hJ.look
              by_cases hx : 0 ≤ x
              · obtain ⟨q, rfl⟩ : ∃ q : Nat, x = q := ⟨x.toNat, by omega⟩
                obtain rfl : m = q + 1 := by omega
                have e0 := ds q (by omega)
                have e1 := dd (q + (n / 64)) (by omega)
                have e2 := fd (q + (n / 64))
                have e3 := fun hq0 : q ≠ 0 => ds (q - 1) (by omega)
                have E3 := Lib.hid e3
                have MJ := Lib.hid hJ
                have CJ := Lib.hid hC
                clear hJ hC ds dd fd e3 hx
                have HS := Lib.hid fun (x : Int) (hx : x = ((Bit.wd (mix (q + (n / 64)) (fun _ => false) (shR g n)) (q + (n / 64)) : Nat) : Int)) => MJ.out.store (lim' := q) (q + (n / 64)) (by omega) hMc hx (fun j hj _ => mix_down _ _ _ hj) (by omega) (by omega)
                by_cases hq0 : q = 0
                · have hq1 : ¬ 0 < q := by omega
                  have HQ := Lib.hid hq0
                  clear hq0
                  go_wp2_with fail
                  go_roundw
                  case rel => exact ⟨(q : Int) - 1, q, by omega, by omega, by go_num, HS.out _ (by rw [wd_mix_ge _ _ _ _ (Nat.le_refl _)]; have hq := HQ.out; subst hq; exact shl_val0 g n), CJ.out.setCell _ (fun hl => by have := HCS.out; simp at hl; omega) _⟩
                  case measure => simp [intOf]
                · have hq1 : 0 < q := by omega
                  have hwr3 : IntKind.i64.wrap ((n : Int) / 64) = (n : Int) / 64 := IntWalk.i64_in _ (by omega)
                  have hwr2 : IntKind.i64.wrap ((q : Int) + IntKind.i64.wrap ((n : Int) / 64)) = (q : Int) + (n : Int) / 64 := by rw [hwr3]; exact IntWalk.i64_in _ (by omega)
                  have l0 : (0 : Int) ≤ IntKind.i64.wrap ((q : Int) + IntKind.i64.wrap ((n : Int) / 64)) := by rw [hwr2]; omega
                  have l1 : (IntKind.i64.wrap ((q : Int) + IntKind.i64.wrap ((n : Int) / 64))).toNat = q + n / 64 := by rw [hwr2]; omega
                  have l2 : IntKind.i64.wrap ((q : Int) + IntKind.i64.wrap ((n : Int) / 64)) < (N : Nat) := by rw [hwr2]; omega
                  clear hwr3
                  have u0 : (0 : Int) ≤ (q : Int) := by omega
                  have u1 : (q : Int) < (nw L : Nat) := by omega
                  have u3 : q < nw L := by omega
                  clear hwr2
                  have e4 := E3.out hq0
                  have hwr : IntKind.i64.wrap ((q : Int) - 1) = (q : Int) - 1 := IntWalk.i64_in _ (by omega)
                  have k0 : (0 : Int) ≤ IntKind.i64.wrap ((q : Int) - 1) := by rw [hwr]; omega
                  have k1 : (IntKind.i64.wrap ((q : Int) - 1)).toNat = q - 1 := by rw [hwr]; omega
                  have k2 : IntKind.i64.wrap ((q : Int) - 1) < (nw L : Nat) := by rw [hwr]; omega
                  have HQ := Lib.hid hq0
                  clear hwr hq0
                  go_wp2_with fail
                  go_still_tail 27, (by kernel_rfl)
                  repeat still_step
                  try (refine wpStill_nil ?_)
                  go_wp2_with fail
                  go_roundw
                  case rel => exact ⟨(q : Int) - 1, q, by omega, by omega, by go_num, (HS.out _ (by rw [wd_mix_ge _ _ _ _ (Nat.le_refl _)]; exact shl_val g n q hq1 hs)).drew, (CJ.out.setCell _ (fun hl => by have := HCS.out; simp at hl; omega) _).drew⟩
                  case measure => simp [intOf]
              · obtain rfl : m = 0 := by omega
                have MV2 := Lib.hid (by rw [Nat.zero_add] at hJ; exact hJ)
                have CH2 := Lib.hid hC
                clear hJ hC ds dd fd
                go_wp2_with fail
                go_loopw [13] (fun v wr => ∃ q : Nat, q ≤ (n / 64) ∧ v = .int .i64 q ∧ Mv wr b sb w1.heap.size (t + n + 1) (nw L) cap N N g (mix q (shR g n) (mix (n / 64) (fun _ => false) (shR g n))) 0 ∧ Ch (S2 b sb) w wr) (fun v _ => (n / 64) - (intOf v).toNat)
                case atStart => exact ⟨0, Nat.zero_le _, by go_num, by rw [mix_zero]; exact MV2.out, CH2.out⟩
                case round =>
                  clear MV2 CH2
                  obtain ⟨q, hq, rfl, hJ, hC⟩ := hrel
                  obtain ⟨c0, c1, f0, f1, _, dd, fd⟩ := hJ.look
                  by_cases hlt : q < (n / 64)
                  · have e1 := dd q (by omega)
                    have e2 := fd q
                    have MJ := Lib.hid hJ
                    have CJ := Lib.hid hC
                    clear hJ hC dd fd
                    have HS := Lib.hid fun (x : Int) (hx : x = ((Bit.wd (mix (q + 1) (shR g n) (mix (n / 64) (fun _ => false) (shR g n))) q : Nat) : Int)) => MJ.out.store (lim' := 0) q (by omega) hMc hx (fun j hj _ => wd_mix_other q j _ _ hj) (Nat.zero_le _) (Nat.zero_le _)
                    go_wp2_with fail
                    go_roundw
                    case rel => exact ⟨q + 1, hlt, by go_num, HS.out _ (by rw [wd_mix_at, shR_low g n q hlt]; rfl), CJ.out.setCell _ (fun hl => by have := HCS.out; simp at hl; omega) _⟩
                    case measure => simp [intOf]; omega
                  · obtain rfl : q = (n / 64) := by omega
                    have MJ := Lib.hid (hJ.done HML.out hMc (by omega) (by rw [mix_all]; exact HOF.out))
                    have CJ := Lib.hid hC
                    clear hJ hC dd fd
                    go_wp2_with fail
                    go_end0
                    exact ⟨rfl, (t + n + 1), by omega, by omega, w1.heap.size, MJ.out.to (mix_all _ _ _), Or.inr HCS.out, CJ.out.setCell _ (fun _ => Or.inl rfl) _⟩
    · have hB := H.out.keep hC (fun h => h) (fun h => h)
      have HC := Lib.hid hC
      have HZ := Lib.hid hz
      clear c0 c1 f0 f1 h4 h5 hC hz
      go_wp2_with fail
      refine bodyPost_ret (results_none rfl _ _ _) rfl ⟨rfl, L, by omega, by omega, sb, by rw [shR_none g n HZ.out]; exact hB, Or.inl rfl, HC.out.mono (fun _ _ h => h.elim)⟩
end Go.Proofs.Ytgnhmgnpmbmjcaa
