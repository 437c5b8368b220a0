/- WALKS: SetRange, FlipRange. -/
import Derived.Test.YtgnhmgnpmbmjcaaWh
import Derived.Test.YtgnhmgnpmbmjcaaP3
namespace Go.Proofs.Ytgnhmgnpmbmjcaa
open Go.RowKit
set_option linter.unusedVariables false
set_option linter.unusedSimpArgs false

theorem wordsIndex_neg (i : Nat) (x : Int) (hx : x = IntKind.u64.wrap (-(i : Int))) (h : i ≤ 1000000) (w : World) : Calls Try.prog 77 #[.int .u64 x] w fun e w' => e = .returned (.int .u64 ((64 - i % 64) % 64 : Nat)) ∧ w = w' := by
  have hw : x = ((((18446744073709551616 - i) % 18446744073709551616 : Nat) : Int)) := by
    rw [hx, IntKind.wrap_u64]; omega
  have hm : ((18446744073709551616 - i) % 18446744073709551616) % 64 = (64 - i % 64) % 64 := by omega
  have hb : (18446744073709551616 - i) % 18446744073709551616 < 18446744073709551616 := Nat.mod_lt _ (by decide)
  generalize (18446744073709551616 - i) % 18446744073709551616 = y at *
  subst hw
  clear hx
  rw [← hm]
  go_enter Try.func77, Try.ntmps77
  go_wp2
  go_ret
  exact ⟨int_eq (by rw [show (63 : Int) = ((63 : Nat) : Int) from rfl, u64_and_nat _ _ hb (by omega), nat_mask6]), rfl⟩

theorem first_mask (n : Nat) (hn : n < 64) : IntKind.u64.wrap (18446744073709551615 * 2 ^ n) = ((18446744073709551616 - 2 ^ n : Nat) : Int) := by
  have e : (18446744073709551615 * 2 ^ n : Int) = ((18446744073709551615 * 2 ^ n : Nat) : Int) := by rw [Int.natCast_mul, Int.natCast_pow]; rfl
  rw [IntKind.wrap_u64, e, ← Bit.shl_all n hn]; rfl
theorem last_mask (n m : Nat) (hn : n ≤ 64) (hm : m = 64 - n) : (18446744073709551615 : Int) / 2 ^ n = ((2 ^ m - 1 : Nat) : Int) := by
  have e : (2 ^ n : Int) = ((2 ^ n : Nat) : Int) := (Int.natCast_pow 2 n).symm
  rw [e, hm, ← Bit.shr_all n hn]; rfl
theorem low_lt (m : Nat) (h : m ≤ 64) : 2 ^ m - 1 < 18446744073709551616 := by
  have : 2 ^ m ≤ 2 ^ 64 := Nat.pow_le_pow_right (by decide) h
  omega
theorem high_lt (m : Nat) : 18446744073709551616 - 2 ^ m < 18446744073709551616 := by
  have : 0 < 2 ^ m := Nat.pow_pos (by decide)
  omega
theorem BS.to {w : World} {b sb L : Nat} {f g : Nat → Bool} (h : BS w b sb L f) (e : f = g) : BS w b sb L g := e ▸ h
theorem mix_setR_start (g : Nat → Bool) (s e : Nat) : mix (s / 64) (setR g s e) g = g := by
  funext k; unfold mix; split
  · exact setR_below g s e k (by assumption)
  · rfl
theorem mix_setR_end (g : Nat → Bool) (s e m : Nat) (h : e ≤ 64 * m) : mix m (setR g s e) g = setR g s e := by
  funext k; unfold mix; split
  · rfl
  · exact (setR_above g s e k (by omega)).symm

set_option maxRecDepth 100000 in
set_option maxHeartbeats 1000000 in
theorem setRange_in (b sb L s e : Nat) (g : Nat → Bool) (w : World) (h : BS w b sb L g) (hs : s < e) (he : e ≤ L) (hL : L ≤ 40000) :
    Calls Try.prog 51 #[.pointer (some ⟨b, 0, none⟩), .int .u64 s, .int .u64 e] w fun r w' => r = .returned (.pointer (some ⟨b, 0, none⟩)) ∧ BS w' b sb L (setR g s e) ∧ Ch (S2 b sb) w w' := by
  obtain ⟨cap, c0, c1, h4, h5, f0, f1, fs, h6⟩ := h.look
  have hoff := h.off
  have hofs : ∀ k, L ≤ k → setR g s e k = false := fun k hk => by rw [setR_above _ _ _ _ (by omega)]; exact hoff k hk
  have hnw1 : s / 64 < nw L := by unfold nw; omega
  have hnw2 : (e - 1) / 64 < nw L := by unfold nw; omega
  have d0 := h6 (s / 64) hnw1
  have e0 := fs (s / 64)
  have hb : (0 : Int) ≤ (s : Int) / 64 := by omega
  have hb' : (s : Int) / 64 < (nw L : Nat) := by omega
  have ht : ((s : Int) / 64).toNat = s / 64 := by omega
  have hst := fun (x : Int) (hx : x = ((Bit.wd (setR g s e) (s / 64) : Nat) : Int)) => BS.storeMix (m := s / 64) (f := setR g s e) (g := g) (by rw [mix_setR_start]; exact h) hnw1 hx hofs hoff
  have HS := Lib.hid hst
  have HO := Lib.hid hoff
  have HO2 := Lib.hid hofs
  clear h fs h6 hoff hofs hst
  by_cases hq : s / 64 = (e - 1) / 64
  · have hqd : ((s : Int) / 64 == ((e : Int) - 1) / 64) = true := beq_iff_eq.2 (by omega)
    have HQ := Lib.hid hq
    clear hq
    go_enter Try.func51, Try.ntmps51
    go_wp2_with fail
    refine (wordsIndex_any s _ rfl (by omega) _).mono ?_
    rintro r w1 ⟨rfl, rfl⟩
    go_wp2_with fail
    refine (wordsIndex_neg e _ rfl (by omega) _).mono ?_
    rintro r w1 ⟨rfl, rfl⟩
    go_wp2_with fail
    go_ret
    have q := HQ.out
    have r := fun (x : Int) (hx : x = ((Bit.wd (setR g s e) (s / 64) : Nat) : Int)) => (HS.out x hx).to (mix_setR_end g s e _ (by omega))
    exact ⟨rfl,  (r _ (by rw [first_mask _ (by omega), last_mask _ (e - 64 * ((e - 1) / 64)) (by omega) (by omega), u64_and_nat _ _ (high_lt _) (low_lt _ (by omega)), u64_or_nat _ _ (Bit.wd_lt _ _) (Nat.lt_of_le_of_lt Nat.and_le_left (high_lt _)), setR_only g s e _ q hs rfl])) , ((Ch.refl _ _).setCell _ (fun _ => Or.inr rfl) _)⟩
  · have hqd : ((s : Int) / 64 == ((e : Int) - 1) / 64) = false := beq_eq_false_iff_ne.2 (by omega)
    have hlt2 : s / 64 < (e - 1) / 64 := by omega
    have HQ := Lib.hid hlt2
    clear hq hlt2
    go_enter Try.func51, Try.ntmps51
    go_wp2_with fail
    refine (wordsIndex_any s _ rfl (by omega) _).mono ?_
    rintro r w1 ⟨rfl, rfl⟩
    go_wp2_with fail
    refine (wordsIndex_neg e _ rfl (by omega) _).mono ?_
    rintro r w1 ⟨rfl, rfl⟩
    go_wp2_with fail
    go_loopw [11] (fun k wr => ∃ m : Nat, s / 64 < m ∧ m ≤ (e - 1) / 64 ∧ k = .int .u64 m ∧ BS wr b sb L (mix m (setR g s e) g) ∧ Ch (S2 b sb) w wr) (fun k _ => (e - 1) / 64 - (intOf k).toNat)
    case atStart =>
      have q := HQ.out
      exact ⟨s / 64 + 1, by omega, by omega, by go_num, HS.out _ (by rw [first_mask _ (by omega), u64_or_nat _ _ (Bit.wd_lt _ _) (high_lt _), setR_first g s e (by omega) hs]), (Ch.refl _ _).setCell _ (fun _ => Or.inr rfl) _⟩
    case round =>
      obtain ⟨m, hm1, hm2, rfl, hJ, hC⟩ := hrel
      clear c0 c1 f0 f1 d0 e0
      obtain ⟨cap2, c0, c1, _, _, f0, f1, fs, h6⟩ := hJ.look
      by_cases hlt : m < (e - 1) / 64
      · have hdd : decide ((m : Int) < ((e : Int) - 1) / 64) = true := decide_eq_true (by omega)
        have d0 := fs m
        have d1 := h6 m (by omega)
        have hi0 : (0 : Int) ≤ (m : Int) := by omega
        have hi1 : (m : Int) < (nw L : Nat) := by omega
        have hst := fun (x : Int) (hx : x = ((Bit.wd (setR g s e) m : Nat) : Int)) => hJ.storeMix (by omega) hx HO2.out HO.out
        have HT := Lib.hid hst
        have HC := Lib.hid hC
        have HM := Lib.hid hlt
        clear hst hJ hC fs h6 hlt
        go_wp2_with fail
        go_roundw
        case rel =>
          have q := HM.out
          exact ⟨m + 1, by omega, by omega, by go_num, HT.out _ (by rw [← setR_mid g s e m hm1 q]; rfl), HC.out.setCell _ (fun _ => Or.inr rfl) _⟩
        case measure =>
          have q := HM.out
          simp [intOf]; omega
      · obtain rfl : m = (e - 1) / 64 := by omega
        have hdd : decide ((((e - 1) / 64 : Nat) : Int) < ((e : Int) - 1) / 64) = false := decide_eq_false (by omega)
        have d0 := fs ((e - 1) / 64)
        have d1 := h6 ((e - 1) / 64) hnw2
        have hi0 : (0 : Int) ≤ ((e : Int) - 1) / 64 := by omega
        have hi1 : ((e : Int) - 1) / 64 < (nw L : Nat) := by omega
        have hi2 : (((e : Int) - 1) / 64).toNat = (e - 1) / 64 := by omega
        have hwd : Bit.wd (mix ((e - 1) / 64) (setR g s e) g) ((e - 1) / 64) = Bit.wd g ((e - 1) / 64) := Bit.wd_congr fun k hk => by unfold mix; rw [if_neg (by omega)]
        rw [hwd] at d1
        have r := fun (x : Int) (hx : x = ((Bit.wd (setR g s e) ((e - 1) / 64) : Nat) : Int)) => (hJ.storeMix hnw2 hx HO2.out HO.out).to (mix_setR_end g s e _ (by omega))
        have HT := Lib.hid r
        have HC := Lib.hid hC
        clear r hJ hC fs h6 hlt hwd
        go_wp2_with fail
        go_ret
        have q := HQ.out
        exact ⟨rfl,  (HT.out _ (by rw [last_mask _ (e - 64 * ((e - 1) / 64)) (by omega) (by omega), u64_or_nat _ _ (Bit.wd_lt _ _) (low_lt _ (by omega)), setR_last g s e _ q rfl])) , (HC.out.setCell _ (fun _ => Or.inr rfl) _)⟩

set_option maxRecDepth 100000 in
set_option maxHeartbeats 1000000 in
theorem setRange_out (b sb L s e : Nat) (g : Nat → Bool) (w : World) (h : BS w b sb L g) (hs : s < e) (hL : L < e) (he : e ≤ 40000) :
    Calls Try.prog 51 #[.pointer (some ⟨b, 0, none⟩), .int .u64 s, .int .u64 e] w fun r w' => r = .returned (.pointer (some ⟨b, 0, none⟩)) ∧ Out w w' b sb e (setR g s e) := by
  obtain ⟨_, x0, _⟩ := h.look
  have hlt := h.lt
  have H := Lib.hid h
  clear h
  go_enter Try.func51, Try.ntmps51
  go_wp2_with fail
  have hext := (extend_any b sb L (e - 1) g w H.out (by omega) (by omega))
  rw [show ((e - 1 : Nat) : Int) = (e : Int) - 1 from by omega, show e - 1 + 1 = e from by omega] at hext
  refine hext.mono ?_
  rintro r wE ⟨rfl, sb1, h, hsb, hCE⟩
  have HCE := Lib.hid hCE
  clear hext hCE x0
  obtain ⟨cap, c0, c1, h4, h5, f0, f1, fs, h6⟩ := h.look
  have hoff := h.off
  have hofs : ∀ k, e ≤ k → setR g s e k = false := fun k hk => by rw [setR_above _ _ _ _ (by omega)]; exact hoff k hk
  have hnw1 : s / 64 < nw e := by unfold nw; omega
  have hnw2 : (e - 1) / 64 < nw e := by unfold nw; omega
  have d0 := h6 (s / 64) hnw1
  have e0 := fs (s / 64)
  have hb : (0 : Int) ≤ (s : Int) / 64 := by omega
  have hb' : (s : Int) / 64 < (nw e : Nat) := by omega
  have ht : ((s : Int) / 64).toNat = s / 64 := by omega
  have hst := fun (x : Int) (hx : x = ((Bit.wd (setR g s e) (s / 64) : Nat) : Int)) => BS.storeMix (m := s / 64) (f := setR g s e) (g := g) (by rw [mix_setR_start]; exact h) hnw1 hx hofs hoff
  have HS := Lib.hid hst
  have HO := Lib.hid hoff
  have HO2 := Lib.hid hofs
  clear h fs h6 hoff hofs hst
  by_cases hq : s / 64 = (e - 1) / 64
  · have hqd : ((s : Int) / 64 == ((e : Int) - 1) / 64) = true := beq_iff_eq.2 (by omega)
    have HQ := Lib.hid hq
    clear hq
    go_wp2_with fail
    refine (wordsIndex_any s _ rfl (by omega) _).mono ?_
    rintro r w1 ⟨rfl, rfl⟩
    go_wp2_with fail
    refine (wordsIndex_neg e _ rfl (by omega) _).mono ?_
    rintro r w1 ⟨rfl, rfl⟩
    go_wp2_with fail
    go_ret
    have q := HQ.out
    have r := fun (x : Int) (hx : x = ((Bit.wd (setR g s e) (s / 64) : Nat) : Int)) => (HS.out x hx).to (mix_setR_end g s e _ (by omega))
    exact ⟨rfl, sb1,  (r _ (by rw [first_mask _ (by omega), last_mask _ (e - 64 * ((e - 1) / 64)) (by omega) (by omega), u64_and_nat _ _ (high_lt _) (low_lt _ (by omega)), u64_or_nat _ _ (Bit.wd_lt _ _) (Nat.lt_of_le_of_lt Nat.and_le_left (high_lt _)), setR_only g s e _ q hs rfl])) , hsb, (HCE.out.setCell _ (fun h => by rcases hsb with rfl | h2; exact Or.inr rfl; simp at h; omega) _)⟩
  · have hqd : ((s : Int) / 64 == ((e : Int) - 1) / 64) = false := beq_eq_false_iff_ne.2 (by omega)
    have hlt2 : s / 64 < (e - 1) / 64 := by omega
    have HQ := Lib.hid hlt2
    clear hq hlt2
    go_wp2_with fail
    refine (wordsIndex_any s _ rfl (by omega) _).mono ?_
    rintro r w1 ⟨rfl, rfl⟩
    go_wp2_with fail
    refine (wordsIndex_neg e _ rfl (by omega) _).mono ?_
    rintro r w1 ⟨rfl, rfl⟩
    go_wp2_with fail
    go_loopw [11] (fun k wr => ∃ m : Nat, s / 64 < m ∧ m ≤ (e - 1) / 64 ∧ k = .int .u64 m ∧ BS wr b sb1 e (mix m (setR g s e) g) ∧ Ch (S2 b sb) w wr) (fun k _ => (e - 1) / 64 - (intOf k).toNat)
    case atStart =>
      have q := HQ.out
      exact ⟨s / 64 + 1, by omega, by omega, by go_num, HS.out _ (by rw [first_mask _ (by omega), u64_or_nat _ _ (Bit.wd_lt _ _) (high_lt _), setR_first g s e (by omega) hs]), HCE.out.setCell _ (fun h => by rcases hsb with rfl | h2; exact Or.inr rfl; simp at h; omega) _⟩
    case round =>
      obtain ⟨m, hm1, hm2, rfl, hJ, hC⟩ := hrel
      clear c0 c1 f0 f1 d0 e0
      obtain ⟨cap2, c0, c1, _, _, f0, f1, fs, h6⟩ := hJ.look
      by_cases hlt : m < (e - 1) / 64
      · have hdd : decide ((m : Int) < ((e : Int) - 1) / 64) = true := decide_eq_true (by omega)
        have d0 := fs m
        have d1 := h6 m (by omega)
        have hi0 : (0 : Int) ≤ (m : Int) := by omega
        have hi1 : (m : Int) < (nw e : Nat) := by omega
        have hst := fun (x : Int) (hx : x = ((Bit.wd (setR g s e) m : Nat) : Int)) => hJ.storeMix (by omega) hx HO2.out HO.out
        have HT := Lib.hid hst
        have HC := Lib.hid hC
        have HM := Lib.hid hlt
        clear hst hJ hC fs h6 hlt
        go_wp2_with fail
        go_roundw
        case rel =>
          have q := HM.out
          exact ⟨m + 1, by omega, by omega, by go_num, HT.out _ (by rw [← setR_mid g s e m hm1 q]; rfl), HC.out.setCell _ (fun h => by rcases hsb with rfl | h2; exact Or.inr rfl; simp at h; omega) _⟩
        case measure =>
          have q := HM.out
          simp [intOf]; omega
      · obtain rfl : m = (e - 1) / 64 := by omega
        have hdd : decide ((((e - 1) / 64 : Nat) : Int) < ((e : Int) - 1) / 64) = false := decide_eq_false (by omega)
        have d0 := fs ((e - 1) / 64)
        have d1 := h6 ((e - 1) / 64) hnw2
        have hi0 : (0 : Int) ≤ ((e : Int) - 1) / 64 := by omega
        have hi1 : ((e : Int) - 1) / 64 < (nw e : Nat) := by omega
        have hi2 : (((e : Int) - 1) / 64).toNat = (e - 1) / 64 := by omega
        have hwd : Bit.wd (mix ((e - 1) / 64) (setR g s e) g) ((e - 1) / 64) = Bit.wd g ((e - 1) / 64) := Bit.wd_congr fun k hk => by unfold mix; rw [if_neg (by omega)]
        rw [hwd] at d1
        have r := fun (x : Int) (hx : x = ((Bit.wd (setR g s e) ((e - 1) / 64) : Nat) : Int)) => (hJ.storeMix hnw2 hx HO2.out HO.out).to (mix_setR_end g s e _ (by omega))
        have HT := Lib.hid r
        have HC := Lib.hid hC
        clear r hJ hC fs h6 hlt hwd
        go_wp2_with fail
        go_ret
        have q := HQ.out
        exact ⟨rfl, sb1,  (HT.out _ (by rw [last_mask _ (e - 64 * ((e - 1) / 64)) (by omega) (by omega), u64_or_nat _ _ (Bit.wd_lt _ _) (low_lt _ (by omega)), setR_last g s e _ q rfl])) , hsb, (HC.out.setCell _ (fun h => by rcases hsb with rfl | h2; exact Or.inr rfl; simp at h; omega) _)⟩

theorem setRange_any (b sb L s e : Nat) (g : Nat → Bool) (w : World) (h : BS w b sb L g) (hs : s < e) (hL : L ≤ 40000) (he : e ≤ 40000) (x y : Int) (hx : x = s) (hy : y = e) :
    Calls Try.prog 51 #[.pointer (some ⟨b, 0, none⟩), .int .u64 x, .int .u64 y] w fun r w' => r = .returned (.pointer (some ⟨b, 0, none⟩)) ∧ Out w w' b sb (max L e) (setR g s e) := by
  subst hx hy
  by_cases hq : e ≤ L
  · refine (setRange_in b sb L s e g w h hs hq hL).mono ?_
    rintro r w' ⟨h1, h2, h3⟩
    exact ⟨h1, sb, by rw [Nat.max_eq_left hq]; exact h2, Or.inl rfl, h3⟩
  · refine (setRange_out b sb L s e g w h hs (by omega) he).mono ?_
    rintro r w' ⟨h1, h2⟩
    exact ⟨h1, by rw [Nat.max_eq_right (by omega)]; exact h2⟩

end Go.Proofs.Ytgnhmgnpmbmjcaa
