/- WALKS: Clone, Union, SymmetricDifference, Intersection, Difference. -/
import Derived.Test.YtgnhmgnpmbmjcaaWg
namespace Go.Proofs.Ytgnhmgnpmbmjcaa
open Go.RowKit
set_option linter.unusedVariables false
set_option linter.unusedSimpArgs false

/-- f below 64 m, g from there on. -/
def mix (m : Nat) (f g : Nat → Bool) : Nat → Bool := fun k => if k < 64 * m then f k else g k

theorem mix_zero (f g : Nat → Bool) : mix 0 f g = g := by funext k; simp [mix]
theorem wd_mix_at (m : Nat) (f g : Nat → Bool) : Bit.wd (mix (m + 1) f g) m = Bit.wd f m := Bit.wd_congr fun k hk => by simp [mix]; omega
theorem wd_mix_other (m j : Nat) (f g : Nat → Bool) (h : j ≠ m) : Bit.wd (mix (m + 1) f g) j = Bit.wd (mix m f g) j := Bit.wd_congr fun k hk => by
  unfold mix
  by_cases h1 : 64 * j + k < 64 * m
  · rw [if_pos (by omega), if_pos h1]
  · rw [if_neg (by omega), if_neg h1]

/-- Word m of a bitset is stored. -/
theorem BS.storeMix {w : World} {b sb L m : Nat} {f g : Nat → Bool} (h : BS w b sb L (mix m f g)) {x : Int} (hm : m < nw L) (hx : x = ((Bit.wd f m : Nat) : Int)) (hoff : ∀ k, L ≤ k → f k = false) (hoffg : ∀ k, L ≤ k → g k = false) :
    BS (w.setCell ⟨sb, m, none⟩ (.int .u64 x)) b sb L (mix (m + 1) f g) :=
  h.store m hm (by rw [wd_mix_at]; exact hx) (fun j hj _ => wd_mix_other m j f g hj) (fun k hk => by unfold mix; split; exact hoff k hk; exact hoffg k hk)

set_option maxHeartbeats 400000 in
theorem wordCount_any (b sb L : Nat) (g : Nat → Bool) (w : World) (h : BS w b sb L g) (hL : L ≤ 90000) :
    Calls Try.prog 81 #[.pointer (some ⟨b, 0, none⟩)] w fun e w' => e = .returned (.int .i64 (nw L : Nat)) ∧ w = w' := by
  obtain ⟨cap, c0, c1, h4, h5, f0, f1, fs, h6⟩ := h.look
  clear h fs h6
  go_enter Try.func81, Try.ntmps81
  go_wp2_with (go_at_call 90; refine (wordsNeededUnbound_any L _ rfl (by omega) _).mono ?_; rintro e w' ⟨rfl, rfl⟩)
  go_ret
  exact ⟨rfl, rfl⟩

set_option maxHeartbeats 400000 in
theorem panicIfNull_any (a : Addr) (w : World) : Calls Try.prog 79 #[.pointer (some a)] w fun e w' => e = .returned (.tuple #[]) ∧ w = w' := by
  go_enter Try.func79, Try.ntmps79
  go_wp2
  go_end0
  exact ⟨rfl, rfl⟩

set_option maxHeartbeats 400000 in
theorem sort_le (b1 s1 b2 s2 L1 L2 : Nat) (g1 g2 : Nat → Bool) (w : World) (h1 : BS w b1 s1 L1 g1) (h2 : BS w b2 s2 L2 g2) (hle : L1 ≤ L2) :
    Calls Try.prog 80 #[.pointer (some ⟨b1, 0, none⟩), .pointer (some ⟨b2, 0, none⟩)] w fun e w' => e = .returned (.tuple #[.pointer (some ⟨b1, 0, none⟩), .pointer (some ⟨b2, 0, none⟩)]) ∧ Ch S0 w w' := by
  obtain ⟨cap1, c0, _, _, _, _, _, _, _⟩ := h1.look
  obtain ⟨cap2, d0, _, _, _, _, _, _, _⟩ := h2.look
  have hd : (L1 : Int) ≤ (L2 : Int) := by omega
  clear h1 h2
  go_enter Try.func80, Try.ntmps80
  go_wp2
  go_quiet (fail)
  go_wp2
  go_ret2
  exact ⟨rfl, drewN_ch _ _ _⟩

set_option maxHeartbeats 400000 in
theorem sort_gt (b1 s1 b2 s2 L1 L2 : Nat) (g1 g2 : Nat → Bool) (w : World) (h1 : BS w b1 s1 L1 g1) (h2 : BS w b2 s2 L2 g2) (hle : L2 < L1) :
    Calls Try.prog 80 #[.pointer (some ⟨b1, 0, none⟩), .pointer (some ⟨b2, 0, none⟩)] w fun e w' => e = .returned (.tuple #[.pointer (some ⟨b2, 0, none⟩), .pointer (some ⟨b1, 0, none⟩)]) ∧ Ch S0 w w' := by
  obtain ⟨cap1, c0, _, _, _, _, _, _, _⟩ := h1.look
  obtain ⟨cap2, d0, _, _, _, _, _, _, _⟩ := h2.look
  have hd : decide (L1 ≤ L2) = false := by simp; omega
  clear h1 h2
  go_enter Try.func80, Try.ntmps80
  go_wp2
  go_quiet (fail)
  go_wp2
  go_ret2
  exact ⟨rfl, drewN_ch _ _ _⟩

theorem neqnil74 (w : World) (a : Option Addr) (n c n' c' : Nat) : (binOp .neq 74 (.slice a n c) (.slice none n' c')).run Try.prog w = .ok (.bool (!a.isNone)) w := run_neq_slice_nil_any w _ _ a n c n' c' Try.underlying74

set_option maxRecDepth 100000 in
set_option maxHeartbeats 400000 in
/-- Clone: a new bitset with the same bits. -/
theorem clone_any (b sb L : Nat) (g : Nat → Bool) (w : World) (h : BS w b sb L g) (hL : L ≤ 40000) :
    Calls Try.prog 62 #[.pointer (some ⟨b, 0, none⟩)] w fun e w' => ∃ c sc, e = .returned (.pointer (some ⟨c, 0, none⟩)) ∧ BS w' c sc L g ∧ w.heap.size ≤ c ∧ w.heap.size ≤ sc ∧ Ch S0 w w' := by
  have hlt := h.lt
  have hnil := neqnil74
  obtain ⟨cap, c0, c1, h4, h5, f0, f1, fs, h6⟩ := h.look
  have H := Lib.hid h
  clear h fs h6
  go_enter Try.func62, Try.ntmps62
  go_wp2_with fail
  refine (new_any L (by omega) _).mono ?_
  rintro e w1 ⟨c, sc, rfl, hB, hc1, hc2, hC⟩
  have hB1 := H.out.keep hC (fun h => h) (fun h => h)
  obtain ⟨_, hoff, cap1, C1, k1, k2, k3, k4, k5, k6⟩ := hB1
  obtain ⟨hne, _, cap2, C2, j1, j2, j3, j4, j5, j6⟩ := hB
  obtain ⟨w2, hcp, ⟨C', q1, q2, q3, q4⟩, hC2⟩ := copy74 w1.drew sc sb C2 C1 j2.drew k2.drew (nw L) cap2 (nw L) cap1 (nw L) (Nat.min_self _).symm (fun j hj => ⟨_, k6 j hj⟩) (by omega)
  have hch : Ch S0 w w2 := (hC.trans ((Ch.refl S0 _).drew)).trans' hC2 (fun i hi e => by simp only [S1] at e; omega)
  have hfin : BS w2 c sc L g := ⟨hne, hoff, cap2, C', j1.drew.keep hC2 (fun e => hne (by simpa [S1] using e)), q1, by omega, j4, j5, fun i hi => by rw [q3 i hi]; exact k6 i hi⟩
  have d0 := j1.cell 1
  have d1 := k1.cell 1
  simp at d0 d1
  have HF := Lib.hid hfin
  have HC := Lib.hid hch
  clear hC k1 k2 k3 k4 k5 k6 j1 j2 j3 j4 j5 j6 q1 q2 q3 q4 hC2 hfin hch c0 c1 f0 f1 hoff
  go_wp2_with fail
  go_still_tail 8, (by kernel_rfl)
  go_wp2
  go_ret
  exact ⟨c, sc, rfl, HF.out, by omega, by omega, HC.out⟩

set_option maxRecDepth 100000 in
set_option maxHeartbeats 1000000 in
theorem union_le (b1 s1 b2 s2 L1 L2 : Nat) (g1 g2 : Nat → Bool) (w : World) (h1 : BS w b1 s1 L1 g1) (h2 : BS w b2 s2 L2 g2) (hL1 : L1 ≤ 40000) (hL2 : L2 ≤ 40000) (hle : L1 ≤ L2) :
    Calls Try.prog 47 #[.pointer (some ⟨b1, 0, none⟩), .pointer (some ⟨b2, 0, none⟩)] w fun e w' => ∃ c sc, e = .returned (.pointer (some ⟨c, 0, none⟩)) ∧ BS w' c sc L2 (mix (nw L1) (fun k => g1 k || g2 k) g2) ∧ w.heap.size ≤ c ∧ w.heap.size ≤ sc ∧ Ch S0 w w' := by
  have hl1 := h1.lt
  have hl2 := h2.lt
  have ho1 := Lib.hid h1.off
  have ho2 := Lib.hid h2.off
  have H1 := Lib.hid h1
  have H2 := Lib.hid h2
  clear h1 h2
  go_enter Try.func47, Try.ntmps47
  go_wp2_with (go_at_call 79; refine (panicIfNull_any _ _).mono ?_; rintro e w' ⟨rfl, rfl⟩)
  refine (sort_le b1 s1 b2 s2 L1 L2 g1 g2 _ H1.out H2.out hle).mono ?_
  rintro e w1 ⟨rfl, hC1⟩
  obtain ⟨cap0, z0, z1, _, _, _, _, _, _⟩ := (H1.out.keep hC1 (fun h => h) (fun h => h)).look
  go_wp2_with fail
  refine (clone_any b2 s2 L2 g2 _ (H2.out.keep hC1 (fun h => h) (fun h => h)) (by omega)).mono ?_
  rintro e w2 ⟨c, sc, rfl, hB, hc1, hc2, hC2⟩
  have hC12 := hC1.trans hC2
  have hsz := hC1.size
  obtain ⟨cap1, x0, x1, _, _, _, _, _, _⟩ := (H1.out.keep hC12 (fun h => h) (fun h => h)).look
  have HC12 := Lib.hid hC12
  have HB := Lib.hid hB
  clear hC1 hC2 hC12 hB z0 z1
  go_wp2_with fail
  go_loopw [24] (fun k wr => ∃ m : Nat, m ≤ nw L1 ∧ k = .int .i64 m ∧ BS wr c sc L2 (mix m (fun k => g1 k || g2 k) g2) ∧ Ch S0 w wr) (fun k _ => nw L1 - (intOf k).toNat)
  case atStart => exact ⟨0, Nat.zero_le _, rfl, by rw [mix_zero]; exact HB.out, HC12.out⟩
  case round =>
    obtain ⟨m, hm, rfl, hJ, hC⟩ := hrel
    by_cases hlt : m < nw L1
    · have hnw : nw L1 ≤ nw L2 := nw_le (by omega)
      obtain ⟨p1, y0, y1, _, _, _, _, _, y6⟩ := (H1.out.keep hC (fun h => h) (fun h => h)).look
      obtain ⟨p2, r0, r1, _, _, _, _, _, r6⟩ := (H2.out.keep hC (fun h => h) (fun h => h)).look
      obtain ⟨p3, t0, t1, _, _, _, _, tf, t6⟩ := hJ.look
      have y6 := y6 m (by omega)
      have r6 := r6 m (by omega)
      have t6 := t6 m (by omega)
      have tf := tf m
      have hi0 : (0 : Int) ≤ (m : Int) := by omega
      have hi1 : (m : Int) < (nw L1 : Nat) := by omega
      have hi2 : (m : Int) < (nw L2 : Nat) := by omega
      have hst := fun (x : Int) (hx : x = ((Bit.wd (fun k => g1 k || g2 k) m : Nat) : Int)) => (hJ.storeMix (by omega) hx (fun k hk => by have e1 := ho1.out k; have e2 := ho2.out k; by_cases q1 : L1 ≤ k <;> by_cases q2 : L2 ≤ k <;> simp_all <;> omega) (fun k hk => by first | rfl | exact ho2.out k (by omega))).drew
      have HS := Lib.hid hst
      have HC := Lib.hid hC
      clear hst hC hJ x0 x1
      go_wp2_with fail
      go_still_tail 15, (by kernel_rfl)
      go_wp2
      go_roundw
      case rel => exact ⟨m + 1, by omega, by go_num, HS.out _ (by rw [u64_or_nat _ _ (Bit.wd_lt _ _) (Bit.wd_lt _ _), Bit.wd_or]), (HC.out.setCell _ (fun hl => by simp at hl; omega) _).drew⟩
      case measure => simp [intOf]; omega
    · obtain rfl : m = nw L1 := by omega
      have HJ := Lib.hid hJ
      have HC := Lib.hid hC
      clear hJ hC
      go_wp2
      go_ret
      exact ⟨c, sc, rfl, HJ.out, by omega, by omega, HC.out⟩

set_option maxRecDepth 100000 in
set_option maxHeartbeats 1000000 in
theorem union_gt (b1 s1 b2 s2 L1 L2 : Nat) (g1 g2 : Nat → Bool) (w : World) (h1 : BS w b1 s1 L1 g1) (h2 : BS w b2 s2 L2 g2) (hL1 : L1 ≤ 40000) (hL2 : L2 ≤ 40000) (hle : L2 < L1) :
    Calls Try.prog 47 #[.pointer (some ⟨b1, 0, none⟩), .pointer (some ⟨b2, 0, none⟩)] w fun e w' => ∃ c sc, e = .returned (.pointer (some ⟨c, 0, none⟩)) ∧ BS w' c sc L1 (mix (nw L2) (fun k => g2 k || g1 k) g1) ∧ w.heap.size ≤ c ∧ w.heap.size ≤ sc ∧ Ch S0 w w' := by
  have hl1 := h1.lt
  have hl2 := h2.lt
  have ho1 := Lib.hid h1.off
  have ho2 := Lib.hid h2.off
  have H1 := Lib.hid h1
  have H2 := Lib.hid h2
  clear h1 h2
  go_enter Try.func47, Try.ntmps47
  go_wp2_with (go_at_call 79; refine (panicIfNull_any _ _).mono ?_; rintro e w' ⟨rfl, rfl⟩)
  refine (sort_gt b1 s1 b2 s2 L1 L2 g1 g2 _ H1.out H2.out hle).mono ?_
  rintro e w1 ⟨rfl, hC1⟩
  obtain ⟨cap0, z0, z1, _, _, _, _, _, _⟩ := (H2.out.keep hC1 (fun h => h) (fun h => h)).look
  go_wp2_with fail
  refine (clone_any b1 s1 L1 g1 _ (H1.out.keep hC1 (fun h => h) (fun h => h)) (by omega)).mono ?_
  rintro e w2 ⟨c, sc, rfl, hB, hc1, hc2, hC2⟩
  have hC12 := hC1.trans hC2
  have hsz := hC1.size
  obtain ⟨cap1, x0, x1, _, _, _, _, _, _⟩ := (H2.out.keep hC12 (fun h => h) (fun h => h)).look
  have HC12 := Lib.hid hC12
  have HB := Lib.hid hB
  clear hC1 hC2 hC12 hB z0 z1
  go_wp2_with fail
  go_loopw [24] (fun k wr => ∃ m : Nat, m ≤ nw L2 ∧ k = .int .i64 m ∧ BS wr c sc L1 (mix m (fun k => g2 k || g1 k) g1) ∧ Ch S0 w wr) (fun k _ => nw L2 - (intOf k).toNat)
  case atStart => exact ⟨0, Nat.zero_le _, rfl, by rw [mix_zero]; exact HB.out, HC12.out⟩
  case round =>
    obtain ⟨m, hm, rfl, hJ, hC⟩ := hrel
    by_cases hlt : m < nw L2
    · have hnw : nw L2 ≤ nw L1 := nw_le (by omega)
      obtain ⟨p1, y0, y1, _, _, _, _, _, y6⟩ := (H1.out.keep hC (fun h => h) (fun h => h)).look
      obtain ⟨p2, r0, r1, _, _, _, _, _, r6⟩ := (H2.out.keep hC (fun h => h) (fun h => h)).look
      obtain ⟨p3, t0, t1, _, _, _, _, tf, t6⟩ := hJ.look
      have y6 := y6 m (by omega)
      have r6 := r6 m (by omega)
      have t6 := t6 m (by omega)
      have tf := tf m
      have hi0 : (0 : Int) ≤ (m : Int) := by omega
      have hi1 : (m : Int) < (nw L1 : Nat) := by omega
      have hi2 : (m : Int) < (nw L2 : Nat) := by omega
      have hst := fun (x : Int) (hx : x = ((Bit.wd (fun k => g2 k || g1 k) m : Nat) : Int)) => (hJ.storeMix (by omega) hx (fun k hk => by have e1 := ho1.out k; have e2 := ho2.out k; by_cases q1 : L1 ≤ k <;> by_cases q2 : L2 ≤ k <;> simp_all <;> omega) (fun k hk => by first | rfl | exact ho1.out k (by omega))).drew
      have HS := Lib.hid hst
      have HC := Lib.hid hC
      clear hst hC hJ x0 x1
      go_wp2_with fail
      go_still_tail 15, (by kernel_rfl)
      go_wp2
      go_roundw
      case rel => exact ⟨m + 1, by omega, by go_num, HS.out _ (by rw [u64_or_nat _ _ (Bit.wd_lt _ _) (Bit.wd_lt _ _), Bit.wd_or]), (HC.out.setCell _ (fun hl => by simp at hl; omega) _).drew⟩
      case measure => simp [intOf]; omega
    · obtain rfl : m = nw L2 := by omega
      have HJ := Lib.hid hJ
      have HC := Lib.hid hC
      clear hJ hC
      go_wp2
      go_ret
      exact ⟨c, sc, rfl, HJ.out, by omega, by omega, HC.out⟩

theorem union_any (b1 s1 b2 s2 L1 L2 : Nat) (g1 g2 : Nat → Bool) (w : World) (h1 : BS w b1 s1 L1 g1) (h2 : BS w b2 s2 L2 g2) (hL1 : L1 ≤ 40000) (hL2 : L2 ≤ 40000) :
    Calls Try.prog 47 #[.pointer (some ⟨b1, 0, none⟩), .pointer (some ⟨b2, 0, none⟩)] w fun e w' => ∃ c sc, e = .returned (.pointer (some ⟨c, 0, none⟩)) ∧ BS w' c sc (max L1 L2) (fun k => g1 k || g2 k) ∧ w.heap.size ≤ c ∧ w.heap.size ≤ sc ∧ Ch S0 w w' := by
  have o1 := h1.off
  have o2 := h2.off
  by_cases hle : L1 ≤ L2
  · refine (union_le b1 s1 b2 s2 L1 L2 g1 g2 w h1 h2 hL1 hL2 hle).mono ?_
    rintro e w' ⟨c, sc, he, hB, h3⟩
    refine ⟨c, sc, he, ?_, h3⟩
    have e1 : L2 = max L1 L2 := by omega
    have e2 : mix (nw L1) (fun k => g1 k || g2 k) g2 = (fun k => g1 k || g2 k) := by
      funext k
      unfold mix
      split
      · first | rfl | (simp only [Bool.or_comm, Bool.and_comm, Bool.xor_comm]; done)
      · have q := o1 k (by unfold nw at *; omega)
        simp [q]
    rw [e2, e1] at hB
    exact hB
  · refine (union_gt b1 s1 b2 s2 L1 L2 g1 g2 w h1 h2 hL1 hL2 (by omega)).mono ?_
    rintro e w' ⟨c, sc, he, hB, h3⟩
    refine ⟨c, sc, he, ?_, h3⟩
    have e1 : L1 = max L1 L2 := by omega
    have e2 : mix (nw L2) (fun k => g2 k || g1 k) g1 = (fun k => g1 k || g2 k) := by
      funext k
      unfold mix
      split
      · simp only [Bool.or_comm, Bool.and_comm, Bool.xor_comm]
      · have q := o2 k (by unfold nw at *; omega)
        simp [q]
    rw [e2, e1] at hB
    exact hB

set_option maxRecDepth 100000 in
set_option maxHeartbeats 1000000 in
theorem symdiff_le (b1 s1 b2 s2 L1 L2 : Nat) (g1 g2 : Nat → Bool) (w : World) (h1 : BS w b1 s1 L1 g1) (h2 : BS w b2 s2 L2 g2) (hL1 : L1 ≤ 40000) (hL2 : L2 ≤ 40000) (hle : L1 ≤ L2) :
    Calls Try.prog 48 #[.pointer (some ⟨b1, 0, none⟩), .pointer (some ⟨b2, 0, none⟩)] w fun e w' => ∃ c sc, e = .returned (.pointer (some ⟨c, 0, none⟩)) ∧ BS w' c sc L2 (mix (nw L1) (fun k => g1 k ^^ g2 k) g2) ∧ w.heap.size ≤ c ∧ w.heap.size ≤ sc ∧ Ch S0 w w' := by
  have hl1 := h1.lt
  have hl2 := h2.lt
  have ho1 := Lib.hid h1.off
  have ho2 := Lib.hid h2.off
  have H1 := Lib.hid h1
  have H2 := Lib.hid h2
  clear h1 h2
  go_enter Try.func48, Try.ntmps48
  go_wp2_with (go_at_call 79; refine (panicIfNull_any _ _).mono ?_; rintro e w' ⟨rfl, rfl⟩)
  refine (sort_le b1 s1 b2 s2 L1 L2 g1 g2 _ H1.out H2.out hle).mono ?_
  rintro e w1 ⟨rfl, hC1⟩
  obtain ⟨cap0, z0, z1, _, _, _, _, _, _⟩ := (H1.out.keep hC1 (fun h => h) (fun h => h)).look
  go_wp2_with fail
  refine (clone_any b2 s2 L2 g2 _ (H2.out.keep hC1 (fun h => h) (fun h => h)) (by omega)).mono ?_
  rintro e w2 ⟨c, sc, rfl, hB, hc1, hc2, hC2⟩
  have hC12 := hC1.trans hC2
  have hsz := hC1.size
  obtain ⟨cap1, x0, x1, _, _, _, _, _, _⟩ := (H1.out.keep hC12 (fun h => h) (fun h => h)).look
  have HC12 := Lib.hid hC12
  have HB := Lib.hid hB
  clear hC1 hC2 hC12 hB z0 z1
  go_wp2_with fail
  go_loopw [24] (fun k wr => ∃ m : Nat, m ≤ nw L1 ∧ k = .int .i64 m ∧ BS wr c sc L2 (mix m (fun k => g1 k ^^ g2 k) g2) ∧ Ch S0 w wr) (fun k _ => nw L1 - (intOf k).toNat)
  case atStart => exact ⟨0, Nat.zero_le _, rfl, by rw [mix_zero]; exact HB.out, HC12.out⟩
  case round =>
    obtain ⟨m, hm, rfl, hJ, hC⟩ := hrel
    by_cases hlt : m < nw L1
    · have hnw : nw L1 ≤ nw L2 := nw_le (by omega)
      obtain ⟨p1, y0, y1, _, _, _, _, _, y6⟩ := (H1.out.keep hC (fun h => h) (fun h => h)).look
      obtain ⟨p2, r0, r1, _, _, _, _, _, r6⟩ := (H2.out.keep hC (fun h => h) (fun h => h)).look
      obtain ⟨p3, t0, t1, _, _, _, _, tf, t6⟩ := hJ.look
      have y6 := y6 m (by omega)
      have r6 := r6 m (by omega)
      have t6 := t6 m (by omega)
      have tf := tf m
      have hi0 : (0 : Int) ≤ (m : Int) := by omega
      have hi1 : (m : Int) < (nw L1 : Nat) := by omega
      have hi2 : (m : Int) < (nw L2 : Nat) := by omega
      have hst := fun (x : Int) (hx : x = ((Bit.wd (fun k => g1 k ^^ g2 k) m : Nat) : Int)) => (hJ.storeMix (by omega) hx (fun k hk => by have e1 := ho1.out k; have e2 := ho2.out k; by_cases q1 : L1 ≤ k <;> by_cases q2 : L2 ≤ k <;> simp_all <;> omega) (fun k hk => by first | rfl | exact ho2.out k (by omega))).drew
      have HS := Lib.hid hst
      have HC := Lib.hid hC
      clear hst hC hJ x0 x1
      go_wp2_with fail
      go_still_tail 15, (by kernel_rfl)
      go_wp2
      go_roundw
      case rel => exact ⟨m + 1, by omega, by go_num, HS.out _ (by rw [u64_xor_nat _ _ (Bit.wd_lt _ _) (Bit.wd_lt _ _), Bit.wd_xor]), (HC.out.setCell _ (fun hl => by simp at hl; omega) _).drew⟩
      case measure => simp [intOf]; omega
    · obtain rfl : m = nw L1 := by omega
      have HJ := Lib.hid hJ
      have HC := Lib.hid hC
      clear hJ hC
      go_wp2
      go_ret
      exact ⟨c, sc, rfl, HJ.out, by omega, by omega, HC.out⟩

set_option maxRecDepth 100000 in
set_option maxHeartbeats 1000000 in
theorem symdiff_gt (b1 s1 b2 s2 L1 L2 : Nat) (g1 g2 : Nat → Bool) (w : World) (h1 : BS w b1 s1 L1 g1) (h2 : BS w b2 s2 L2 g2) (hL1 : L1 ≤ 40000) (hL2 : L2 ≤ 40000) (hle : L2 < L1) :
    Calls Try.prog 48 #[.pointer (some ⟨b1, 0, none⟩), .pointer (some ⟨b2, 0, none⟩)] w fun e w' => ∃ c sc, e = .returned (.pointer (some ⟨c, 0, none⟩)) ∧ BS w' c sc L1 (mix (nw L2) (fun k => g2 k ^^ g1 k) g1) ∧ w.heap.size ≤ c ∧ w.heap.size ≤ sc ∧ Ch S0 w w' := by
  have hl1 := h1.lt
  have hl2 := h2.lt
  have ho1 := Lib.hid h1.off
  have ho2 := Lib.hid h2.off
  have H1 := Lib.hid h1
  have H2 := Lib.hid h2
  clear h1 h2
  go_enter Try.func48, Try.ntmps48
  go_wp2_with (go_at_call 79; refine (panicIfNull_any _ _).mono ?_; rintro e w' ⟨rfl, rfl⟩)
  refine (sort_gt b1 s1 b2 s2 L1 L2 g1 g2 _ H1.out H2.out hle).mono ?_
  rintro e w1 ⟨rfl, hC1⟩
  obtain ⟨cap0, z0, z1, _, _, _, _, _, _⟩ := (H2.out.keep hC1 (fun h => h) (fun h => h)).look
  go_wp2_with fail
  refine (clone_any b1 s1 L1 g1 _ (H1.out.keep hC1 (fun h => h) (fun h => h)) (by omega)).mono ?_
  rintro e w2 ⟨c, sc, rfl, hB, hc1, hc2, hC2⟩
  have hC12 := hC1.trans hC2
  have hsz := hC1.size
  obtain ⟨cap1, x0, x1, _, _, _, _, _, _⟩ := (H2.out.keep hC12 (fun h => h) (fun h => h)).look
  have HC12 := Lib.hid hC12
  have HB := Lib.hid hB
  clear hC1 hC2 hC12 hB z0 z1
  go_wp2_with fail
  go_loopw [24] (fun k wr => ∃ m : Nat, m ≤ nw L2 ∧ k = .int .i64 m ∧ BS wr c sc L1 (mix m (fun k => g2 k ^^ g1 k) g1) ∧ Ch S0 w wr) (fun k _ => nw L2 - (intOf k).toNat)
  case atStart => exact ⟨0, Nat.zero_le _, rfl, by rw [mix_zero]; exact HB.out, HC12.out⟩
  case round =>
    obtain ⟨m, hm, rfl, hJ, hC⟩ := hrel
    by_cases hlt : m < nw L2
    · have hnw : nw L2 ≤ nw L1 := nw_le (by omega)
      obtain ⟨p1, y0, y1, _, _, _, _, _, y6⟩ := (H1.out.keep hC (fun h => h) (fun h => h)).look
      obtain ⟨p2, r0, r1, _, _, _, _, _, r6⟩ := (H2.out.keep hC (fun h => h) (fun h => h)).look
      obtain ⟨p3, t0, t1, _, _, _, _, tf, t6⟩ := hJ.look
      have y6 := y6 m (by omega)
      have r6 := r6 m (by omega)
      have t6 := t6 m (by omega)
      have tf := tf m
      have hi0 : (0 : Int) ≤ (m : Int) := by omega
      have hi1 : (m : Int) < (nw L1 : Nat) := by omega
      have hi2 : (m : Int) < (nw L2 : Nat) := by omega
      have hst := fun (x : Int) (hx : x = ((Bit.wd (fun k => g2 k ^^ g1 k) m : Nat) : Int)) => (hJ.storeMix (by omega) hx (fun k hk => by have e1 := ho1.out k; have e2 := ho2.out k; by_cases q1 : L1 ≤ k <;> by_cases q2 : L2 ≤ k <;> simp_all <;> omega) (fun k hk => by first | rfl | exact ho1.out k (by omega))).drew
      have HS := Lib.hid hst
      have HC := Lib.hid hC
      clear hst hC hJ x0 x1
      go_wp2_with fail
      go_still_tail 15, (by kernel_rfl)
      go_wp2
      go_roundw
      case rel => exact ⟨m + 1, by omega, by go_num, HS.out _ (by rw [u64_xor_nat _ _ (Bit.wd_lt _ _) (Bit.wd_lt _ _), Bit.wd_xor]), (HC.out.setCell _ (fun hl => by simp at hl; omega) _).drew⟩
      case measure => simp [intOf]; omega
    · obtain rfl : m = nw L2 := by omega
      have HJ := Lib.hid hJ
      have HC := Lib.hid hC
      clear hJ hC
      go_wp2
      go_ret
      exact ⟨c, sc, rfl, HJ.out, by omega, by omega, HC.out⟩

theorem symdiff_any (b1 s1 b2 s2 L1 L2 : Nat) (g1 g2 : Nat → Bool) (w : World) (h1 : BS w b1 s1 L1 g1) (h2 : BS w b2 s2 L2 g2) (hL1 : L1 ≤ 40000) (hL2 : L2 ≤ 40000) :
    Calls Try.prog 48 #[.pointer (some ⟨b1, 0, none⟩), .pointer (some ⟨b2, 0, none⟩)] w fun e w' => ∃ c sc, e = .returned (.pointer (some ⟨c, 0, none⟩)) ∧ BS w' c sc (max L1 L2) (fun k => g1 k ^^ g2 k) ∧ w.heap.size ≤ c ∧ w.heap.size ≤ sc ∧ Ch S0 w w' := by
  have o1 := h1.off
  have o2 := h2.off
  by_cases hle : L1 ≤ L2
  · refine (symdiff_le b1 s1 b2 s2 L1 L2 g1 g2 w h1 h2 hL1 hL2 hle).mono ?_
    rintro e w' ⟨c, sc, he, hB, h3⟩
    refine ⟨c, sc, he, ?_, h3⟩
    have e1 : L2 = max L1 L2 := by omega
    have e2 : mix (nw L1) (fun k => g1 k ^^ g2 k) g2 = (fun k => g1 k ^^ g2 k) := by
      funext k
      unfold mix
      split
      · first | rfl | (simp only [Bool.or_comm, Bool.and_comm, Bool.xor_comm]; done)
      · have q := o1 k (by unfold nw at *; omega)
        simp [q]
    rw [e2, e1] at hB
    exact hB
  · refine (symdiff_gt b1 s1 b2 s2 L1 L2 g1 g2 w h1 h2 hL1 hL2 (by omega)).mono ?_
    rintro e w' ⟨c, sc, he, hB, h3⟩
    refine ⟨c, sc, he, ?_, h3⟩
    have e1 : L1 = max L1 L2 := by omega
    have e2 : mix (nw L2) (fun k => g2 k ^^ g1 k) g1 = (fun k => g1 k ^^ g2 k) := by
      funext k
      unfold mix
      split
      · simp only [Bool.or_comm, Bool.and_comm, Bool.xor_comm]
      · have q := o2 k (by unfold nw at *; omega)
        simp [q]
    rw [e2, e1] at hB
    exact hB

set_option maxRecDepth 100000 in
set_option maxHeartbeats 1000000 in
theorem inter_le (b1 s1 b2 s2 L1 L2 : Nat) (g1 g2 : Nat → Bool) (w : World) (h1 : BS w b1 s1 L1 g1) (h2 : BS w b2 s2 L2 g2) (hL1 : L1 ≤ 40000) (hL2 : L2 ≤ 40000) (hle : L1 ≤ L2) :
    Calls Try.prog 49 #[.pointer (some ⟨b1, 0, none⟩), .pointer (some ⟨b2, 0, none⟩)] w fun e w' => ∃ c sc, e = .returned (.pointer (some ⟨c, 0, none⟩)) ∧ BS w' c sc L1 (mix (nw L1) (fun k => g1 k && g2 k) (fun _ => false)) ∧ w.heap.size ≤ c ∧ w.heap.size ≤ sc ∧ Ch S0 w w' := by
  have hl1 := h1.lt
  have hl2 := h2.lt
  have ho1 := Lib.hid h1.off
  have ho2 := Lib.hid h2.off
  have H1 := Lib.hid h1
  have H2 := Lib.hid h2
  clear h1 h2
  go_enter Try.func49, Try.ntmps49
  go_wp2_with (go_at_call 79; refine (panicIfNull_any _ _).mono ?_; rintro e w' ⟨rfl, rfl⟩)
  refine (sort_le b1 s1 b2 s2 L1 L2 g1 g2 _ H1.out H2.out hle).mono ?_
  rintro e w1 ⟨rfl, hC1⟩
  obtain ⟨cap0, z0, z1, _, _, _, _, _, _⟩ := (H1.out.keep hC1 (fun h => h) (fun h => h)).look
  go_wp2_with fail
  refine (new_any L1 (by omega) _).mono ?_
  rintro e w2 ⟨c, sc, rfl, hB, hc1, hc2, hC2⟩
  have hC12 := hC1.trans hC2
  have hsz := hC1.size
  obtain ⟨cap1, x0, x1, _, _, _, _, _, _⟩ := (H1.out.keep hC12 (fun h => h) (fun h => h)).look
  have HC12 := Lib.hid hC12
  have HB := Lib.hid hB
  clear hC1 hC2 hC12 hB z0 z1
  go_wp2_with fail
  go_loopw [27] (fun k wr => ∃ m : Nat, m ≤ nw L1 ∧ k = .int .i64 m ∧ BS wr c sc L1 (mix m (fun k => g1 k && g2 k) (fun _ => false)) ∧ Ch S0 w wr) (fun k _ => nw L1 - (intOf k).toNat)
  case atStart => exact ⟨0, Nat.zero_le _, rfl, by rw [mix_zero]; exact HB.out, HC12.out⟩
  case round =>
    obtain ⟨m, hm, rfl, hJ, hC⟩ := hrel
    by_cases hlt : m < nw L1
    · have hnw : nw L1 ≤ nw L2 := nw_le (by omega)
      obtain ⟨p1, y0, y1, _, _, _, _, _, y6⟩ := (H1.out.keep hC (fun h => h) (fun h => h)).look
      obtain ⟨p2, r0, r1, _, _, _, _, _, r6⟩ := (H2.out.keep hC (fun h => h) (fun h => h)).look
      obtain ⟨p3, t0, t1, _, _, _, _, tf, t6⟩ := hJ.look
      have y6 := y6 m (by omega)
      have r6 := r6 m (by omega)
      have t6 := t6 m (by omega)
      have tf := tf m
      have hi0 : (0 : Int) ≤ (m : Int) := by omega
      have hi1 : (m : Int) < (nw L1 : Nat) := by omega
      have hi2 : (m : Int) < (nw L2 : Nat) := by omega
      have hst := fun (x : Int) (hx : x = ((Bit.wd (fun k => g1 k && g2 k) m : Nat) : Int)) => (hJ.storeMix (by omega) hx (fun k hk => by have e1 := ho1.out k; have e2 := ho2.out k; by_cases q1 : L1 ≤ k <;> by_cases q2 : L2 ≤ k <;> simp_all <;> omega) (fun k hk => by first | rfl | exact ho2.out k (by omega))).drew
      have HS := Lib.hid hst
      have HC := Lib.hid hC
      clear hst hC hJ x0 x1
      go_wp2_with fail
      go_still_tail 15, (by kernel_rfl)
      go_wp2
      go_roundw
      case rel => exact ⟨m + 1, by omega, by go_num, HS.out _ (by rw [u64_and_nat _ _ (Bit.wd_lt _ _) (Bit.wd_lt _ _), Bit.wd_and]), (HC.out.setCell _ (fun hl => by simp at hl; omega) _).drew⟩
      case measure => simp [intOf]; omega
    · obtain rfl : m = nw L1 := by omega
      have HJ := Lib.hid hJ
      have HC := Lib.hid hC
      clear hJ hC
      go_wp2
      go_ret
      exact ⟨c, sc, rfl, HJ.out, by omega, by omega, HC.out⟩

set_option maxRecDepth 100000 in
set_option maxHeartbeats 1000000 in
theorem inter_gt (b1 s1 b2 s2 L1 L2 : Nat) (g1 g2 : Nat → Bool) (w : World) (h1 : BS w b1 s1 L1 g1) (h2 : BS w b2 s2 L2 g2) (hL1 : L1 ≤ 40000) (hL2 : L2 ≤ 40000) (hle : L2 < L1) :
    Calls Try.prog 49 #[.pointer (some ⟨b1, 0, none⟩), .pointer (some ⟨b2, 0, none⟩)] w fun e w' => ∃ c sc, e = .returned (.pointer (some ⟨c, 0, none⟩)) ∧ BS w' c sc L2 (mix (nw L2) (fun k => g2 k && g1 k) (fun _ => false)) ∧ w.heap.size ≤ c ∧ w.heap.size ≤ sc ∧ Ch S0 w w' := by
  have hl1 := h1.lt
  have hl2 := h2.lt
  have ho1 := Lib.hid h1.off
  have ho2 := Lib.hid h2.off
  have H1 := Lib.hid h1
  have H2 := Lib.hid h2
  clear h1 h2
  go_enter Try.func49, Try.ntmps49
  go_wp2_with (go_at_call 79; refine (panicIfNull_any _ _).mono ?_; rintro e w' ⟨rfl, rfl⟩)
  refine (sort_gt b1 s1 b2 s2 L1 L2 g1 g2 _ H1.out H2.out hle).mono ?_
  rintro e w1 ⟨rfl, hC1⟩
  obtain ⟨cap0, z0, z1, _, _, _, _, _, _⟩ := (H2.out.keep hC1 (fun h => h) (fun h => h)).look
  go_wp2_with fail
  refine (new_any L2 (by omega) _).mono ?_
  rintro e w2 ⟨c, sc, rfl, hB, hc1, hc2, hC2⟩
  have hC12 := hC1.trans hC2
  have hsz := hC1.size
  obtain ⟨cap1, x0, x1, _, _, _, _, _, _⟩ := (H2.out.keep hC12 (fun h => h) (fun h => h)).look
  have HC12 := Lib.hid hC12
  have HB := Lib.hid hB
  clear hC1 hC2 hC12 hB z0 z1
  go_wp2_with fail
  go_loopw [27] (fun k wr => ∃ m : Nat, m ≤ nw L2 ∧ k = .int .i64 m ∧ BS wr c sc L2 (mix m (fun k => g2 k && g1 k) (fun _ => false)) ∧ Ch S0 w wr) (fun k _ => nw L2 - (intOf k).toNat)
  case atStart => exact ⟨0, Nat.zero_le _, rfl, by rw [mix_zero]; exact HB.out, HC12.out⟩
  case round =>
    obtain ⟨m, hm, rfl, hJ, hC⟩ := hrel
    by_cases hlt : m < nw L2
    · have hnw : nw L2 ≤ nw L1 := nw_le (by omega)
      obtain ⟨p1, y0, y1, _, _, _, _, _, y6⟩ := (H1.out.keep hC (fun h => h) (fun h => h)).look
      obtain ⟨p2, r0, r1, _, _, _, _, _, r6⟩ := (H2.out.keep hC (fun h => h) (fun h => h)).look
      obtain ⟨p3, t0, t1, _, _, _, _, tf, t6⟩ := hJ.look
      have y6 := y6 m (by omega)
      have r6 := r6 m (by omega)
      have t6 := t6 m (by omega)
      have tf := tf m
      have hi0 : (0 : Int) ≤ (m : Int) := by omega
      have hi1 : (m : Int) < (nw L1 : Nat) := by omega
      have hi2 : (m : Int) < (nw L2 : Nat) := by omega
      have hst := fun (x : Int) (hx : x = ((Bit.wd (fun k => g2 k && g1 k) m : Nat) : Int)) => (hJ.storeMix (by omega) hx (fun k hk => by have e1 := ho1.out k; have e2 := ho2.out k; by_cases q1 : L1 ≤ k <;> by_cases q2 : L2 ≤ k <;> simp_all <;> omega) (fun k hk => by first | rfl | exact ho1.out k (by omega))).drew
      have HS := Lib.hid hst
      have HC := Lib.hid hC
      clear hst hC hJ x0 x1
      go_wp2_with fail
      go_still_tail 15, (by kernel_rfl)
      go_wp2
      go_roundw
      case rel => exact ⟨m + 1, by omega, by go_num, HS.out _ (by rw [u64_and_nat _ _ (Bit.wd_lt _ _) (Bit.wd_lt _ _), Bit.wd_and]), (HC.out.setCell _ (fun hl => by simp at hl; omega) _).drew⟩
      case measure => simp [intOf]; omega
    · obtain rfl : m = nw L2 := by omega
      have HJ := Lib.hid hJ
      have HC := Lib.hid hC
      clear hJ hC
      go_wp2
      go_ret
      exact ⟨c, sc, rfl, HJ.out, by omega, by omega, HC.out⟩

theorem inter_any (b1 s1 b2 s2 L1 L2 : Nat) (g1 g2 : Nat → Bool) (w : World) (h1 : BS w b1 s1 L1 g1) (h2 : BS w b2 s2 L2 g2) (hL1 : L1 ≤ 40000) (hL2 : L2 ≤ 40000) :
    Calls Try.prog 49 #[.pointer (some ⟨b1, 0, none⟩), .pointer (some ⟨b2, 0, none⟩)] w fun e w' => ∃ c sc, e = .returned (.pointer (some ⟨c, 0, none⟩)) ∧ BS w' c sc (min L1 L2) (fun k => g1 k && g2 k) ∧ w.heap.size ≤ c ∧ w.heap.size ≤ sc ∧ Ch S0 w w' := by
  have o1 := h1.off
  have o2 := h2.off
  by_cases hle : L1 ≤ L2
  · refine (inter_le b1 s1 b2 s2 L1 L2 g1 g2 w h1 h2 hL1 hL2 hle).mono ?_
    rintro e w' ⟨c, sc, he, hB, h3⟩
    refine ⟨c, sc, he, ?_, h3⟩
    have e1 : L1 = min L1 L2 := by omega
    have e2 : mix (nw L1) (fun k => g1 k && g2 k) (fun _ => false) = (fun k => g1 k && g2 k) := by
      funext k
      unfold mix
      split
      · first | rfl | (simp only [Bool.or_comm, Bool.and_comm, Bool.xor_comm]; done)
      · have q := o1 k (by unfold nw at *; omega)
        simp [q]
    rw [e2, e1] at hB
    exact hB
  · refine (inter_gt b1 s1 b2 s2 L1 L2 g1 g2 w h1 h2 hL1 hL2 (by omega)).mono ?_
    rintro e w' ⟨c, sc, he, hB, h3⟩
    refine ⟨c, sc, he, ?_, h3⟩
    have e1 : L2 = min L1 L2 := by omega
    have e2 : mix (nw L2) (fun k => g2 k && g1 k) (fun _ => false) = (fun k => g1 k && g2 k) := by
      funext k
      unfold mix
      split
      · simp only [Bool.or_comm, Bool.and_comm, Bool.xor_comm]
      · have q := o2 k (by unfold nw at *; omega)
        simp [q]
    rw [e2, e1] at hB
    exact hB

set_option maxRecDepth 100000 in
set_option maxHeartbeats 1000000 in
theorem diff_any (b1 s1 b2 s2 L1 L2 : Nat) (g1 g2 : Nat → Bool) (w : World) (h1 : BS w b1 s1 L1 g1) (h2 : BS w b2 s2 L2 g2) (hL1 : L1 ≤ 40000) (hL2 : L2 ≤ 40000) :
    Calls Try.prog 50 #[.pointer (some ⟨b1, 0, none⟩), .pointer (some ⟨b2, 0, none⟩)] w fun e w' => ∃ c sc, e = .returned (.pointer (some ⟨c, 0, none⟩)) ∧ BS w' c sc L1 (fun k => g1 k && !g2 k) ∧ w.heap.size ≤ c ∧ w.heap.size ≤ sc ∧ Ch S0 w w' := by
  have hl1 := h1.lt
  have hl2 := h2.lt
  have ho1 := Lib.hid h1.off
  have ho2 := Lib.hid h2.off
  have H1 := Lib.hid h1
  have H2 := Lib.hid h2
  clear h1 h2
  have hmin : ∃ l, l = min (nw L1) (nw L2) := ⟨_, rfl⟩
  obtain ⟨l, hl⟩ := hmin
  have hln1 : l ≤ nw L1 := by omega
  have hln2 : l ≤ nw L2 := by omega
  have hdone : (fun k => g1 k && !g2 k) = mix l (fun k => g1 k && !g2 k) g1 := by
    funext k
    unfold mix
    split
    · rfl
    · have e1 := ho1.out k
      have e2 := ho2.out k
      have hk : L1 ≤ k ∨ L2 ≤ k := by unfold nw at *; omega
      rcases hk with hk | hk
      · simp [e1 hk]
      · simp [e2 hk]
  have Hl := Lib.hid hl
  have HD := Lib.hid hdone
  clear hdone
  by_cases hcmp : nw L2 ≤ nw L1
  · have hdec : decide (nw L1 < nw L2) = false := by simp; omega
    clear hl
    go_enter Try.func50, Try.ntmps50
    go_wp2_with (go_at_call 79; refine (panicIfNull_any _ _).mono ?_; rintro e w' ⟨rfl, rfl⟩)
    refine (clone_any b1 s1 L1 g1 _ H1.out (by omega)).mono ?_
    rintro e w1 ⟨c, sc, rfl, hB, hc1, hc2, hC1⟩
    have W1 := Lib.hid (wordCount_any b1 s1 L1 g1 w1 (H1.out.keep hC1 (fun h => h) (fun h => h)) (by omega))
    have W2 := Lib.hid (wordCount_any b2 s2 L2 g2 w1 (H2.out.keep hC1 (fun h => h) (fun h => h)) (by omega))
    have HC1 := Lib.hid hC1
    have HB := Lib.hid hB
    clear hB hC1
    go_wp2_with fail
    refine W2.out.mono ?_
    rintro e w2 ⟨rfl, rfl⟩
    go_wp2_with fail
    refine W1.out.mono ?_
    rintro e w2 ⟨rfl, rfl⟩
    go_wp2_with fail
    obtain rfl : l = nw L2 := by have := Hl.out; omega
    go_loopw [6] (fun k wr => ∃ m : Nat, m ≤ nw L2 ∧ k = .int .i64 m ∧ BS wr c sc L1 (mix m (fun k => g1 k && !g2 k) g1) ∧ Ch S0 w wr) (fun k _ => nw L2 - (intOf k).toNat)
    case atStart => exact ⟨0, Nat.zero_le _, rfl, by rw [mix_zero]; exact HB.out, HC1.out⟩
    case round =>
      obtain ⟨m, hm, rfl, hJ, hC⟩ := hrel
      by_cases hlt : m < nw L2
      · obtain ⟨p1, y0, y1, _, _, _, _, _, y6⟩ := (H1.out.keep hC (fun h => h) (fun h => h)).look
        obtain ⟨p2, r0, r1, _, _, _, _, _, r6⟩ := (H2.out.keep hC (fun h => h) (fun h => h)).look
        obtain ⟨p3, t0, t1, _, _, _, _, tf, t6⟩ := hJ.look
        have y6 := y6 m (by omega)
        have r6 := r6 m (by omega)
        have t6 := t6 m (by omega)
        have tf := tf m
        have hi0 : (0 : Int) ≤ (m : Int) := by omega
        have hi1 : (m : Int) < (nw L1 : Nat) := by omega
        have hi2 : (m : Int) < (nw L2 : Nat) := by omega
        have hst := fun (x : Int) (hx : x = ((Bit.wd (fun k => g1 k && !g2 k) m : Nat) : Int)) => (hJ.storeMix (by omega) hx (fun k hk => by simp [ho1.out k hk]) (fun k hk => ho1.out k hk)).drew
        have HS := Lib.hid hst
        have HC := Lib.hid hC
        clear hst hC hJ
        go_wp2_with fail
        go_still_tail 21, (by kernel_rfl)
        go_wp2
        go_roundw
        case rel => exact ⟨m + 1, by omega, by go_num, HS.out _ (by rw [u64_andNot_nat _ _ (Bit.wd_lt _ _) (Bit.wd_lt _ _), Bit.wd_andNot]), (HC.out.setCell _ (fun hl => by simp at hl; omega) _).drew⟩
        case measure => simp [intOf]; omega
      · obtain rfl : m = nw L2 := by omega
        have HJ := Lib.hid hJ
        have HC := Lib.hid hC
        clear hJ hC
        go_wp2
        go_ret
        exact ⟨c, sc, rfl, by rw [HD.out]; exact HJ.out, by omega, by omega, HC.out⟩

  · have hdec : decide (nw L1 < nw L2) = true := by simp; omega
    clear hl
    go_enter Try.func50, Try.ntmps50
    go_wp2_with (go_at_call 79; refine (panicIfNull_any _ _).mono ?_; rintro e w' ⟨rfl, rfl⟩)
    refine (clone_any b1 s1 L1 g1 _ H1.out (by omega)).mono ?_
    rintro e w1 ⟨c, sc, rfl, hB, hc1, hc2, hC1⟩
    have W1 := Lib.hid (wordCount_any b1 s1 L1 g1 w1 (H1.out.keep hC1 (fun h => h) (fun h => h)) (by omega))
    have W2 := Lib.hid (wordCount_any b2 s2 L2 g2 w1 (H2.out.keep hC1 (fun h => h) (fun h => h)) (by omega))
    have HC1 := Lib.hid hC1
    have HB := Lib.hid hB
    clear hB hC1
    go_wp2_with fail
    refine W2.out.mono ?_
    rintro e w2 ⟨rfl, rfl⟩
    go_wp2_with fail
    refine W1.out.mono ?_
    rintro e w2 ⟨rfl, rfl⟩
    go_wp2_with fail
    refine W1.out.mono ?_
    rintro e w2 ⟨rfl, rfl⟩
    go_wp2_with fail
    obtain rfl : l = nw L1 := by have := Hl.out; omega
    go_loopw [6] (fun k wr => ∃ m : Nat, m ≤ nw L1 ∧ k = .int .i64 m ∧ BS wr c sc L1 (mix m (fun k => g1 k && !g2 k) g1) ∧ Ch S0 w wr) (fun k _ => nw L1 - (intOf k).toNat)
    case atStart => exact ⟨0, Nat.zero_le _, rfl, by rw [mix_zero]; exact HB.out, HC1.out⟩
    case round =>
      obtain ⟨m, hm, rfl, hJ, hC⟩ := hrel
      by_cases hlt : m < nw L1
      · obtain ⟨p1, y0, y1, _, _, _, _, _, y6⟩ := (H1.out.keep hC (fun h => h) (fun h => h)).look
        obtain ⟨p2, r0, r1, _, _, _, _, _, r6⟩ := (H2.out.keep hC (fun h => h) (fun h => h)).look
        obtain ⟨p3, t0, t1, _, _, _, _, tf, t6⟩ := hJ.look
        have y6 := y6 m (by omega)
        have r6 := r6 m (by omega)
        have t6 := t6 m (by omega)
        have tf := tf m
        have hi0 : (0 : Int) ≤ (m : Int) := by omega
        have hi1 : (m : Int) < (nw L1 : Nat) := by omega
        have hi2 : (m : Int) < (nw L2 : Nat) := by omega
        have hst := fun (x : Int) (hx : x = ((Bit.wd (fun k => g1 k && !g2 k) m : Nat) : Int)) => (hJ.storeMix (by omega) hx (fun k hk => by simp [ho1.out k hk]) (fun k hk => ho1.out k hk)).drew
        have HS := Lib.hid hst
        have HC := Lib.hid hC
        clear hst hC hJ
        go_wp2_with fail
        go_still_tail 21, (by kernel_rfl)
        go_wp2
        go_roundw
        case rel => exact ⟨m + 1, by omega, by go_num, HS.out _ (by rw [u64_andNot_nat _ _ (Bit.wd_lt _ _) (Bit.wd_lt _ _), Bit.wd_andNot]), (HC.out.setCell _ (fun hl => by simp at hl; omega) _).drew⟩
        case measure => simp [intOf]; omega
      · obtain rfl : m = nw L1 := by omega
        have HJ := Lib.hid hJ
        have HC := Lib.hid hC
        clear hJ hC
        go_wp2
        go_ret
        exact ⟨c, sc, rfl, by rw [HD.out]; exact HJ.out, by omega, by omega, HC.out⟩

end Go.Proofs.Ytgnhmgnpmbmjcaa
