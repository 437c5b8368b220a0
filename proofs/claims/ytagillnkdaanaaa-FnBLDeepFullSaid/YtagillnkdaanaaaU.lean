/- WALKS: InPlaceUnion of bitsets of the same length. -/
import Derived.Test.YtagillnkdaanaaaI
namespace Go.Proofs.Ytagillnkdaanaaa
open Go.RowKit
set_option linter.unusedVariables false
set_option linter.unusedSimpArgs false

theorem panicIfNull_any (a : Addr) (w : World) : Calls Try.prog 39 #[.pointer (some a)] w fun e w' => e = .returned (.tuple #[]) ∧ w = w' := by
  go_enter Try.func39, Try.ntmps39
  go_wp2
  go_end0
  exact ⟨rfl, rfl⟩
theorem wordCount_any (b L n : Nat) (w : World) (h : w.cell? ⟨b, 0, none⟩ = some (.int .u64 L)) (hL : L ≤ 64000) (hn : nw L = n) : Calls Try.prog 40 #[.pointer (some ⟨b, 0, none⟩)] w fun e w' => e = .returned (.int .i64 (n : Nat)) ∧ w = w' := by
  have hc := fun w => wordsNeededUnbound_any L L rfl (by omega) w
  rw [hn] at hc
  have HC := Lib.hid hc
  clear hc hn
  go_enter Try.func40, Try.ntmps40
  go_wp2_with (go_at_call 48; refine (HC.out _).mono ?_; rintro e w' ⟨rfl, rfl⟩)
  go_ret
  exact ⟨rfl, rfl⟩

/-- Joined up to word i. -/
def upU (g1 g2 : Nat → Bool) (i : Nat) : Nat → Bool := fun k => if k < 64 * i then g1 k || g2 k else g1 k
theorem upU_zero (g1 g2 : Nat → Bool) : upU g1 g2 0 = g1 := by funext k; simp [upU]
theorem upU_all (g1 g2 : Nat → Bool) (n : Nat) (h1 : ∀ k, 64 * n ≤ k → g1 k = false) (h2 : ∀ k, 64 * n ≤ k → g2 k = false) : upU g1 g2 n = fun k => g1 k || g2 k := by
  funext k
  by_cases h : k < 64 * n
  · simp [upU, h]
  · simp [upU, h, h1 k (by omega), h2 k (by omega)]
theorem upU_word (g1 g2 : Nat → Bool) (i : Nat) : Bit.wd (upU g1 g2 i) i ||| Bit.wd g2 i = Bit.wd (upU g1 g2 (i + 1)) i := by
  rw [Bit.wd_or]
  refine Bit.wd_congr fun k hk => ?_
  simp [upU, show ¬ (64 * i + k < 64 * i) by omega, show 64 * i + k < 64 * (i + 1) by omega]
theorem upU_other (g1 g2 : Nat → Bool) (i j : Nat) (h : j ≠ i) : Bit.wd (upU g1 g2 (i + 1)) j = Bit.wd (upU g1 g2 i) j := by
  refine Bit.wd_congr fun k hk => ?_
  unfold upU
  by_cases h1 : 64 * j + k < 64 * i
  · rw [if_pos h1, if_pos (by omega)]
  · rw [if_neg h1, if_neg (by omega)]

set_option maxRecDepth 100000 in
set_option maxHeartbeats 2000000 in
theorem ipu_any (b1 s1 b2 s2 n : Nat) (g1 g2 : Nat → Bool) (w : World) (h1 : BS w b1 s1 (64 * n) g1) (h2 : BS w b2 s2 (64 * n) g2) (hn : 0 < n) (hn2 : n ≤ 1000) (d1 : b1 ≠ b2) (d2 : s1 ≠ s2) (d3 : b1 ≠ s2) (d4 : s1 ≠ b2) :
    Calls Try.prog 25 #[.pointer (some ⟨b1, 0, none⟩), .pointer (some ⟨b2, 0, none⟩)] w fun e w' => e = .returned (.tuple #[]) ∧ BS w' b1 s1 (64 * n) (fun k => g1 k || g2 k) ∧ Ch (S2 b1 s1) w w' := by
  obtain ⟨L, hL⟩ : ∃ L, L = 64 * n := ⟨_, rfl⟩
  have hnw : nw L = n := by rw [hL, nw64]
  have HE := Lib.hid hL
  rw [← hL] at h1 h2 ⊢
  have HN := Lib.hid hnw
  have h0 : 0 < L := by omega
  have hL2 : L ≤ 64000 := by omega
  have hg : ¬ ((L : Int) ≤ (L : Int) - 1) := by omega
  have h0i : (0 : Int) < (L : Int) := by omega
  clear hL
  obtain ⟨c1, x0, x1, x4, x5, xf0, xf1, xfs, x6⟩ := h1.look
  obtain ⟨c2, y0, y1, y4, y5, yf0, yf1, yfs, y6⟩ := h2.look
  rw [hnw] at x1 x4 x6 y1 y4 y6
  have H1 := Lib.hid h1
  have H2 := Lib.hid h2
  have O1 := Lib.hid h1.off
  have O2 := Lib.hid h2.off
  have Y6 := Lib.hid y6
  have k1 := wordCount_any b1 L n w x0 hL2 hnw
  have k2 := wordCount_any b2 L n w y0 hL2 hnw
  have K1 := Lib.hid k1
  have K2 := Lib.hid k2
  have i0 : (0 : Int) ≤ (n : Int) - 1 := by omega
  have i1 : ((n : Int) - 1).toNat = n - 1 := by omega
  have i2 : (n : Int) - 1 < (n : Nat) := by omega
  have X1 := x6 (n - 1) (by omega)
  have Y1 := y6 (n - 1) (by omega)
  clear h1 h2 xfs x6 yfs y6 hnw k1 k2
  go_enter Try.func25, Try.ntmps25
  go_wp2_with (first
    | (go_at_call 39; refine (panicIfNull_any _ _).mono ?_; rintro e w' ⟨rfl, rfl⟩)
    | (go_at_call 40; with_reducible refine K1.out.mono ?_; rintro e w' ⟨rfl, rfl⟩)
    | (go_at_call 40; with_reducible refine K2.out.mono ?_; rintro e w' ⟨rfl, rfl⟩))
  go_quiet (fail)
  go_wp2_with fail
  go_quiet (fail)
  go_wp2_with fail
  go_loopw [7] (fun k wr => ∃ i : Nat, i ≤ n ∧ k = .int .i64 i ∧ Hid (BS wr b1 s1 L (upU g1 g2 i)) ∧ Ch (S2 b1 s1) w wr) (fun k _ => n - (intOf k).toNat)
  case atStart => exact ⟨0, Nat.zero_le _, rfl, Lib.hid (by rw [upU_zero]; exact H1.out.keep (S := S0) (Ch.drewQ _ _) (fun h => h) (fun h => h)), (Ch.drewQ _ _).mono (fun _ _ h => h.elim)⟩
  case round =>
    obtain ⟨i, hi, rfl, HU, hch⟩ := hrel
    have h2r := H2.out.keep hch (fun hs => by rcases hs with hs | hs; exact d1 hs.symm; exact d4 hs.symm) (fun hs => by rcases hs with hs | hs; exact d3 hs.symm; exact d2 hs.symm)
    obtain ⟨c3, r0, r1, r4, r5, rf0, rf1, rfs, r6⟩ := HU.out.look
    obtain ⟨c4, t0, t1, t4, t5, tf0, tf1, tfs, t6⟩ := h2r.look
    rw [HN.out] at r1 r4 r6 t1 t4 t6
    have HCh := Lib.hid hch
    by_cases hlt : i < n
    · have R := r6 i hlt
      have T := t6 i hlt
      have F := rfs i
      have hst := fun (x : Int) (hx : x = ((Bit.wd (upU g1 g2 (i + 1)) i : Nat) : Int)) => (HU.out.store (g' := upU g1 g2 (i + 1)) i (by rw [HN.out]; exact hlt) hx (fun j hj _ => upU_other g1 g2 i j hj) (fun k hk => by have e1 := O1.out k hk; have e2 := O2.out k hk; simp [upU, e1, e2])).drew
      have HS := Lib.hid hst
      clear r6 t6 rfs tfs hst h2r hch x0 x1 xf0 xf1 y0 y1 yf0 yf1 X1 Y1
      go_wp2_with fail
      go_still_tail 10, (by kernel_rfl)
      repeat still_step
      try (refine wpStill_nil ?_)
      go_wp2
      go_roundw
      case rel => exact ⟨i + 1, by omega, by go_num, Lib.hid (HS.out _ (by rw [u64_or_nat _ _ (Bit.wd_lt _ _) (Bit.wd_lt _ _), upU_word])), (HCh.out.setCell _ (fun _ => Or.inr rfl) _).drew⟩
      case measure => simp [intOf]; omega
    · obtain rfl : i = n := by omega
      clear r6 t6 rfs tfs h2r hch x0 x1 xf0 xf1 y0 y1 yf0 yf1 X1 Y1
      go_wp2_with fail
      go_end0
      refine ⟨rfl, ?_, HCh.out⟩
      have e := upU_all g1 g2 i (by rw [← HE.out]; exact O1.out) (by rw [← HE.out]; exact O2.out)
      rw [← e]
      exact HU.out
end Go.Proofs.Ytagillnkdaanaaa
