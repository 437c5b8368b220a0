/- WALKS: NextSet. -/
import Derived.Test.YtdkhanfapgnjoaaDoorNb
import Derived.Test.YtdkhanfapgnjoaaDoorNz
namespace Go.Proofs.YtdkhanfapgnjoaaDoor
open Go.RowKit
set_option linter.unusedVariables false
set_option linter.unusedSimpArgs false

/-- What NextSet says: the first bit from f on, or none. -/
def NextIs (g : Nat → Bool) (f n : Nat) (is : Bool) : Prop := (is = true → f ≤ n ∧ g n = true ∧ ∀ k, f ≤ k → k < n → g k = false) ∧ (is = false → ∀ k, f ≤ k → g k = false)

def NextRes (g : Nat → Bool) (f : Nat) (e : Ending) : Prop := ∃ (n : Nat) (is : Bool), e = .returned (.tuple #[.int .u64 n, .bool is]) ∧ NextIs g f n is

theorem next_first {g : Nat → Bool} {f t y : Nat} (hy : Bit.wd g (f / 64) / 2 ^ (f % 64) = y) (h1 : y.testBit t = true) (h2 : ∀ k, k < t → y.testBit k = false) : NextIs g f (f + t) true := by
  subst hy
  rw [Nat.testBit_div_two_pow, Bit.wd_test] at h1
  simp only [Bool.and_eq_true, decide_eq_true_eq] at h1
  have e : 64 * (f / 64) + (t + f % 64) = f + t := by omega
  rw [e] at h1
  refine ⟨fun _ => ⟨by omega, h1.2, fun k hk hkt => ?_⟩, fun h => by cases h⟩
  have := h2 (k - f) (by omega)
  rw [Nat.testBit_div_two_pow, Bit.wd_test, show 64 * (f / 64) + (k - f + f % 64) = k by omega] at this
  have h3 : k - f + f % 64 < 64 := by omega
  simpa [h3] using this
theorem next_none_first {g : Nat → Bool} {f : Nat} (hy : Bit.wd g (f / 64) / 2 ^ (f % 64) = 0) : ∀ k, f ≤ k → k < 64 * (f / 64 + 1) → g k = false := fun k hk hkt => by
  have h : (Bit.wd g (f / 64) / 2 ^ (f % 64)).testBit (k - f) = false := by rw [hy]; exact Nat.zero_testBit _
  rw [Nat.testBit_div_two_pow, Bit.wd_test, show 64 * (f / 64) + (k - f + f % 64) = k by omega] at h
  have h3 : k - f + f % 64 < 64 := by omega
  simpa [h3] using h
theorem next_later {g : Nat → Bool} {f m t : Nat} (h1 : (Bit.wd g m).testBit t = true) (h2 : ∀ k, k < t → (Bit.wd g m).testBit k = false) (hf : f ≤ 64 * m) (h : ∀ k, f ≤ k → k < 64 * m → g k = false) : NextIs g f (64 * m + t) true := by
  rw [Bit.wd_test] at h1
  simp only [Bool.and_eq_true, decide_eq_true_eq] at h1
  refine ⟨fun _ => ⟨by omega, h1.2, fun k hk hkt => ?_⟩, fun h => by cases h⟩
  by_cases hkm : k < 64 * m
  · exact h k hk hkm
  · have := h2 (k - 64 * m) (by omega)
    rw [Bit.wd_test, show 64 * m + (k - 64 * m) = k by omega] at this
    have h3 : k - 64 * m < 64 := by omega
    simpa [h3] using this
theorem next_skip {g : Nat → Bool} {f m : Nat} (h0 : Bit.wd g m = 0) (h : ∀ k, f ≤ k → k < 64 * m → g k = false) : ∀ k, f ≤ k → k < 64 * (m + 1) → g k = false := fun k hk hkt => by
  by_cases hkm : k < 64 * m
  · exact h k hk hkm
  · have : (Bit.wd g m).testBit (k - 64 * m) = false := by rw [h0]; exact Nat.zero_testBit _
    rw [Bit.wd_test, show 64 * m + (k - 64 * m) = k by omega] at this
    have h3 : k - 64 * m < 64 := by omega
    simpa [h3] using this

theorem tab_keep {w w' : World} (h : TabAt w) (hc : Ch S0 w w') : TabAt w' := fun j hj => by
  have := h j hj
  rw [World.cell?_of_block (w := w) (hc.block 0 (World.block_lt_of_cell? w _ this) (fun h => h))]
  exact this

set_option maxRecDepth 100000 in
set_option maxHeartbeats 2000000 in
theorem nextSet_any (b sb L f : Nat) (g : Nat → Bool) (w : World) (h : BS w b sb L g) (hL : L ≤ 40000) (hf : f ≤ 50000) (hT : TabAt w) :
    Calls Tryd.prog 18 #[.pointer (some ⟨b, 0, none⟩), .int .u64 f] w fun e w' => NextRes g f e ∧ Ch S0 w w' := by
  have hoff := h.off
  have hsbl := h.lt.2
  obtain ⟨cap, c0, c1, h4, h5, f0, f1, fs, h6⟩ := h.look
  have D := Lib.hid h6
  have HO := Lib.hid hoff
  have HT := Lib.hid hT
  have hnw : nw L ≤ 1000 := by unfold nw; omega
  obtain ⟨q, hq⟩ : ∃ q, q = f / 64 := ⟨_, rfl⟩
  have hqi : (f : Int) / 64 = (q : Nat) := by omega
  have hq0 : (0 : Int) ≤ (q : Nat) := by omega
  have HQ := Lib.hid hq
  clear h fs h6 hoff hT hq
  by_cases hlt : q < nw L
  · have hqn : (q : Int) < (nw L : Nat) := by omega
    have hqn2 : ¬ (nw L : Int) ≤ (q : Nat) := by omega
    have d0 := D.out q hlt
    obtain ⟨y, hy⟩ : ∃ y, Bit.wd g q / 2 ^ (f % 64) = y := ⟨_, rfl⟩
    have hyl : y < 18446744073709551616 := by rw [← hy]; exact Nat.lt_of_le_of_lt (Nat.div_le_self _ _) (Bit.wd_lt _ _)
    have hsh : ((Bit.wd g q : Nat) : Int) / 2 ^ (f % 64) = (y : Nat) := by rw [← hy]; simp
    have HY : Hid (Bit.wd g (f / 64) / 2 ^ (f % 64) = y) := Lib.hid (by rw [← HQ.out]; exact hy)
    have HYL := Lib.hid hyl
    clear hy hyl
    go_enter Tryd.func18, Tryd.ntmps18
    go_wp2_with fail
    go_quiet ((go_at_call 23; exact Calls.quiet_of_same ((wordsIndex_any f _ rfl (by omega) _).mono fun _ _ ⟨h1, h2⟩ => ⟨h1, h2.symm⟩)))
    by_cases hz : y = 0
    · have hzd : ((y : Int) == 0) = true := beq_iff_eq.2 (by omega)
      have HZ : Hid (∀ k, f ≤ k → k < 64 * (q + 1) → g k = false) := Lib.hid (by rw [HQ.out]; exact next_none_first (by rw [HY.out, hz]))
      obtain ⟨m, hm⟩ : ∃ m, nw L - (q + 1) = m := ⟨_, rfl⟩
      have hmn : nw L = q + 1 + m := by omega
      have HMN := Lib.hid hmn
      have hq1 : (0 : Int) ≤ (q : Int) + 1 := by omega
      have hq2 : (q : Int) + 1 ≤ (nw L : Nat) := by omega
      have hq3 : ((q : Int) + 1).toNat = q + 1 := by omega
      have hend : ∀ k, f ≤ k → (∀ k, f ≤ k → k < 64 * (q + 1 + m) → g k = false) → g k = false := fun k hk h => by
        by_cases hkl : k < 64 * (q + 1 + m)
        · exact h k hk hkl
        · exact HO.out k (by rw [← hmn] at hkl; unfold nw at hkl; omega)
      have HE := Lib.hid hend
      have hm1000 : m ≤ 1000 := by omega
      have hqm : q + 1 + m ≤ 1000 := by omega
      clear hz hend
      by_cases hcq : cap = q + 1
      · have hm0 : m = 0 := by omega
        have hlt0 : ¬ ((0 : Int) < (m : Nat)) := by omega
        clear hmn
        go_wp2_with fail
        generalize hw1 : w.drewN nq = w1
        have hC1 : Ch S0 w w1 := by rw [← hw1]; exact drewN_ch _ _ _
        have HC1 := Lib.hid hC1
        clear hC1 hw1
        go_loopw [8, 9, 46] (fun _ _ vi wr => vi = .int .i64 0 ∧ wr = w1) (fun _ _ vi _ => 0)
        case atStart => exact ⟨rfl, rfl⟩
        case round =>
          obtain ⟨rfl, hwr⟩ := hrel
          obtain rfl : w1 = wr := hwr.symm
          go_wp2_with fail
          go_ret2
          exact ⟨⟨0, false, rfl, fun h => (by cases h), fun _ k hk => HE.out k hk (by rw [hm0]; exact HZ.out)⟩, HC1.out⟩
      · clear hmn
        go_wp2_with fail
        generalize hw1 : w.drewN nq = w1
        have hC1 : Ch S0 w w1 := by rw [← hw1]; exact drewN_ch _ _ _
        have HC1 := Lib.hid hC1
        have HT1 := Lib.hid (tab_keep HT.out hC1)
        have D1 : Hid (∀ i, i < m → w1.cell? ⟨sb, q + 1 + i, none⟩ = some (.int .u64 (Bit.wd g (q + 1 + i) : Nat))) := Lib.hid fun i hi => by
          have := D.out (q + 1 + i) (by rw [HMN.out]; omega)
          rw [World.cell?_of_block (w := w) (hC1.block sb hsbl (fun h => h))]
          exact this
        clear hC1 hw1 c0 c1 f0 f1
        go_loopw [8, 9, 46] (fun _ _ vi wr => ∃ i : Nat, i ≤ m ∧ vi = .int .i64 i ∧ Hid (∀ k, f ≤ k → k < 64 * (q + 1 + i) → g k = false) ∧ wr = w1) (fun _ _ vi _ => m - (intOf vi).toNat)
        case atStart => exact ⟨0, by omega, rfl, HZ, rfl⟩
        case round =>
          clear hzd hsh
          obtain ⟨i, hi, rfl, HB, hwr⟩ := hrel
          obtain rfl : w1 = wr := hwr.symm
          by_cases hlt2 : i < m
          · have hlti : (i : Int) < (m : Nat) := by omega
            have d1 := D1.out i hlt2
            obtain ⟨z, hz⟩ : ∃ z, Bit.wd g (q + 1 + i) = z := ⟨_, rfl⟩
            have hzl : z < 18446744073709551616 := by rw [← hz]; exact Bit.wd_lt _ _
            rw [hz] at d1
            have HZL := Lib.hid hzl
            have HZE := Lib.hid hz
            clear hz hzl
            by_cases hz : z = 0
            · have hzd : ((z : Int) == 0) = true := beq_iff_eq.2 (by omega)
              have HB2 : Hid (∀ k, f ≤ k → k < 64 * (q + 1 + (i + 1)) → g k = false) := Lib.hid (next_skip (m := q + 1 + i) (by rw [HZE.out, hz]) HB.out)
              clear hz
              go_wp2_with fail
              go_roundw
              case rel => exact ⟨i + 1, by omega, by go_num, HB2, by trivial⟩
              case measure => simp [intOf]; omega
            · have hzd : ((z : Int) == 0) = false := beq_eq_false_iff_ne.2 (by omega)
              obtain ⟨ht64, hb1, hb2⟩ := ctz_bit hz HZL.out
              have HN := Lib.hid (next_later (g := g) (f := f) (m := q + 1 + i) (t := Lib.ctz 64 z) (by rw [HZE.out]; exact hb1) (fun k hk => by rw [HZE.out]; exact hb2 k hk) (by have := HQ.out; omega) HB.out)
              have H29 := Lib.hid (fun w hT => tz_any z HZL.out hz w hT)
              obtain ⟨t, ht⟩ : ∃ t, Lib.ctz 64 z = t := ⟨_, rfl⟩
              rw [ht] at HN H29 ht64
              clear hb1 hb2 hz ht
              go_wp2_with fail
              refine (H29.out _ HT1.out).mono ?_
              rintro e w2 ⟨rfl, rfl⟩
              go_wp2_with fail
              go_ret2
              exact ⟨⟨64 * (q + 1 + i) + t, true, tup_eq (by omega), HN.out⟩, HC1.out⟩
          · obtain rfl : i = m := by omega
            go_wp2_with fail
            go_ret2
            exact ⟨⟨0, false, rfl, fun h => (by cases h), fun _ k hk => HE.out k hk HB.out⟩, HC1.out⟩
    · have hzd : ((y : Int) == 0) = false := beq_eq_false_iff_ne.2 (by omega)
      obtain ⟨ht64, hb1, hb2⟩ := ctz_bit hz HYL.out
      have HN := Lib.hid (next_first HY.out hb1 hb2)
      have H29 := Lib.hid (fun w hT => tz_any y HYL.out hz w hT)
      obtain ⟨t, ht⟩ : ∃ t, Lib.ctz 64 y = t := ⟨_, rfl⟩
      rw [ht] at HN H29 ht64
      clear hb1 hb2 hz ht
      go_wp2_with fail
      refine (H29.out _ (tab_keep HT.out (by first | exact Ch.refl _ _ | exact (Ch.refl _ _).drew | exact drewN_ch _ _ _))).mono ?_
      rintro e w1 ⟨rfl, rfl⟩
      go_wp2_with fail
      go_ret2
      exact ⟨⟨f + t, true, tup_eq (by omega), HN.out⟩, by first | exact Ch.refl _ _ | exact (Ch.refl _ _).drew | exact drewN_ch _ _ _⟩
  · have hqn : ¬ (q : Int) < (nw L : Nat) := by omega
    have hqn2 : (nw L : Int) ≤ (q : Nat) := by omega
    go_enter Tryd.func18, Tryd.ntmps18
    go_wp2_with fail
    go_ret2
    exact ⟨⟨0, false, rfl, fun h => (by cases h), fun _ k hk => HO.out k (by have := HQ.out; unfold nw at hlt; omega)⟩, by first | exact Ch.refl _ _ | exact (Ch.refl _ _).drew | exact drewN_ch _ _ _⟩
end Go.Proofs.YtdkhanfapgnjoaaDoor
