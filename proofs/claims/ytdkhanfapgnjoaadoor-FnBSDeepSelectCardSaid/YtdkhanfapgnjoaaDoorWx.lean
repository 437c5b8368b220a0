/- WALKS: PreviousSet, PreviousClear. -/
import Derived.Test.YtdkhanfapgnjoaaDoorWt
import Derived.Handy
namespace Go.Proofs.YtdkhanfapgnjoaaDoor
open Go.RowKit
set_option linter.unusedVariables false
set_option linter.unusedSimpArgs false

theorem low_mask64 (n : Nat) (h : n ≤ 64) : IntKind.u64.wrap (IntKind.u64.wrap (2 ^ n) - 1) = ((2 ^ n - 1 : Nat) : Int) := by
  by_cases h2 : n = 64
  · subst h2; decide
  · exact low_mask n (by omega)
theorem shl64 (n : Nat) (h : n ≤ 64) : (2 : Int) ^ min n 64 = 2 ^ n := by rw [Nat.min_eq_left h]
theorem not_wd (g : Nat → Bool) (j : Nat) : bits BinOp.xor IntKind.u64 IntKind.u64.max ((Bit.wd g j : Nat) : Int) = ((18446744073709551615 - Bit.wd g j : Nat) : Int) := by
  rw [show IntKind.u64.max = ((18446744073709551615 : Nat) : Int) from rfl, u64_xor_nat _ _ (by omega) (Bit.wd_lt _ _), all_xor _ (Bit.wd_lt _ _)]
/-- The bits up to i. -/
def upto (g : Nat → Bool) (i : Nat) : Nat → Bool := fun k => g k && decide (k < i + 1)
theorem upto_wd (g : Nat → Bool) (i : Nat) : Bit.wd g (i / 64) &&& (2 ^ (i % 64 + 1) - 1) = Bit.wd (upto g i) (i / 64) := by
  rw [Bit.wd_low (i / 64) _ (by omega), Bit.wd_and]
  exact Bit.wd_congr fun k hk => by
    have : decide (64 * (i / 64) + k < 64 * (i / 64) + (i % 64 + 1)) = decide (64 * (i / 64) + k < i + 1) := by rw [Bool.eq_iff_iff]; simp; omega
    simp only [upto, this]
theorem upto_low (g : Nat → Bool) (i j : Nat) (h : j < i / 64) : Bit.wd (upto g i) j = Bit.wd g j := Bit.wd_congr fun k hk => by
  have : decide (64 * j + k < i + 1) = true := by simp; omega
  simp only [upto, this, Bool.and_true]
theorem upto_high (g : Nat → Bool) (i j : Nat) (h : i / 64 < j) : Bit.wd (upto g i) j = 0 := Bit.wd_zero fun k hk => by
  have : decide (64 * j + k < i + 1) = false := by simp; omega
  simp only [upto, this, Bool.and_false]
theorem upto_place {g : Nat → Bool} {i n : Nat} (h : upto g i n = true ∧ ∀ k, n < k → upto g i k = false) : n ≤ i ∧ g n = true ∧ ∀ k, n < k → k ≤ i → g k = false := by
  obtain ⟨h1, h2⟩ := h
  simp only [upto, Bool.and_eq_true, decide_eq_true_eq] at h1
  refine ⟨by omega, h1.1, fun k q1 q2 => ?_⟩
  have := h2 k q1
  have e : decide (k < i + 1) = true := by simp; omega
  simpa only [upto, e, Bool.and_true] using this

set_option maxRecDepth 100000 in
set_option maxHeartbeats 1000000 in
theorem prevSet_any (b sb L i p : Nat) (g : Nat → Bool) (w : World) (h : BS w b sb L g) (hL : L ≤ 40000) (hi : i < L) (hp : p ≤ i) (hg : g p = true) (x : Int) (hx : x = i) :
    Calls Tryd.prog 19 #[.pointer (some ⟨b, 0, none⟩), .int .u64 x] w fun r w' => (∃ n : Nat, n ≤ i ∧ g n = true ∧ (∀ k, n < k → k ≤ i → g k = false) ∧ r = .returned (.tuple #[.int .u64 n, .bool true])) ∧ Ch S0 w w' := by
  subst hx
  obtain ⟨cap, c0, c1, h4, h5, f0, f1, fs, h6⟩ := h.look
  have D := Lib.hid h6
  have H := Lib.hid h
  have hnl : i / 64 < nw L := by unfold nw; omega
  have d0 := h6 (i / 64) hnl
  have i0 : (0 : Int) ≤ (i : Int) / 64 := by omega
  have i1 : ((i : Int) / 64).toNat = i / 64 := by omega
  have i2 : (i : Int) / 64 < (nw L : Nat) := by omega
  have i3 : decide ((nw L : Int) ≤ (i : Int) / 64) = false := by simp; omega
  have hpz : upto g i p = true := by unfold upto; simp [hg]; omega
  have HPZ := Lib.hid hpz
  obtain ⟨f, hf⟩ : ∃ f, upto g i = f := ⟨_, rfl⟩
  have HF := Lib.hid hf
  clear h fs h6 hg hpz hf
  go_enter Tryd.func19, Tryd.ntmps19
  obtain ⟨y, hy⟩ : ∃ y, Bit.wd f (i / 64) = y := ⟨_, rfl⟩
  have hylt : y < 18446744073709551616 := by rw [← hy]; exact Bit.wd_lt _ _
  have hm : bits BinOp.and IntKind.u64 (((Bit.wd g (i / 64) : Nat) : Int)) (IntKind.u64.wrap (IntKind.u64.wrap (2 ^ (i % 64 + 1)) - 1)) = (y : Int) := by
    rw [← hy, ← HF.out, low_mask64 _ (by omega), u64_and_nat _ _ (Bit.wd_lt _ _) (low_lt _ (by omega)), upto_wd]
  have HYL := Lib.hid hylt
  have HY := Lib.hid hy
  clear hy hylt
  have HAB : Hid (∀ j : Nat, i / 64 < j → Bit.wd f j = 0) := Lib.hid fun j hj => by rw [← HF.out]; exact upto_high _ i j hj
  go_wp2_with fail
  refine (wordsIndex_any i _ rfl (by omega) _).mono ?_
  rintro r w1 ⟨rfl, rfl⟩
  by_cases hz : y = 0
  · have hzd : ((y : Int) == 0) = true := beq_iff_eq.2 (by omega)
    have HZ0 := Lib.hid hz
    clear hz
    go_wp2_with fail
    go_loopw [6] (fun v wr => ∃ x : Int, -1 ≤ x ∧ x < (i / 64 : Nat) ∧ v = .int .i64 x ∧ Hid (∀ j : Nat, x < (j : Int) → Bit.wd f j = 0) ∧ w = wr) (fun v _ => (intOf v + 1).toNat)
    case atStart => exact ⟨(i : Int) / 64 - 1, by omega, by omega, rfl, Lib.hid fun j hj => by
      by_cases e : j = i / 64
      · subst e; exact HY.out.trans HZ0.out
      · exact HAB.out j (by omega), rfl⟩
    case round =>
      clear hm hzd d0
      obtain ⟨x, hx1, hx2, rfl, HZ, rfl⟩ := hrel
      by_cases hx : 0 ≤ x
      · obtain ⟨m, rfl⟩ : ∃ m : Nat, x = m := ⟨x.toNat, by omega⟩
        have d0 := D.out m (by omega)
        have u1 : (m : Int) < (nw L : Nat) := by omega
        have u2 : m < nw L := by omega
        obtain ⟨z, hz⟩ : ∃ z, Bit.wd f m = z := ⟨_, rfl⟩
        have hzlt : z < 18446744073709551616 := by rw [← hz]; exact Bit.wd_lt _ _
        have hgm : Bit.wd g m = z := by rw [← hz, ← HF.out, upto_low _ i m (by omega)]
        rw [hgm] at d0
        have HYL := Lib.hid hzlt
        have HYZ := Lib.hid hz
        clear hz hzlt hgm
        by_cases hz : z = 0
        · have hzd : ((z : Int) == 0) = true := beq_iff_eq.2 (by omega)
          have HZ0 := Lib.hid hz
          clear hz
          go_wp2_with fail
          go_roundw
          case rel => exact ⟨(m : Int) - 1, by omega, by omega, by go_num, Lib.hid fun j hj => by
            by_cases e : j = m
            · subst e; exact HYZ.out.trans HZ0.out
            · exact HZ.out j (by omega), trivial⟩
          case measure => simp [intOf] <;> omega
        · obtain ⟨t, ht64, hlen, htop, hab⟩ := top_bit hz HYL.out
          have hzd : ((z : Int) == 0) = false := beq_eq_false_iff_ne.2 (by omega)
          have T1 := Lib.hid hlen
          have T2 := Lib.hid htop
          have T3 := Lib.hid hab
          clear hlen htop hab hz
          go_wp2_with fail
          refine (len64_of _ z rfl HYL.out _ T1.out _).mono ?_
          rintro r w1 ⟨rfl, rfl⟩
          go_wp2_with fail
          have q := place_of f m t (by rw [HYZ.out]; exact T2.out) (by rw [HYZ.out]; exact T3.out) (fun j hj => HZ.out j (by omega))
          rw [← HF.out] at q
          have q2 := upto_place q
          go_ret2
          exact ⟨⟨64 * m + t, q2.1, q2.2.1, q2.2.2, tup_eq (by omega)⟩, Ch.refl _ _⟩
      · exfalso
        have := all_zero (fun j => HZ.out j (by omega)) p
        rw [← HF.out, HPZ.out] at this
        exact absurd this (by decide)
  · obtain ⟨t, ht64, hlen, htop, hab⟩ := top_bit hz HYL.out
    have hzd : ((y : Int) == 0) = false := beq_eq_false_iff_ne.2 (by omega)
    have T1 := Lib.hid hlen
    have T2 := Lib.hid htop
    have T3 := Lib.hid hab
    clear hlen htop hab hz
    go_wp2_with fail
    refine (len64_of _ y rfl HYL.out _ T1.out _).mono ?_
    rintro r w1 ⟨rfl, rfl⟩
    go_wp2_with fail
    have q := place_of f (i / 64) t (by rw [HY.out]; exact T2.out) (by rw [HY.out]; exact T3.out) HAB.out
    rw [← HF.out] at q
    have q2 := upto_place q
    go_ret2
    exact ⟨⟨64 * (i / 64) + t, q2.1, q2.2.1, q2.2.2, tup_eq (by omega)⟩, Ch.refl _ _⟩

end Go.Proofs.YtdkhanfapgnjoaaDoor
