/- WALKS: a row turned; the search among two runs; two runs merged in place. -/
import Derived.Test.YtbfcnimebdoagaaMA
import Derived.BigQuiet
import Derived.Deep.CutBlock
namespace Go.Proofs.Ytbfcnimebdoagaa
open Go.RowKit
set_option linter.unusedVariables false
set_option linter.unusedSimpArgs false

set_option maxRecDepth 100000 in
set_option maxHeartbeats 4000000 in
theorem symRotate_any (base g n cap lo mid hi : Nat) (f : Nat → El) (w : World) (h : RW w base g n cap f) (h1 : lo ≤ mid) (h2 : mid ≤ hi) (h3 : hi ≤ n) (hn : n ≤ 1000000) :
    Calls Try.prog 61 #[.slice (some ⟨g, 0, none⟩) n cap, .int .i64 lo, .int .i64 mid, .int .i64 hi] w fun r w' => r = .returned (.tuple #[]) ∧ RW w' base g n cap (rotF f lo mid hi) ∧ Ch (S1 g) w w' := by
  have HH := Lib.hid h
  obtain ⟨i, hi0⟩ : ∃ i, i = mid - lo := ⟨_, rfl⟩
  obtain ⟨j, hj0⟩ : ∃ j, j = hi - mid := ⟨_, rfl⟩
  have hii : (mid : Int) - (lo : Int) = (i : Nat) := by omega
  have hjj : (hi : Int) - (mid : Int) = (j : Nat) := by omega
  have HI := Lib.hid hi0
  have HJ := Lib.hid hj0
  clear h hi0 hj0
  by_cases ci : i = 0
  · have HR : Hid (rotF f lo mid hi = f) := Lib.hid (rot_none f h1 h2 (by have := HI.out; omega))
    subst ci
    go_enter Try.func61, Try.ntmps61
    go_wp2_with fail
    refine bodyPost_ret (v := .tuple #[]) (results_none rfl _ _ _) rfl ?_
    exact ⟨rfl, by rw [HR.out]; exact HH.out, Ch.refl _ _⟩
  have hi1 : ((i : Int) == 0) = false := by simp; omega
  have hi2 : ¬ ((i : Int) = 0) := by omega
  by_cases cj : j = 0
  · have HR : Hid (rotF f lo mid hi = f) := Lib.hid (rot_none f h1 h2 (by have := HJ.out; omega))
    subst cj
    go_enter Try.func61, Try.ntmps61
    go_wp2_with fail
    refine bodyPost_ret (v := .tuple #[]) (results_none rfl _ _ _) rfl ?_
    exact ⟨rfl, by rw [HR.out]; exact HH.out, Ch.refl _ _⟩
  have hj1 : ((j : Int) == 0) = false := by simp; omega
  have hj2 : ¬ ((j : Int) = 0) := by omega
  have HL : Hid (lo = mid - i) := Lib.hid (by have := HI.out; omega)
  have HM : Hid (hi = mid + j) := Lib.hid (by have := HJ.out; omega)
  by_cases cij : i = j
  · have HR : Hid (rotF f lo mid hi = swpF f lo mid i) := Lib.hid (by rw [HL.out, HM.out, ← cij, ← rot_same f (by have := HI.out; omega)])
    have hijb : ((i : Int) == (j : Nat)) = true := by simp [cij]
    have HS := Lib.hid (symSwap_any base g n cap lo mid i f w HH.out (by have := HL.out; omega) (by have := HM.out; omega) hn)
    subst cij
    go_enter Try.func61, Try.ntmps61
    go_wp2_with fail
    refine HS.out.mono ?_
    rintro r w1 ⟨rfl, hR, hC⟩
    have HR1 := Lib.hid hR
    have HC1 := Lib.hid hC
    clear hR hC
    go_wp2_with fail
    refine bodyPost_ret (v := .tuple #[]) (results_none rfl _ _ _) rfl ?_
    exact ⟨rfl, by rw [HR.out]; exact HR1.out, HC1.out⟩
  have hij1 : ((i : Int) == (j : Nat)) = false := by simp; omega
  have hij2 : ¬ ((i : Int) = (j : Nat)) := by omega
  have hpp : (lo : Int) + (i : Int) = (mid : Nat) := by have := HI.out; omega
  obtain ⟨i0, hi0⟩ : ∃ i0, i0 = i := ⟨_, rfl⟩
  go_enter Try.func61, Try.ntmps61
  go_wp2_with fail
  go_loopw [8, 9] (fun vi vj wr => ∃ (x y : Nat) (fc : Nat → El), vi = .int .i64 x ∧ vj = .int .i64 y ∧ 0 < x ∧ 0 < y ∧ x ≤ mid ∧ mid + y ≤ n ∧ RW wr base g n cap fc ∧ rotF fc (mid - x) mid (mid + y) = rotF f lo mid hi ∧ Ch (S1 g) w wr) (fun vi vj _ => (intOf vi).toNat + (intOf vj).toNat)
  case atStart => exact ⟨i, j, f, rfl, rfl, by omega, by omega, by have := HI.out; omega, by have := HM.out; omega, HH.out, by rw [← HL.out, ← HM.out], Ch.refl _ _⟩
  case round =>
    obtain ⟨x, y, fc, rfl, rfl, hx, hy, hxm, hyn, hR, hE, hC⟩ := hrel
    have HR := Lib.hid hR
    have HE := Lib.hid hE
    have HC := Lib.hid hC
    clear hR hE hC hij1 hij2 hi1 hi2 hj1 hj2 ci cj cij
    obtain ⟨p, hp⟩ : ∃ p, p = mid - x := ⟨_, rfl⟩
    have hpi : (mid : Int) - (x : Int) = (p : Nat) := by omega
    have HP := Lib.hid hp
    clear hp
    rcases Nat.lt_trichotomy x y with h | h | h
    · have hgt : ¬ ((y : Int) < (x : Nat)) := by omega
      have hne : ((x : Int) != (y : Nat)) = true := by simp; omega
      have hne2 : ¬ ((x : Int) = (y : Nat)) := by omega
      obtain ⟨q, hq⟩ : ∃ q, q = mid + y - x := ⟨_, rfl⟩
      have hqi : (mid : Int) + (y : Int) - (x : Int) = (q : Nat) := by omega
      obtain ⟨y', hy'⟩ : ∃ y', y' = y - x := ⟨_, rfl⟩
      have hyi : (y : Int) - (x : Int) = (y' : Nat) := by omega
      have HS := Lib.hid (symSwap_any base g n cap p q x fc wr HR.out (by have := HP.out; omega) (by omega) hn)
      have HQ := Lib.hid hq
      have HY := Lib.hid hy'
      clear hq hy'
      go_wp2_with fail
      refine HS.out.mono ?_
      rintro r w1 ⟨rfl, hR, hC⟩
      have HR1 := Lib.hid hR
      have HC1 := Lib.hid hC
      clear hR hC
      go_wp2_with fail
      go_roundw
      case rel =>
        refine ⟨x, y', _, by first | rfl | (rw [hyi]), by first | rfl | (rw [hyi]), hx, by have := HY.out; omega, hxm, by have := HY.out; omega, HR1.out, ?_, HC.out.trans HC1.out⟩
        rw [HP.out, HQ.out, HY.out, rot_less fc hxm h hx]
        exact HE.out
      case measure => have := HY.out; simp [intOf]; omega
    · have hne : ((x : Int) != (y : Nat)) = false := by simp [h]
      have hgt : ¬ ((y : Int) < (x : Nat)) := by omega
      have HS := Lib.hid (symSwap_any base g n cap p mid x fc wr HR.out (by have := HP.out; omega) (by omega) hn)
      subst h
      go_wp2_with fail
      refine HS.out.mono ?_
      rintro r w1 ⟨rfl, hR, hC⟩
      have HR1 := Lib.hid hR
      have HC1 := Lib.hid hC
      clear hR hC
      go_wp2_with fail
      refine bodyPost_end (results_none rfl _ _ _) rfl ?_
      refine ⟨rfl, ?_, HC.out.trans HC1.out⟩
      have := HR1.out
      rw [HP.out, rot_same fc hxm, HE.out] at this
      exact this
    · have hgt : (y : Int) < (x : Nat) := by omega
      have hne : ((x : Int) != (y : Nat)) = true := by simp; omega
      have hne2 : ¬ ((x : Int) = (y : Nat)) := by omega
      obtain ⟨x', hx'⟩ : ∃ x', x' = x - y := ⟨_, rfl⟩
      have hxi : (x : Int) - (y : Int) = (x' : Nat) := by omega
      have HS := Lib.hid (symSwap_any base g n cap p mid y fc wr HR.out (by have := HP.out; omega) (by omega) hn)
      have HX := Lib.hid hx'
      clear hx'
      go_wp2_with fail
      refine HS.out.mono ?_
      rintro r w1 ⟨rfl, hR, hC⟩
      have HR1 := Lib.hid hR
      have HC1 := Lib.hid hC
      clear hR hC
      go_wp2_with fail
      go_roundw
      case rel =>
        refine ⟨x', y, _, by first | rfl | (rw [hxi]), by first | rfl | (rw [hxi]), by have := HX.out; omega, hy, by have := HX.out; omega, hyn, HR1.out, ?_, HC.out.trans HC1.out⟩
        rw [show mid - x' = mid - x + y by have := HX.out; omega, HP.out, rot_more fc hxm h hy]
        exact HE.out
      case measure => have := HX.out; simp [intOf]; omega
end Go.Proofs.Ytbfcnimebdoagaa
