/- WALKS: slices.Equal of []int. -/
import Derived.Test.YtbfcnimebdoagaaS
namespace Go.Proofs.Ytbfcnimebdoagaa
open Go.RowKit
set_option linter.unusedVariables false
set_option linter.unusedSimpArgs false

theorem elInt : EL Try.prog 26 3 1 8 := EL.of (z := .int .i64 0) Try.underlying26 (by kernel_rfl) rfl (by decide)

theorem take_eq_succ {xs ys : List Int} {i : Nat} {x y : Int} (h : xs.take i = ys.take i) (hx : xs[i]? = some x) (hy : ys[i]? = some y) (e : x = y) : xs.take (i + 1) = ys.take (i + 1) := by
  rw [List.take_add_one, List.take_add_one, h, hx, hy, e]

set_option maxRecDepth 100000 in
theorem equal_int (A B : Option Addr) (n m c1 c2 : Nat) (xs ys : List Int) (w : World) (hx : xs.length = n) (hy : ys.length = m) (hn : n ≤ 1000000) (hm : m ≤ 1000000) (hA : Rd w A (iv xs)) (hB : Rd w B (iv ys)) :
    Calls Try.prog 13 #[.slice A n c1, .slice B m c2] w fun r w' => r = .returned (.bool (decide (xs = ys))) ∧ Ch S0 w w' := by
  have HX := Lib.hid hx
  have HY := Lib.hid hy
  have HA := Lib.hid hA
  have HB := Lib.hid hB
  clear hx hy hA hB
  by_cases hnm : n = m
  · subst hnm
    go_enter Try.func13, Try.ntmps13
    go_wp2_with fail
    go_loopw [13] (fun vi wr => ∃ i : Nat, i ≤ n ∧ vi = .int .i64 i ∧ xs.take i = ys.take i ∧ Ch S0 w wr) (fun vi _ => n - (intOf vi).toNat)
    case atStart => exact ⟨0, by omega, rfl, rfl, Ch.refl _ _⟩
    case round =>
      obtain ⟨i, hi, rfl, ht, hC⟩ := hrel
      have HT := Lib.hid ht
      have HC := Lib.hid hC
      clear ht
      by_cases hlt : i < n
      · have hlti : (i : Int) < (n : Nat) := by omega
        have hi0 : (0 : Int) ≤ (i : Nat) := by omega
        have hit : ((i : Nat) : Int).toNat = i := by omega
        obtain ⟨x, hx⟩ : ∃ x, xs[i]? = some x := ⟨xs[i]'(by have := HX.out; omega), by simp [HX.out, hlt]⟩
        obtain ⟨y, hy⟩ : ∃ y, ys[i]? = some y := ⟨ys[i]'(by have := HY.out; omega), by simp [HY.out, hlt]⟩
        obtain ⟨q, o, e, cx⟩ := (HA.out.keep0 hC).at (iv_at hx)
        subst e
        obtain ⟨q2, o2, e, cy⟩ := (HB.out.keep0 hC).at (iv_at hy)
        subst e
        have HXi := Lib.hid hx
        have HYi := Lib.hid hy
        clear hx hy hC
        by_cases hxy : x = y
        · have HTs := Lib.hid (take_eq_succ HT.out HXi.out HYi.out hxy)
          have hne : (x == x) = true := by simp
          have hne2 : (x != x) = false := by simp
          subst hxy
          go_wp2_with fail
          go_quiet (fail)
          go_wp2_with fail
          go_roundw
          case rel => exact ⟨i + 1, by omega, by go_num, HTs.out, HC.out.trans ⟨rfl, rfl, rfl, Nat.le_refl _, fun _ _ _ => rfl⟩⟩
          case measure => simp [intOf]; omega
        · have hne : (x == y) = false := by simp [hxy]
          have hd : decide (xs = ys) = false := by
            have h1 := HXi.out
            have h2 := HYi.out
            simp only [decide_eq_false_iff_not]
            intro e
            rw [e, h2] at h1
            exact hxy (Option.some.inj h1).symm
          have HDe := Lib.hid hd
          have HNe := Lib.hid hxy
          clear hd hxy
          go_wp2_with fail
          go_quiet (fail)
          go_wp2_with fail
          go_ret
          exact ⟨by rw [HDe.out]; rfl, HC.out.trans ⟨rfl, rfl, rfl, Nat.le_refl _, fun _ _ _ => rfl⟩⟩
      · have hin : ¬ (i : Int) < (n : Nat) := by omega
        have hie : i = n := by omega
        have hd : decide (xs = ys) = true := by
          have h1 := HT.out
          rw [hie, List.take_of_length_le (by rw [HX.out]; exact Nat.le_refl _), List.take_of_length_le (by rw [HY.out]; exact Nat.le_refl _)] at h1
          simp [h1]
        have HDe := Lib.hid hd
        have HC2 := Lib.hid hC
        clear hd hC
        go_wp2_with fail
        go_ret
        exact ⟨by rw [HDe.out]; rfl, HC2.out⟩
  · have hne : ((n : Int) == (m : Int)) = false := by simp; omega
    have hne2 : ((n : Int) != (m : Int)) = true := by simp; omega
    have hd : decide (xs = ys) = false := by
      simp only [decide_eq_false_iff_not]
      intro e
      apply hnm
      rw [← HX.out, ← HY.out, e]
    have HDe := Lib.hid hd
    clear hd hnm
    go_enter Try.func13, Try.ntmps13
    go_wp2_with fail
    go_ret
    exact ⟨by rw [HDe.out]; rfl, Ch.refl _ _⟩
end Go.Proofs.Ytbfcnimebdoagaa
