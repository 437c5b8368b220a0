/- WALKS: whether a number is among some; whether some ascend. -/
import Derived.Test.YtbfcnimebdoagaaMC
import Derived.Test.YtbfcnimebdoagaaI
namespace Go.Proofs.Ytbfcnimebdoagaa
open Go.RowKit
set_option linter.unusedVariables false
set_option linter.unusedSimpArgs false

set_option maxRecDepth 100000 in
theorem index_any (A : Option Addr) (n c : Nat) (xs : List Int) (x : Int) (w : World) (hl : xs.length = n) (hn : n ≤ 100000) (hA : Rd w A (iv xs)) (hx : x ∉ xs) :
    Calls Try.prog 34 #[.slice A n c, .int .i64 x] w fun r w' => r = .returned (.int .i64 (-1)) ∧ Ch S0 w w' := by
  have HL := Lib.hid hl
  have HA := Lib.hid hA
  have HX := Lib.hid hx
  clear hl hA hx
  go_enter Try.func34, Try.ntmps34
  go_wp2_with fail
  go_loopw [8] (fun vi wr => ∃ i : Nat, i ≤ n ∧ vi = .int .i64 i ∧ Ch S0 w wr) (fun vi _ => n - (intOf vi).toNat)
  case atStart => exact ⟨0, by omega, rfl, Ch.refl _ _⟩
  case round =>
    obtain ⟨i, hi, rfl, hC⟩ := hrel
    have HC := Lib.hid hC
    clear hC
    by_cases hlt : i < n
    · have hlti : (i : Int) < (n : Nat) := by omega
      have hi0 : (0 : Int) ≤ (i : Nat) := by omega
      obtain ⟨y, hy⟩ : ∃ y, xs[i]? = some y := ⟨xs[i]'(by have := HL.out; omega), by simp [HL.out, hlt]⟩
      obtain ⟨q, o, e, c0⟩ := (HA.out.keep0 HC.out).at (iv_at hy)
      subst e
      have hxy : (x == y) = false := by
        simp only [beq_eq_false_iff_ne, ne_eq]
        intro e
        exact HX.out (e ▸ List.mem_of_getElem? hy)
      clear hy
      go_wp2_with fail
      go_roundw
      case rel => exact ⟨i + 1, by omega, by go_num, HC.out⟩
      case measure => simp [intOf]; omega
    · have hin : ¬ (i : Int) < (n : Nat) := by omega
      go_wp2_with fail
      go_ret
      exact ⟨rfl, HC.out⟩
theorem contains_any (A : Option Addr) (n c : Nat) (xs : List Int) (x : Int) (w : World) (hl : xs.length = n) (hn : n ≤ 100000) (hA : Rd w A (iv xs)) (hx : x ∉ xs) :
    Calls Try.prog 21 #[.slice A n c, .int .i64 x] w fun r w' => r = .returned (.bool false) ∧ Ch S0 w w' := by
  have HI := Lib.hid (index_any A n c xs x w hl hn hA hx)
  clear hA hl hx
  go_enter Try.func21, Try.ntmps21
  go_wp2_with fail
  refine HI.out.mono ?_
  rintro r w1 ⟨rfl, hC⟩
  have HC := Lib.hid hC
  clear hC
  go_wp2_with fail
  go_ret
  exact ⟨rfl, HC.out⟩
theorem isNaN_any (x : Int) (w : World) : Calls Try.prog 48 #[.int .i64 x] w fun r w' => r = .returned (.bool false) ∧ w' = w := by
  have hxx : (x != x) = false := by simp
  go_enter Try.func48, Try.ntmps48
  go_wp2_with fail
  go_ret
  exact ⟨rfl, rfl⟩
set_option maxRecDepth 100000 in
theorem less_no (x y : Int) (w : World) (h : y ≤ x) : Calls Try.prog 33 #[.int .i64 x, .int .i64 y] w fun r w' => r = .returned (.bool false) ∧ w' = w := by
  have hxy : ¬ x < y := by omega
  have hd : decide (x < y) = false := by simpa using h
  go_enter Try.func33, Try.ntmps33
  go_wp2_with (go_at_call 48; refine (isNaN_any _ _).mono ?_; rintro r _ ⟨rfl, rfl⟩)
  go_ret
  exact ⟨rfl, rfl⟩
set_option maxRecDepth 100000 in
theorem sorted_yes (A : Option Addr) (n c : Nat) (xs : List Int) (w : World) (hl : xs.length = n) (h0 : 0 < n) (hn : n ≤ 100000) (hA : Rd w A (iv xs)) (hs : xs.Pairwise (· ≤ ·)) :
    Calls Try.prog 19 #[.slice A n c] w fun r w' => r = .returned (.bool true) ∧ Ch S0 w w' := by
  have HL := Lib.hid hl
  have HA := Lib.hid hA
  have HS := Lib.hid hs
  clear hl hA hs
  obtain ⟨k, hk⟩ : ∃ k, k = n - 1 := ⟨_, rfl⟩
  have hki : (n : Int) - 1 = (k : Nat) := by omega
  have HK := Lib.hid hk
  clear hk
  go_enter Try.func19, Try.ntmps19
  go_wp2_with fail
  go_loopw [3] (fun vi wr => ∃ i : Nat, i ≤ k ∧ vi = .int .i64 i ∧ Ch S0 w wr) (fun vi _ => (intOf vi).toNat)
  case atStart => exact ⟨k, Nat.le_refl _, rfl, Ch.refl _ _⟩
  case round =>
    obtain ⟨i, hi, rfl, hC⟩ := hrel
    have HC := Lib.hid hC
    clear hC
    cases i with
    | succ j =>
      have hlti : (0 : Int) < (j : Nat) + 1 := by omega
      have hjn : j + 1 < n := by have := HK.out; omega
      obtain ⟨x, hx⟩ : ∃ x, xs[j + 1]? = some x := ⟨xs[j + 1]'(by have := HL.out; omega), by simp [HL.out, hjn]⟩
      obtain ⟨y, hy⟩ : ∃ y, xs[j]? = some y := ⟨xs[j]'(by have := HL.out; omega), by simp [HL.out, show j < n by omega]⟩
      obtain ⟨q, o, e, c0⟩ := (HA.out.keep0 HC.out).at (iv_at hx)
      subst e
      obtain ⟨_, _, e, c1⟩ := (HA.out.keep0 HC.out).at (iv_at hy)
      cases e
      have hyx : y ≤ x := by
        have := HS.out
        rw [List.pairwise_iff_getElem] at this
        have h1 := this j (j + 1) (by rw [HL.out]; omega) (by rw [HL.out]; omega) (by omega)
        obtain ⟨_, e1⟩ := List.getElem?_eq_some_iff.1 hx
        obtain ⟨_, e2⟩ := List.getElem?_eq_some_iff.1 hy
        rw [e1, e2] at h1
        exact h1
      have HYX := Lib.hid hyx
      have hj0 : (0 : Int) ≤ (j : Nat) := by omega
      have hjn1 : (j : Int) < (n : Nat) := by omega
      have hjn2 : (j : Int) + 1 < (n : Nat) := by omega
      have hj10 : (0 : Int) ≤ (j : Nat) + 1 := by omega
      have hjt : ((j : Int) + 1).toNat = j + 1 := by omega
      have hje : (j : Int) + 1 - 1 = (j : Nat) := by omega
      have hwj : IntKind.i64.wrap (j : Int) = (j : Int) := wrap_nat (by omega)
      clear hx hy hyx
      go_wp2_with fail
      go_quiet ((go_at_call 33; exact Calls.quiet_of_same ((less_no x y _ HYX.out).mono fun _ _ ⟨h1, h2⟩ => ⟨h1, h2⟩)))
      go_wp2_with fail
      go_roundw
      case rel => exact ⟨j, by omega, by go_num, HC.out.trans ⟨rfl, rfl, rfl, Nat.le_refl _, fun _ _ _ => rfl⟩⟩
      case measure => simp [intOf]
    | zero =>
      go_wp2_with fail
      go_ret
      exact ⟨rfl, HC.out⟩
end Go.Proofs.Ytbfcnimebdoagaa
