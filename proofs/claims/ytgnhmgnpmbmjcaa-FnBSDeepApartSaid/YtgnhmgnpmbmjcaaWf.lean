/- WALKS: the statements' own functions: comparisons, bsBits, BSMake. -/
import Derived.Test.YtgnhmgnpmbmjcaaWe
namespace Go.Proofs.Ytgnhmgnpmbmjcaa
open Go.RowKit
set_option linter.unusedVariables false
set_option linter.unusedSimpArgs false

set_option maxHeartbeats 400000 in
theorem bslist_true {b1 b2 : Nat} (v1 v2 : Value) (xs : List Nat) (w : World) (h1 : Lst b1 w v1 xs) (h2 : Lst b2 w v2 xs) (hn : xs.length ≤ 100000) :
    Calls Try.prog 45 #[v1, v2] w fun e w' => e = .returned (.bool true) ∧ Ch S0 w w' := by
  obtain ⟨A1, c1, rfl, H1⟩ := h1
  obtain ⟨A2, c2, rfl, H2⟩ := h2
  have HA := Lib.hid H1
  have HB := Lib.hid H2
  clear H1 H2
  go_enter Try.func45, Try.ntmps45
  go_wp2
  go_loopw [5] (fun k wr => ∃ m : Nat, m ≤ xs.length ∧ k = .int .i64 m ∧ Ch S0 w wr) (fun k _ => xs.length - (intOf k).toNat)
  case atStart => exact ⟨0, Nat.zero_le _, rfl, Ch.refl _ _⟩
  case round =>
    obtain ⟨m, hm, rfl, hC⟩ := hrel
    by_cases hlt : m < xs.length
    · obtain ⟨q1, o1, _, e1, k1⟩ := HA.out m hlt
      obtain ⟨q2, o2, _, e2, k2⟩ := HB.out m hlt
      have k1' : wr.cell? ⟨q1, o1 + m, none⟩ = some (.int .u64 (xs[m] : Nat)) := by
        rw [World.cell?_of_block (w := w) (hC.block q1 (World.block_lt_of_cell? w _ k1) (fun h => h))]; exact k1
      have k2' : wr.cell? ⟨q2, o2 + m, none⟩ = some (.int .u64 (xs[m] : Nat)) := by
        rw [World.cell?_of_block (w := w) (hC.block q2 (World.block_lt_of_cell? w _ k2) (fun h => h))]; exact k2
      have hi : (m : Int) < (xs.length : Int) := by omega
      have HC := Lib.hid hC
      subst e1 e2
      clear hC k1 k2 HA HB
      go_wp2
      go_quiet (fail)
      go_wp2
      go_roundw
      case rel => exact ⟨m + 1, by omega, by go_num, HC.out.trans (drewN_ch _ _ _)⟩
      case measure => simp [intOf]; omega
    · have HC := Lib.hid hC
      clear hC
      go_wp2
      go_ret
      exact ⟨rfl, HC.out⟩

theorem places_eq {g : Nat → Bool} {L M : Nat} (h1 : ∀ k, L ≤ k → g k = false) (h2 : ∀ k, M ≤ k → g k = false) : places g L = places g M := by
  have key : ∀ (a d : Nat), (∀ k, a ≤ k → g k = false) → places g (a + d) = places g a := by
    intro a d ha
    induction d with
    | zero => rfl
    | succ d ih => rw [show a + (d + 1) = (a + d) + 1 by omega, places_succ, ha (a + d) (by omega), ih]; simp
  by_cases h : L ≤ M
  · rw [show M = L + (M - L) by omega, key L _ h1]
  · rw [show L = M + (L - M) by omega, key M _ h2]

set_option maxHeartbeats 400000 in
theorem bssame_true {b1 b2 : Nat} (v1 v2 : Value) (L : Nat) (g : Nat → Bool) (w : World) (h1 : IsB b1 w v1 L g) (h2 : IsB b2 w v2 L g) :
    Calls Try.prog 16 #[v1, v2] w fun e w' => e = .returned (.bool true) ∧ Ch S0 w w' := by
  have hsm := h1.small
  have hpl := places_len g L
  obtain ⟨_, _, i1, rfl, l1⟩ := h1
  obtain ⟨_, _, i2, rfl, l2⟩ := h2
  obtain ⟨A1, n1, c1, rfl⟩ : ∃ A n c, i1 = .slice A n c := by obtain ⟨A, c, e, _⟩ := l1; exact ⟨_, _, _, e⟩
  obtain ⟨A2, n2, c2, rfl⟩ : ∃ A n c, i2 = .slice A n c := by obtain ⟨A, c, e, _⟩ := l2; exact ⟨_, _, _, e⟩
  have hch : Ch S0 w ((w.alloc (Obj.cells #[.int .u64 L, .slice A1 n1 c1] 25)).alloc (Obj.cells #[.int .u64 L, .slice A2 n2 c2] 25)) := ((Ch.refl _ _).alloc _).alloc _
  have T := Lib.hid (bslist_true _ _ _ _ (l1.keep hch) (l2.keep hch) (by omega))
  have HC := Lib.hid hch
  clear l1 l2 hch
  go_enter Try.func16, Try.ntmps16
  go_wp2_with (go_at_call 45; refine T.out.mono ?_; rintro e w2 ⟨rfl, hC2⟩; have HC2 := Lib.hid hC2; clear hC2)
  go_ret
  exact ⟨rfl, HC.out.trans HC2.out⟩

set_option maxHeartbeats 400000 in
theorem alike_true {b1 b2 : Nat} (v1 v2 : Value) (L M : Nat) (g : Nat → Bool) (w : World) (h1 : IsB b1 w v1 L g) (h2 : IsB b2 w v2 M g) :
    Calls Try.prog 20 #[v1, v2] w fun e w' => e = .returned (.bool true) ∧ Ch S0 w w' := by
  have hsm := h1.small
  have hpl := places_len g L
  have hpe := places_eq h1.off h2.off
  obtain ⟨_, _, i1, rfl, l1⟩ := h1
  obtain ⟨_, _, i2, rfl, l2⟩ := h2
  rw [← hpe] at l2
  clear hpe
  obtain ⟨A1, n1, c1, rfl⟩ : ∃ A n c, i1 = .slice A n c := by obtain ⟨A, c, e, _⟩ := l1; exact ⟨_, _, _, e⟩
  obtain ⟨A2, n2, c2, rfl⟩ : ∃ A n c, i2 = .slice A n c := by obtain ⟨A, c, e, _⟩ := l2; exact ⟨_, _, _, e⟩
  have hch : Ch S0 w ((w.alloc (Obj.cells #[.int .u64 L, .slice A1 n1 c1] 25)).alloc (Obj.cells #[.int .u64 M, .slice A2 n2 c2] 25)) := ((Ch.refl _ _).alloc _).alloc _
  have T := Lib.hid (bslist_true _ _ _ _ (l1.keep hch) (l2.keep hch) (by omega))
  have HC := Lib.hid hch
  clear l1 l2 hch
  go_enter Try.func20, Try.ntmps20
  go_wp2_with (go_at_call 45; refine T.out.mono ?_; rintro e w2 ⟨rfl, hC2⟩; have HC2 := Lib.hid hC2; clear hC2)
  go_ret
  exact ⟨rfl, HC.out.trans HC2.out⟩

set_option maxHeartbeats 400000 in
theorem fits_yes (l n cap : Nat) (A : Option Addr) (w : World) (h : n ≤ 2147483647) :
    Calls Try.prog 13 #[.agg #[.int .u64 l, .slice A n cap]] w fun e w' => e = .returned (.bool true) ∧ Ch S0 w w' := by
  go_enter Try.func13, Try.ntmps13
  go_wp2
  go_ret
  exact ⟨rfl, (Ch.refl _ _).alloc _⟩

set_option maxHeartbeats 400000 in
theorem fits_no (l n cap : Nat) (A : Option Addr) (w : World) (h : 2147483648 ≤ n) (h2 : n ≤ 9223372036854775807) :
    Calls Try.prog 13 #[.agg #[.int .u64 l, .slice A n cap]] w fun e w' => e = .returned (.bool false) ∧ Ch S0 w w' := by
  go_enter Try.func13, Try.ntmps13
  go_wp2
  go_ret
  exact ⟨rfl, (Ch.refl _ _).alloc _⟩

theorem IsB.cast {base : Nat} {w : World} {v : Value} {L L' : Nat} {g g' : Nat → Bool} (h : IsB base w v L g) (hL : L = L') (hg : ∀ k, g k = g' k) : IsB base w v L' g' := by
  obtain rfl : g = g' := funext hg
  subst hL
  exact h

theorem bstest_true {base : Nat} (v : Value) (L : Nat) (g : Nat → Bool) (w : World) (h : IsB base w v L g) (i : Nat) (x : Int) (hx : x = i) (hg : g i = true) :
    Calls Try.prog 17 #[v, .int .u64 x] w fun e w' => e = .returned (.bool true) ∧ Ch S0 w w' := by
  have := bstest_any v L g w h i x hx
  rwa [hg] at this

end Go.Proofs.Ytgnhmgnpmbmjcaa
