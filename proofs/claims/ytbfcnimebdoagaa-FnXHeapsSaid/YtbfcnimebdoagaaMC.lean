/- WALKS: the search among two runs of a row. -/
import Derived.Test.YtbfcnimebdoagaaMB
import Derived.Deep.RegionHeld3
namespace Go.Proofs.Ytbfcnimebdoagaa
open Go.RowKit
set_option linter.unusedVariables false
set_option linter.unusedSimpArgs false

theorem cell_keep {w w' : World} {p : Addr} {v : Value} (hc : Ch S0 w w') (h : w.cell? p = some v) : w'.cell? p = some v := by
  rw [World.cell?_of_block (w := w) (hc.block _ (World.block_lt_of_cell? w _ h) (fun h => h))]
  exact h

theorem wrap_nat {t : Nat} (h : t < 9223372036854775808) : IntKind.i64.wrap (t : Int) = (t : Int) := by
  unfold IntKind.wrap
  simp [IntKind.min, IntKind.max, IntKind.bits, IntKind.signed]
  omega
set_option maxRecDepth 100000 in
set_option maxHeartbeats 4000000 in
theorem symBS_any (base g n cap lo hi tot : Nat) (f : Nat → El) (w : World) (h : RW w base g n cap f) (h1 : lo ≤ hi) (h2 : hi ≤ n) (h3 : tot < n + lo) (h4 : hi ≤ tot + 1) (hn : n ≤ 1000000)
    (hA : ∀ x y, lo ≤ x → x ≤ y → y < hi → (f x).1 ≤ (f y).1) (hB : ∀ x y, lo ≤ x → x ≤ y → y < hi → (f (tot - y)).1 ≤ (f (tot - x)).1) :
    Calls Try.prog 60 #[.slice (some ⟨g, 0, none⟩) n cap, .int .i64 lo, .int .i64 hi, .int .i64 tot] w fun r w' => (∃ s : Nat, r = .returned (.int .i64 s) ∧ Found f lo hi tot s) ∧ Ch S0 w w' := by
  have HH := Lib.hid h
  have HA := Lib.hid hA
  have HB := Lib.hid hB
  clear h hA hB
  have hmeth : ∀ (x y : Int) (w : World), (method 71 74 (.agg #[.int .i64 x, .int .i64 y]) "Compare").run Try.prog w = .ok (95, .agg #[.int .i64 x, .int .i64 y]) w := fun _ _ _ => by kernel_rfl
  have hnil : ∀ (x y : Int) (w : World), (nilAhead 71 74 (.agg #[.int .i64 x, .int .i64 y]) "Compare").run Try.prog w = .ok (some false) w := fun _ _ _ => by kernel_rfl
  go_enter Try.func60, Try.ntmps60
  go_wp2_with fail
  go_loopw [1, 2] (fun va vb wr => ∃ (a b : Nat), va = .int .i64 a ∧ vb = .int .i64 b ∧ lo ≤ a ∧ a ≤ b ∧ b ≤ hi ∧ (∀ x, lo ≤ x → x < a → (f x).1 ≤ (f (tot - x)).1) ∧ (∀ x, b ≤ x → x < hi → (f (tot - x)).1 < (f x).1) ∧ Ch S0 w wr) (fun va vb _ => (intOf vb).toNat - (intOf va).toNat)
  case atStart => exact ⟨lo, hi, rfl, rfl, Nat.le_refl _, h1, Nat.le_refl _, fun x h1 h2 => by omega, fun x h1 h2 => by omega, Ch.refl _ _⟩
  case round =>
    obtain ⟨a, b, rfl, rfl, ha, hab, hb, hl, hh, hC⟩ := hrel
    have HC := Lib.hid hC
    have HL := Lib.hid hl
    have HHi := Lib.hid hh
    clear hC hl hh
    by_cases hlt : a < b
    · have hlti : (a : Int) < (b : Nat) := by omega
      obtain ⟨m, hm⟩ : ∃ m, m = (a + b) / 2 := ⟨_, rfl⟩
      have hmi : ((a : Int) + (b : Int)) / 2 = (m : Nat) := by omega
      have hm1 : a ≤ m ∧ m < b := by omega
      obtain ⟨hm1, hm2⟩ := hm1
      obtain ⟨t, ht⟩ : ∃ t, t = tot - m := ⟨_, rfl⟩
      have hti : (tot : Int) - (m : Int) = (t : Nat) := by omega
      have htn : t < n := by omega
      have htot : (tot : Int) ≤ 2000000 := by omega
      have hwt : IntKind.i64.wrap (t : Int) = (t : Int) := wrap_nat (by omega)
      have HT := Lib.hid ht
      have q1 := (HH.out.keep HC.out (fun h => h)).cell (i := m) (by omega)
      have q2 := (HH.out.keep HC.out (fun h => h)).cell (i := t) htn
      obtain ⟨k1, t1, e1⟩ : ∃ k t, f m = (k, t) := ⟨(f m).1, (f m).2, rfl⟩
      obtain ⟨k2, t2, e2⟩ : ∃ k u, f t = (k, u) := ⟨(f t).1, (f t).2, rfl⟩
      rw [e1] at q1
      rw [e2] at q2
      have K1 : Hid ((f m).1 = k1) := Lib.hid (by rw [e1])
      have K2 : Hid ((f (tot - m)).1 = k2) := Lib.hid (by rw [← ht, e2])
      unfold en at q1 q2
      simp only at q1 q2
      have hm0 : (0 : Int) ≤ (m : Nat) := by omega
      have hmn : (m : Int) < (n : Nat) := by omega
      have ht0 : (0 : Int) ≤ (t : Nat) := by omega
      have htn' : (t : Int) < (n : Nat) := by omega
      clear e1 e2 ht hm
      by_cases hle : k1 ≤ k2
      · have hor : ord k1 k2 ≤ 0 := ord_le.2 hle
        have HLe := Lib.hid hle
        clear hle
        go_wp2_with fail
        go_region_held3 (fun w' => w'.cell? ⟨g, m, none⟩ = some (.iface 74 (.agg #[.int .i64 k1, .int .i64 t1])) ∧ w'.cell? ⟨g, t, none⟩ = some (.iface 74 (.agg #[.int .i64 k2, .int .i64 t2])))
          (first | ((try dsimp only); (repeat' apply And.intro) <;> assumption) | (go_keep; done))
          (first | (go_simp; change Calls Try.prog 95 #[.agg #[.int .i64 k1, .int .i64 t1], .iface 74 (.agg #[.int .i64 k2, .int .i64 t2])] _ _; refine (compare_any (k1, t1) (k2, t2) _).mono ?_; rintro r w6 ⟨rfl, hC6⟩; have hk := (Ch.refl S0 wr).drew.trans hC6; have p0 := cell_keep hk q1; have p1 := cell_keep hk q2; have HC6 := Lib.hid (HC.out.trans hk); clear hC6 hk))
        go_wp2_with fail
        go_roundw
        case rel =>
          refine ⟨m + 1, b, by go_num, rfl, by omega, by omega, hb, fun x x1 x2 => ?_, HHi.out, HC6.out⟩
          have := HA.out x m x1 (by omega) (by omega)
          have := HB.out x m x1 (by omega) (by omega)
          have := K1.out
          have := K2.out
          have := HLe.out
          omega
        case measure => simp [intOf]; omega
      · have hor : ¬ ord k1 k2 ≤ 0 := fun h => hle (ord_le.1 h)
        have hor2 : decide (ord k1 k2 ≤ 0) = false := by simpa using hor
        have HLe := Lib.hid hle
        clear hle
        go_wp2_with fail
        go_region_held3 (fun w' => w'.cell? ⟨g, m, none⟩ = some (.iface 74 (.agg #[.int .i64 k1, .int .i64 t1])) ∧ w'.cell? ⟨g, t, none⟩ = some (.iface 74 (.agg #[.int .i64 k2, .int .i64 t2])))
          (first | ((try dsimp only); (repeat' apply And.intro) <;> assumption) | (go_keep; done))
          (first | (go_simp; change Calls Try.prog 95 #[.agg #[.int .i64 k1, .int .i64 t1], .iface 74 (.agg #[.int .i64 k2, .int .i64 t2])] _ _; refine (compare_any (k1, t1) (k2, t2) _).mono ?_; rintro r w6 ⟨rfl, hC6⟩; have hk := (Ch.refl S0 wr).drew.trans hC6; have p0 := cell_keep hk q1; have p1 := cell_keep hk q2; have HC6 := Lib.hid (HC.out.trans hk); clear hC6 hk))
        go_wp2_with fail
        go_roundw
        case rel =>
          refine ⟨a, m, rfl, rfl, ha, by omega, by omega, HL.out, fun x x1 x2 => ?_, HC6.out⟩
          have := HA.out m x (by omega) x1 x2
          have := HB.out m x (by omega) x1 x2
          have := K1.out
          have := K2.out
          have := HLe.out
          omega
        case measure => simp [intOf]; omega
    · have hin : ¬ (a : Int) < (b : Nat) := by omega
      obtain rfl : a = b := by omega
      go_wp2_with fail
      go_ret
      exact ⟨⟨a, rfl, ⟨⟨ha, hb⟩, HL.out, HHi.out⟩⟩, HC.out⟩
end Go.Proofs.Ytbfcnimebdoagaa
