/- PLAIN: whole numbers as floats: their order and back again. -/
import Derived.Laws.FloatArith
namespace Go.Proofs.Ytbfcnimebdoagaa
set_option linter.unusedVariables false

/-- A datum is the whole number n. -/
def IsN (d : Ieee.Datum) (n : Int) : Prop := ∃ (neg : Bool) (mag e : Nat), d = .number neg mag (-(e : Int)) ∧ mag = n.natAbs * 2 ^ e ∧ neg = decide (n < 0)
theorem sgn_of (n : Int) (u : Nat) : Ieee.signed (decide (n < 0)) (n.natAbs) u = n * 2 ^ u := by
  unfold Ieee.signed
  by_cases h : n < 0
  · simp only [h, decide_true, if_true, Nat.shiftLeft_eq]
    have : (n.natAbs : Int) = -n := by omega
    rw [Int.natCast_mul, this, Int.natCast_pow]; simp [Int.neg_mul]
  · simp only [h, decide_false, Bool.false_eq_true, if_false, Nat.shiftLeft_eq]
    have : (n.natAbs : Int) = n := by omega
    rw [Int.natCast_mul, this, Int.natCast_pow]; rfl
theorem sgn_mul (n : Int) (e u : Nat) : Ieee.signed (decide (n < 0)) (n.natAbs * 2 ^ e) u = n * 2 ^ (e + u) := by
  rw [← sgn_of n (e + u)]
  unfold Ieee.signed
  rw [Nat.shiftLeft_eq, Nat.shiftLeft_eq, Nat.pow_add, Nat.mul_assoc]
theorem IsN.order {d d' : Ieee.Datum} {n m : Int} (h : IsN d n) (h' : IsN d' m) : d.order d' = some (compare n m) := by
  obtain ⟨s, g, e, rfl, hg, hs⟩ := h
  obtain ⟨t, k, f, rfl, hk, ht⟩ := h'
  subst hs ht
  simp only [Ieee.Datum.order]
  have e1 : ((-(e : Int)) - min (-(e : Int)) (-(f : Int))).toNat + e = max e f := by omega
  have e2 : ((-(f : Int)) - min (-(e : Int)) (-(f : Int))).toNat + f = max e f := by omega
  rw [hg, hk, sgn_mul, sgn_mul, Nat.add_comm e, Nat.add_comm f, e1, e2]
  have hp : (0 : Int) < 2 ^ max e f := Int.pow_pos (by omega)
  congr 1
  rcases Int.lt_trichotomy n m with h | h | h
  · rw [Int.compare_eq_lt.2 h, Int.compare_eq_lt.2 (Int.mul_lt_mul_of_pos_right h hp)]
  · subst h; simp
  · rw [Int.compare_eq_gt.2 h, Int.compare_eq_gt.2 (Int.mul_lt_mul_of_pos_right h hp)]
theorem le_log2 (a e : Nat) (ha : a ≠ 0) : e ≤ (a * 2 ^ e).log2 := by
  have : a * 2 ^ e ≠ 0 := by have := Nat.two_pow_pos e; exact Nat.mul_ne_zero ha (by omega)
  rw [Nat.le_log2 this]
  exact Nat.le_mul_of_pos_left _ (Nat.pos_of_ne_zero ha)
theorem IsN.toInt {d : Ieee.Datum} {n : Int} (h : IsN d n) : d.toInt .zero = some n := by
  obtain ⟨s, g, e, rfl, hg, hs⟩ := h
  subst hs
  have e0 : (-(e : Int)).toNat = 0 := by omega
  have e1 : (-(-(e : Int))).toNat = e := by omega
  have hlow : (g <<< 0) / (1 <<< min e ((g <<< 0).log2 + 2)) = n.natAbs := by
    rw [Nat.shiftLeft_zero]
    by_cases h0 : n = 0
    · subst h0; simp at hg; subst hg; simp
    · have := le_log2 n.natAbs e (by omega)
      rw [← hg] at this
      rw [Nat.min_eq_left (by omega), Nat.one_shiftLeft, hg, Nat.mul_div_cancel _ (Nat.two_pow_pos e)]
  simp only [Ieee.Datum.toInt, Ieee.Datum.integral, Ieee.Toward.cut, e0, e1, hlow]
  simp only [Bool.toNat_false, Nat.add_zero]
  have := sgn_of n 0
  simp at this
  simpa using this
theorem log_le {a : Nat} (h0 : a ≠ 0) : 2 ^ a.log2 ≤ a ∧ a < 2 ^ (a.log2 + 1) := ⟨(Nat.le_log2 h0).1 (Nat.le_refl _), (Nat.log2_lt h0).1 (by omega)⟩
theorem fl_word (n : Int) (hn : n.natAbs < 2 ^ 53) (h0 : n ≠ 0) : ∃ L r, L ≤ 52 ∧ r < 2 ^ 52 ∧ 2 ^ 52 + r = n.natAbs * 2 ^ (52 - L) ∧ floatOfInt .f64 n = (if n < 0 then 2 ^ 63 else 0) + ((L + 1023) * 2 ^ 52 + r) := by
  have ha : n.natAbs ≠ 0 := by omega
  obtain ⟨l1, l2⟩ := log_le ha
  obtain ⟨L, hL⟩ : ∃ L, n.natAbs.log2 = L := ⟨_, rfl⟩
  rw [hL] at l1 l2
  have hL52 : L ≤ 52 := by
    rcases Nat.lt_or_ge 52 L with h | h
    · have := Nat.pow_le_pow_right (n := 2) (by omega) (show 53 ≤ L from h); omega
    · exact h
  have p1 : 2 ^ L * 2 ^ (52 - L) = 2 ^ 52 := by rw [← Nat.pow_add]; congr 1; omega
  have p2 : 2 ^ (L + 1) * 2 ^ (52 - L) = 2 ^ 53 := by rw [← Nat.pow_add]; congr 1; omega
  have hp := Nat.two_pow_pos (52 - L)
  have k1 : 2 ^ 52 ≤ n.natAbs * 2 ^ (52 - L) := by rw [← p1]; exact Nat.mul_le_mul_right _ l1
  have k2 : n.natAbs * 2 ^ (52 - L) < 2 ^ 53 := by rw [← p2]; exact Nat.mul_lt_mul_of_pos_right l2 hp
  refine ⟨L, n.natAbs * 2 ^ (52 - L) - 2 ^ 52, hL52, by omega, by omega, ?_⟩
  show Ieee.double.nearest (decide (n < 0)) n.natAbs 0 = _
  unfold Ieee.Format.nearest
  rw [if_neg ha, hL]
  have lp : Ieee.double.leastPlace = -1074 := by decide
  have fb : Ieee.double.fractionBits = 52 := rfl
  have bi : Ieee.double.binade = 2 ^ 52 := rfl
  have ir : Ieee.double.infRung = 2047 * 2 ^ 52 := by decide
  have sw : Ieee.double.signWeight = 2 ^ 63 := rfl
  have hm : max ((0 : Int) + (L : Nat) - (52 : Nat)) (-1074) = (L : Int) - 52 := by omega
  simp only [fb, lp, hm]
  have e1 : ((0 : Int) - ((L : Int) - 52)).toNat = 52 - L := by omega
  have e2 : ((L : Int) - 52 - 0).toNat = 0 := by omega
  have e3 : ((L : Int) - 52 - -1074).toNat = L + 1022 := by omega
  rw [e1, e2, e3]
  have hc : ∀ x, Ieee.Toward.even.cut (decide (n < 0)) x 0 = x := by
    intro x
    simp [Ieee.Toward.cut, Nat.mod_one]
  rw [hc, Nat.shiftLeft_eq, bi, ir]
  have hmin : min ((L + 1022) * 2 ^ 52 + n.natAbs * 2 ^ (52 - L)) (2047 * 2 ^ 52) = (L + 1023) * 2 ^ 52 + (n.natAbs * 2 ^ (52 - L) - 2 ^ 52) := by
    clear hm e1 e2 e3 hc p1 p2 hp sw ir bi fb lp hn l1 l2 hL ha h0
    have k3 : n.natAbs * 2 ^ (52 - L) < 2 * 2 ^ 52 := k2
    revert k1 k3
    generalize n.natAbs * 2 ^ (52 - L) = X
    clear k2
    generalize (2 : Nat) ^ 52 = B
    intro k1 k3
    have a1 : (L + 1023) * B = (L + 1022) * B + B := by rw [show L + 1023 = (L + 1022) + 1 from rfl, Nat.succ_mul]
    have a2 : (L + 1022) * B ≤ 1074 * B := Nat.mul_le_mul_right _ (by omega)
    omega
  rw [hmin]
  unfold Ieee.Format.word
  rw [sw]
  by_cases h : n < 0 <;> simp [h]
theorem zmul (k : Nat) : 0 = (0 : Int).natAbs * k := (Nat.zero_mul k).symm
theorem fl_isN (n : Int) (hn : n.natAbs < 2 ^ 53) : IsN (FloatKind.f64.format.read (floatOfInt .f64 n)) n := by
  by_cases h0 : n = 0
  · subst h0
    exact ⟨false, 0, 1074, by kernel_rfl, zmul _, rfl⟩
  · obtain ⟨L, r, hL, hr, he, hw⟩ := fl_word n hn h0
    rw [hw]
    refine ⟨decide (n < 0), 2 ^ 52 + r, 52 - L, ?_, he, rfl⟩
    show Ieee.double.read _ = _
    have lp : Ieee.double.leastPlace = -1074 := by decide
    have bi : Ieee.double.binade = 2 ^ 52 := rfl
    have ir : Ieee.double.infRung = 2047 * 2 ^ 52 := by decide
    have sw : Ieee.double.signWeight = 2 ^ 63 := rfl
    have m1 : ((if n < 0 then 2 ^ 63 else 0) + ((L + 1023) * 2 ^ 52 + r)) % 2 ^ 63 = (L + 1023) * 2 ^ 52 + r := by split <;> omega
    have m2 : ((if n < 0 then 2 ^ 63 else 0) + ((L + 1023) * 2 ^ 52 + r)) / 2 ^ 63 % 2 = if n < 0 then 1 else 0 := by split <;> omega
    unfold Ieee.Format.read
    rw [sw, bi, ir, lp, m1, m2]
    have d1 : ((L + 1023) * 2 ^ 52 + r) % 2 ^ 52 = r := by omega
    have d2 : ((L + 1023) * 2 ^ 52 + r) / 2 ^ 52 = L + 1023 := by omega
    have hneg : ((if n < 0 then 1 else 0 : Nat) == 1) = decide (n < 0) := by by_cases h : n < 0 <;> simp [h]
    simp only [hneg, d1, d2]
    have g1 : ¬ ((L + 1023) * 2 ^ 52 + r < 2 ^ 52) := by omega
    have g2 : (L + 1023) * 2 ^ 52 + r < 2047 * 2 ^ 52 := by omega
    have g3 : (-1074 : Int) + ((L + 1023 - 1 : Nat) : Int) = -((52 - L : Nat) : Int) := by omega
    rw [if_neg g1, if_pos g2, g3]
theorem fl_order (a b : Int) (ha : a.natAbs < 2 ^ 53) (hb : b.natAbs < 2 ^ 53) : FloatKind.f64.format.order (floatOfInt .f64 a) (floatOfInt .f64 b) = some (compare a b) := (fl_isN a ha).order (fl_isN b hb)
theorem fl_lt (a b : Int) (ha : a.natAbs < 2 ^ 53) (hb : b.natAbs < 2 ^ 53) : (FloatKind.f64.format.order (floatOfInt .f64 a) (floatOfInt .f64 b) == some .lt) = decide (a < b) := by
  rw [fl_order a b ha hb, Bool.eq_iff_iff]
  simp [Int.compare_eq_lt]
theorem fl_eq (a b : Int) (ha : a.natAbs < 2 ^ 53) (hb : b.natAbs < 2 ^ 53) : (FloatKind.f64.format.order (floatOfInt .f64 a) (floatOfInt .f64 b) == some .eq) = decide (a = b) := by
  rw [fl_order a b ha hb, Bool.eq_iff_iff]
  simp
theorem fl_gt (a b : Int) (ha : a.natAbs < 2 ^ 53) (hb : b.natAbs < 2 ^ 53) : (FloatKind.f64.format.order (floatOfInt .f64 a) (floatOfInt .f64 b) == some .gt) = decide (b < a) := by
  rw [fl_order a b ha hb, Bool.eq_iff_iff]
  simp [Int.compare_eq_gt]
theorem fl_le (a b : Int) (ha : a.natAbs < 2 ^ 53) (hb : b.natAbs < 2 ^ 53) : (FloatKind.f64.format.order (floatOfInt .f64 a) (floatOfInt .f64 b) == some .lt || FloatKind.f64.format.order (floatOfInt .f64 a) (floatOfInt .f64 b) == some .eq) = decide (a ≤ b) := by
  rw [fl_lt a b ha hb, fl_eq a b ha hb, Bool.eq_iff_iff]
  simp; omega
theorem fl_back (n : Int) (hn : n.natAbs < 2 ^ 53) : floatToIntVal .f64 (floatOfInt .f64 n) .i64 = some n := by
  unfold floatToIntVal FloatKind.decode
  rw [(fl_isN n hn).toInt]
  simp only
  rw [if_pos]
  constructor
  · show -9223372036854775808 ≤ n; omega
  · show n ≤ 9223372036854775807; omega
end Go.Proofs.Ytbfcnimebdoagaa
