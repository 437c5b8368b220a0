/- PLAIN MATHEMATICS OF WORDS AND BITS: no program in sight. -/
namespace Go.Proofs.YtdkhanfapgnjoaaDoor
set_option linter.unusedVariables false
set_option linter.unusedSimpArgs false
namespace Bit

/-- The number whose bit k is f k, for k < n. -/
def mk (f : Nat → Bool) : Nat → Nat
  | 0 => 0
  | n + 1 => 2 * mk (fun k => f (k + 1)) n + (f 0).toNat

theorem mk_test (n : Nat) : ∀ (f : Nat → Bool) (k : Nat), (mk f n).testBit k = (decide (k < n) && f k) := by
  induction n with
  | zero => intro f k; simp [mk]
  | succ n ih =>
    intro f k
    cases k with
    | zero => cases h : f 0 <;> simp [mk, h, Nat.testBit_zero] <;> omega
    | succ k =>
      have : (2 * mk (fun k => f (k + 1)) n + (f 0).toNat) / 2 = mk (fun k => f (k + 1)) n := by cases f 0 <;> simp <;> omega
      simp only [mk, Nat.testBit_succ, this, ih]
      simp

theorem mk_lt (n : Nat) (f : Nat → Bool) : mk f n < 2 ^ n := by
  apply Nat.lt_pow_two_of_testBit
  intro i hi
  rw [mk_test]
  simp; omega

/-- Word i of a set of places. -/
def wd (g : Nat → Bool) (i : Nat) : Nat := mk (fun k => g (64 * i + k)) 64

theorem wd_test (g : Nat → Bool) (i k : Nat) : (wd g i).testBit k = (decide (k < 64) && g (64 * i + k)) := mk_test _ _ _
theorem wd_lt (g : Nat → Bool) (i : Nat) : wd g i < 18446744073709551616 := mk_lt 64 _

theorem wd_eq {g : Nat → Bool} {i x : Nat} (hx : x < 18446744073709551616) (h : ∀ k, k < 64 → x.testBit k = g (64 * i + k)) : x = wd g i := by
  apply Nat.eq_of_testBit_eq
  intro k
  rw [wd_test]
  by_cases hk : k < 64
  · simp [hk, h k hk]
  · simp only [hk, decide_false, Bool.false_and]
    apply Nat.testBit_lt_two_pow
    exact Nat.lt_of_lt_of_le hx (Nat.pow_le_pow_right (n := 2) (i := 64) (by omega) (by omega))

theorem wd_congr {g h : Nat → Bool} {i : Nat} (e : ∀ k, k < 64 → g (64 * i + k) = h (64 * i + k)) : wd g i = wd h i :=
  wd_eq (wd_lt _ _) fun k hk => by rw [wd_test, ← e k hk]; simp [hk]

theorem wd_zero {g : Nat → Bool} {i : Nat} (h : ∀ k, k < 64 → g (64 * i + k) = false) : wd g i = 0 :=
  (wd_eq (g := g) (i := i) (x := 0) (by omega) fun k hk => by rw [h k hk]; simp).symm

theorem wd_or (g h : Nat → Bool) (i : Nat) : wd g i ||| wd h i = wd (fun k => g k || h k) i :=
  wd_eq (Nat.or_lt_two_pow (n := 64) (wd_lt _ _) (wd_lt _ _)) fun k hk => by simp [wd_test, hk]
theorem wd_and (g h : Nat → Bool) (i : Nat) : wd g i &&& wd h i = wd (fun k => g k && h k) i :=
  wd_eq (Nat.and_lt_two_pow (n := 64) _ (wd_lt _ _)) fun k hk => by simp [wd_test, hk]
theorem wd_xor (g h : Nat → Bool) (i : Nat) : wd g i ^^^ wd h i = wd (fun k => g k ^^ h k) i :=
  wd_eq (Nat.xor_lt_two_pow (n := 64) (wd_lt _ _) (wd_lt _ _)) fun k hk => by simp [wd_test, hk]

/-- All ones less x: x's complement in 64 bits. -/
theorem compl_test (x k : Nat) (hx : x < 18446744073709551616) : (18446744073709551615 - x).testBit k = (decide (k < 64) && !x.testBit k) := by
  have := Nat.testBit_two_pow_sub_succ (n := 64) (x := x) hx k
  rw [← this]; congr 1; omega

theorem wd_compl (g : Nat → Bool) (i : Nat) : 18446744073709551615 - wd g i = wd (fun k => !g k) i :=
  wd_eq (by omega) fun k hk => by rw [compl_test _ _ (wd_lt _ _), wd_test]; simp [hk]
theorem wd_andNot (g h : Nat → Bool) (i : Nat) : wd g i &&& (18446744073709551615 - wd h i) = wd (fun k => g k && !h k) i := by
  rw [wd_compl, wd_and]

/-- One bit. -/
theorem one_test (n k : Nat) : (2 ^ n).testBit k = decide (n = k) := by simp [Nat.testBit_two_pow]

/-- A place set, cleared, turned. -/
def put (g : Nat → Bool) (i : Nat) (v : Bool) : Nat → Bool := fun k => if k = i then v else g k

theorem two_pow_lt64 (n : Nat) (h : n < 64) : 2 ^ n < 18446744073709551616 :=
  Nat.lt_of_lt_of_le (Nat.pow_lt_pow_right (by omega) h) (by omega : (2:Nat) ^ 64 ≤ 18446744073709551616)

theorem wd_set (g : Nat → Bool) (i : Nat) : wd g (i / 64) ||| 2 ^ (i % 64) = wd (put g i true) (i / 64) :=
  wd_eq (Nat.or_lt_two_pow (n := 64) (wd_lt _ _) (two_pow_lt64 _ (by omega))) fun k hk => by
    rw [Nat.testBit_or, wd_test, one_test]
    by_cases e : i % 64 = k
    · have : 64 * (i / 64) + k = i := by omega
      simp [e, put, this]
    · have : ¬ 64 * (i / 64) + k = i := by omega
      simp [e, put, this, hk]
theorem wd_clear (g : Nat → Bool) (i : Nat) : wd g (i / 64) &&& (18446744073709551615 - 2 ^ (i % 64)) = wd (put g i false) (i / 64) :=
  wd_eq (Nat.and_lt_two_pow (n := 64) _ (Nat.lt_of_le_of_lt (Nat.sub_le _ _) (by decide))) fun k hk => by
    rw [Nat.testBit_and, wd_test, compl_test _ _ (two_pow_lt64 _ (by omega)), one_test]
    by_cases e : i % 64 = k
    · have : 64 * (i / 64) + k = i := by omega
      simp [e, put, this]
    · have : ¬ 64 * (i / 64) + k = i := by omega
      simp [e, put, this, hk]
theorem wd_flip (g : Nat → Bool) (i : Nat) : wd g (i / 64) ^^^ 2 ^ (i % 64) = wd (put g i (!g i)) (i / 64) :=
  wd_eq (Nat.xor_lt_two_pow (n := 64) (wd_lt _ _) (two_pow_lt64 _ (by omega))) fun k hk => by
    rw [Nat.testBit_xor, wd_test, one_test]
    by_cases e : i % 64 = k
    · have : 64 * (i / 64) + k = i := by omega
      simp [e, put, this, hk]
    · have : ¬ 64 * (i / 64) + k = i := by omega
      simp [e, put, this, hk]
theorem wd_put_other (g : Nat → Bool) (i : Nat) (v : Bool) (j : Nat) (h : j ≠ i / 64) : wd (put g i v) j = wd g j :=
  wd_congr fun k hk => by have : ¬ 64 * j + k = i := by omega
                          simp [put, this]
theorem wd_and_one (g : Nat → Bool) (i : Nat) : wd g (i / 64) &&& 2 ^ (i % 64) = if g i then 2 ^ (i % 64) else 0 := by
  apply Nat.eq_of_testBit_eq
  intro k
  rw [Nat.testBit_and, wd_test, one_test]
  have h64 := Nat.mod_lt i (show 0 < 64 by omega)
  by_cases e : i % 64 = k
  · have : 64 * (i / 64) + k = i := by omega
    have hk : k < 64 := by omega
    cases hg : g i <;> simp [e, this, hg, hk]
  · cases hg : g i <;> simp [e]

end Bit
end Go.Proofs.YtdkhanfapgnjoaaDoor
