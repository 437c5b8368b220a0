/- PLAIN: how many bits of a range are set. -/
import Derived.Test.YtdkhanfapgnjoaaDoorP2
import Derived.Test.YtdkhanfapgnjoaaDoorP3
namespace Go.Proofs.YtdkhanfapgnjoaaDoor
set_option linter.unusedVariables false
set_option linter.unusedSimpArgs false
namespace Bit

theorem cnt_congr {f g : Nat → Bool} : ∀ n, (∀ k, k < n → f k = g k) → cnt f n = cnt g n := by
  intro n
  induction n with
  | zero => intro _; rfl
  | succ n ih => intro h; simp only [cnt, ih (fun k hk => h k (by omega)), h n (by omega)]
theorem cnt_add (f : Nat → Bool) (a : Nat) : ∀ n, cnt f (a + n) = cnt f a + cnt (fun k => f (a + k)) n := by
  intro n
  induction n with
  | zero => rfl
  | succ n ih => rw [← Nat.add_assoc]; simp only [cnt, ih]; omega
theorem cnt_mono (f : Nat → Bool) {a b : Nat} (h : a ≤ b) : cnt f a ≤ cnt f b := by
  obtain ⟨n, rfl⟩ := Nat.le.dest h
  rw [cnt_add]; omega
theorem cnt_le (f : Nat → Bool) : ∀ n, cnt f n ≤ n := by
  intro n
  induction n with
  | zero => exact Nat.le_refl _
  | succ n ih => simp only [cnt]; have : (f n).toNat ≤ 1 := by cases f n <;> simp
                 omega
theorem cnt_none {f : Nat → Bool} : ∀ n, (∀ k, k < n → f k = false) → cnt f n = 0 := by
  intro n
  induction n with
  | zero => intro _; rfl
  | succ n ih => intro h; simp only [cnt, ih (fun k hk => h k (by omega)), h n (by omega)]; rfl
theorem cnt_all {f : Nat → Bool} : ∀ n, (∀ k, k < n → f k = true) → cnt f n = n := by
  intro n
  induction n with
  | zero => intro _; rfl
  | succ n ih => intro h; simp only [cnt, ih (fun k hk => h k (by omega)), h n (by omega)]; rfl

/-- How many of the places from s on, below e. -/
def ones (g : Nat → Bool) (s e : Nat) : Nat := cnt g e - cnt g s

theorem ones_add (g : Nat → Bool) {a b c : Nat} (h1 : a ≤ b) (h2 : b ≤ c) : ones g a c = ones g a b + ones g b c := by
  have := cnt_mono g h1; have := cnt_mono g h2; unfold ones; omega
theorem ones_self (g : Nat → Bool) (a : Nat) : ones g a a = 0 := by unfold ones; omega
theorem ones_back (g : Nat → Bool) {a b : Nat} (h : b ≤ a) : ones g a b = 0 := by have := cnt_mono g h; unfold ones; omega
theorem ones_eq (g : Nat → Bool) (a n : Nat) : ones g a (a + n) = cnt (fun k => g (a + k)) n := by unfold ones; rw [cnt_add]; omega
theorem ones_congr {f g : Nat → Bool} {a b : Nat} (h : ∀ k, a ≤ k → k < b → f k = g k) : ones f a b = ones g a b := by
  by_cases hab : a ≤ b
  · obtain ⟨n, rfl⟩ := Nat.le.dest hab
    rw [ones_eq, ones_eq]; exact cnt_congr n fun k hk => h _ (by omega) (by omega)
  · rw [ones_back _ (by omega), ones_back _ (by omega)]
theorem ones_none {g : Nat → Bool} {a b : Nat} (h : ∀ k, a ≤ k → k < b → g k = false) : ones g a b = 0 := by
  by_cases hab : a ≤ b
  · obtain ⟨n, rfl⟩ := Nat.le.dest hab
    rw [ones_eq]; exact cnt_none n fun k hk => h _ (by omega) (by omega)
  · rw [ones_back _ (by omega)]
theorem ones_all {g : Nat → Bool} {a b : Nat} (h : ∀ k, a ≤ k → k < b → g k = true) : ones g a b = b - a := by
  by_cases hab : a ≤ b
  · obtain ⟨n, rfl⟩ := Nat.le.dest hab
    rw [ones_eq, cnt_all n fun k hk => h _ (by omega) (by omega)]; omega
  · rw [ones_back _ (by omega)]; omega
/-- Beyond the length nothing is counted. -/
theorem ones_clamp {g : Nat → Bool} {L : Nat} (h : ∀ k, L ≤ k → g k = false) (a b : Nat) (hb : L ≤ b) : ones g a b = ones g a L := by
  by_cases hab : a ≤ L
  · rw [ones_add g hab hb, ones_none (a := L) (fun k hk _ => h k hk)]; omega
  · rw [ones_back g (show L ≤ a by omega)]; exact ones_none fun k hk _ => h k (by omega)

/-- The bits of a word. -/
def pc (x : Nat) : Nat := cnt x.testBit 64

theorem pc_wd (g : Nat → Bool) (i : Nat) : pc (wd g i) = ones g (64 * i) (64 * i + 64) := by
  rw [ones_eq]; exact cnt_congr 64 fun k hk => by rw [wd_test]; simp [hk]
theorem pc_le (x : Nat) : pc x ≤ 64 := cnt_le _ _
theorem pc_and (g : Nat → Bool) (i s e : Nat) (h1 : 64 * i ≤ s) (h2 : s ≤ e) (h3 : e ≤ 64 * i + 64) : pc (wd (fun k => g k && (decide (s ≤ k) && decide (k < e))) i) = ones g s e := by
  rw [pc_wd, ones_add _ h1 (by omega : s ≤ 64 * i + 64), ones_add _ h2 h3]
  rw [ones_none (a := 64 * i) (b := s) (fun k _ hk => by have : ¬ s ≤ k := by omega
                                                         simp [this])]
  rw [ones_none (a := e) (b := 64 * i + 64) (fun k hk _ => by have : ¬ k < e := by omega
                                                              simp [this])]
  rw [ones_congr (g := g) (a := s) (b := e) (fun k q1 q2 => by simp [q1, q2])]
  omega

theorem mk_self {x : Nat} (h : x < 18446744073709551616) : mk x.testBit 64 = x := by
  apply Nat.eq_of_testBit_eq
  intro k
  rw [mk_test]
  by_cases hk : k < 64
  · simp [hk]
  · have : x < 2 ^ k := Nat.lt_of_lt_of_le (show x < 2 ^ 64 from h) (Nat.pow_le_pow_right (by decide) (by omega))
    simp [hk, Nat.testBit_lt_two_pow this]

theorem pop_pc {x a b c d e f : Nat} (hx : x < 18446744073709551616) (h : Pop x a b c d e f) :
    f % 128 = pc x ∧ a < 18446744073709551616 ∧ b < 18446744073709551616 ∧ b / 16 + b < 18446744073709551616 ∧ d < 18446744073709551616 ∧ e < 18446744073709551616 ∧ f < 18446744073709551616 := by
  have e1 : x = dig 2 (bitsOf x.testBit 64) := by rw [← mk_dig, mk_self hx]
  rw [e1] at h
  have := pop_sum _ (by simp [bitsOf]) (fun d hd => by simp [bitsOf] at hd; obtain ⟨k, _, rfl⟩ := hd; cases x.testBit k <;> simp) h
  rw [bits_sum] at this
  exact this
end Bit
end Go.Proofs.YtdkhanfapgnjoaaDoor
