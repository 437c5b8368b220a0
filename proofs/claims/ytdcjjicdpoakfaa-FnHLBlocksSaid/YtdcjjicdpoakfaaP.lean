/- PLAIN: the Hilbert curve, digit by digit. -/
namespace Go.Proofs.Ytdcjjicdpoakfaa
set_option linter.unusedVariables false
set_option linter.unusedSimpArgs false

/-- The digits' two signs. -/
def dx (q : Nat) : Nat := q / 2 % 2
def dy (q : Nat) : Nat := (q % 2 + dx q) % 2
def rotX (s q x y : Nat) : Nat := if dy q = 0 then (if dx q = 1 then s - 1 - y else y) else x
def rotY (s q x y : Nat) : Nat := if dy q = 0 then (if dx q = 1 then s - 1 - x else x) else y
/-- The place of the last j digits of t. -/
def dec : Nat → Nat → Nat × Nat
  | 0, _ => (0, 0)
  | j + 1, t => (rotX (2 ^ j) (t / 4 ^ j % 4) (dec j t).1 (dec j t).2 + 2 ^ j * dx (t / 4 ^ j % 4), rotY (2 ^ j) (t / 4 ^ j % 4) (dec j t).1 (dec j t).2 + 2 ^ j * dy (t / 4 ^ j % 4))

theorem dx_lt (q : Nat) : dx q ≤ 1 := by unfold dx; omega
theorem dy_lt (q : Nat) : dy q ≤ 1 := by unfold dy; omega
theorem rot_lt {s q x y : Nat} (hx : x < s) (hy : y < s) : rotX s q x y < s ∧ rotY s q x y < s := by
  unfold rotX rotY; split
  · split <;> omega
  · omega
theorem dec_lt : ∀ j t, (dec j t).1 < 2 ^ j ∧ (dec j t).2 < 2 ^ j
  | 0, t => by simp [dec]
  | j + 1, t => by
    obtain ⟨h1, h2⟩ := dec_lt j t
    obtain ⟨k1, k2⟩ := rot_lt (q := t / 4 ^ j % 4) h1 h2
    have e1 := dx_lt (t / 4 ^ j % 4)
    have e2 := dy_lt (t / 4 ^ j % 4)
    have a1 : 2 ^ j * dx (t / 4 ^ j % 4) ≤ 2 ^ j * 1 := Nat.mul_le_mul_left _ e1
    have a2 : 2 ^ j * dy (t / 4 ^ j % 4) ≤ 2 ^ j * 1 := Nat.mul_le_mul_left _ e2
    have e : 2 ^ (j + 1) = 2 ^ j + 2 ^ j := by rw [Nat.pow_succ]; omega
    simp only [dec]
    rw [e]
    constructor <;> omega

theorem sub_div {a b x : Nat} (hb : 0 < b) (hx : x < a * b) : (a * b - 1 - x) / b = a - 1 - x / b := by
  have h1 : x / b < a := Nat.div_lt_of_lt_mul (by rw [Nat.mul_comm]; exact hx)
  have h2 : b * (x / b) + x % b = x := Nat.div_add_mod x b
  have h3 : x % b < b := Nat.mod_lt _ hb
  obtain ⟨c, hc⟩ : ∃ c, a = x / b + 1 + c := ⟨a - (x / b + 1), by omega⟩
  have h4 : a * b = b * (x / b) + b + c * b := by rw [hc, Nat.add_mul, Nat.add_mul, Nat.one_mul, Nat.mul_comm (x / b)]
  apply Nat.div_eq_of_lt_le
  · rw [show a - 1 - x / b = c from by omega]; omega
  · rw [show a - 1 - x / b + 1 = c + 1 from by omega, Nat.add_mul, Nat.one_mul]; omega

/-- What lies above the last s digits says where the square of the last s digits lies. -/
theorem dec_high (s : Nat) : ∀ i t u, t / 4 ^ s = u / 4 ^ s → (dec (s + i) t).1 / 2 ^ s = (dec (s + i) u).1 / 2 ^ s ∧ (dec (s + i) t).2 / 2 ^ s = (dec (s + i) u).2 / 2 ^ s
  | 0, t, u, h => by
    obtain ⟨a1, a2⟩ := dec_lt s t
    obtain ⟨b1, b2⟩ := dec_lt s u
    simp only [Nat.add_zero]
    rw [Nat.div_eq_of_lt a1, Nat.div_eq_of_lt a2, Nat.div_eq_of_lt b1, Nat.div_eq_of_lt b2]
    exact ⟨rfl, rfl⟩
  | i + 1, t, u, h => by
    obtain ⟨h1, h2⟩ := dec_high s i t u h
    obtain ⟨a1, a2⟩ := dec_lt (s + i) t
    obtain ⟨b1, b2⟩ := dec_lt (s + i) u
    have hq : t / 4 ^ (s + i) % 4 = u / 4 ^ (s + i) % 4 := by
      rw [Nat.pow_add, ← Nat.div_div_eq_div_mul, ← Nat.div_div_eq_div_mul, h]
    have hp : 2 ^ (s + i) = 2 ^ i * 2 ^ s := by rw [Nat.pow_add, Nat.mul_comm]
    have hb : 0 < 2 ^ s := Nat.pow_pos (by decide)
    have key : ∀ x d, (x + 2 ^ (s + i) * d) / 2 ^ s = x / 2 ^ s + 2 ^ i * d := fun x d => by
      rw [hp, Nat.mul_right_comm, Nat.add_mul_div_right _ _ hb]
    rw [← Nat.add_assoc]
    simp only [dec]
    rw [hq, key, key, key, key]
    generalize u / 4 ^ (s + i) % 4 = q
    rw [hp] at a1 a2 b1 b2
    unfold rotX rotY
    rw [hp]
    constructor
    · split
      · split
        · rw [sub_div hb a2, sub_div hb b2, h2]
        · rw [h2]
      · rw [h1]
    · split
      · split
        · rw [sub_div hb a1, sub_div hb b1, h1]
        · rw [h1]
      · rw [h2]

/-- A digit of its two signs. -/
theorem digit (q : Nat) (hq : q < 4) : (dx q = 0 ∧ dy q = 0 ∧ q = 0) ∨ (dx q = 0 ∧ dy q = 1 ∧ q = 1) ∨ (dx q = 1 ∧ dy q = 1 ∧ q = 2) ∨ (dx q = 1 ∧ dy q = 0 ∧ q = 3) := by
  match q, hq with
  | 0, _ => left; decide
  | 1, _ => right; left; decide
  | 2, _ => right; right; left; decide
  | 3, _ => right; right; right; decide

theorem mod_of {S X r : Int} (k : Int) (h0 : 0 ≤ r) (h1 : r < S) (e : X = r + S * k) : X % S = r := by
  rw [e, Int.add_mul_emod_self_left, Int.emod_eq_of_lt h0 h1]
theorem of_mod {S X r : Int} (h : X % S = r) : ∃ k, X = r + S * k := ⟨X / S, by have := Int.emod_add_mul_ediv X S; rw [h] at this; exact this.symm⟩

/-- A step of Encode: what is known of X and Y, modulo twice S. -/
theorem enc_bit {S X r d : Int} (h0 : 0 ≤ r) (h1 : r < S) (hd : d = 0 ∨ d = 1) (h : X % (2 * S) = r + S * d) : X / S % 2 = d ∧ X % S = r := by
  obtain ⟨k, hk⟩ := of_mod h
  have e : X = r + S * (d + 2 * k) := by rw [hk, Int.mul_add, ← Int.mul_assoc S 2 k, Int.mul_comm S 2]; omega
  have hS : S ≠ 0 := by omega
  refine ⟨?_, mod_of _ h0 h1 e⟩
  rw [e, Int.add_mul_ediv_left _ _ hS, Int.ediv_eq_zero_of_lt h0 h1]
  omega
theorem enc_flip {S Y x : Int} (h0 : 0 ≤ x) (h1 : x < S) (h : Y % S = S - 1 - x) : (S - 1 - Y) % S = x := by
  obtain ⟨k, hk⟩ := of_mod h
  refine mod_of (-k) h0 h1 ?_
  rw [hk, Int.mul_neg]; omega
theorem mod_add {S v c : Int} : (v + S * c) % S = v % S := Int.add_mul_emod_self_left _ _ _

theorem dec_mod (j t : Nat) (X Y : Int) (hX : X % 2 ^ (j + 1) = ((dec (j + 1) t).1 : Nat)) (hY : Y % 2 ^ (j + 1) = ((dec (j + 1) t).2 : Nat)) :
    X / 2 ^ j % 2 = (dx (t / 4 ^ j % 4) : Nat) ∧ Y / 2 ^ j % 2 = (dy (t / 4 ^ j % 4) : Nat) ∧
    X % 2 ^ j = (rotX (2 ^ j) (t / 4 ^ j % 4) (dec j t).1 (dec j t).2 : Nat) ∧ Y % 2 ^ j = (rotY (2 ^ j) (t / 4 ^ j % 4) (dec j t).1 (dec j t).2 : Nat) := by
  obtain ⟨h1, h2⟩ := dec_lt j t
  obtain ⟨k1, k2⟩ := rot_lt (q := t / 4 ^ j % 4) h1 h2
  have hp : ((2 : Int) ^ j) = ((2 ^ j : Nat) : Int) := (Int.natCast_pow 2 j).symm
  have hp2 : ((2 : Int) ^ (j + 1)) = 2 * ((2 ^ j : Nat) : Int) := by rw [Int.pow_succ, hp]; omega
  have e1 := dx_lt (t / 4 ^ j % 4)
  have e2 := dy_lt (t / 4 ^ j % 4)
  simp only [dec] at hX hY
  rw [hp2] at hX hY
  rw [hp]
  have a := enc_bit (S := ((2 ^ j : Nat) : Int)) (X := X) (r := (rotX (2 ^ j) (t / 4 ^ j % 4) (dec j t).1 (dec j t).2 : Nat)) (d := (dx (t / 4 ^ j % 4) : Nat)) (by omega) (by omega) (by omega) (by rw [hX, Int.natCast_add, Int.natCast_mul])
  have b := enc_bit (S := ((2 ^ j : Nat) : Int)) (X := Y) (r := (rotY (2 ^ j) (t / 4 ^ j % 4) (dec j t).1 (dec j t).2 : Nat)) (d := (dy (t / 4 ^ j % 4) : Nat)) (by omega) (by omega) (by omega) (by rw [hY, Int.natCast_add, Int.natCast_mul])
  exact ⟨a.1, b.1, a.2, b.2⟩
theorem num_step (j t : Nat) : 4 ^ (j + 1) * (t / 4 ^ (j + 1)) + 4 ^ j * (t / 4 ^ j % 4) = 4 ^ j * (t / 4 ^ j) := by
  rw [Nat.pow_succ, Nat.mul_assoc, ← Nat.mul_add, ← Nat.div_div_eq_div_mul]
  congr 1
  omega
end Go.Proofs.Ytdcjjicdpoakfaa
