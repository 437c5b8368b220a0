/- PLAIN MATHEMATICS: how many bits a word has, as OnesCount64 counts them. -/
import Derived.Test.YtdkhanfapgnjoaaDoorP
namespace Go.Proofs.YtdkhanfapgnjoaaDoor
set_option linter.unusedVariables false
set_option linter.unusedSimpArgs false
namespace Bit
/-- How many k < n have f k. -/
def cnt (f : Nat → Bool) : Nat → Nat
  | 0 => 0
  | n + 1 => cnt f n + (f n).toNat

/-- Digits, least first, in base B. -/
def dig (B : Nat) : List Nat → Nat
  | [] => 0
  | d :: l => d + B * dig B l

theorem and_split (k a b p q : Nat) (ha : a < 2 ^ k) (hb : b < 2 ^ k) : (a + 2 ^ k * p) &&& (b + 2 ^ k * q) = (a &&& b) + 2 ^ k * (p &&& q) := by
  apply Nat.eq_of_testBit_eq
  intro i
  have e1 : ∀ x y, x < 2 ^ k → (x + 2 ^ k * y).testBit i = if i < k then x.testBit i else y.testBit (i - k) := by
    intro x y hx
    rw [Nat.add_comm]
    rw [Nat.testBit_two_pow_mul_add _ hx]
  rw [Nat.testBit_and, e1 a p ha, e1 b q hb, e1 _ _ (Nat.and_lt_two_pow _ hb), Nat.testBit_and, Nat.testBit_and]
  split <;> rfl

/-- One step: neighbours are added. -/
def pairs : List Nat → List Nat
  | a :: b :: l => (a + b) :: pairs l
  | [a] => [a]
  | [] => []
def evens : List Nat → List Nat
  | a :: _ :: l => a :: evens l
  | [a] => [a]
  | [] => []
def odds : List Nat → List Nat
  | _ :: b :: l => b :: odds l
  | _ => []

theorem two_induction {P : List Nat → Prop} (h0 : P []) (h2 : ∀ a b l, P l → P (a :: b :: l)) : ∀ n (l : List Nat), l.length = 2 * n → P l := by
  intro n
  induction n with
  | zero => intro l h; cases l <;> simp_all
  | succ n ih =>
    intro l h
    match l, h with
    | a :: b :: l, h => exact h2 a b l (ih l (by simp at h; omega))
    | [a], h => simp at h; omega
    | [], h => simp at h

/-- The mask of the even digits: n pairs. -/
def mask (k : Nat) : Nat → Nat
  | 0 => 0
  | n + 1 => (2 ^ k - 1) + 2 ^ k * (2 ^ k * mask k n)

theorem dig_mask (k : Nat) : ∀ n (l : List Nat), l.length = 2 * n → (∀ d ∈ l, d < 2 ^ k) → dig (2 ^ k) l &&& mask k n = dig (2 ^ k * 2 ^ k) (evens l) := by
  intro n
  induction n with
  | zero => intro l h _; cases l <;> simp_all [dig, mask, evens]
  | succ n ih =>
    intro l h hd
    match l, h with
    | [a], h => simp at h; omega
    | [], h => simp at h
    | a :: b :: l, h =>
      have hp : 0 < 2 ^ k := Nat.two_pow_pos k
      have ha := hd a (by simp)
      have hb := hd b (by simp)
      simp only [dig, mask, evens]
      rw [and_split k a (2 ^ k - 1) _ _ ha (by omega)]
      have e := and_split k b 0 (dig (2 ^ k) l) (mask k n) hb hp
      rw [Nat.zero_add] at e
      rw [e, ih l (by simp at h; omega) (fun d hd' => hd d (by simp [hd'])), Nat.and_two_pow_sub_one_eq_mod, Nat.mod_eq_of_lt ha]
      simp [Nat.mul_assoc]

theorem dig_shift (k : Nat) (l : List Nat) (hd : ∀ d ∈ l, d < 2 ^ k) : dig (2 ^ k) l / 2 ^ k = dig (2 ^ k) l.tail := by
  cases l with
  | nil => simp [dig]
  | cons a l =>
    have ha := hd a (by simp)
    simp only [dig, List.tail_cons]
    rw [Nat.add_mul_div_left _ _ (Nat.two_pow_pos k), Nat.div_eq_of_lt ha, Nat.zero_add]

theorem dig_mask_odd (k : Nat) : ∀ n (l : List Nat), l.length = 2 * n → (∀ d ∈ l, d < 2 ^ k) → (dig (2 ^ k) l / 2 ^ k) &&& mask k n = dig (2 ^ k * 2 ^ k) (odds l) := by
  intro n
  induction n with
  | zero => intro l h _; cases l <;> simp_all [dig, mask, odds]
  | succ n ih =>
    intro l h hd
    match l, h with
    | [a], h => simp at h; omega
    | [], h => simp at h
    | a :: b :: l, h =>
      have hp : 0 < 2 ^ k := Nat.two_pow_pos k
      have hb := hd b (by simp)
      rw [dig_shift k _ hd]
      simp only [dig, mask, odds, List.tail_cons]
      rw [and_split k b (2 ^ k - 1) _ _ hb (by omega)]
      have e0 : dig (2 ^ k) l = dig (2 ^ k) l % 2 ^ k + 2 ^ k * (dig (2 ^ k) l / 2 ^ k) := (Nat.mod_add_div _ _).symm
      have e := and_split k (dig (2 ^ k) l % 2 ^ k) 0 (dig (2 ^ k) l / 2 ^ k) (mask k n) (Nat.mod_lt _ hp) hp
      rw [Nat.zero_add, ← e0] at e
      rw [e, ih l (by simp at h; omega) (fun d hd' => hd d (by simp [hd'])), Nat.and_two_pow_sub_one_eq_mod, Nat.mod_eq_of_lt hb]
      simp [Nat.mul_assoc]

theorem dig_add (B : Nat) : ∀ n (l : List Nat), l.length = 2 * n → dig B (odds l) + dig B (evens l) = dig B (pairs l) := by
  intro n
  induction n with
  | zero => intro l h; cases l <;> simp_all [dig, odds, evens, pairs]
  | succ n ih =>
    intro l h
    match l, h with
    | [a], h => simp at h; omega
    | [], h => simp at h
    | a :: b :: l, h =>
      have := ih l (by simp at h; omega)
      simp only [dig, odds, evens, pairs]
      rw [← this, Nat.mul_add]
      omega

theorem pairs_len : ∀ n (l : List Nat), l.length = 2 * n → (pairs l).length = n := by
  intro n
  induction n with
  | zero => intro l h; cases l <;> simp_all [pairs]
  | succ n ih =>
    intro l h
    match l, h with
    | [a], h => simp at h; omega
    | [], h => simp at h
    | a :: b :: l, h => simp [pairs, ih l (by simp at h; omega)]

theorem pairs_le (B : Nat) : ∀ n (l : List Nat), l.length = 2 * n → (∀ d ∈ l, d ≤ B) → ∀ d ∈ pairs l, d ≤ 2 * B := by
  intro n
  induction n with
  | zero => intro l h _; cases l <;> simp_all [pairs]
  | succ n ih =>
    intro l h hd
    match l, h with
    | [a], h => simp at h; omega
    | [], h => simp at h
    | a :: b :: l, h =>
      intro d hd'
      simp only [pairs, List.mem_cons] at hd'
      rcases hd' with rfl | hd'
      · have := hd a (by simp); have := hd b (by simp); omega
      · exact ih l (by simp at h; omega) (fun d hd' => hd d (by simp [hd'])) d hd'

theorem pairs_sum : ∀ n (l : List Nat), l.length = 2 * n → (pairs l).sum = l.sum := by
  intro n
  induction n with
  | zero => intro l h; cases l <;> simp_all [pairs]
  | succ n ih =>
    intro l h
    match l, h with
    | [a], h => simp at h; omega
    | [], h => simp at h
    | a :: b :: l, h => simp [pairs, ih l (by simp at h; omega)]; omega

/-- Each digit and the next one. -/
def nexts : List Nat → List Nat
  | a :: b :: l => (a + b) :: nexts (b :: l)
  | [a] => [a]
  | [] => []
theorem dig_nexts (B : Nat) : ∀ l : List Nat, dig B l.tail + dig B l = dig B (nexts l)
  | [] => rfl
  | [a] => by simp [dig, nexts]
  | a :: b :: l => by
    have := dig_nexts B (b :: l)
    simp only [dig, nexts, List.tail_cons] at this ⊢
    rw [← this]
    simp only [Nat.mul_add]
    omega
theorem nexts_len : ∀ l : List Nat, (nexts l).length = l.length
  | [] => rfl
  | [a] => rfl
  | a :: b :: l => by simp [nexts, nexts_len (b :: l)]
theorem nexts_le (B : Nat) : ∀ l : List Nat, (∀ d ∈ l, d ≤ B) → ∀ d ∈ nexts l, d ≤ 2 * B
  | [], _ => by simp [nexts]
  | [a], h => by
    intro d hd
    simp only [nexts, List.mem_singleton] at hd
    have := h a (by simp)
    omega
  | a :: b :: l, h => by
    intro d hd
    simp only [nexts, List.mem_cons] at hd
    rcases hd with rfl | hd
    · have := h a (by simp); have := h b (by simp); omega
    · exact nexts_le B (b :: l) (fun d hd' => h d (List.mem_cons_of_mem _ hd')) d hd
theorem evens_nexts : ∀ n (l : List Nat), l.length = 2 * n → evens (nexts l) = pairs l := by
  intro n
  induction n with
  | zero => intro l h; cases l <;> simp_all [nexts, evens, pairs]
  | succ n ih =>
    intro l h
    match l, h with
    | [a], h => simp at h; omega
    | [], h => simp at h
    | [a, b], h => simp [nexts, evens, pairs]
    | [a, b, c], h => simp at h; omega
    | a :: b :: c :: d :: l, h =>
      have := ih (c :: d :: l) (by simp at h ⊢; omega)
      simp only [nexts, evens, pairs] at this ⊢
      rw [this]

/-- The bits of a word. -/
def bitsOf (f : Nat → Bool) (n : Nat) : List Nat := (List.range n).map fun k => (f k).toNat

theorem mk_dig (n : Nat) : ∀ f : Nat → Bool, mk f n = dig 2 (bitsOf f n) := by
  induction n with
  | zero => intro f; rfl
  | succ n ih =>
    intro f
    simp only [mk, ih, bitsOf, List.range_succ_eq_map, List.map_cons, dig, List.map_map, Function.comp_def, Nat.succ_eq_add_one]
    omega

theorem dig_lt (B : Nat) (hB : 0 < B) : ∀ l : List Nat, (∀ d ∈ l, d < B) → dig B l < B ^ l.length
  | [], _ => by simp [dig]
  | a :: l, h => by
    have h1 := dig_lt B hB l (fun d hd => h d (by simp [hd]))
    have h2 := h a (by simp)
    simp only [dig, List.length_cons, Nat.pow_succ]
    have h3 : dig B l + 1 ≤ B ^ l.length := h1
    have h4 := Nat.mul_le_mul_left B h3
    rw [Nat.mul_add, Nat.mul_one, Nat.mul_comm B (B ^ l.length)] at h4
    omega

theorem mask1 : mask 1 32 = 6148914691236517205 := by decide +kernel
theorem mask2 : mask 2 16 = 3689348814741910323 := by decide +kernel
theorem mask4 : mask 4 8 = 1085102592571150095 := by decide +kernel

theorem st (u v : Nat) (hu : u < 256) : (u + 256 * v) / 256 = v := by omega
theorem fold8 (e0 e1 e2 e3 e4 e5 e6 e7 : Nat) (h0 : e0 ≤ 8) (h1 : e1 ≤ 8) (h2 : e2 ≤ 8) (h3 : e3 ≤ 8) (h4 : e4 ≤ 8) (h5 : e5 ≤ 8) (h6 : e6 ≤ 8) (h7 : e7 ≤ 8) (x x4 x5 x6 : Nat)
    (hx : x = e0 + 256 * (e1 + 256 * (e2 + 256 * (e3 + 256 * (e4 + 256 * (e5 + 256 * (e6 + 256 * e7))))))) (hx4 : x4 = x + x / 256) (hx5 : x5 = x4 + x4 / 65536) (hx6 : x6 = x5 + x5 / 4294967296) :
    x6 % 128 = e0 + (e1 + (e2 + (e3 + (e4 + (e5 + (e6 + e7)))))) := by
  have q1 : x / 256 = e1 + 256 * (e2 + 256 * (e3 + 256 * (e4 + 256 * (e5 + 256 * (e6 + 256 * e7))))) := by rw [hx]; exact st _ _ (by omega)
  have p4 : x4 = (e0 + e1) + 256 * ((e1 + e2) + 256 * ((e2 + e3) + 256 * ((e3 + e4) + 256 * ((e4 + e5) + 256 * ((e5 + e6) + 256 * ((e6 + e7) + 256 * e7)))))) := by rw [hx4, q1, hx]; clear q1 hx hx4 hx5 hx6; omega
  have q2 : x4 / 65536 = (e2 + e3) + 256 * ((e3 + e4) + 256 * ((e4 + e5) + 256 * ((e5 + e6) + 256 * ((e6 + e7) + 256 * e7)))) := by
    rw [show 65536 = 256 * 256 from rfl, ← Nat.div_div_eq_div_mul, p4, st _ _ (by omega), st _ _ (by omega)]
  have p5 : x5 = (e0 + e1 + e2 + e3) + 256 * ((e1 + e2 + e3 + e4) + 256 * ((e2 + e3 + e4 + e5) + 256 * ((e3 + e4 + e5 + e6) + 256 * ((e4 + e5 + e6 + e7) + 256 * ((e5 + e6 + e7) + 256 * ((e6 + e7) + 256 * e7)))))) := by
    rw [hx5, q2, p4]; clear q1 q2 p4 hx hx4 hx5 hx6; omega
  have q3 : x5 / 4294967296 = (e4 + e5 + e6 + e7) + 256 * ((e5 + e6 + e7) + 256 * ((e6 + e7) + 256 * e7)) := by
    rw [show 4294967296 = 256 * 256 * 256 * 256 from rfl, ← Nat.div_div_eq_div_mul, ← Nat.div_div_eq_div_mul, ← Nat.div_div_eq_div_mul, p5, st _ _ (by omega), st _ _ (by omega), st _ _ (by omega), st _ _ (by omega)]
  rw [hx6, q3, p5]
  clear q1 q2 q3 p4 p5 hx hx4 hx5 hx6
  omega

theorem list8 {l : List Nat} (h : l.length = 8) : ∃ a b c d e f g i, l = [a, b, c, d, e, f, g, i] := by
  match l, h with
  | [a, b, c, d, e, f, g, i], _ => exact ⟨a, b, c, d, e, f, g, i, rfl⟩

/-- As OnesCount64 counts, step by step. -/
structure Pop (x a b c d e f : Nat) : Prop where
  ha : a = ((x / 2) &&& 6148914691236517205) + (x &&& 6148914691236517205)
  hb : b = ((a / 4) &&& 3689348814741910323) + (a &&& 3689348814741910323)
  hc : c = (b / 16 + b) &&& 1085102592571150095
  hd : d = c + c / 256
  he : e = d + d / 65536
  hf : f = e + e / 4294967296

theorem pop_sum (l : List Nat) (hl : l.length = 64) (h1 : ∀ d ∈ l, d ≤ 1) {a b c d e f : Nat} (h : Pop (dig 2 l) a b c d e f) :
    f % 128 = l.sum ∧ a < 18446744073709551616 ∧ b < 18446744073709551616 ∧ b / 16 + b < 18446744073709551616 ∧ d < 18446744073709551616 ∧ e < 18446744073709551616 ∧ f < 18446744073709551616 := by
  obtain ⟨ha, hb, hc, hd, he, hf⟩ := h
  have a1 := dig_mask 1 32 l (by omega) (fun d hd => by have := h1 d hd; omega)
  have a2 := dig_mask_odd 1 32 l (by omega) (fun d hd => by have := h1 d hd; omega)
  have a3 := dig_add 4 32 l (by omega)
  simp only [Nat.pow_one] at a1 a2
  rw [mask1] at a1 a2
  rw [a1, a2, a3] at ha
  have t1 := dig_lt 4 (by omega) (pairs l) (fun d hd => by have := pairs_le 1 32 l (by omega) h1 d hd; omega)
  rw [pairs_len 32 l (by omega), show (4 : Nat) ^ 32 = 18446744073709551616 from rfl, ← ha] at t1
  have l1 := pairs_len 32 l (by omega)
  have b1 := pairs_le 1 32 l (by omega) h1
  have s1 := pairs_sum 32 l (by omega)
  generalize hp1 : pairs l = p1 at *
  have a4 := dig_mask 2 16 p1 (by omega) (fun d hd => by have := b1 d hd; omega)
  have a5 := dig_mask_odd 2 16 p1 (by omega) (fun d hd => by have := b1 d hd; omega)
  have a6 := dig_add 16 16 p1 (by omega)
  rw [show (2 : Nat) ^ 2 = 4 from rfl, mask2] at a4 a5
  rw [show (4 : Nat) * 4 = 16 from rfl] at a4 a5
  rw [ha, a4, a5, a6] at hb
  have t2 := dig_lt 16 (by omega) (pairs p1) (fun d hd => by have := pairs_le 2 16 p1 (by omega) b1 d hd; omega)
  rw [pairs_len 16 p1 (by omega), show (16 : Nat) ^ 16 = 18446744073709551616 from rfl, ← hb] at t2
  have l2 := pairs_len 16 p1 (by omega)
  have b2 := pairs_le 2 16 p1 (by omega) b1
  have s2 := pairs_sum 16 p1 (by omega)
  generalize hp2 : pairs p1 = p2 at *
  have a7 := dig_shift 4 p2 (fun d hd => by have := b2 d hd; omega)
  rw [show (2 : Nat) ^ 4 = 16 from rfl] at a7
  have a8 := dig_nexts 16 p2
  have a9 := dig_mask 4 8 (nexts p2) (by rw [nexts_len]; omega) (fun d hd => by have := nexts_le 4 p2 b2 d hd; omega)
  rw [show (2 : Nat) ^ 4 = 16 from rfl, mask4, evens_nexts 8 p2 (by omega)] at a9
  have l3 := pairs_len 8 p2 (by omega)
  have b3 := pairs_le 4 8 p2 (by omega) b2
  have s3 := pairs_sum 8 p2 (by omega)
  have hsum : b / 16 + b = dig 16 (nexts p2) := by rw [hb, a7, a8]
  have t3 := dig_lt 16 (by omega) (nexts p2) (fun d hd => by have := nexts_le 4 p2 b2 d hd; omega)
  rw [nexts_len, l2, show (16 : Nat) ^ 16 = 18446744073709551616 from rfl, ← hsum] at t3
  rw [hsum, a9] at hc
  generalize hp3 : pairs p2 = p3 at *
  obtain ⟨e0, e1, e2, e3, e4, e5, e6, e7, rfl⟩ := list8 l3
  simp only [List.mem_cons, List.not_mem_nil, or_false, forall_eq_or_imp, forall_eq] at b3
  obtain ⟨q0, q1, q2, q3, q4, q5, q6, q7⟩ := b3
  have hc' : c = e0 + 256 * (e1 + 256 * (e2 + 256 * (e3 + 256 * (e4 + 256 * (e5 + 256 * (e6 + 256 * e7)))))) := by
    rw [hc]; simp [dig]
  have hfin := fold8 e0 e1 e2 e3 e4 e5 e6 e7 q0 q1 q2 q3 q4 q5 q6 q7 c d e f hc' hd he hf
  have hcl : c < 1152921504606846976 := by clear hfin hf he hd; omega
  clear hsum a1 a2 a3 a4 a5 a6 a7 a8 a9 hc' ha hb hc
  refine ⟨?_, t1, t2, t3, ?_, ?_, ?_⟩
  · rw [hfin, ← s1, ← s2, ← s3]
    simp
  · clear t1 t2 t3 hfin; omega
  · clear t1 t2 t3 hfin; omega
  · clear t1 t2 t3 hfin; omega

theorem bits_sum (f : Nat → Bool) : ∀ n, (bitsOf f n).sum = cnt f n := by
  intro n
  induction n with
  | zero => rfl
  | succ n ih => simp [bitsOf, List.range_succ, cnt] at ih ⊢; omega
end Bit
end Go.Proofs.YtdkhanfapgnjoaaDoor
