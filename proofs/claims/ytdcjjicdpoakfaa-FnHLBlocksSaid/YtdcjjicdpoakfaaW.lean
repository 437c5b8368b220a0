/- WALKS: rotate. -/
import Derived.Test.YtdcjjicdpoakfaaM
import Derived.Test.YtdcjjicdpoakfaaQ
import Derived.Lib.Hide
import Derived.Deep.QuietTactic
import Derived.BigQuiet
namespace Go.Proofs.Ytdcjjicdpoakfaa
open Go.RowKit
set_option linter.unusedVariables false
set_option linter.unusedSimpArgs false

def rX (S : Int) (rx ry : Nat) (X Y : Int) : Int := if ry = 0 then (if rx = 1 then wrap32 (S - 1 - Y) else Y) else X
def rY (S : Int) (rx ry : Nat) (X Y : Int) : Int := if ry = 0 then (if rx = 1 then wrap32 (S - 1 - X) else X) else Y

set_option maxRecDepth 100000 in
theorem rotate_any (bx bz : Nat) (S X Y : Int) (rx ry : Nat) (w : World) (hne : bx ≠ bz) (hX : Blk w bx #[.int .i32 X]) (hY : Blk w bz #[.int .i32 Y]) (hrx : rx ≤ 1) (hry : ry ≤ 1) (hS : 1 ≤ S) (hS2 : S ≤ 1073741824) :
    Calls Try.prog 8 #[.int .i32 S, .int .i32 rx, .int .i32 ry, .pointer (some ⟨bx, 0, none⟩), .pointer (some ⟨bz, 0, none⟩)] w fun e w' => e = .returned (.tuple #[]) ∧ Blk w' bx #[.int .i32 (rX S rx ry X Y)] ∧ Blk w' bz #[.int .i32 (rY S rx ry X Y)] ∧ Ch (S2 bx bz) w w' := by
  have hne' := Ne.symm hne
  have c0 := hX.cell 0
  have d0 := hY.cell 0
  have f0 := hX.free 0
  have g0 := hY.free 0
  simp only [List.getElem?_toArray, List.getElem?_cons_zero] at c0 d0
  have HX := Lib.hid hX
  have HY := Lib.hid hY
  clear hX hY
  go_enter Try.func8, Try.ntmps8
  by_cases h1 : ry = 0
  · subst h1
    by_cases h2 : rx = 1
    · subst h2
      go_wp2_with fail
      go_end0
      refine ⟨rfl, ?_, ?_, (((((Ch.refl _ _).setCell _ (fun _ => Or.inl rfl) _).setCell _ (fun _ => Or.inr rfl) _).setCell _ (fun _ => Or.inl rfl) _).setCell _ (fun _ => Or.inr rfl) _)⟩
      · have := (((HX.out.set 0 (.int .i32 (wrap32 (S - 1 - X)))).setOther (p := ⟨bz, 0, none⟩) hne' (.int .i32 (wrap32 (S - 1 - Y)))).set 0 (.int .i32 (wrap32 (S - 1 - Y)))).setOther (p := ⟨bz, 0, none⟩) hne' (.int .i32 (wrap32 (S - 1 - X)))
        simpa [rX] using this
      · have := (((HY.out.setOther (p := ⟨bx, 0, none⟩) hne (.int .i32 (wrap32 (S - 1 - X)))).set 0 (.int .i32 (wrap32 (S - 1 - Y)))).setOther (p := ⟨bx, 0, none⟩) hne (.int .i32 (wrap32 (S - 1 - Y)))).set 0 (.int .i32 (wrap32 (S - 1 - X)))
        simpa [rY] using this
    · obtain rfl : rx = 0 := by omega
      go_wp2_with fail
      go_end0
      refine ⟨rfl, ?_, ?_, (((Ch.refl _ _).setCell _ (fun _ => Or.inl rfl) _).setCell _ (fun _ => Or.inr rfl) _)⟩
      · have := (HX.out.set 0 (.int .i32 Y)).setOther (p := ⟨bz, 0, none⟩) hne' (.int .i32 X)
        simpa [rX] using this
      · have := (HY.out.setOther (p := ⟨bx, 0, none⟩) hne (.int .i32 Y)).set 0 (.int .i32 X)
        simpa [rY] using this
  · obtain rfl : ry = 1 := by omega
    go_wp2_with fail
    go_end0
    exact ⟨rfl, by simpa [rX] using HX.out, by simpa [rY] using HY.out, Ch.refl _ _⟩

theorem rX_nat (S q X Y : Nat) (hX : X < S) (hY : Y < S) (hS : S ≤ 1073741824) : rX (S : Int) (dx q) (dy q) (X : Int) (Y : Int) = (rotX S q X Y : Nat) ∧ rY (S : Int) (dx q) (dy q) (X : Int) (Y : Int) = (rotY S q X Y : Nat) := by
  unfold rX rY rotX rotY
  constructor
  · split
    · split
      · unfold wrap32; omega
      · rfl
    · rfl
  · split
    · split
      · unfold wrap32; omega
      · rfl
    · rfl
theorem xor_two (a b : Nat) : (a ^^^ b) % 2 = (a % 2 + b % 2) % 2 := by
  have h := Nat.testBit_xor a b 0
  rw [Nat.testBit_zero, Nat.testBit_zero, Nat.testBit_zero] at h
  have h1 : a % 2 = 0 ∨ a % 2 = 1 := by omega
  have h2 : b % 2 = 0 ∨ b % 2 = 1 := by omega
  have h3 : (a ^^^ b) % 2 = 0 ∨ (a ^^^ b) % 2 = 1 := by omega
  rcases h1 with h1 | h1 <;> rcases h2 with h2 | h2 <;> rcases h3 with h3 | h3 <;> simp [h1, h2, h3] at h ⊢
theorem dx_val (T : Nat) (hT : T < 4611686018427387904) : bits BinOp.and IntKind.i64 1 ((T : Int) / 2) = (dx (T % 4) : Nat) := by
  rw [show (T : Int) / 2 = ((T / 2 : Nat) : Int) from by omega, show (1 : Int) = ((1 : Nat) : Int) from rfl, i64_and_nat _ _ (by decide) (by omega), nat_mask1']
  unfold dx; omega
theorem dy_val (T : Nat) (hT : T < 4611686018427387904) : bits BinOp.and IntKind.i64 1 (bits BinOp.xor IntKind.i64 (T : Int) ((dx (T % 4) : Nat) : Int)) = (dy (T % 4) : Nat) := by
  have h1 := dx_lt (T % 4)
  have hx : T ^^^ dx (T % 4) < 2 ^ 63 := Nat.xor_lt_two_pow (by omega) (by omega)
  rw [i64_xor_nat _ _ (by omega) (by omega), show (1 : Int) = ((1 : Nat) : Int) from rfl, i64_and_nat _ _ (by decide) (by omega), nat_mask1', xor_two]
  unfold dy; omega
theorem pow_le30 {j : Nat} (h : j < 31) : 2 ^ j ≤ 1073741824 := show 2 ^ j ≤ 2 ^ 30 from Nat.pow_le_pow_right (by decide) (by omega)

set_option maxRecDepth 100000 in
set_option maxHeartbeats 1000000 in
theorem decode_any (h : Nat) (hh : h < 4611686018427387904) (w : World) :
    Calls Try.prog 6 #[.int .i64 h] w fun e w' => e = .returned (.tuple #[.int .i32 ((dec 31 h).1 : Nat), .int .i32 ((dec 31 h).2 : Nat)]) ∧ Ch S0 w w' := by
  have hb0 : Blk ((w.alloc (Obj.cells #[Value.int IntKind.i32 0] 21)).alloc (Obj.cells #[Value.int IntKind.i32 0] 21)) w.heap.size #[.int .i32 0] := (Blk.new _ _ _).alloc _
  have hb1 : Blk ((w.alloc (Obj.cells #[Value.int IntKind.i32 0] 21)).alloc (Obj.cells #[Value.int IntKind.i32 0] 21)) (w.heap.size + 1) #[.int .i32 0] := by
    have := Blk.new (w.alloc (Obj.cells #[Value.int IntKind.i32 0] 21)) #[.int .i32 0] 21
    simpa using this
  have HB0 := Lib.hid hb0
  have HB1 := Lib.hid hb1
  have HW : Hid (Ch S0 w ((w.alloc (Obj.cells #[Value.int IntKind.i32 0] 21)).alloc (Obj.cells #[Value.int IntKind.i32 0] 21))) := Lib.hid (((Ch.refl _ _).alloc _).alloc _)
  have HH := Lib.hid hh
  clear hb0 hb1 hh
  go_enter Try.func6, Try.ntmps6
  go_wp2_with fail
  go_loopw [8, 9] (fun v8 v9 wr => ∃ j T S : Nat, j ≤ 31 ∧ Hid (T = h / 4 ^ j) ∧ Hid (S = 2 ^ j) ∧ T ≤ h ∧ v8 = .int .i64 T ∧ v9 = .int .i64 S ∧ Blk wr w.heap.size #[.int .i32 ((dec j h).1 : Nat)] ∧ Blk wr (w.heap.size + 1) #[.int .i32 ((dec j h).2 : Nat)] ∧ Ch S0 w wr) (fun _ v _ => 2147483648 - (intOf v).toNat)
  case atStart => exact ⟨0, h, 1, by omega, Lib.hid (by simp), Lib.hid rfl, Nat.le_refl _, rfl, rfl, HB0.out, HB1.out, HW.out⟩
  case round =>
    clear HB0 HB1 HW
    obtain ⟨j, T, S, hj, HT, HSj, hTh, rfl, rfl, hX, hY, hC⟩ := hrel
    by_cases hlt : j < 31
    · have hS30 : S ≤ 1073741824 := by rw [HSj.out]; exact pow_le30 hlt
      have hS1 : 1 ≤ S := by rw [HSj.out]; exact Nat.pow_pos (by decide)
      have hd := dec_lt j h
      rw [← HSj.out] at hd
      obtain ⟨X, hXe⟩ : ∃ X, (dec j h).1 = X := ⟨_, rfl⟩
      obtain ⟨Y, hYe⟩ : ∃ Y, (dec j h).2 = Y := ⟨_, rfl⟩
      rw [hXe] at hX hd
      rw [hYe] at hY hd
      obtain ⟨hX1, hY1⟩ := hd
      have v1 := dx_val T (Nat.lt_of_le_of_lt hTh HH.out)
      have v2 := dy_val T (Nat.lt_of_le_of_lt hTh HH.out)
      have r1 := dx_lt (T % 4)
      have r2 := dy_lt (T % 4)
      obtain ⟨n1, n2⟩ := rX_nat S (T % 4) X Y hX1 hY1 hS30
      obtain ⟨l1, l2⟩ := rot_lt (q := T % 4) hX1 hY1
      obtain ⟨rx, hrx⟩ : ∃ rx, dx (T % 4) = rx := ⟨_, rfl⟩
      obtain ⟨ry, hry⟩ : ∃ ry, dy (T % 4) = ry := ⟨_, rfl⟩
      obtain ⟨X1, hX1e⟩ : ∃ X1, rotX S (T % 4) X Y = X1 := ⟨_, rfl⟩
      obtain ⟨Y1, hY1e⟩ : ∃ Y1, rotY S (T % 4) X Y = Y1 := ⟨_, rfl⟩
      rw [hrx] at v1 v2 r1 n1 n2
      rw [hry] at v2 r2 n1 n2
      rw [hX1e] at n1 l1
      rw [hY1e] at n2 l2
      obtain ⟨P, hP⟩ : ∃ P, S * rx = P := ⟨_, rfl⟩
      obtain ⟨Q, hQ⟩ : ∃ Q, S * ry = Q := ⟨_, rfl⟩
      have hP1 : P ≤ S := by rw [← hP]; have := Nat.mul_le_mul_left S r1; omega
      have hQ1 : Q ≤ S := by rw [← hQ]; have := Nat.mul_le_mul_left S r2; omega
      have p1 : (S : Int) * (rx : Int) = (P : Int) := by rw [← hP, Int.natCast_mul]
      have p2 : (S : Int) * (ry : Int) = (Q : Int) := by rw [← hQ, Int.natCast_mul]
      have E : Hid (dec (j + 1) h = (X1 + P, Y1 + Q)) := Lib.hid (by simp only [dec]; rw [← HSj.out, ← HT.out, hXe, hYe, hrx, hry, hX1e, hY1e, hP, hQ])
      have N1 := Lib.hid n1
      have N2 := Lib.hid n2
      have HX := Lib.hid hX
      have HY := Lib.hid hY
      have HC := Lib.hid hC
      have hne : w.heap.size ≠ w.heap.size + 1 := by omega
      have hTi : (T : Int) < 4611686018427387904 := by have := HH.out; omega
      have hcd : decide ((S : Int) < 2147483648) = true := by simp; omega
      have hS30i : (S : Int) ≤ 1073741824 := by omega
      have HS30 := Lib.hid hS30
      clear hXe hYe hrx hry hX1e hY1e hP hQ n1 n2 hX hY hC hS30
      go_wp2_with fail
      refine (rotate_any w.heap.size (w.heap.size + 1) S X Y rx ry _ hne HX.out HY.out r1 r2 (by omega) (by omega)).mono ?_
      rintro e w1 ⟨rfl, hX2, hY2, hC2⟩
      rw [N1.out] at hX2
      rw [N2.out] at hY2
      have c0 := hX2.cell 0
      have d0 := hY2.cell 0
      have f0 := hX2.free 0
      have g0 := hY2.free 0
      simp only [List.getElem?_toArray, List.getElem?_cons_zero] at c0 d0
      have HX2 := Lib.hid hX2
      have HY2 := Lib.hid hY2
      have HC2 := Lib.hid hC2
      have hsz := HC.out.size
      clear hX2 hY2 hC2
      go_wp2_with fail
      go_roundw
      case rel => exact ⟨j + 1, T / 4, S * 2, by omega, Lib.hid (by rw [HT.out, Nat.div_div_eq_div_mul, Nat.pow_succ]), Lib.hid (by rw [HSj.out, Nat.pow_succ]), by omega, by go_num, by go_num, by
          rw [E.out]
          have := (HX2.out.set 0 (.int .i32 ((X1 + P : Nat) : Int))).setOther (p := ⟨w.heap.size + 1, 0, none⟩) hne.symm (.int .i32 ((Y1 + Q : Nat) : Int))
          simpa using this, by
          rw [E.out]
          have := (HY2.out.setOther (p := ⟨w.heap.size, 0, none⟩) hne (.int .i32 ((X1 + P : Nat) : Int))).set 0 (.int .i32 ((Y1 + Q : Nat) : Int))
          simpa using this, ((HC.out.trans' HC2.out (fun i hi e => by rcases e with e | e <;> omega)).setCell _ (fun hl => by simp at hl) _).setCell _ (fun hl => by simp at hl; omega) _⟩
      case measure => simp [intOf]; omega
    · obtain rfl : j = 31 := by omega
      have c0 := hX.cell 0
      have d0 := hY.cell 0
      have f0 := hX.free 0
      have g0 := hY.free 0
      simp only [List.getElem?_toArray, List.getElem?_cons_zero] at c0 d0
      have hS31 : S = 2147483648 := HSj.out.trans (by decide)
      have HC := Lib.hid hC
      clear hX hY hC
      go_wp2_with fail
      go_quiet (fail)
      go_wp2_with fail
      go_ret2
      exact ⟨rfl, HC.out.trans (drewN_ch _ _ _)⟩

theorem enc_rot (j t : Nat) (X Y : Int) (hj : j ≤ 30) (hX : X % ((2 ^ j : Nat) : Int) = (rotX (2 ^ j) (t / 4 ^ j % 4) (dec j t).1 (dec j t).2 : Nat)) (hY : Y % ((2 ^ j : Nat) : Int) = (rotY (2 ^ j) (t / 4 ^ j % 4) (dec j t).1 (dec j t).2 : Nat)) :
    rX ((2 ^ j : Nat) : Int) (dx (t / 4 ^ j % 4)) (dy (t / 4 ^ j % 4)) X Y % ((2 ^ j : Nat) : Int) = ((dec j t).1 : Nat) ∧ rY ((2 ^ j : Nat) : Int) (dx (t / 4 ^ j % 4)) (dy (t / 4 ^ j % 4)) X Y % ((2 ^ j : Nat) : Int) = ((dec j t).2 : Nat) := by
  obtain ⟨h1, h2⟩ := dec_lt j t
  unfold rotX at hX
  unfold rotY at hY
  unfold rX rY
  by_cases e1 : dy (t / 4 ^ j % 4) = 0
  · by_cases e2 : dx (t / 4 ^ j % 4) = 1
    · rw [if_pos e1, if_pos e2] at hX hY
      rw [if_pos e1, if_pos e2, if_pos e1, if_pos e2, wrap32_mod _ _ (by omega), wrap32_mod _ _ (by omega)]
      exact ⟨enc_flip (by omega) (by omega) (by rw [hY]; omega), enc_flip (by omega) (by omega) (by rw [hX]; omega)⟩
    · rw [if_pos e1, if_neg e2] at hX hY
      rw [if_pos e1, if_neg e2, if_pos e1, if_neg e2]
      exact ⟨hY, hX⟩
  · rw [if_neg e1] at hX hY
    rw [if_neg e1, if_neg e1]
    exact ⟨hX, hY⟩
theorem xor_q (q : Nat) (hq : q < 4) : bits BinOp.xor IntKind.i32 (3 * ((dx q : Nat) : Int)) ((dy q : Nat) : Int) = (q : Int) := by
  match q, hq with
  | 0, _ => decide
  | 1, _ => decide
  | 2, _ => decide
  | 3, _ => decide
theorem sq_le (S A : Nat) (h : S * S = A) (hS : S ≤ 1073741824) : (A : Int) ≤ 1152921504606846976 := by
  have := Nat.mul_le_mul hS hS
  omega
theorem sum_lt (D B E t : Nat) (h : D + B = E) (hE : E ≤ t) (ht : t < 4611686018427387904) : (B : Int) ≤ 4611686018427387903 ∧ (D : Int) ≤ 4611686018427387903 := by omega
theorem bool_any (b : Bool) (w : World) : Calls Try.prog 9 #[.bool b] w fun e w' => e = .returned (.int .i32 (b.toNat : Nat)) ∧ w = w' := by
  go_enter Try.func9, Try.ntmps9
  cases b
  · go_wp2
    go_ret
    exact ⟨rfl, rfl⟩
  · go_wp2
    go_ret
    exact ⟨rfl, rfl⟩

set_option maxRecDepth 100000 in
set_option maxHeartbeats 1000000 in
theorem encode_any (t : Nat) (ht : t < 4611686018427387904) (w : World) :
    Calls Try.prog 7 #[.int .i32 ((dec 31 t).1 : Nat), .int .i32 ((dec 31 t).2 : Nat)] w fun e w' => e = .returned (.int .i64 t) ∧ Ch S0 w w' := by
  obtain ⟨d1, d2⟩ := dec_lt 31 t
  obtain ⟨x, hx⟩ : ∃ x, (dec 31 t).1 = x := ⟨_, rfl⟩
  obtain ⟨y, hy⟩ : ∃ y, (dec 31 t).2 = y := ⟨_, rfl⟩
  rw [hx] at d1
  rw [hy] at d2
  have m1 : Hid ((x : Int) % ((2 ^ 31 : Nat) : Int) = ((dec 31 t).1 : Nat)) := Lib.hid (by rw [hx]; omega)
  have m2 : Hid ((y : Int) % ((2 ^ 31 : Nat) : Int) = ((dec 31 t).2 : Nat)) := Lib.hid (by rw [hy]; omega)
  rw [hx, hy]
  have hb0 : Blk ((w.alloc (Obj.cells #[Value.int IntKind.i32 x] 21)).alloc (Obj.cells #[Value.int IntKind.i32 y] 21)) w.heap.size #[.int .i32 x] := (Blk.new _ _ _).alloc _
  have hb1 : Blk ((w.alloc (Obj.cells #[Value.int IntKind.i32 x] 21)).alloc (Obj.cells #[Value.int IntKind.i32 y] 21)) (w.heap.size + 1) #[.int .i32 y] := by
    have := Blk.new (w.alloc (Obj.cells #[Value.int IntKind.i32 x] 21)) #[.int .i32 y] 21
    simpa using this
  have HB0 := Lib.hid hb0
  have HB1 := Lib.hid hb1
  have HW : Hid (Ch S0 w ((w.alloc (Obj.cells #[Value.int IntKind.i32 x] 21)).alloc (Obj.cells #[Value.int IntKind.i32 y] 21))) := Lib.hid (((Ch.refl _ _).alloc _).alloc _)
  have HH := Lib.hid ht
  clear hb0 hb1 ht hx hy d1 d2
  go_enter Try.func7, Try.ntmps7
  go_wp2_with fail
  go_loopw [7, 8] (fun v7 v8 wr => ∃ (i S D : Nat) (X Y : Int), i ≤ 31 ∧ Hid (S = if i = 0 then 0 else 2 ^ (i - 1)) ∧ Hid (D = 4 ^ i * (t / 4 ^ i)) ∧ v7 = .int .i64 D ∧ v8 = .int .i32 S ∧ Hid (X % ((2 ^ i : Nat) : Int) = ((dec i t).1 : Nat)) ∧ Hid (Y % ((2 ^ i : Nat) : Int) = ((dec i t).2 : Nat)) ∧ Blk wr w.heap.size #[.int .i32 X] ∧ Blk wr (w.heap.size + 1) #[.int .i32 Y] ∧ Ch S0 w wr) (fun _ v _ => (intOf v).toNat)
  case atStart => exact ⟨31, 1073741824, 0, x, y, by omega, Lib.hid (by decide), Lib.hid (by have := HH.out; rw [Nat.div_eq_of_lt (by omega)]), rfl, rfl, m1, m2, HB0.out, HB1.out, HW.out⟩
  case round =>
    clear HB0 HB1 HW m1 m2
    obtain ⟨i, S, D, X, Y, hi, HSi, HD, rfl, rfl, MX, MY, hX, hY, hC⟩ := hrel
    by_cases hlt : 0 < i
    · obtain ⟨j, rfl⟩ : ∃ j, i = j + 1 := ⟨i - 1, by omega⟩
      have hSj : S = 2 ^ j := by have := HSi.out; rw [if_neg (by omega), Nat.add_sub_cancel] at this; exact this
      have hS30 : S ≤ 1073741824 := by rw [hSj]; exact pow_le30 (by omega)
      have hS1 : 1 ≤ S := by rw [hSj]; exact Nat.pow_pos (by decide)
      have hm := dec_mod j t X Y (by have := MX.out; rw [show ((2 : Int) ^ (j + 1)) = ((2 ^ (j + 1) : Nat) : Int) from (Int.natCast_pow 2 _).symm]; exact this) (by have := MY.out; rw [show ((2 : Int) ^ (j + 1)) = ((2 ^ (j + 1) : Nat) : Int) from (Int.natCast_pow 2 _).symm]; exact this)
      rw [show ((2 : Int) ^ j) = ((2 ^ j : Nat) : Int) from (Int.natCast_pow 2 _).symm] at hm
      obtain ⟨b1, b2, b3, b4⟩ := hm
      have hr := enc_rot j t X Y (by omega) b3 b4
      have w1 := i32_bit X j (by omega)
      have w2 := i32_bit Y j (by omega)
      rw [b1] at w1
      rw [b2] at w2
      have hq : t / 4 ^ j % 4 < 4 := Nat.mod_lt _ (by decide)
      have hxq := xor_q _ hq
      have hns := num_step j t
      obtain ⟨q, hqe⟩ : ∃ q, t / 4 ^ j % 4 = q := ⟨_, rfl⟩
      rw [hqe] at hr w1 w2 hq hxq hns
      have r1 := dx_lt q
      have r2 := dy_lt q
      obtain ⟨rx, hrx⟩ : ∃ rx, dx q = rx := ⟨_, rfl⟩
      obtain ⟨ry, hry⟩ : ∃ ry, dy q = ry := ⟨_, rfl⟩
      rw [hrx] at hr w1 hxq r1
      rw [hry] at hr w2 hxq r2
      rw [← hSj] at hr w1 w2
      obtain ⟨A, hA⟩ : ∃ A, S * S = A := ⟨_, rfl⟩
      have hA4 : A = 4 ^ j := by rw [← hA, hSj, ← Nat.mul_pow]
      obtain ⟨B, hB⟩ : ∃ B, A * q = B := ⟨_, rfl⟩
      have p1 : (S : Int) * (S : Int) = (A : Int) := by rw [← hA, Int.natCast_mul]
      have p2 : (A : Int) * (q : Int) = (B : Int) := by rw [← hB, Int.natCast_mul]
      have hDB : D + B = 4 ^ j * (t / 4 ^ j) := by rw [HD.out, ← hB, hA4]; exact hns
      have hle : 4 ^ j * (t / 4 ^ j) ≤ t := Nat.mul_div_le _ _
      have hAb := sq_le S A hA hS30
      obtain ⟨hBb, hDb⟩ := sum_lt D B _ t hDB hle HH.out
      have hS30i : (S : Int) ≤ 1073741824 := by omega
      obtain ⟨ux, hux⟩ : ∃ ux : Nat, ux = if rx = 1 then S else 0 := ⟨_, rfl⟩
      obtain ⟨uy, huy⟩ : ∃ uy : Nat, uy = if ry = 1 then S else 0 := ⟨_, rfl⟩
      have w1' : bits BinOp.and IntKind.i32 X (S : Int) = (ux : Int) := by rw [w1, hux]; split <;> split <;> omega
      have w2' : bits BinOp.and IntKind.i32 Y (S : Int) = (uy : Int) := by rw [w2, huy]; split <;> split <;> omega
      have q1 : decide ((0 : Int) < (ux : Int)) = (rx == 1) := by rw [hux, Bool.eq_iff_iff]; simp; split <;> omega
      have q2 : decide ((0 : Int) < (uy : Int)) = (ry == 1) := by rw [huy, Bool.eq_iff_iff]; simp; split <;> omega
      have q1n : decide (0 < ux) = (rx == 1) := by rw [hux, Bool.eq_iff_iff]; simp; split <;> omega
      have q2n : decide (0 < uy) = (ry == 1) := by rw [huy, Bool.eq_iff_iff]; simp; split <;> omega
      have HBB := Lib.hid hBb
      have HDD := Lib.hid hDb
      have HSJ := Lib.hid hSj
      have HDB := Lib.hid hDB
      have HR := Lib.hid hr
      have HX := Lib.hid hX
      have HY := Lib.hid hY
      have HC := Lib.hid hC
      have hne : w.heap.size ≠ w.heap.size + 1 := by omega
      have hcd : decide ((0 : Int) < (S : Int)) = true := by simp; omega
      have c0 := hX.cell 0
      have d0 := hY.cell 0
      have f0 := hX.free 0
      have g0 := hY.free 0
      simp only [List.getElem?_toArray, List.getElem?_cons_zero] at c0 d0
      clear hX hY hC hSj hS30 hr b1 b2 b3 b4 hns hqe hrx hry hA hA4 hB hDB hle HSi HD hux huy w1 w2 hBb hDb
      go_wp2_with fail
      refine (bool_any (rx == 1) _).mono ?_
      rintro e w1 ⟨rfl, rfl⟩
      have hb1 : (rx == 1).toNat = rx := by
        have : rx = 0 ∨ rx = 1 := by omega
        rcases this with rfl | rfl <;> rfl
      rw [hb1]
      go_wp2_with fail
      refine (bool_any (ry == 1) _).mono ?_
      rintro e w1 ⟨rfl, rfl⟩
      have hb2 : (ry == 1).toNat = ry := by
        have : ry = 0 ∨ ry = 1 := by omega
        rcases this with rfl | rfl <;> rfl
      rw [hb2]
      have hBb := HBB.out
      have hDb := HDD.out
      clear hb1 hb2
      go_wp2_with fail
      refine (rotate_any w.heap.size (w.heap.size + 1) S X Y rx ry _ hne HX.out HY.out r1 r2 (by omega) (by omega)).mono ?_
      rintro e w1 ⟨rfl, hX2, hY2, hC2⟩
      have HX2 := Lib.hid hX2
      have HY2 := Lib.hid hY2
      have HC2 := Lib.hid hC2
      have hsz := HC.out.size
      clear hX2 hY2 hC2 c0 d0 f0 g0
      go_wp2_with fail
      go_roundw
      case rel =>
        have hsj := HSJ.out
        have hr := HR.out
        rw [hsj] at hr
        refine ⟨j, S / 2, D + B, rX S rx ry X Y, rY S rx ry X Y, by omega, Lib.hid ?_, Lib.hid HDB.out, by go_num, by go_num, Lib.hid (by rw [hsj]; exact hr.1), Lib.hid (by rw [hsj]; exact hr.2), HX2.out, HY2.out, HC.out.trans' HC2.out (fun i hi e => by rcases e with e | e <;> omega)⟩
        by_cases h0 : j = 0
        · subst h0; rw [hsj]; rfl
        · rw [if_neg h0, hsj, show j = j - 1 + 1 from by omega, Nat.pow_succ, Nat.add_sub_cancel, Nat.mul_div_cancel _ (by decide)]
      case measure => simp [intOf]; omega
    · obtain rfl : i = 0 := by omega
      have hS0 : S = 0 := by have := HSi.out; simpa using this
      subst hS0
      have HC := Lib.hid hC
      clear hX hY hC
      go_wp2_with fail
      go_ret
      have := HD.out
      rw [Nat.pow_zero, Nat.one_mul, Nat.div_one] at this
      subst this
      exact ⟨rfl, HC.out⟩
end Go.Proofs.Ytdcjjicdpoakfaa
