/- WALKS: sum128 of the hash, by the length of its tail. -/
import Derived.Test.YtagillnkdaanaaaH2
import Derived.Deep.Cut
namespace Go.Proofs.Ytagillnkdaanaaa
open Go.RowKit
set_option linter.unusedVariables false
set_option linter.unusedSimpArgs false

set_option maxRecDepth 100000 in
set_option maxHeartbeats 2000000 in
theorem s128_3_false (h1 h2 len : Int) (f : Nat → Int) : ∃ r1 r2 : Int, ∀ (w : World) (d : Nat) (A : Option Addr) (cap : Nat), Byts w A 3 f d → Blk w d #[.int .u64 h1, .int .u64 h2] →
    Calls Try.prog 51 #[.pointer (some ⟨d, 0, none⟩), .bool false, .int .u64 len, .slice A 3 cap] w fun e w' => e = .returned (.tuple #[.int .u64 r1, .int .u64 r2]) ∧ Ch S0 w w' := by
  apply Exists.intro
  apply Exists.intro
  intro w d A cap hD hB
  have d0 := hB.cell 0
  have d1 := hB.cell 1
  simp only [List.getElem?_toArray, List.getElem?_cons_zero, List.getElem?_cons_succ] at d0 d1
  have ea : bits BinOp.and IntKind.i64 3 15 = 3 := by decide
  obtain ⟨b, o, hbd, rfl, c0⟩ := hD 0 (by decide)
  have hbl := World.block_lt_of_cell? w _ c0
  have c1 := hD.at 0 3 o (by decide) (by omega) 1 (by decide)
  simp only [Nat.zero_add] at c1
  have c2 := hD.at 0 3 o (by decide) (by omega) 2 (by decide)
  simp only [Nat.zero_add] at c2
  rw [Nat.add_zero] at c0
  simp only at hbl
  clear hD hB
  go_enter Try.func51, Try.ntmps51
  go_wp2_with fail
  go_quiet (fail)
  focus
    go_upto_region 44 with fail
    repeat (first | (with_reducible refine then_normal ?_) | (with_reducible refine then_exit ?_) | (with_reducible refine inBlock_same ?_) | (with_reducible refine inBlock_other (by decide) ?_) | (with_reducible refine inBlock_normal ?_) | go_step)
    go_wp2_with (first
      | (go_at_call 55; refine (rot_any _ _ (by first | exact .inl rfl | exact .inr (.inl rfl) | exact .inr (.inr rfl)) _).mono ?_; rintro e w' ⟨rfl, rfl⟩)
      | (go_at_call 56; refine (fmix_any _ _).mono ?_; rintro e w' ⟨rfl, rfl⟩))
    go_ret2
    exact ⟨rfl, Ch.drewQ _ _⟩

set_option maxRecDepth 100000 in
set_option maxHeartbeats 2000000 in
theorem s128_7_false (h1 h2 len : Int) (f : Nat → Int) : ∃ r1 r2 : Int, ∀ (w : World) (d : Nat) (A : Option Addr) (cap : Nat), Byts w A 7 f d → Blk w d #[.int .u64 h1, .int .u64 h2] →
    Calls Try.prog 51 #[.pointer (some ⟨d, 0, none⟩), .bool false, .int .u64 len, .slice A 7 cap] w fun e w' => e = .returned (.tuple #[.int .u64 r1, .int .u64 r2]) ∧ Ch S0 w w' := by
  apply Exists.intro
  apply Exists.intro
  intro w d A cap hD hB
  have d0 := hB.cell 0
  have d1 := hB.cell 1
  simp only [List.getElem?_toArray, List.getElem?_cons_zero, List.getElem?_cons_succ] at d0 d1
  have ea : bits BinOp.and IntKind.i64 7 15 = 7 := by decide
  obtain ⟨b, o, hbd, rfl, c0⟩ := hD 0 (by decide)
  have hbl := World.block_lt_of_cell? w _ c0
  have c1 := hD.at 0 7 o (by decide) (by omega) 1 (by decide)
  simp only [Nat.zero_add] at c1
  have c2 := hD.at 0 7 o (by decide) (by omega) 2 (by decide)
  simp only [Nat.zero_add] at c2
  have c3 := hD.at 0 7 o (by decide) (by omega) 3 (by decide)
  simp only [Nat.zero_add] at c3
  have c4 := hD.at 0 7 o (by decide) (by omega) 4 (by decide)
  simp only [Nat.zero_add] at c4
  have c5 := hD.at 0 7 o (by decide) (by omega) 5 (by decide)
  simp only [Nat.zero_add] at c5
  have c6 := hD.at 0 7 o (by decide) (by omega) 6 (by decide)
  simp only [Nat.zero_add] at c6
  rw [Nat.add_zero] at c0
  simp only at hbl
  clear hD hB
  go_enter Try.func51, Try.ntmps51
  go_wp2_with fail
  go_quiet (fail)
  focus
    go_upto_region 44 with fail
    repeat (first | (with_reducible refine then_normal ?_) | (with_reducible refine then_exit ?_) | (with_reducible refine inBlock_same ?_) | (with_reducible refine inBlock_other (by decide) ?_) | (with_reducible refine inBlock_normal ?_) | go_step)
    go_wp2_with (first
      | (go_at_call 55; refine (rot_any _ _ (by first | exact .inl rfl | exact .inr (.inl rfl) | exact .inr (.inr rfl)) _).mono ?_; rintro e w' ⟨rfl, rfl⟩)
      | (go_at_call 56; refine (fmix_any _ _).mono ?_; rintro e w' ⟨rfl, rfl⟩))
    go_ret2
    exact ⟨rfl, Ch.drewQ _ _⟩

set_option maxRecDepth 100000 in
set_option maxHeartbeats 2000000 in
theorem s128_11_false (h1 h2 len : Int) (f : Nat → Int) : ∃ r1 r2 : Int, ∀ (w : World) (d : Nat) (A : Option Addr) (cap : Nat), Byts w A 11 f d → Blk w d #[.int .u64 h1, .int .u64 h2] →
    Calls Try.prog 51 #[.pointer (some ⟨d, 0, none⟩), .bool false, .int .u64 len, .slice A 11 cap] w fun e w' => e = .returned (.tuple #[.int .u64 r1, .int .u64 r2]) ∧ Ch S0 w w' := by
  apply Exists.intro
  apply Exists.intro
  intro w d A cap hD hB
  have d0 := hB.cell 0
  have d1 := hB.cell 1
  simp only [List.getElem?_toArray, List.getElem?_cons_zero, List.getElem?_cons_succ] at d0 d1
  have ea : bits BinOp.and IntKind.i64 11 15 = 11 := by decide
  obtain ⟨b, o, hbd, rfl, c0⟩ := hD 0 (by decide)
  have hbl := World.block_lt_of_cell? w _ c0
  have c1 := hD.at 0 11 o (by decide) (by omega) 1 (by decide)
  simp only [Nat.zero_add] at c1
  have c2 := hD.at 0 11 o (by decide) (by omega) 2 (by decide)
  simp only [Nat.zero_add] at c2
  have c3 := hD.at 0 11 o (by decide) (by omega) 3 (by decide)
  simp only [Nat.zero_add] at c3
  have c4 := hD.at 0 11 o (by decide) (by omega) 4 (by decide)
  simp only [Nat.zero_add] at c4
  have c5 := hD.at 0 11 o (by decide) (by omega) 5 (by decide)
  simp only [Nat.zero_add] at c5
  have c6 := hD.at 0 11 o (by decide) (by omega) 6 (by decide)
  simp only [Nat.zero_add] at c6
  have c7 := hD.at 0 11 o (by decide) (by omega) 7 (by decide)
  simp only [Nat.zero_add] at c7
  have c8 := hD.at 0 11 o (by decide) (by omega) 8 (by decide)
  simp only [Nat.zero_add] at c8
  have c9 := hD.at 0 11 o (by decide) (by omega) 9 (by decide)
  simp only [Nat.zero_add] at c9
  have c10 := hD.at 0 11 o (by decide) (by omega) 10 (by decide)
  simp only [Nat.zero_add] at c10
  rw [Nat.add_zero] at c0
  simp only at hbl
  clear hD hB
  go_enter Try.func51, Try.ntmps51
  go_wp2_with fail
  go_quiet (fail)
  focus
    go_upto_region 44 with fail
    repeat (first | (with_reducible refine then_normal ?_) | (with_reducible refine then_exit ?_) | (with_reducible refine inBlock_same ?_) | (with_reducible refine inBlock_other (by decide) ?_) | (with_reducible refine inBlock_normal ?_) | go_step)
    go_wp2_with (first
      | (go_at_call 55; refine (rot_any _ _ (by first | exact .inl rfl | exact .inr (.inl rfl) | exact .inr (.inr rfl)) _).mono ?_; rintro e w' ⟨rfl, rfl⟩)
      | (go_at_call 56; refine (fmix_any _ _).mono ?_; rintro e w' ⟨rfl, rfl⟩))
    go_ret2
    exact ⟨rfl, Ch.drewQ _ _⟩

set_option maxRecDepth 100000 in
set_option maxHeartbeats 2000000 in
theorem s128_15_false (h1 h2 len : Int) (f : Nat → Int) : ∃ r1 r2 : Int, ∀ (w : World) (d : Nat) (A : Option Addr) (cap : Nat), Byts w A 15 f d → Blk w d #[.int .u64 h1, .int .u64 h2] →
    Calls Try.prog 51 #[.pointer (some ⟨d, 0, none⟩), .bool false, .int .u64 len, .slice A 15 cap] w fun e w' => e = .returned (.tuple #[.int .u64 r1, .int .u64 r2]) ∧ Ch S0 w w' := by
  apply Exists.intro
  apply Exists.intro
  intro w d A cap hD hB
  have d0 := hB.cell 0
  have d1 := hB.cell 1
  simp only [List.getElem?_toArray, List.getElem?_cons_zero, List.getElem?_cons_succ] at d0 d1
  have ea : bits BinOp.and IntKind.i64 15 15 = 15 := by decide
  obtain ⟨b, o, hbd, rfl, c0⟩ := hD 0 (by decide)
  have hbl := World.block_lt_of_cell? w _ c0
  have c1 := hD.at 0 15 o (by decide) (by omega) 1 (by decide)
  simp only [Nat.zero_add] at c1
  have c2 := hD.at 0 15 o (by decide) (by omega) 2 (by decide)
  simp only [Nat.zero_add] at c2
  have c3 := hD.at 0 15 o (by decide) (by omega) 3 (by decide)
  simp only [Nat.zero_add] at c3
  have c4 := hD.at 0 15 o (by decide) (by omega) 4 (by decide)
  simp only [Nat.zero_add] at c4
  have c5 := hD.at 0 15 o (by decide) (by omega) 5 (by decide)
  simp only [Nat.zero_add] at c5
  have c6 := hD.at 0 15 o (by decide) (by omega) 6 (by decide)
  simp only [Nat.zero_add] at c6
  have c7 := hD.at 0 15 o (by decide) (by omega) 7 (by decide)
  simp only [Nat.zero_add] at c7
  have c8 := hD.at 0 15 o (by decide) (by omega) 8 (by decide)
  simp only [Nat.zero_add] at c8
  have c9 := hD.at 0 15 o (by decide) (by omega) 9 (by decide)
  simp only [Nat.zero_add] at c9
  have c10 := hD.at 0 15 o (by decide) (by omega) 10 (by decide)
  simp only [Nat.zero_add] at c10
  have c11 := hD.at 0 15 o (by decide) (by omega) 11 (by decide)
  simp only [Nat.zero_add] at c11
  have c12 := hD.at 0 15 o (by decide) (by omega) 12 (by decide)
  simp only [Nat.zero_add] at c12
  have c13 := hD.at 0 15 o (by decide) (by omega) 13 (by decide)
  simp only [Nat.zero_add] at c13
  have c14 := hD.at 0 15 o (by decide) (by omega) 14 (by decide)
  simp only [Nat.zero_add] at c14
  rw [Nat.add_zero] at c0
  simp only at hbl
  clear hD hB
  go_enter Try.func51, Try.ntmps51
  go_wp2_with fail
  go_quiet (fail)
  focus
    go_upto_region 44 with fail
    repeat (first | (with_reducible refine then_normal ?_) | (with_reducible refine then_exit ?_) | (with_reducible refine inBlock_same ?_) | (with_reducible refine inBlock_other (by decide) ?_) | (with_reducible refine inBlock_normal ?_) | go_step)
    go_wp2_with (first
      | (go_at_call 55; refine (rot_any _ _ (by first | exact .inl rfl | exact .inr (.inl rfl) | exact .inr (.inr rfl)) _).mono ?_; rintro e w' ⟨rfl, rfl⟩)
      | (go_at_call 56; refine (fmix_any _ _).mono ?_; rintro e w' ⟨rfl, rfl⟩))
    go_ret2
    exact ⟨rfl, Ch.drewQ _ _⟩

set_option maxRecDepth 100000 in
set_option maxHeartbeats 2000000 in
theorem s128_3_true (h1 h2 len : Int) (f : Nat → Int) : ∃ r1 r2 : Int, ∀ (w : World) (d : Nat) (A : Option Addr) (cap : Nat), Byts w A 3 f d → Blk w d #[.int .u64 h1, .int .u64 h2] →
    Calls Try.prog 51 #[.pointer (some ⟨d, 0, none⟩), .bool true, .int .u64 len, .slice A 3 cap] w fun e w' => e = .returned (.tuple #[.int .u64 r1, .int .u64 r2]) ∧ Ch S0 w w' := by
  obtain ⟨kk, ek⟩ : ∃ kk, bits BinOp.xor IntKind.u64 0 16777216 = kk := ⟨_, rfl⟩
  apply Exists.intro
  apply Exists.intro
  intro w d A cap hD hB
  have d0 := hB.cell 0
  have d1 := hB.cell 1
  simp only [List.getElem?_toArray, List.getElem?_cons_zero, List.getElem?_cons_succ] at d0 d1
  have ea : bits BinOp.and IntKind.i64 3 15 = 3 := by decide
  have ec : bits BinOp.and IntKind.i64 ((3 : Int) + 1) 15 = 4 := by decide
  have eb : bits BinOp.and IntKind.i64 4 15 = 4 := by decide
  obtain ⟨b, o, hbd, rfl, c0⟩ := hD 0 (by decide)
  have hbl := World.block_lt_of_cell? w _ c0
  have c1 := hD.at 0 3 o (by decide) (by omega) 1 (by decide)
  simp only [Nat.zero_add] at c1
  have c2 := hD.at 0 3 o (by decide) (by omega) 2 (by decide)
  simp only [Nat.zero_add] at c2
  rw [Nat.add_zero] at c0
  simp only at hbl
  clear hD hB
  go_enter Try.func51, Try.ntmps51
  go_wp2_with fail
  go_quiet (fail)
  focus
    go_upto_if 20 with fail
    go_cut [8, 9, 10, 11] from 21 (fun v8 v9 v10 v11 w' => v8 = .int .u64 h1 ∧ v9 = .int .u64 h2 ∧ v10 = .int .u64 kk ∧ v11 = .int .u64 0 ∧ w' = w.drewN nq)
    case first =>
      go_wp2_with (first
      | (go_at_call 55; refine (rot_any _ _ (by first | exact .inl rfl | exact .inr (.inl rfl) | exact .inr (.inr rfl)) _).mono ?_; rintro e w' ⟨rfl, rfl⟩)
      | (go_at_call 56; refine (fmix_any _ _).mono ?_; rintro e w' ⟨rfl, rfl⟩))
      go_meet
      exact ⟨rfl, rfl, rfl, rfl, rfl⟩
    case rest =>
      obtain ⟨rfl, rfl, rfl, rfl, rfl⟩ := hcut
      go_upto_region 44 with fail
      repeat (first | (with_reducible refine then_normal ?_) | (with_reducible refine then_exit ?_) | (with_reducible refine inBlock_same ?_) | (with_reducible refine inBlock_other (by decide) ?_) | (with_reducible refine inBlock_normal ?_) | go_step)
      go_wp2_with (first
      | (go_at_call 55; refine (rot_any _ _ (by first | exact .inl rfl | exact .inr (.inl rfl) | exact .inr (.inr rfl)) _).mono ?_; rintro e w' ⟨rfl, rfl⟩)
      | (go_at_call 56; refine (fmix_any _ _).mono ?_; rintro e w' ⟨rfl, rfl⟩))
      go_ret2
      exact ⟨rfl, Ch.drewQ _ _⟩

set_option maxRecDepth 100000 in
set_option maxHeartbeats 2000000 in
theorem s128_7_true (h1 h2 len : Int) (f : Nat → Int) : ∃ r1 r2 : Int, ∀ (w : World) (d : Nat) (A : Option Addr) (cap : Nat), Byts w A 7 f d → Blk w d #[.int .u64 h1, .int .u64 h2] →
    Calls Try.prog 51 #[.pointer (some ⟨d, 0, none⟩), .bool true, .int .u64 len, .slice A 7 cap] w fun e w' => e = .returned (.tuple #[.int .u64 r1, .int .u64 r2]) ∧ Ch S0 w w' := by
  obtain ⟨kk, ek⟩ : ∃ kk, bits BinOp.xor IntKind.u64 0 72057594037927936 = kk := ⟨_, rfl⟩
  apply Exists.intro
  apply Exists.intro
  intro w d A cap hD hB
  have d0 := hB.cell 0
  have d1 := hB.cell 1
  simp only [List.getElem?_toArray, List.getElem?_cons_zero, List.getElem?_cons_succ] at d0 d1
  have ea : bits BinOp.and IntKind.i64 7 15 = 7 := by decide
  have ec : bits BinOp.and IntKind.i64 ((7 : Int) + 1) 15 = 8 := by decide
  have eb : bits BinOp.and IntKind.i64 8 15 = 8 := by decide
  obtain ⟨b, o, hbd, rfl, c0⟩ := hD 0 (by decide)
  have hbl := World.block_lt_of_cell? w _ c0
  have c1 := hD.at 0 7 o (by decide) (by omega) 1 (by decide)
  simp only [Nat.zero_add] at c1
  have c2 := hD.at 0 7 o (by decide) (by omega) 2 (by decide)
  simp only [Nat.zero_add] at c2
  have c3 := hD.at 0 7 o (by decide) (by omega) 3 (by decide)
  simp only [Nat.zero_add] at c3
  have c4 := hD.at 0 7 o (by decide) (by omega) 4 (by decide)
  simp only [Nat.zero_add] at c4
  have c5 := hD.at 0 7 o (by decide) (by omega) 5 (by decide)
  simp only [Nat.zero_add] at c5
  have c6 := hD.at 0 7 o (by decide) (by omega) 6 (by decide)
  simp only [Nat.zero_add] at c6
  rw [Nat.add_zero] at c0
  simp only at hbl
  clear hD hB
  go_enter Try.func51, Try.ntmps51
  go_wp2_with fail
  go_quiet (fail)
  focus
    go_upto_if 20 with fail
    go_cut [8, 9, 10, 11] from 21 (fun v8 v9 v10 v11 w' => v8 = .int .u64 h1 ∧ v9 = .int .u64 h2 ∧ v10 = .int .u64 kk ∧ v11 = .int .u64 0 ∧ w' = w.drewN nq)
    case first =>
      go_wp2_with (first
      | (go_at_call 55; refine (rot_any _ _ (by first | exact .inl rfl | exact .inr (.inl rfl) | exact .inr (.inr rfl)) _).mono ?_; rintro e w' ⟨rfl, rfl⟩)
      | (go_at_call 56; refine (fmix_any _ _).mono ?_; rintro e w' ⟨rfl, rfl⟩))
      go_meet
      exact ⟨rfl, rfl, rfl, rfl, rfl⟩
    case rest =>
      obtain ⟨rfl, rfl, rfl, rfl, rfl⟩ := hcut
      go_upto_region 44 with fail
      repeat (first | (with_reducible refine then_normal ?_) | (with_reducible refine then_exit ?_) | (with_reducible refine inBlock_same ?_) | (with_reducible refine inBlock_other (by decide) ?_) | (with_reducible refine inBlock_normal ?_) | go_step)
      go_wp2_with (first
      | (go_at_call 55; refine (rot_any _ _ (by first | exact .inl rfl | exact .inr (.inl rfl) | exact .inr (.inr rfl)) _).mono ?_; rintro e w' ⟨rfl, rfl⟩)
      | (go_at_call 56; refine (fmix_any _ _).mono ?_; rintro e w' ⟨rfl, rfl⟩))
      go_ret2
      exact ⟨rfl, Ch.drewQ _ _⟩

set_option maxRecDepth 100000 in
set_option maxHeartbeats 2000000 in
theorem s128_11_true (h1 h2 len : Int) (f : Nat → Int) : ∃ r1 r2 : Int, ∀ (w : World) (d : Nat) (A : Option Addr) (cap : Nat), Byts w A 11 f d → Blk w d #[.int .u64 h1, .int .u64 h2] →
    Calls Try.prog 51 #[.pointer (some ⟨d, 0, none⟩), .bool true, .int .u64 len, .slice A 11 cap] w fun e w' => e = .returned (.tuple #[.int .u64 r1, .int .u64 r2]) ∧ Ch S0 w w' := by
  obtain ⟨kk, ek⟩ : ∃ kk, bits BinOp.xor IntKind.u64 0 16777216 = kk := ⟨_, rfl⟩
  apply Exists.intro
  apply Exists.intro
  intro w d A cap hD hB
  have d0 := hB.cell 0
  have d1 := hB.cell 1
  simp only [List.getElem?_toArray, List.getElem?_cons_zero, List.getElem?_cons_succ] at d0 d1
  have ea : bits BinOp.and IntKind.i64 11 15 = 11 := by decide
  have ec : bits BinOp.and IntKind.i64 ((11 : Int) + 1) 15 = 12 := by decide
  have eb : bits BinOp.and IntKind.i64 12 15 = 12 := by decide
  obtain ⟨b, o, hbd, rfl, c0⟩ := hD 0 (by decide)
  have hbl := World.block_lt_of_cell? w _ c0
  have c1 := hD.at 0 11 o (by decide) (by omega) 1 (by decide)
  simp only [Nat.zero_add] at c1
  have c2 := hD.at 0 11 o (by decide) (by omega) 2 (by decide)
  simp only [Nat.zero_add] at c2
  have c3 := hD.at 0 11 o (by decide) (by omega) 3 (by decide)
  simp only [Nat.zero_add] at c3
  have c4 := hD.at 0 11 o (by decide) (by omega) 4 (by decide)
  simp only [Nat.zero_add] at c4
  have c5 := hD.at 0 11 o (by decide) (by omega) 5 (by decide)
  simp only [Nat.zero_add] at c5
  have c6 := hD.at 0 11 o (by decide) (by omega) 6 (by decide)
  simp only [Nat.zero_add] at c6
  have c7 := hD.at 0 11 o (by decide) (by omega) 7 (by decide)
  simp only [Nat.zero_add] at c7
  have c8 := hD.at 0 11 o (by decide) (by omega) 8 (by decide)
  simp only [Nat.zero_add] at c8
  have c9 := hD.at 0 11 o (by decide) (by omega) 9 (by decide)
  simp only [Nat.zero_add] at c9
  have c10 := hD.at 0 11 o (by decide) (by omega) 10 (by decide)
  simp only [Nat.zero_add] at c10
  rw [Nat.add_zero] at c0
  simp only at hbl
  clear hD hB
  go_enter Try.func51, Try.ntmps51
  go_wp2_with fail
  go_quiet (fail)
  focus
    go_upto_if 20 with fail
    go_cut [8, 9, 10, 11] from 21 (fun v8 v9 v10 v11 w' => v8 = .int .u64 h1 ∧ v9 = .int .u64 h2 ∧ v10 = .int .u64 0 ∧ v11 = .int .u64 kk ∧ w' = w.drewN nq)
    case first =>
      go_wp2_with (first
      | (go_at_call 55; refine (rot_any _ _ (by first | exact .inl rfl | exact .inr (.inl rfl) | exact .inr (.inr rfl)) _).mono ?_; rintro e w' ⟨rfl, rfl⟩)
      | (go_at_call 56; refine (fmix_any _ _).mono ?_; rintro e w' ⟨rfl, rfl⟩))
      go_meet
      exact ⟨rfl, rfl, rfl, rfl, rfl⟩
    case rest =>
      obtain ⟨rfl, rfl, rfl, rfl, rfl⟩ := hcut
      go_upto_region 44 with fail
      repeat (first | (with_reducible refine then_normal ?_) | (with_reducible refine then_exit ?_) | (with_reducible refine inBlock_same ?_) | (with_reducible refine inBlock_other (by decide) ?_) | (with_reducible refine inBlock_normal ?_) | go_step)
      go_wp2_with (first
      | (go_at_call 55; refine (rot_any _ _ (by first | exact .inl rfl | exact .inr (.inl rfl) | exact .inr (.inr rfl)) _).mono ?_; rintro e w' ⟨rfl, rfl⟩)
      | (go_at_call 56; refine (fmix_any _ _).mono ?_; rintro e w' ⟨rfl, rfl⟩))
      go_ret2
      exact ⟨rfl, Ch.drewQ _ _⟩

end Go.Proofs.Ytagillnkdaanaaa
