/- WALKS: sum128 of the hash, by the length of its tail. -/
import Derived.Test.YtagillnkdaanaaaH2
import Derived.Deep.Cut
namespace Go.Proofs.Ytagillnkdaanaaa
open Go.RowKit
set_option linter.unusedVariables false
set_option linter.unusedSimpArgs false

set_option maxRecDepth 100000 in
set_option maxHeartbeats 2000000 in
theorem s128_2_false (h1 h2 len : Int) (f : Nat → Int) : ∃ r1 r2 : Int, ∀ (w : World) (d : Nat) (A : Option Addr) (cap : Nat), Byts w A 2 f d → Blk w d #[.int .u64 h1, .int .u64 h2] →
    Calls Try.prog 51 #[.pointer (some ⟨d, 0, none⟩), .bool false, .int .u64 len, .slice A 2 cap] w fun e w' => e = .returned (.tuple #[.int .u64 r1, .int .u64 r2]) ∧ Ch S0 w w' := by
  apply Exists.intro
  apply Exists.intro
  intro w d A cap hD hB
  have d0 := hB.cell 0
  have d1 := hB.cell 1
  simp only [List.getElem?_toArray, List.getElem?_cons_zero, List.getElem?_cons_succ] at d0 d1
  have ea : bits BinOp.and IntKind.i64 2 15 = 2 := by decide
  obtain ⟨b, o, hbd, rfl, c0⟩ := hD 0 (by decide)
  have hbl := World.block_lt_of_cell? w _ c0
  have c1 := hD.at 0 2 o (by decide) (by omega) 1 (by decide)
  simp only [Nat.zero_add] at c1
  rw [Nat.add_zero] at c0
  simp only at hbl
  clear hD hB
  go_enter Try.func51, Try.ntmps51
  go_wp2_with fail
  go_quiet (fail)
  focus
    go_upto_region 44 with fail
    repeat (first | (with_reducible refine then_normal ?_) | (with_reducible refine then_exit ?_) | (with_reducible refine inBlock_same ?_) | (with_reducible refine inBlock_other (by decide) ?_) | (with_reducible refine inBlock_normal ?_) | go_step)
    go_wp2_with (first
      | (go_at_call 55; refine (rot_any _ _ (by first | exact .inl rfl | exact .inr (.inl rfl) | exact .inr (.inr rfl)) _).mono ?_; rintro e w' ⟨rfl, rfl⟩)
      | (go_at_call 56; refine (fmix_any _ _).mono ?_; rintro e w' ⟨rfl, rfl⟩))
    go_ret2
    exact ⟨rfl, Ch.drewQ _ _⟩

set_option maxRecDepth 100000 in
set_option maxHeartbeats 2000000 in
theorem s128_6_false (h1 h2 len : Int) (f : Nat → Int) : ∃ r1 r2 : Int, ∀ (w : World) (d : Nat) (A : Option Addr) (cap : Nat), Byts w A 6 f d → Blk w d #[.int .u64 h1, .int .u64 h2] →
    Calls Try.prog 51 #[.pointer (some ⟨d, 0, none⟩), .bool false, .int .u64 len, .slice A 6 cap] w fun e w' => e = .returned (.tuple #[.int .u64 r1, .int .u64 r2]) ∧ Ch S0 w w' := by
  apply Exists.intro
  apply Exists.intro
  intro w d A cap hD hB
  have d0 := hB.cell 0
  have d1 := hB.cell 1
  simp only [List.getElem?_toArray, List.getElem?_cons_zero, List.getElem?_cons_succ] at d0 d1
  have ea : bits BinOp.and IntKind.i64 6 15 = 6 := by decide
  obtain ⟨b, o, hbd, rfl, c0⟩ := hD 0 (by decide)
  have hbl := World.block_lt_of_cell? w _ c0
  have c1 := hD.at 0 6 o (by decide) (by omega) 1 (by decide)
  simp only [Nat.zero_add] at c1
  have c2 := hD.at 0 6 o (by decide) (by omega) 2 (by decide)
  simp only [Nat.zero_add] at c2
  have c3 := hD.at 0 6 o (by decide) (by omega) 3 (by decide)
  simp only [Nat.zero_add] at c3
  have c4 := hD.at 0 6 o (by decide) (by omega) 4 (by decide)
  simp only [Nat.zero_add] at c4
  have c5 := hD.at 0 6 o (by decide) (by omega) 5 (by decide)
  simp only [Nat.zero_add] at c5
  rw [Nat.add_zero] at c0
  simp only at hbl
  clear hD hB
  go_enter Try.func51, Try.ntmps51
  go_wp2_with fail
  go_quiet (fail)
  focus
    go_upto_region 44 with fail
    repeat (first | (with_reducible refine then_normal ?_) | (with_reducible refine then_exit ?_) | (with_reducible refine inBlock_same ?_) | (with_reducible refine inBlock_other (by decide) ?_) | (with_reducible refine inBlock_normal ?_) | go_step)
    go_wp2_with (first
      | (go_at_call 55; refine (rot_any _ _ (by first | exact .inl rfl | exact .inr (.inl rfl) | exact .inr (.inr rfl)) _).mono ?_; rintro e w' ⟨rfl, rfl⟩)
      | (go_at_call 56; refine (fmix_any _ _).mono ?_; rintro e w' ⟨rfl, rfl⟩))
    go_ret2
    exact ⟨rfl, Ch.drewQ _ _⟩

set_option maxRecDepth 100000 in
set_option maxHeartbeats 2000000 in
theorem s128_10_false (h1 h2 len : Int) (f : Nat → Int) : ∃ r1 r2 : Int, ∀ (w : World) (d : Nat) (A : Option Addr) (cap : Nat), Byts w A 10 f d → Blk w d #[.int .u64 h1, .int .u64 h2] →
    Calls Try.prog 51 #[.pointer (some ⟨d, 0, none⟩), .bool false, .int .u64 len, .slice A 10 cap] w fun e w' => e = .returned (.tuple #[.int .u64 r1, .int .u64 r2]) ∧ Ch S0 w w' := by
  apply Exists.intro
  apply Exists.intro
  intro w d A cap hD hB
  have d0 := hB.cell 0
  have d1 := hB.cell 1
  simp only [List.getElem?_toArray, List.getElem?_cons_zero, List.getElem?_cons_succ] at d0 d1
  have ea : bits BinOp.and IntKind.i64 10 15 = 10 := by decide
  obtain ⟨b, o, hbd, rfl, c0⟩ := hD 0 (by decide)
  have hbl := World.block_lt_of_cell? w _ c0
  have c1 := hD.at 0 10 o (by decide) (by omega) 1 (by decide)
  simp only [Nat.zero_add] at c1
  have c2 := hD.at 0 10 o (by decide) (by omega) 2 (by decide)
  simp only [Nat.zero_add] at c2
  have c3 := hD.at 0 10 o (by decide) (by omega) 3 (by decide)
  simp only [Nat.zero_add] at c3
  have c4 := hD.at 0 10 o (by decide) (by omega) 4 (by decide)
  simp only [Nat.zero_add] at c4
  have c5 := hD.at 0 10 o (by decide) (by omega) 5 (by decide)
  simp only [Nat.zero_add] at c5
  have c6 := hD.at 0 10 o (by decide) (by omega) 6 (by decide)
  simp only [Nat.zero_add] at c6
  have c7 := hD.at 0 10 o (by decide) (by omega) 7 (by decide)
  simp only [Nat.zero_add] at c7
  have c8 := hD.at 0 10 o (by decide) (by omega) 8 (by decide)
  simp only [Nat.zero_add] at c8
  have c9 := hD.at 0 10 o (by decide) (by omega) 9 (by decide)
  simp only [Nat.zero_add] at c9
  rw [Nat.add_zero] at c0
  simp only at hbl
  clear hD hB
  go_enter Try.func51, Try.ntmps51
  go_wp2_with fail
  go_quiet (fail)
  focus
    go_upto_region 44 with fail
    repeat (first | (with_reducible refine then_normal ?_) | (with_reducible refine then_exit ?_) | (with_reducible refine inBlock_same ?_) | (with_reducible refine inBlock_other (by decide) ?_) | (with_reducible refine inBlock_normal ?_) | go_step)
    go_wp2_with (first
      | (go_at_call 55; refine (rot_any _ _ (by first | exact .inl rfl | exact .inr (.inl rfl) | exact .inr (.inr rfl)) _).mono ?_; rintro e w' ⟨rfl, rfl⟩)
      | (go_at_call 56; refine (fmix_any _ _).mono ?_; rintro e w' ⟨rfl, rfl⟩))
    go_ret2
    exact ⟨rfl, Ch.drewQ _ _⟩

set_option maxRecDepth 100000 in
set_option maxHeartbeats 2000000 in
theorem s128_14_false (h1 h2 len : Int) (f : Nat → Int) : ∃ r1 r2 : Int, ∀ (w : World) (d : Nat) (A : Option Addr) (cap : Nat), Byts w A 14 f d → Blk w d #[.int .u64 h1, .int .u64 h2] →
    Calls Try.prog 51 #[.pointer (some ⟨d, 0, none⟩), .bool false, .int .u64 len, .slice A 14 cap] w fun e w' => e = .returned (.tuple #[.int .u64 r1, .int .u64 r2]) ∧ Ch S0 w w' := by
  apply Exists.intro
  apply Exists.intro
  intro w d A cap hD hB
  have d0 := hB.cell 0
  have d1 := hB.cell 1
  simp only [List.getElem?_toArray, List.getElem?_cons_zero, List.getElem?_cons_succ] at d0 d1
  have ea : bits BinOp.and IntKind.i64 14 15 = 14 := by decide
  obtain ⟨b, o, hbd, rfl, c0⟩ := hD 0 (by decide)
  have hbl := World.block_lt_of_cell? w _ c0
  have c1 := hD.at 0 14 o (by decide) (by omega) 1 (by decide)
  simp only [Nat.zero_add] at c1
  have c2 := hD.at 0 14 o (by decide) (by omega) 2 (by decide)
  simp only [Nat.zero_add] at c2
  have c3 := hD.at 0 14 o (by decide) (by omega) 3 (by decide)
  simp only [Nat.zero_add] at c3
  have c4 := hD.at 0 14 o (by decide) (by omega) 4 (by decide)
  simp only [Nat.zero_add] at c4
  have c5 := hD.at 0 14 o (by decide) (by omega) 5 (by decide)
  simp only [Nat.zero_add] at c5
  have c6 := hD.at 0 14 o (by decide) (by omega) 6 (by decide)
  simp only [Nat.zero_add] at c6
  have c7 := hD.at 0 14 o (by decide) (by omega) 7 (by decide)
  simp only [Nat.zero_add] at c7
  have c8 := hD.at 0 14 o (by decide) (by omega) 8 (by decide)
  simp only [Nat.zero_add] at c8
  have c9 := hD.at 0 14 o (by decide) (by omega) 9 (by decide)
  simp only [Nat.zero_add] at c9
  have c10 := hD.at 0 14 o (by decide) (by omega) 10 (by decide)
  simp only [Nat.zero_add] at c10
  have c11 := hD.at 0 14 o (by decide) (by omega) 11 (by decide)
  simp only [Nat.zero_add] at c11
  have c12 := hD.at 0 14 o (by decide) (by omega) 12 (by decide)
  simp only [Nat.zero_add] at c12
  have c13 := hD.at 0 14 o (by decide) (by omega) 13 (by decide)
  simp only [Nat.zero_add] at c13
  rw [Nat.add_zero] at c0
  simp only at hbl
  clear hD hB
  go_enter Try.func51, Try.ntmps51
  go_wp2_with fail
  go_quiet (fail)
  focus
    go_upto_region 44 with fail
    repeat (first | (with_reducible refine then_normal ?_) | (with_reducible refine then_exit ?_) | (with_reducible refine inBlock_same ?_) | (with_reducible refine inBlock_other (by decide) ?_) | (with_reducible refine inBlock_normal ?_) | go_step)
    go_wp2_with (first
      | (go_at_call 55; refine (rot_any _ _ (by first | exact .inl rfl | exact .inr (.inl rfl) | exact .inr (.inr rfl)) _).mono ?_; rintro e w' ⟨rfl, rfl⟩)
      | (go_at_call 56; refine (fmix_any _ _).mono ?_; rintro e w' ⟨rfl, rfl⟩))
    go_ret2
    exact ⟨rfl, Ch.drewQ _ _⟩

set_option maxRecDepth 100000 in
set_option maxHeartbeats 2000000 in
theorem s128_2_true (h1 h2 len : Int) (f : Nat → Int) : ∃ r1 r2 : Int, ∀ (w : World) (d : Nat) (A : Option Addr) (cap : Nat), Byts w A 2 f d → Blk w d #[.int .u64 h1, .int .u64 h2] →
    Calls Try.prog 51 #[.pointer (some ⟨d, 0, none⟩), .bool true, .int .u64 len, .slice A 2 cap] w fun e w' => e = .returned (.tuple #[.int .u64 r1, .int .u64 r2]) ∧ Ch S0 w w' := by
  obtain ⟨kk, ek⟩ : ∃ kk, bits BinOp.xor IntKind.u64 0 65536 = kk := ⟨_, rfl⟩
  apply Exists.intro
  apply Exists.intro
  intro w d A cap hD hB
  have d0 := hB.cell 0
  have d1 := hB.cell 1
  simp only [List.getElem?_toArray, List.getElem?_cons_zero, List.getElem?_cons_succ] at d0 d1
  have ea : bits BinOp.and IntKind.i64 2 15 = 2 := by decide
  have ec : bits BinOp.and IntKind.i64 ((2 : Int) + 1) 15 = 3 := by decide
  have eb : bits BinOp.and IntKind.i64 3 15 = 3 := by decide
  obtain ⟨b, o, hbd, rfl, c0⟩ := hD 0 (by decide)
  have hbl := World.block_lt_of_cell? w _ c0
  have c1 := hD.at 0 2 o (by decide) (by omega) 1 (by decide)
  simp only [Nat.zero_add] at c1
  rw [Nat.add_zero] at c0
  simp only at hbl
  clear hD hB
  go_enter Try.func51, Try.ntmps51
  go_wp2_with fail
  go_quiet (fail)
  focus
    go_upto_if 20 with fail
    go_cut [8, 9, 10, 11] from 21 (fun v8 v9 v10 v11 w' => v8 = .int .u64 h1 ∧ v9 = .int .u64 h2 ∧ v10 = .int .u64 kk ∧ v11 = .int .u64 0 ∧ w' = w.drewN nq)
    case first =>
      go_wp2_with (first
      | (go_at_call 55; refine (rot_any _ _ (by first | exact .inl rfl | exact .inr (.inl rfl) | exact .inr (.inr rfl)) _).mono ?_; rintro e w' ⟨rfl, rfl⟩)
      | (go_at_call 56; refine (fmix_any _ _).mono ?_; rintro e w' ⟨rfl, rfl⟩))
      go_meet
      exact ⟨rfl, rfl, rfl, rfl, rfl⟩
    case rest =>
      obtain ⟨rfl, rfl, rfl, rfl, rfl⟩ := hcut
      go_upto_region 44 with fail
      repeat (first | (with_reducible refine then_normal ?_) | (with_reducible refine then_exit ?_) | (with_reducible refine inBlock_same ?_) | (with_reducible refine inBlock_other (by decide) ?_) | (with_reducible refine inBlock_normal ?_) | go_step)
      go_wp2_with (first
      | (go_at_call 55; refine (rot_any _ _ (by first | exact .inl rfl | exact .inr (.inl rfl) | exact .inr (.inr rfl)) _).mono ?_; rintro e w' ⟨rfl, rfl⟩)
      | (go_at_call 56; refine (fmix_any _ _).mono ?_; rintro e w' ⟨rfl, rfl⟩))
      go_ret2
      exact ⟨rfl, Ch.drewQ _ _⟩

set_option maxRecDepth 100000 in
set_option maxHeartbeats 2000000 in
theorem s128_6_true (h1 h2 len : Int) (f : Nat → Int) : ∃ r1 r2 : Int, ∀ (w : World) (d : Nat) (A : Option Addr) (cap : Nat), Byts w A 6 f d → Blk w d #[.int .u64 h1, .int .u64 h2] →
    Calls Try.prog 51 #[.pointer (some ⟨d, 0, none⟩), .bool true, .int .u64 len, .slice A 6 cap] w fun e w' => e = .returned (.tuple #[.int .u64 r1, .int .u64 r2]) ∧ Ch S0 w w' := by
  obtain ⟨kk, ek⟩ : ∃ kk, bits BinOp.xor IntKind.u64 0 281474976710656 = kk := ⟨_, rfl⟩
  apply Exists.intro
  apply Exists.intro
  intro w d A cap hD hB
  have d0 := hB.cell 0
  have d1 := hB.cell 1
  simp only [List.getElem?_toArray, List.getElem?_cons_zero, List.getElem?_cons_succ] at d0 d1
  have ea : bits BinOp.and IntKind.i64 6 15 = 6 := by decide
  have ec : bits BinOp.and IntKind.i64 ((6 : Int) + 1) 15 = 7 := by decide
  have eb : bits BinOp.and IntKind.i64 7 15 = 7 := by decide
  obtain ⟨b, o, hbd, rfl, c0⟩ := hD 0 (by decide)
  have hbl := World.block_lt_of_cell? w _ c0
  have c1 := hD.at 0 6 o (by decide) (by omega) 1 (by decide)
  simp only [Nat.zero_add] at c1
  have c2 := hD.at 0 6 o (by decide) (by omega) 2 (by decide)
  simp only [Nat.zero_add] at c2
  have c3 := hD.at 0 6 o (by decide) (by omega) 3 (by decide)
  simp only [Nat.zero_add] at c3
  have c4 := hD.at 0 6 o (by decide) (by omega) 4 (by decide)
  simp only [Nat.zero_add] at c4
  have c5 := hD.at 0 6 o (by decide) (by omega) 5 (by decide)
  simp only [Nat.zero_add] at c5
  rw [Nat.add_zero] at c0
  simp only at hbl
  clear hD hB
  go_enter Try.func51, Try.ntmps51
  go_wp2_with fail
  go_quiet (fail)
  focus
    go_upto_if 20 with fail
    go_cut [8, 9, 10, 11] from 21 (fun v8 v9 v10 v11 w' => v8 = .int .u64 h1 ∧ v9 = .int .u64 h2 ∧ v10 = .int .u64 kk ∧ v11 = .int .u64 0 ∧ w' = w.drewN nq)
    case first =>
      go_wp2_with (first
      | (go_at_call 55; refine (rot_any _ _ (by first | exact .inl rfl | exact .inr (.inl rfl) | exact .inr (.inr rfl)) _).mono ?_; rintro e w' ⟨rfl, rfl⟩)
      | (go_at_call 56; refine (fmix_any _ _).mono ?_; rintro e w' ⟨rfl, rfl⟩))
      go_meet
      exact ⟨rfl, rfl, rfl, rfl, rfl⟩
    case rest =>
      obtain ⟨rfl, rfl, rfl, rfl, rfl⟩ := hcut
      go_upto_region 44 with fail
      repeat (first | (with_reducible refine then_normal ?_) | (with_reducible refine then_exit ?_) | (with_reducible refine inBlock_same ?_) | (with_reducible refine inBlock_other (by decide) ?_) | (with_reducible refine inBlock_normal ?_) | go_step)
      go_wp2_with (first
      | (go_at_call 55; refine (rot_any _ _ (by first | exact .inl rfl | exact .inr (.inl rfl) | exact .inr (.inr rfl)) _).mono ?_; rintro e w' ⟨rfl, rfl⟩)
      | (go_at_call 56; refine (fmix_any _ _).mono ?_; rintro e w' ⟨rfl, rfl⟩))
      go_ret2
      exact ⟨rfl, Ch.drewQ _ _⟩

set_option maxRecDepth 100000 in
set_option maxHeartbeats 2000000 in
theorem s128_10_true (h1 h2 len : Int) (f : Nat → Int) : ∃ r1 r2 : Int, ∀ (w : World) (d : Nat) (A : Option Addr) (cap : Nat), Byts w A 10 f d → Blk w d #[.int .u64 h1, .int .u64 h2] →
    Calls Try.prog 51 #[.pointer (some ⟨d, 0, none⟩), .bool true, .int .u64 len, .slice A 10 cap] w fun e w' => e = .returned (.tuple #[.int .u64 r1, .int .u64 r2]) ∧ Ch S0 w w' := by
  obtain ⟨kk, ek⟩ : ∃ kk, bits BinOp.xor IntKind.u64 0 65536 = kk := ⟨_, rfl⟩
  apply Exists.intro
  apply Exists.intro
  intro w d A cap hD hB
  have d0 := hB.cell 0
  have d1 := hB.cell 1
  simp only [List.getElem?_toArray, List.getElem?_cons_zero, List.getElem?_cons_succ] at d0 d1
  have ea : bits BinOp.and IntKind.i64 10 15 = 10 := by decide
  have ec : bits BinOp.and IntKind.i64 ((10 : Int) + 1) 15 = 11 := by decide
  have eb : bits BinOp.and IntKind.i64 11 15 = 11 := by decide
  obtain ⟨b, o, hbd, rfl, c0⟩ := hD 0 (by decide)
  have hbl := World.block_lt_of_cell? w _ c0
  have c1 := hD.at 0 10 o (by decide) (by omega) 1 (by decide)
  simp only [Nat.zero_add] at c1
  have c2 := hD.at 0 10 o (by decide) (by omega) 2 (by decide)
  simp only [Nat.zero_add] at c2
  have c3 := hD.at 0 10 o (by decide) (by omega) 3 (by decide)
  simp only [Nat.zero_add] at c3
  have c4 := hD.at 0 10 o (by decide) (by omega) 4 (by decide)
  simp only [Nat.zero_add] at c4
  have c5 := hD.at 0 10 o (by decide) (by omega) 5 (by decide)
  simp only [Nat.zero_add] at c5
  have c6 := hD.at 0 10 o (by decide) (by omega) 6 (by decide)
  simp only [Nat.zero_add] at c6
  have c7 := hD.at 0 10 o (by decide) (by omega) 7 (by decide)
  simp only [Nat.zero_add] at c7
  have c8 := hD.at 0 10 o (by decide) (by omega) 8 (by decide)
  simp only [Nat.zero_add] at c8
  have c9 := hD.at 0 10 o (by decide) (by omega) 9 (by decide)
  simp only [Nat.zero_add] at c9
  rw [Nat.add_zero] at c0
  simp only at hbl
  clear hD hB
  go_enter Try.func51, Try.ntmps51
  go_wp2_with fail
  go_quiet (fail)
  focus
    go_upto_if 20 with fail
    go_cut [8, 9, 10, 11] from 21 (fun v8 v9 v10 v11 w' => v8 = .int .u64 h1 ∧ v9 = .int .u64 h2 ∧ v10 = .int .u64 0 ∧ v11 = .int .u64 kk ∧ w' = w.drewN nq)
    case first =>
      go_wp2_with (first
      | (go_at_call 55; refine (rot_any _ _ (by first | exact .inl rfl | exact .inr (.inl rfl) | exact .inr (.inr rfl)) _).mono ?_; rintro e w' ⟨rfl, rfl⟩)
      | (go_at_call 56; refine (fmix_any _ _).mono ?_; rintro e w' ⟨rfl, rfl⟩))
      go_meet
      exact ⟨rfl, rfl, rfl, rfl, rfl⟩
    case rest =>
      obtain ⟨rfl, rfl, rfl, rfl, rfl⟩ := hcut
      go_upto_region 44 with fail
      repeat (first | (with_reducible refine then_normal ?_) | (with_reducible refine then_exit ?_) | (with_reducible refine inBlock_same ?_) | (with_reducible refine inBlock_other (by decide) ?_) | (with_reducible refine inBlock_normal ?_) | go_step)
      go_wp2_with (first
      | (go_at_call 55; refine (rot_any _ _ (by first | exact .inl rfl | exact .inr (.inl rfl) | exact .inr (.inr rfl)) _).mono ?_; rintro e w' ⟨rfl, rfl⟩)
      | (go_at_call 56; refine (fmix_any _ _).mono ?_; rintro e w' ⟨rfl, rfl⟩))
      go_ret2
      exact ⟨rfl, Ch.drewQ _ _⟩

set_option maxRecDepth 100000 in
set_option maxHeartbeats 2000000 in
theorem s128_14_true (h1 h2 len : Int) (f : Nat → Int) : ∃ r1 r2 : Int, ∀ (w : World) (d : Nat) (A : Option Addr) (cap : Nat), Byts w A 14 f d → Blk w d #[.int .u64 h1, .int .u64 h2] →
    Calls Try.prog 51 #[.pointer (some ⟨d, 0, none⟩), .bool true, .int .u64 len, .slice A 14 cap] w fun e w' => e = .returned (.tuple #[.int .u64 r1, .int .u64 r2]) ∧ Ch S0 w w' := by
  obtain ⟨kk, ek⟩ : ∃ kk, bits BinOp.xor IntKind.u64 0 281474976710656 = kk := ⟨_, rfl⟩
  apply Exists.intro
  apply Exists.intro
  intro w d A cap hD hB
  have d0 := hB.cell 0
  have d1 := hB.cell 1
  simp only [List.getElem?_toArray, List.getElem?_cons_zero, List.getElem?_cons_succ] at d0 d1
  have ea : bits BinOp.and IntKind.i64 14 15 = 14 := by decide
  have ec : bits BinOp.and IntKind.i64 ((14 : Int) + 1) 15 = 15 := by decide
  have eb : bits BinOp.and IntKind.i64 15 15 = 15 := by decide
  obtain ⟨b, o, hbd, rfl, c0⟩ := hD 0 (by decide)
  have hbl := World.block_lt_of_cell? w _ c0
  have c1 := hD.at 0 14 o (by decide) (by omega) 1 (by decide)
  simp only [Nat.zero_add] at c1
  have c2 := hD.at 0 14 o (by decide) (by omega) 2 (by decide)
  simp only [Nat.zero_add] at c2
  have c3 := hD.at 0 14 o (by decide) (by omega) 3 (by decide)
  simp only [Nat.zero_add] at c3
  have c4 := hD.at 0 14 o (by decide) (by omega) 4 (by decide)
  simp only [Nat.zero_add] at c4
  have c5 := hD.at 0 14 o (by decide) (by omega) 5 (by decide)
  simp only [Nat.zero_add] at c5
  have c6 := hD.at 0 14 o (by decide) (by omega) 6 (by decide)
  simp only [Nat.zero_add] at c6
  have c7 := hD.at 0 14 o (by decide) (by omega) 7 (by decide)
  simp only [Nat.zero_add] at c7
  have c8 := hD.at 0 14 o (by decide) (by omega) 8 (by decide)
  simp only [Nat.zero_add] at c8
  have c9 := hD.at 0 14 o (by decide) (by omega) 9 (by decide)
  simp only [Nat.zero_add] at c9
  have c10 := hD.at 0 14 o (by decide) (by omega) 10 (by decide)
  simp only [Nat.zero_add] at c10
  have c11 := hD.at 0 14 o (by decide) (by omega) 11 (by decide)
  simp only [Nat.zero_add] at c11
  have c12 := hD.at 0 14 o (by decide) (by omega) 12 (by decide)
  simp only [Nat.zero_add] at c12
  have c13 := hD.at 0 14 o (by decide) (by omega) 13 (by decide)
  simp only [Nat.zero_add] at c13
  rw [Nat.add_zero] at c0
  simp only at hbl
  clear hD hB
  go_enter Try.func51, Try.ntmps51
  go_wp2_with fail
  go_quiet (fail)
  focus
    go_upto_if 20 with fail
    go_cut [8, 9, 10, 11] from 21 (fun v8 v9 v10 v11 w' => v8 = .int .u64 h1 ∧ v9 = .int .u64 h2 ∧ v10 = .int .u64 0 ∧ v11 = .int .u64 kk ∧ w' = w.drewN nq)
    case first =>
      go_wp2_with (first
      | (go_at_call 55; refine (rot_any _ _ (by first | exact .inl rfl | exact .inr (.inl rfl) | exact .inr (.inr rfl)) _).mono ?_; rintro e w' ⟨rfl, rfl⟩)
      | (go_at_call 56; refine (fmix_any _ _).mono ?_; rintro e w' ⟨rfl, rfl⟩))
      go_meet
      exact ⟨rfl, rfl, rfl, rfl, rfl⟩
    case rest =>
      obtain ⟨rfl, rfl, rfl, rfl, rfl⟩ := hcut
      go_upto_region 44 with fail
      repeat (first | (with_reducible refine then_normal ?_) | (with_reducible refine then_exit ?_) | (with_reducible refine inBlock_same ?_) | (with_reducible refine inBlock_other (by decide) ?_) | (with_reducible refine inBlock_normal ?_) | go_step)
      go_wp2_with (first
      | (go_at_call 55; refine (rot_any _ _ (by first | exact .inl rfl | exact .inr (.inl rfl) | exact .inr (.inr rfl)) _).mono ?_; rintro e w' ⟨rfl, rfl⟩)
      | (go_at_call 56; refine (fmix_any _ _).mono ?_; rintro e w' ⟨rfl, rfl⟩))
      go_ret2
      exact ⟨rfl, Ch.drewQ _ _⟩

end Go.Proofs.Ytagillnkdaanaaa
