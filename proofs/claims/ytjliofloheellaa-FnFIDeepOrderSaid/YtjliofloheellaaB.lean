/- WALKS: New, rebuild. -/
import Derived.Test.YtjliofloheellaaA
namespace Go.Proofs.Ytjliofloheellaa
open Go.RowKit
set_option linter.unusedVariables false
set_option linter.unusedSimpArgs false

theorem Try.info47 : (Try.prog.info? 47).map (fun i => (i.zero, i.size, i.bytes)) = some (some (.pointer none), 1, 8) := by kernel_rfl
theorem cells_ptr (n : Nat) : madeCells (Value.pointer none).cells n = Array.replicate n (.pointer none) := by
  apply Array.ext
  · simp [madeCells]
  · intro i h1 h2
    simp [madeCells, Value.cells, Nat.mod_one]
theorem make42 (n : Nat) (hc : n ≤ 1000000) (x : Int) (hx : x = n) (w : World) :
    (Instr.makeSlice 42 (.int .u64 x) (.int .u64 x)).run Try.prog w = .ok (.slice (some ⟨w.heap.size, 0, none⟩) n n) (w.alloc (.cells (Array.replicate n (.pointer none)) 47)) := by
  subst hx
  obtain ⟨i0, hi, hz0, hz1, hz2⟩ := info_parts Try.info47
  have := run_make (P := Try.prog) w 42 47 i0 (.pointer none) Try.underlying42 hi hz0 .u64 .u64 n n (by omega) (by omega) (by rw [hz2]; omega) (by omega)
  rw [this, hz1, Nat.mul_one]
  simp only [Int.toNat_natCast]
  rw [cells_ptr]

/-- A new table. -/
theorem Arr.new (w : World) (n : Nat) : Arr (w.alloc (.cells (Array.replicate n (.pointer none)) 47)) w.heap.size n (fun _ => none) :=
  ⟨⟨_, Blk.new _ _ _, by simp, fun i hi => by simp [hi, ptrOf]⟩, fun _ _ _ h => by cases h⟩

/-- The map in memory: at fb; 2^e places; it holds m, c keys. -/
structure FI (base : Nat) (w : World) (fb tb e : Nat) (T : Nat → Option Pk) (m : Nat → Option Nat) (c : Nat) : Prop where
  blk : Blk w fb #[.int .u64 c, .slice (some ⟨tb, 0, none⟩) (2 ^ e) (2 ^ e)]
  arr : Arr w tb (2 ^ e) T
  tab : Tab Hsh (2 ^ e) T
  rep : Rep (2 ^ e) T m
  occ : occ T (2 ^ e) = c
  load : 4 * c ≤ 3 * 2 ^ e
  small : e ≤ 12
  low : base ≤ fb ∧ base ≤ tb ∧ fb ≠ tb
  pks : ∀ i p, i < 2 ^ e → T i = some p → p.b ≠ fb

theorem FI.keep {base : Nat} {w w' : World} {fb tb e c : Nat} {T : Nat → Option Pk} {m : Nat → Option Nat} (h : FI base w fb tb e T m c) (hc : Ch S0 w w') : FI base w' fb tb e T m c :=
  ⟨h.blk.keep hc (fun h => h), h.arr.keep hc (fun h => h) (fun _ _ _ _ h => h), h.tab, h.rep, h.occ, h.load, h.small, h.low, h.pks⟩
theorem FI.room {base : Nat} {w : World} {fb tb e c : Nat} {T : Nat → Option Pk} {m : Nat → Option Nat} (h : FI base w fb tb e T m c) : ∃ j, j < 2 ^ e ∧ T j = none :=
  occ_free _ (by have := h.occ; have := h.load; have := Nat.two_pow_pos e; omega)

set_option maxRecDepth 100000 in
set_option maxHeartbeats 1000000 in
theorem new_any (h : Nat) (hh : h < 601) (w : World) : Calls Try.prog 5 #[.int .u64 h] w fun r w' => (∃ fb tb e, r = .returned (.pointer (some ⟨fb, 0, none⟩)) ∧ FI w.heap.size w' fb tb e (fun _ => none) (fun _ => none) 0 ∧ e ≤ 10) ∧ Ch S0 w w' := by
  have key : ∃ e g, e < 11 ∧ 0 < g ∧ g < 601 ∧ ru g = 2 ^ e ∧ g = (if h = 0 then 16 else h) := by
    have hg : 0 < (if h = 0 then 16 else h) ∧ (if h = 0 then 16 else h) < 601 := by split <;> omega
    obtain ⟨e, he, hr⟩ := ru_small _ hg.2 hg.1
    exact ⟨e, _, he, hg.1, hg.2, hr, rfl⟩
  obtain ⟨e, g, he, hg0, hg1, hru, hge⟩ := key
  obtain ⟨n, hn⟩ : ∃ n, n = 2 ^ e := ⟨_, rfl⟩
  have hn1 : n ≤ 1000000 := by rw [hn]; exact Nat.le_trans (Nat.pow_le_pow_right (n := 2) (j := 10) (by omega) (by omega)) (by decide)
  have HRd := Lib.hid (fun w => round_any g hg0 (by omega) w)
  rw [hru, ← hn] at HRd
  have hmk := make42 n hn1 n rfl
  have hfin : FI w.heap.size ((w.alloc (.cells (Array.replicate n (.pointer none)) 47)).alloc (.cells #[.int .u64 0, .slice (some ⟨w.heap.size, 0, none⟩) n n] 44)) (w.heap.size + 1) w.heap.size e (fun _ => none) (fun _ => none) 0 := by
    refine ⟨?_, ?_, Tab.empty _ _, Rep.empty _, occ_none _, by omega, by omega, ⟨by omega, Nat.le_refl _, by omega⟩, fun _ _ _ h => by cases h⟩
    · have := Blk.new (w.alloc (.cells (Array.replicate n (.pointer none)) 47)) #[.int .u64 0, .slice (some ⟨w.heap.size, 0, none⟩) n n] 44
      rw [← hn]
      simpa using this
    · rw [← hn]
      exact (Arr.new w n).keep (S := S0) ((Ch.refl _ _).alloc _) (fun h => h) (fun _ _ _ _ h => h)
  have HF := Lib.hid hfin
  clear hru hn hfin
  by_cases h0 : h = 0
  · subst h0
    simp only [if_true] at hge
    subst hge
    go_enter Try.func5, Try.ntmps5
    go_wp2_with fail
    refine (HRd.out _).mono ?_
    rintro r w1 ⟨rfl, rfl⟩
    go_wp2_with fail
    go_ret
    exact ⟨⟨_, _, e, rfl, HF.out, by omega⟩, ((Ch.refl _ _).alloc _).alloc _⟩
  · simp only [h0, if_false] at hge
    subst hge
    have hb : ((g : Int) == 0) = false := by rw [beq_eq_false_iff_ne]; omega
    go_enter Try.func5, Try.ntmps5
    go_wp2_with fail
    refine (HRd.out _).mono ?_
    rintro r w1 ⟨rfl, rfl⟩
    go_wp2_with fail
    go_ret
    exact ⟨⟨_, _, e, rfl, HF.out, by omega⟩, ((Ch.refl _ _).alloc _).alloc _⟩
end Go.Proofs.Ytjliofloheellaa
