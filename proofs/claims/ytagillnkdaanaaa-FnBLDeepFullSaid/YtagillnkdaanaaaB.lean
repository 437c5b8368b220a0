/- WALKS: filters as plain data: words, From, filter, told. -/
import Derived.Test.YtagillnkdaanaaaA
import Derived.Maps.AppendAt
namespace Go.Proofs.Ytagillnkdaanaaa
open Go.RowKit
set_option linter.unusedVariables false
set_option linter.unusedSimpArgs false

/-- n words at A: those of the bits g. -/
def Wds (w : World) (A : Option Addr) (n : Nat) (g : Nat → Bool) : Prop := ∀ j, j < n → ∃ q o, A = some ⟨q, o, none⟩ ∧ w.cell? ⟨q, o + j, none⟩ = some (.int .u64 (Bit.wd g j : Nat))
theorem Wds.keep {w w' : World} {A : Option Addr} {n : Nat} {g : Nat → Bool} (h : Wds w A n g) (hc : Ch S0 w w') : Wds w' A n g := fun j hj => by
  obtain ⟨q, o, h1, h2⟩ := h j hj
  exact ⟨q, o, h1, by rw [World.cell?_of_block (w := w) (hc.block q (World.block_lt_of_cell? w _ h2) (fun h => h))]; exact h2⟩

/-- A filter as plain data: M places, K hash functions, n words with the bits g. -/
structure IsF (w : World) (v : Value) (M K n : Nat) (g : Nat → Bool) : Prop where
  pos : 0 < n ∧ n ≤ 1000 ∧ 0 < M ∧ M ≤ 64 * n ∧ 0 < K ∧ K ≤ 8
  off : ∀ k, 64 * n ≤ k → g k = false
  val : ∃ A cap, v = .agg #[.int .u64 M, .int .u64 K, .slice A n cap] ∧ Wds w A n g
theorem IsF.keep {w w' : World} {v : Value} {M K n : Nat} {g : Nat → Bool} (h : IsF w v M K n g) (hc : Ch S0 w w') : IsF w' v M K n g := by
  obtain ⟨h0, h1, A, cap, h2, h3⟩ := h
  exact ⟨h0, h1, A, cap, h2, h3.keep hc⟩

theorem Ch.ofGrown0 {w w' : World} (h : w.grownBy w' none) : Ch S0 w w' := ⟨h.os, h.tape, h.output, h.size, fun k hk _ => h.block k hk (by simp)⟩
theorem add_at (q o j : Nat) : (⟨q, o, none⟩ : Addr).add j = ⟨q, o + j, none⟩ := by
  unfold Addr.add
  by_cases hj : j = 0
  · simp [hj]
  · simp [hj]
theorem Try.info39 : (Try.prog.info? 39).map (fun i => (i.zero, i.size, i.bytes)) = some (some (.int .u64 0), 1, 8) := by kernel_rfl

set_option maxRecDepth 100000 in
set_option maxHeartbeats 1000000 in
/-- words: a copy. -/
theorem words_any (n : Nat) (A : Option Addr) (cap : Nat) (g : Nat → Bool) (w : World) (h0 : 0 < n) (hn : n ≤ 1000) (h : Wds w A n g) :
    Calls Try.prog 23 #[.slice A n cap] w fun e w' => ∃ sb c C, e = .returned (.slice (some ⟨sb, 0, none⟩) n c) ∧ Blk w' sb C ∧ C.size = c ∧ n ≤ c ∧ c ≤ 9223372036854775807 ∧ (∀ j, j < n → C[j]? = some (.int .u64 (Bit.wd g j : Nat))) ∧ w.heap.size ≤ sb ∧ Ch S0 w w' := by
  obtain ⟨i0, hi0, hz0, hz1, hz2⟩ := info_parts Try.info39
  obtain ⟨q, o, rfl, _⟩ := h 0 h0
  have hcell : ∀ j, j < n → w.cell? ⟨q, o + j, none⟩ = some (.int .u64 (Bit.wd g j : Nat)) := fun j hj => by
    obtain ⟨q', o', h1, h2⟩ := h j hj
    simp only [Option.some.injEq, Addr.mk.injEq, and_true] at h1
    obtain ⟨rfl, rfl⟩ := h1
    exact h2
  have HC := Lib.hid hcell
  clear h hcell
  go_enter Try.func23, Try.ntmps23
  go_wp2_with (at_builtin; go_loud (refine wpList_append_own_at _ rfl (.const (.slice none 0 0)) (.tmp 3) 23 rfl w.heap.size 39 i0 (.int .u64 0) 1 8 Try.underlying23 hi0 hz0 hz1 hz2 rfl (by decide) (.slice none 0 0) 0 [] rfl (World.ownsRow_nil _ _ _ _) ⟨q, o, none⟩ n cap ((List.range n).map fun j => Value.int .u64 (Bit.wd g j : Nat)) rfl (by simp) ?_ ?_ (by unfold maxLen; omega) (by omega) (Nat.le_refl _) ?_))
  · intro j u hj
    rw [List.getElem?_map] at hj
    by_cases hjn : j < n
    · rw [List.getElem?_range hjn] at hj
      simp only [Option.map_some, Option.some.injEq] at hj
      subst hj
      rw [add_at]
      exact HC.out j hjn
    · rw [List.getElem?_eq_none (by simpa using hjn)] at hj
      cases hj
  · intro u hu
    simp only [List.mem_map] at hu
    obtain ⟨j, _, rfl⟩ := hu
    rfl
  · intro v' w1 hown hgr hnil hat
    have hch : Ch S0 w w1 := Ch.ofGrown0 hgr
    rcases hown.2 with ⟨_, h1⟩ | ⟨sb, c, cur, rfl, hb, hh, hnc, hcm, hsz, htk⟩
    · omega
    · have HH := Lib.hid hh
      have HK := Lib.hid htk
      have HCh := Lib.hid hch
      have hnc' : n ≤ c := by omega
      have hsz' : cur.size = c := by omega
      clear hown hgr hnil hat hh htk hch
      go_wp2_with fail
      go_ret
      refine ⟨sb, c, cur, by simp, ⟨39, HH.out⟩, hsz', hnc', hcm, fun j hj => ?_, hb, HCh.out⟩
      have := congrArg (fun l => l[j]?) HK.out
      simpa [List.getElem?_take, hj] using this

theorem nw64 (n : Nat) : nw (64 * n) = n := by unfold nw; omega

set_option maxRecDepth 100000 in
set_option maxHeartbeats 1000000 in
theorem fromLen_any (n sb c : Nat) (w : World) (hn : n ≤ 1000) :
    Calls Try.prog 47 #[.int .u64 ((64 * n : Nat) : Int), .slice (some ⟨sb, 0, none⟩) n c] w fun e w' => e = .returned (.pointer (some ⟨w.heap.size, 0, none⟩)) ∧ w' = w.alloc (.cells #[.int .u64 ((64 * n : Nat) : Int), .slice (some ⟨sb, 0, none⟩) n c] 74) := by
  obtain ⟨L, hL⟩ : ∃ L, L = 64 * n := ⟨_, rfl⟩
  rw [← hL]
  have hc := fun w => wordsNeeded_any L L rfl (by omega) w
  have e1 : nw L = n := by rw [hL]; exact nw64 n
  rw [e1] at hc
  have HC := Lib.hid hc
  clear hc e1 hL
  go_enter Try.func47, Try.ntmps47
  go_wp2_with (go_at_call 46; refine (HC.out _).mono ?_; rintro e w' ⟨rfl, rfl⟩)
  go_ret
  exact ⟨rfl, rfl⟩

set_option maxRecDepth 100000 in
set_option maxHeartbeats 1000000 in
theorem from_any (n sb c : Nat) (C : Array Value) (g : Nat → Bool) (w : World) (hn : n ≤ 1000) (hB : Blk w sb C) (h1 : C.size = c) (h2 : n ≤ c) (h3 : c ≤ 9223372036854775807) (h4 : ∀ j, j < n → C[j]? = some (.int .u64 (Bit.wd g j : Nat))) (hoff : ∀ k, 64 * n ≤ k → g k = false) :
    Calls Try.prog 38 #[.slice (some ⟨sb, 0, none⟩) n c] w fun e w' => ∃ b, e = .returned (.pointer (some ⟨b, 0, none⟩)) ∧ BS w' b sb (64 * n) g ∧ w.heap.size ≤ b ∧ Ch S0 w w' := by
  have hsb := hB.lt
  have hfin : BS (w.alloc (.cells #[.int .u64 ((64 * n : Nat) : Int), .slice (some ⟨sb, 0, none⟩) n c] 74)) w.heap.size sb (64 * n) g := by
    refine ⟨by omega, hoff, c, C, ?_, hB.alloc _, h1, by rw [nw64]; exact h2, h3, fun j hj => h4 j (by rwa [nw64] at hj)⟩
    rw [nw64]
    exact Blk.new _ _ _
  have HF := Lib.hid hfin
  have HL := Lib.hid (fromLen_any n sb c w hn)
  have e1 : (n : Int) * 64 = ((64 * n : Nat) : Int) := by omega
  have e2 : ((64 * n : Nat) : Int) ≤ 64000 := by omega
  clear hB h4 hfin hoff h1
  go_enter Try.func38, Try.ntmps38
  go_wp2_with fail
  refine HL.out.mono ?_
  rintro e w' ⟨rfl, rfl⟩
  go_wp2_with fail
  go_ret
  exact ⟨_, rfl, HF.out, Nat.le_refl _, (Ch.refl _ _).alloc _⟩
end Go.Proofs.Ytagillnkdaanaaa
