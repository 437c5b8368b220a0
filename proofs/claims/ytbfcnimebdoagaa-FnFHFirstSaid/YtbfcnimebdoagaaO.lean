/- WALKS: dxSorted: a sorted copy. -/
import Derived.Test.YtbfcnimebdoagaaI
import Derived.Test.YtbfcnimebdoagaaShelf
namespace Go.Proofs.Ytbfcnimebdoagaa
open Go.RowKit Go.Sort
set_option linter.unusedVariables false
set_option linter.unusedSimpArgs false

def srt (xs : List Int) : List Int := xs.mergeSort fun x y => decide (x ≤ y)
theorem srt_len (xs : List Int) : (srt xs).length = xs.length := by simp [srt]
theorem srt_perm (xs : List Int) : (srt xs).Perm xs := List.mergeSort_perm _ _
theorem srt_sorted (xs : List Int) : (srt xs).Pairwise (· ≤ ·) := by
  have h := List.pairwise_mergeSort (le := fun x y : Int => decide (x ≤ y)) (fun a b c h1 h2 => by simp only [decide_eq_true_eq] at *; omega) (fun a b => by simp only [Bool.or_eq_true, decide_eq_true_eq]; omega) xs
  exact h.imp fun h => by simpa using h
/-- Two sorted lists of the same numbers are one. -/
theorem sorted_eq : ∀ {xs ys : List Int}, xs.Pairwise (· ≤ ·) → ys.Pairwise (· ≤ ·) → xs.Perm ys → xs = ys
  | [], ys, _, _, h => by have := h.length_eq; cases ys <;> simp_all
  | x :: xs, [], _, _, h => by have := h.length_eq; simp_all
  | x :: xs, y :: ys, h1, h2, h => by
    have hx := List.pairwise_cons.1 h1
    have hy := List.pairwise_cons.1 h2
    have e : x = y := by
      have m1 : x ∈ y :: ys := h.subset (by simp)
      have m2 : y ∈ x :: xs := h.symm.subset (by simp)
      rcases List.mem_cons.1 m1 with e | m1
      · exact e
      · rcases List.mem_cons.1 m2 with e | m2
        · exact e.symm
        · have := hx.1 y m2
          have := hy.1 x m1
          omega
    subst e
    rw [sorted_eq hx.2 hy.2 (List.Perm.cons_inv h)]
theorem srt_eq {xs ys : List Int} (h : xs.Perm ys) : srt xs = srt ys := sorted_eq (srt_sorted xs) (srt_sorted ys) ((srt_perm xs).trans (h.trans (srt_perm ys).symm))
theorem srt_of_sorted {xs : List Int} (h : xs.Pairwise (· ≤ ·)) : srt xs = xs := sorted_eq (srt_sorted xs) h (srt_perm xs)

theorem iv_getD {xs : List Int} {j : Nat} (h : j < xs.length) : (iv xs)[j]? = some (.int .i64 (xs.getD j 0)) := by
  simp [iv, List.getD, h]

/-- Clone of numbers. -/
theorem clone_int (A : Option Addr) (n c : Nat) (xs : List Int) (w : World) (hx : xs.length = n) (hn : n ≤ 1000000) (hA : Rd w A (iv xs)) :
    Calls Try.prog 43 #[.slice A n c] w fun r w' => ∃ v, r = .returned v ∧ w'.ownsRow w.heap.size 3 1 v n (iv xs) ∧ Ch S0 w w' := by
  match A, n, hx, hA with
  | none, 0, hx, hA =>
    have : xs = [] := List.eq_nil_of_length_eq_zero hx
    subst this
    exact (Try.slices_Clone_int_nil 0 c w).mono fun r w' ⟨h1, h2⟩ => ⟨_, h1, World.ownsRow_nil _ _ _ _, by rw [h2]; exact Ch.refl _ _⟩
  | some a, 0, hx, hA =>
    have : xs = [] := List.eq_nil_of_length_eq_zero hx
    subst this
    exact (Try.slices_Clone_int_zero a c w).mono fun r w' ⟨v, h1, h2, _, h3⟩ => ⟨v, h1, h2, Ch.of_below h3 _⟩
  | A, n + 1, hx, hA =>
    obtain ⟨b, o, rfl, _⟩ := hA.lt (by simp; omega)
    refine (Try.slices_Clone_int b o (n + 1) c xs w (by omega) (by omega) (fun j hj => ?_)).mono fun r w' ⟨v, h1, h2, _, h3⟩ => ⟨v, h1, ?_, Ch.of_below h3 _⟩
    · obtain ⟨b', o', e, h⟩ := hA.at (iv_getD hj)
      cases e
      exact h
    · have e : (xs.take (n + 1)).map (Value.int .i64) = iv xs := by rw [List.take_of_length_le (by omega)]; rfl
      rw [← e]
      exact h2

/-- Sort of a row of one's own. -/
theorem sort_int (base n : Nat) (v : Value) (xs : List Int) (w : World) (hx : xs.length = n) (hn : n ≤ 1000000) (hO : w.ownsRow base 3 1 v n (iv xs)) :
    Calls Try.prog 44 #[v] w fun r w' => r = .returned (.tuple #[]) ∧ (∃ A cap, v = .slice A n cap ∧ Rd w' A (iv (srt xs))) ∧ Ch (fun k => v.ownBlock = some k) w w' := by
  obtain ⟨A, cap, rfl, hR, _, hA, hA2, _⟩ := own_rd hO
  match n, hx, hA2 with
  | 0, hx, _ =>
    have : xs = [] := List.eq_nil_of_length_eq_zero hx
    subst this
    exact (Try.slices_Sort_int_none A cap w).mono fun r w' ⟨h1, h2⟩ => ⟨h1, ⟨A, cap, rfl, by simpa [srt, iv] using Rd.nil _ _⟩, by rw [h2]; exact Ch.refl _ _⟩
  | n + 1, hx, hA2 =>
    obtain ⟨b, rfl⟩ := hA2.resolve_left (by omega)
    have hb := (hA b 0 none rfl).2.2
    have hfr : ∀ j, w.frozen? ⟨b, j, none⟩ = false := fun j => by
      rcases hO.2 with ⟨e, _⟩ | ⟨g, cap', cur, e, _, hh, _⟩
      · cases e
      · cases e
        simp [World.frozen?, hh]
    have hH : Holds (Value.int .i64) w b 0 xs.toArray := fun j hj => by
      have hj' : j < xs.length := by simpa using hj
      obtain ⟨b', o', e, h⟩ := hR.at (iv_getD hj')
      cases e
      refine ⟨?_, hfr _⟩
      rw [h]
      simp [hj']
    have hsz : (srt xs).toArray.size = xs.toArray.size := by simp [srt_len]
    have hc := Try.slices_Sort_int b 0 cap xs w hH hb (by omega)
    rw [hx] at hc
    refine hc.mono fun r w' ⟨h1, m, os, h2⟩ => ⟨h1, ⟨_, cap, rfl, fun j u hj => ⟨b, 0, rfl, ?_⟩⟩, ?_⟩
    · have hjl : j < (srt xs).length := by
        have := (List.getElem?_eq_some_iff.1 hj).1
        simpa using this
      have e := cell?_putRow (Value.int .i64) (Sort.ahead w m) b 0 xs.toArray (srt xs).toArray hH hsz j (by simpa using hjl)
      rw [h2, cell?_grow _ _ _ (by simpa using hb)]
      refine e.trans ?_
      rw [iv_getD hjl] at hj
      rw [← hj]
      simp [hjl]
    · rw [h2]
      refine ⟨rfl, rfl, rfl, by simp [grow], fun k hk hne => ?_⟩
      have hkb : b ≠ k := fun e => hne (by simp [Value.ownBlock, e])
      simp only [grow]
      rw [Array.getElem?_append_left (by simpa using hk)]
      simp [putRow, mapBlock, Array.getElem?_modify, hkb]

set_option maxRecDepth 100000 in
theorem sorted_any (A : Option Addr) (n c : Nat) (xs : List Int) (w : World) (hx : xs.length = n) (hn : n ≤ 1000000) (hA : Rd w A (iv xs)) :
    Calls Try.prog 30 #[.slice A n c] w fun r w' => ∃ A' cap, r = .returned (.slice A' n cap) ∧ Rd w' A' (iv (srt xs)) ∧ Ch S0 w w' := by
  have HX := Lib.hid hx
  have HA := Lib.hid hA
  clear hx hA
  go_enter Try.func30, Try.ntmps30
  go_wp2_with fail
  refine (clone_int A n c xs _ HX.out hn HA.out).mono ?_
  rintro r w1 ⟨v, rfl, hO, hC⟩
  have HO := Lib.hid hO
  have HC := Lib.hid hC
  clear hO hC
  go_wp2_with fail
  refine (sort_int _ n v xs _ HX.out hn HO.out).mono ?_
  rintro r w2 ⟨rfl, ⟨A', cap, rfl, hR⟩, hC2⟩
  have HR := Lib.hid hR
  have HC2 := Lib.hid (HC.out.trans' hC2 (fun i hi hs => absurd (own_lt HO.out i hs).1 (by omega)))
  clear hR hC2
  go_wp2_with fail
  go_ret
  exact ⟨_, _, rfl, HR.out, HC2.out⟩
end Go.Proofs.Ytbfcnimebdoagaa
