/- WALKS: dgFew, Clone of edges. -/
import Derived.Test.YtjifdcklmpibpaaDoorK
namespace Go.Proofs.YtjifdcklmpibpaaDoor
open Go.RowKit
set_option linter.unusedVariables false
set_option linter.unusedSimpArgs false

def inR (x : Int × Int) : Bool := decide (0 ≤ x.1 ∧ x.1 ≤ 12 ∧ 0 ≤ x.2 ∧ x.2 ≤ 12)
def few (xs : List (Int × Int)) : Bool := xs.all inR && decide (0 < xs.length) && decide (xs.length ≤ 20)
theorem few_false {xs : List (Int × Int)} {i : Nat} {x : Int × Int} (h : xs[i]? = some x) (hx : inR x = false) : few xs = false := by
  have : xs.all inR = false := by
    rw [List.all_eq_false]
    exact ⟨x, List.mem_of_getElem? h, by simp [hx]⟩
  simp [few, this]
theorem all_take_succ {α : Type} {p : α → Bool} {xs : List α} {i : Nat} {x : α} (h : (xs.take i).all p = true) (hx : xs[i]? = some x) (hp : p x = true) : (xs.take (i + 1)).all p = true := by
  rw [List.take_add_one, hx]
  simp [List.all_append, h, hp]

set_option maxRecDepth 100000 in
theorem few_any (n cap : Nat) (A : Option Addr) (xs : List (Int × Int)) (w : World) (hn : xs.length = n) (hn1 : n ≤ 2147483647) (hA : Rd w A (ev xs)) :
    Calls Tryd.prog 6 #[.slice A n cap] w fun r w' => r = .returned (.bool (few xs)) ∧ Ch S0 w w' := by
  have HA := Lib.hid hA
  have HN := Lib.hid hn
  clear hA hn
  go_enter Tryd.func6, Tryd.ntmps6
  go_wp2_with fail
  go_loopw [7] (fun vi wr => ∃ i : Nat, i ≤ n ∧ vi = .int .i64 i ∧ (xs.take i).all inR = true ∧ Ch S0 w wr) (fun vi _ => n - (intOf vi).toNat)
  case atStart => exact ⟨0, by omega, rfl, rfl, Ch.refl _ _⟩
  case round =>
    obtain ⟨i, hi, rfl, ht, hC⟩ := hrel
    have HT := Lib.hid ht
    have HC := Lib.hid hC
    clear ht hC
    by_cases hlt : i < n
    · have hlti : (i : Int) < (n : Nat) := by omega
      obtain ⟨x, hx⟩ : ∃ x, xs[i]? = some x := ⟨xs[i]'(by have := HN.out; omega), by simp [HN.out, hlt]⟩
      obtain ⟨q, o, hAe, c0, c1⟩ := rd_edge (HA.out.keep0 HC.out) hx
      subst hAe
      obtain ⟨x1, x2⟩ := x
      simp only at c0 c1
      by_cases hin : 0 ≤ x1 ∧ x1 ≤ 12 ∧ 0 ≤ x2 ∧ x2 ≤ 12
      · have HTs := Lib.hid (all_take_succ HT.out hx (by simp [inR, hin]))
        obtain ⟨h1, h2, h3, h4⟩ := hin
        have n1 : ¬ x1 < 0 := by omega
        have n2 : ¬ 12 < x1 := by omega
        have n3 : ¬ x2 < 0 := by omega
        have n4 : ¬ 12 < x2 := by omega
        clear hx
        go_wp2_with fail
        go_roundw
        case rel => exact ⟨i + 1, by omega, by go_num, HTs.out, HC.out.alloc _⟩
        case measure => simp [intOf]; omega
      · have HF := Lib.hid (few_false hx (by simp only [inR, decide_eq_false_iff_not]; exact hin))
        have hcs : x1 < 0 ∨ (¬ x1 < 0 ∧ 12 < x1) ∨ (¬ x1 < 0 ∧ ¬ 12 < x1 ∧ x2 < 0) ∨ (¬ x1 < 0 ∧ ¬ 12 < x1 ∧ ¬ x2 < 0 ∧ 12 < x2) := by omega
        clear hx hin
        rcases hcs with n1 | ⟨n1, n2⟩ | ⟨n1, n2, n3⟩ | ⟨n1, n2, n3, n4⟩
        all_goals
          go_wp2_with fail
          go_ret
          exact ⟨by rw [HF.out]; rfl, HC.out.alloc _⟩
    · have hin : ¬ (i : Int) < (n : Nat) := by omega
      have hie : i = n := by omega
      have ha : xs.all inR = true := by
        have := HT.out
        rwa [hie, ← HN.out, List.take_length] at this
      by_cases h0 : 0 < n
      · have h0i : (0 : Int) < (n : Nat) := by omega
        by_cases h20 : n ≤ 20
        · have h20i : (n : Int) ≤ 20 := by omega
          have HF : Hid (few xs = true) := Lib.hid (by simp [few, ha, HN.out, h0, h20])
          clear ha hie
          go_wp2_with fail
          go_ret
          exact ⟨by rw [HF.out]; rfl, HC.out⟩
        · have h20i : ¬ (n : Int) ≤ 20 := by omega
          have HF : Hid (few xs = false) := Lib.hid (by simp [few, ha, HN.out, h20])
          clear ha hie
          go_wp2_with fail
          go_ret
          exact ⟨by rw [HF.out]; rfl, HC.out⟩
      · have h0i : ¬ (0 : Int) < (n : Nat) := by omega
        have HF : Hid (few xs = false) := Lib.hid (by simp [few, HN.out, h0])
        clear ha hie
        go_wp2_with fail
        go_ret
        exact ⟨by rw [HF.out]; rfl, HC.out⟩

theorem elEdge : EL Tryd.prog 22 24 2 16 := EL.of (z := .agg #[.int .i64 0, .int .i64 0]) Tryd.underlying22 (by kernel_rfl) rfl (by decide)
theorem ev_one (xs : List (Int × Int)) : ∀ u ∈ ev xs, u.oneCell' = true := by
  intro u hu
  simp only [ev, List.mem_flatMap] at hu
  obtain ⟨x, _, hx⟩ := hu
  simp at hx
  rcases hx with rfl | rfl <;> rfl

set_option maxRecDepth 100000 in
theorem clone_edges (n cap : Nat) (b off : Nat) (xs : List (Int × Int)) (w : World) (hn : xs.length = n) (hn1 : n ≤ 1000) (hA : Rd w (some ⟨b, off, none⟩) (ev xs)) :
    Calls Tryd.prog 7 #[.slice (some ⟨b, off, none⟩) n cap] w fun r w' => ∃ v, r = .returned v ∧ w'.ownsRow w.heap.size 24 2 v n (ev xs) ∧ Ch S0 w w' := by
  have HA := Lib.hid hA
  have HN := Lib.hid hn
  have hl := ev_length xs
  have HL := Lib.hid hl
  have HO : Hid ((w.alloc (.cells #[] 24)).ownsRow w.heap.size 24 2 (.slice (some ⟨w.heap.size, 0, none⟩) 0 0) 0 []) := Lib.hid (World.ownsRow_made w #[] 0 (Nat.le_refl _) (by unfold maxLen; omega) rfl)
  have HC : Hid (Ch S0 w (w.alloc (.cells #[] 24))) := Lib.hid ((Ch.refl S0 w).alloc _)
  have hnn := Lib.run_eql_slice_nil (P := Tryd.prog) w 22 24 (some ⟨b, off, none⟩) n cap 0 0 Tryd.underlying22
  clear hA hn hl
  go_enter Tryd.func7, Tryd.ntmps7
  go_wp2_with (at_builtin; go_loud (refine app_all elEdge rfl _ _ rfl w.heap.size 0 _ [] rfl HO.out b off n cap (ev xs) (by rw [HL.out, HN.out]) (ev_one xs) rfl (HA.out.keep0 HC.out) (by unfold maxLen; omega) (by omega) HC.out.size ?_); intro v' w4 hown4 hc4 hb4 hnil; have HOw := Lib.hid hown4; have HC4 := Lib.hid hc4; clear hown4 hc4 hb4 hnil)
  go_ret
  refine ⟨_, rfl, by simpa using HOw.out, HC.out.trans' HC4.out (fun j hj hs => ?_)⟩
  have e : w.heap.size = j := Option.some.inj hs
  omega
end Go.Proofs.YtjifdcklmpibpaaDoor
