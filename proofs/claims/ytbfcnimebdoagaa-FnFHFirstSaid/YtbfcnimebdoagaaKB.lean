/- WALKS: a list turned round. -/
import Derived.Test.YtbfcnimebdoagaaFX
import Derived.Test.YtbfcnimebdoagaaD1
namespace Go.Proofs.Ytbfcnimebdoagaa
open Go.RowKit
set_option linter.unusedVariables false
set_option linter.unusedSimpArgs false

def rvF (xs : List Int) (n i k : Nat) : Int := if k < i ∨ n - 1 - i < k then xs.getD (n - 1 - k) 0 else xs.getD k 0
def rvL (xs : List Int) (n i : Nat) : List Int := (List.range n).map (rvF xs n i)
theorem rvL_len (xs : List Int) (n i : Nat) : (rvL xs n i).length = n := by simp [rvL]
theorem rvL_at {xs : List Int} {n i k : Nat} (h : k < n) : (rvL xs n i)[k]? = some (rvF xs n i k) := by simp [rvL, h]
theorem rvL_zero {xs : List Int} {n : Nat} (h : xs.length = n) : rvL xs n 0 = xs := by
  apply List.ext_getElem?
  intro k
  by_cases hk : k < n
  · rw [rvL_at hk]
    have : ¬ (k < 0 ∨ n - 1 - 0 < k) := by omega
    unfold rvF
    rw [if_neg this, List.getElem?_eq_getElem (by omega)]
    simp [List.getD, List.getElem?_eq_getElem (show k < xs.length by omega)]
  · rw [List.getElem?_eq_none (by rw [rvL_len]; omega), List.getElem?_eq_none (by omega)]
theorem rvL_done {xs : List Int} {n i : Nat} (h : xs.length = n) (hi : n ≤ 2 * i + 1) : rvL xs n i = xs.reverse := by
  apply List.ext_getElem?
  intro k
  by_cases hk : k < n
  · rw [rvL_at hk, List.getElem?_reverse (by omega)]
    unfold rvF
    rw [h]
    by_cases hc : k < i ∨ n - 1 - i < k
    · rw [if_pos hc, List.getElem?_eq_getElem (by omega)]
      simp [List.getD, List.getElem?_eq_getElem (show n - 1 - k < xs.length by omega)]
    · rw [if_neg hc, show n - 1 - k = k by omega, List.getElem?_eq_getElem (by omega)]
      simp [List.getD, List.getElem?_eq_getElem (show k < xs.length by omega)]
  · rw [List.getElem?_eq_none (by rw [rvL_len]; omega), List.getElem?_eq_none (by rw [List.length_reverse]; omega)]
theorem rvL_step {xs : List Int} {n i j : Nat} (hj : i + j + 1 = n) (hij : i < j) : ((rvL xs n i).set i (rvF xs n i j)).set j (rvF xs n i i) = rvL xs n (i + 1) := by
  apply List.ext_getElem?
  intro k
  by_cases hk : k < n
  · rw [rvL_at hk]
    by_cases e1 : k = j
    · subst e1
      rw [List.getElem?_set_self (by rw [List.length_set, rvL_len]; omega)]
      unfold rvF
      rw [if_neg (by omega), if_pos (by omega), show n - 1 - k = i by omega]
    · rw [List.getElem?_set_ne (Ne.symm e1)]
      by_cases e2 : k = i
      · subst e2
        rw [List.getElem?_set_self (by rw [rvL_len]; omega)]
        unfold rvF
        rw [if_neg (by omega), if_pos (by omega), show n - 1 - k = j by omega]
      · rw [List.getElem?_set_ne (Ne.symm e2), rvL_at hk]
        unfold rvF
        by_cases hc : k < i ∨ n - 1 - i < k
        · rw [if_pos hc, if_pos (by omega)]
        · rw [if_neg hc, if_neg (by omega)]
  · rw [List.getElem?_eq_none (by rw [List.length_set, List.length_set, rvL_len]; omega), List.getElem?_eq_none (by rw [rvL_len]; omega)]
set_option maxRecDepth 100000 in
set_option maxHeartbeats 8000000 in
theorem rev_any (base g n c : Nat) (xs : List Int) (w : World) (hx : xs.length = n) (hn : n ≤ 100000) (hO : w.ownsRow base 37 1 (.slice (some ⟨g, 0, none⟩) n c) n (sv xs)) :
    Calls Try.prog 29 #[.slice (some ⟨g, 0, none⟩) n c] w fun r w' => r = .returned (.tuple #[]) ∧ w'.ownsRow base 37 1 (.slice (some ⟨g, 0, none⟩) n c) n (sv xs.reverse) ∧ Ch (S1 g) w w' := by
  have HX := Lib.hid hx
  have HO := Lib.hid hO
  clear hx hO
  have hn0 : (0 : Int) ≤ (n : Nat) := by omega
  have hn1 : (n : Int) ≤ 100000 := by omega
  go_enter Try.func29, Try.ntmps29
  go_wp2_with fail
  go_loopw [2, 3] (fun vi vj wr => ∃ i : Nat, 2 * i ≤ n + 1 ∧ vi = .int .i64 i ∧ vj = .int .i64 ((n : Int) - 1 - i) ∧ wr.ownsRow base 37 1 (.slice (some ⟨g, 0, none⟩) n c) n (sv (rvL xs n i)) ∧ Ch (S1 g) w wr) (fun vi _ _ => n - (intOf vi).toNat)
  case atStart => exact ⟨0, by omega, rfl, by simp, by rw [rvL_zero HX.out]; exact HO.out, Ch.refl _ _⟩
  case round =>
    obtain ⟨i, hi, rfl, rfl, hOr, hC⟩ := hrel
    have HOr := Lib.hid hOr
    have HC := Lib.hid hC
    clear hOr hC
    by_cases hlt : 2 * i + 1 < n
    · obtain ⟨j, hj⟩ : ∃ j, i + j + 1 = n := ⟨n - 1 - i, by omega⟩
      have hje : (n : Int) - 1 - i = (j : Nat) := by omega
      rw [hje]
      have hij : (i : Int) < (j : Nat) := by omega
      have hi0 : (0 : Int) ≤ (i : Nat) := by omega
      have hj0 : (0 : Int) ≤ (j : Nat) := by omega
      have hin : (i : Int) < (n : Nat) := by omega
      have hjn : (j : Int) < (n : Nat) := by omega
      have ci := HOr.out.cellAt i (by omega)
      have cj := HOr.out.cellAt j (by omega)
      rw [sv_at (rvL_at (by omega))] at ci cj
      obtain ⟨p, hp⟩ : ∃ p, p = rvF xs n i i := ⟨_, rfl⟩
      obtain ⟨q, hq⟩ : ∃ p, p = rvF xs n i j := ⟨_, rfl⟩
      rw [← hp] at ci
      rw [← hq] at cj
      have fi := HOr.out.frozenAt i
      have fj := HOr.out.frozenAt j
      have hs1 := HOr.out.stored i (.int .i16 q)
      have cj2 := hs1.1.cellAt j (by omega)
      have fj2 := hs1.1.frozenAt j
      have ci2 := hs1.1.cellAt i (by omega)
      rw [List.getElem?_set_ne (by omega), sv_at (rvL_at (by omega)), ← hq] at cj2
      have hs2 := hs1.1.stored j (.int .i16 p)
      have HS2 := Lib.hid hs2
      have HS1 := Lib.hid hs1
      have HP := Lib.hid hp
      have HQ := Lib.hid hq
      have HJ := Lib.hid hj
      have HJe := Lib.hid hje
      have HIJ : Hid (i < j) := Lib.hid (by omega)
      clear hs1 hs2 hp hq hj hje hlt hi ci2
      go_wp2_with fail
      go_region
      clear ci cj cj2 fi fj fj2
      go_wp2_with fail
      go_roundw
      case rel =>
        have hj := HJ.out
        refine ⟨i + 1, by omega, by go_num, ?_, ?_, ?_⟩
        · have e : (j : Int) - 1 = (n : Int) - 1 - ((i + 1 : Nat) : Int) := by omega
          first | exact congrArg (Value.int IntKind.i64) e | (simp only [Value.int.injEq, true_and]; omega)
        · have h2 := HS2.out.1
          have e : ((sv (rvL xs n i)).set i (.int .i16 q)).set j (.int .i16 p) = sv (rvL xs n (i + 1)) := by
            rw [← rvL_step hj HIJ.out, HP.out, HQ.out]
            simp [sv, List.map_set]
          rw [e] at h2
          exact h2
        · have c1 : Ch (S1 g) wr _ := Ch.ofGrown HS1.out.2 (fun k e => by cases e; rfl)
          have c2 : Ch (S1 g) _ _ := Ch.ofGrown HS2.out.2 (fun k e => by cases e; rfl)
          exact ((HC.out.trans c1).trans c2).drew
      case measure => have := HJ.out; have := HIJ.out; simp [intOf]; omega
    · have hnl : ¬ (i : Int) < (n : Int) - 1 - i := by omega
      have hd := rvL_done HX.out (show n ≤ 2 * i + 1 by omega)
      have HOd : Hid (wr.ownsRow base 37 1 (.slice (some ⟨g, 0, none⟩) n c) n (sv xs.reverse)) := Lib.hid (by rw [← hd]; exact HOr.out)
      clear hd
      go_wp2_with fail
      go_end0
      exact ⟨rfl, HOd.out, HC.out⟩
theorem elI16 : EL Try.prog 22 37 1 2 := EL.of (z := .int .i16 0) Try.underlying22 (by kernel_rfl) rfl (by decide)
theorem sv_one (xs : List Int) : ∀ u ∈ sv xs, u.oneCell' = true := by
  intro u hu
  simp only [sv, List.mem_map] at hu
  obtain ⟨x, _, rfl⟩ := hu
  rfl
set_option maxRecDepth 100000 in
theorem clone16_any (b o n c : Nat) (xs : List Int) (w : World) (hx : xs.length = n) (h0 : 0 < n) (hn : n ≤ 100000) (hA : Rd w (some ⟨b, o, none⟩) (sv xs)) :
    Calls Try.prog 28 #[.slice (some ⟨b, o, none⟩) n c] w fun r w' => ∃ v, r = .returned v ∧ w'.ownsRow w.heap.size 37 1 v n (sv xs) ∧ Ch S0 w w' := by
  have hnn : ∀ w, (binOp .eql 22 (.slice (some ⟨b, o, none⟩) n c) (.slice none 0 0)).run Try.prog w = .ok (.bool false) w := fun w => by kernel_rfl
  have h0 : (w.alloc (.cells #[] 37)).ownsRow w.heap.size 37 1 (.slice (some ⟨w.heap.size, 0, none⟩) 0 0) 0 [] := World.ownsRow_made w (e := 37) (size := 1) (base := w.heap.size) #[] 0 (Nat.le_refl _) (by unfold maxLen; omega) (by simp)
  have HO0 := Lib.hid h0
  have HA := Lib.hid (hA.keep0 ((Ch.refl S0 w).alloc (.cells #[] 37)))
  have HN := Lib.hid hx
  clear hA hx h0
  go_enter Try.func28, Try.ntmps28
  go_wp2_with (at_builtin; go_loud (refine app_all elI16 rfl (.tmp 5) (.tmp 6) rfl w.heap.size 0 (.slice (some ⟨w.heap.size, 0, none⟩) 0 0) [] rfl HO0.out b o n c (sv xs) (by rw [sv_length, HN.out, Nat.mul_one]) (sv_one xs) rfl HA.out (by unfold maxLen; omega) (by omega) (by simp only [World.size_alloc]; omega) ?_); intro v' w4 hown4 hc4 hb4 _; have HOw := Lib.hid hown4; have HC4 := Lib.hid hc4; clear hown4 hc4 hb4)
  go_ret
  refine ⟨_, rfl, ?_, ?_⟩
  · have := HOw.out
    simpa using this
  · exact ((Ch.refl S0 w).alloc _).trans' HC4.out (fun j hj e => by simp [Value.ownBlock] at e; omega)
set_option maxRecDepth 100000 in
theorem turned_any (A : Option Addr) (n c : Nat) (xs : List Int) (w : World) (hx : xs.length = n) (h0 : 0 < n) (hn : n ≤ 100000) (hA : Rd w A (sv xs)) :
    Calls Try.prog 14 #[.slice A n c] w fun r w' => ∃ v, r = .returned v ∧ w'.ownsRow w.heap.size 37 1 v n (sv xs.reverse) ∧ Ch S0 w w' := by
  obtain ⟨b, o, rfl, _⟩ := hA.lt (by rw [sv_length, hx]; exact h0)
  have HCl := Lib.hid (clone16_any b o n c xs w hx h0 hn hA)
  have HX := Lib.hid hx
  clear hA hx
  go_enter Try.func14, Try.ntmps14
  go_wp2_with fail
  refine HCl.out.mono ?_
  rintro r w1 ⟨v, rfl, hO, hC⟩
  obtain ⟨A1, c1, rfl, _, _, _, hA1, _⟩ := own_rd hO
  obtain ⟨g, rfl⟩ := hA1.resolve_left (by omega)
  have hrv := rev_any w.heap.size g n c1 xs w1 HX.out hn hO
  have hgl := (own_lt hO g rfl).1
  have HRv := Lib.hid hrv
  have HC := Lib.hid hC
  have HG := Lib.hid hgl
  clear hO hrv hC hgl hA1
  go_wp2_with fail
  refine HRv.out.mono ?_
  rintro r w2 ⟨rfl, hO2, hC2⟩
  have HO2 := Lib.hid hO2
  have HC2 := Lib.hid hC2
  clear hO2 hC2
  go_wp2_with fail
  go_ret
  exact ⟨_, rfl, HO2.out, HC.out.trans' HC2.out (fun k hk e => by have e : k = g := e; have := HG.out; omega)⟩
end Go.Proofs.Ytbfcnimebdoagaa
