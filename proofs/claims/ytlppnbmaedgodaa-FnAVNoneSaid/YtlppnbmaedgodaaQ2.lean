/- WALKS: equal slices; steps copied. -/
import Derived.Test.YtlppnbmaedgodaaQ1
namespace Go.Proofs.Ytlppnbmaedgodaa
open Go.RowKit
set_option linter.unusedVariables false
set_option linter.unusedSimpArgs false

set_option maxRecDepth 100000 in
set_option maxHeartbeats 4000000 in
theorem eqE_same (A B : Option Addr) (n c1 c2 : Nat) (es : List (Int × Int)) (w : World) (hl : es.length = n) (hn : n ≤ 100000) (hA : Rd w A (ec es)) (hB : Rd w B (ec es)) :
    Calls Try.prog 9 #[.slice A n c1, .slice B n c2] w fun r w' => r = .returned (.bool true) ∧ Ch S0 w w' := by
  have HL := Lib.hid hl
  have HA := Lib.hid hA
  have HB := Lib.hid hB
  clear hl hA hB
  go_enter Try.func9, Try.ntmps9
  go_wp2_with fail
  go_loopw [13] (fun vi wr => ∃ i : Nat, i ≤ n ∧ vi = .int .i64 i ∧ Ch S0 w wr) (fun vi _ => n - (intOf vi).toNat)
  case atStart => exact ⟨0, by omega, rfl, Ch.refl _ _⟩
  case round =>
    obtain ⟨i, hi, rfl, hC⟩ := hrel
    have HC := Lib.hid hC
    clear hC
    by_cases hlt : i < n
    · have hlti : (i : Int) < (n : Nat) := by omega
      have hi0 : (0 : Int) ≤ (i : Nat) := by omega
      have hit : ((i : Nat) : Int).toNat = i := by omega
      obtain ⟨⟨k, v⟩, hx⟩ : ∃ x, es[i]? = some x := ⟨es[i]'(by have := HL.out; omega), by simp [HL.out, hlt]⟩
      obtain ⟨q, o, e, c0, c1⟩ := rd_ec (HA.out.keep0 HC.out) hx
      subst e
      obtain ⟨q2, o2, e, d0, d1⟩ := rd_ec (HB.out.keep0 HC.out) hx
      subst e
      simp only at c0 c1 d0 d1
      have hk : (k == k) = true := by simp
      have hv : (v == v) = true := by simp
      clear hx
      go_wp2_with fail
      go_quiet (fail)
      go_wp2_with fail
      go_roundw
      case rel => exact ⟨i + 1, by omega, by go_num, HC.out.trans ⟨rfl, rfl, rfl, Nat.le_refl _, fun _ _ _ => rfl⟩⟩
      case measure => simp [intOf]; omega
    · have hin : ¬ (i : Int) < (n : Nat) := by omega
      go_wp2_with fail
      go_ret
      exact ⟨rfl, HC.out⟩
set_option maxRecDepth 100000 in
set_option maxHeartbeats 4000000 in
theorem eqB_same (A B : Option Addr) (n c1 c2 : Nat) (bs : List Bool) (w : World) (hl : bs.length = n) (hn : n ≤ 100000) (hA : Rd w A (bs.map .bool)) (hB : Rd w B (bs.map .bool)) :
    Calls Try.prog 15 #[.slice A n c1, .slice B n c2] w fun r w' => r = .returned (.bool true) ∧ Ch S0 w w' := by
  have HL := Lib.hid hl
  have HA := Lib.hid hA
  have HB := Lib.hid hB
  clear hl hA hB
  go_enter Try.func15, Try.ntmps15
  go_wp2_with fail
  go_loopw [13] (fun vi wr => ∃ i : Nat, i ≤ n ∧ vi = .int .i64 i ∧ Ch S0 w wr) (fun vi _ => n - (intOf vi).toNat)
  case atStart => exact ⟨0, by omega, rfl, Ch.refl _ _⟩
  case round =>
    obtain ⟨i, hi, rfl, hC⟩ := hrel
    have HC := Lib.hid hC
    clear hC
    by_cases hlt : i < n
    · have hlti : (i : Int) < (n : Nat) := by omega
      have hi0 : (0 : Int) ≤ (i : Nat) := by omega
      have hit : ((i : Nat) : Int).toNat = i := by omega
      obtain ⟨b, hx⟩ : ∃ x, bs[i]? = some x := ⟨bs[i]'(by have := HL.out; omega), by simp [HL.out, hlt]⟩
      have hx2 : (bs.map Value.bool)[i]? = some (.bool b) := by simp [hx]
      obtain ⟨q, o, e, c0⟩ := (HA.out.keep0 HC.out).at hx2
      subst e
      obtain ⟨q2, o2, e, d0⟩ := (HB.out.keep0 HC.out).at hx2
      subst e
      clear hx hx2
      cases b
      all_goals go_wp2_with fail
      all_goals go_quiet (fail)
      all_goals go_wp2_with fail
      all_goals go_roundw
      all_goals first | exact ⟨i + 1, by omega, by go_num, HC.out.trans ⟨rfl, rfl, rfl, Nat.le_refl _, fun _ _ _ => rfl⟩⟩ | (simp [intOf]; omega)
    · have hin : ¬ (i : Int) < (n : Nat) := by omega
      go_wp2_with fail
      go_ret
      exact ⟨rfl, HC.out⟩
theorem stC_len (ss : List St) : (stC ss).length = ss.length * 3 := c3_len St.cells (fun _ => rfl) ss
theorem stC_one (ss : List St) : ∀ u ∈ stC ss, u.oneCell' = true := by
  intro u hu
  simp only [stC, List.mem_flatMap, St.cells] at hu
  obtain ⟨s, _, hu⟩ := hu
  simp at hu
  rcases hu with rfl | rfl | rfl <;> rfl
theorem elSt : EL Try.prog 28 27 3 40 := EL.of (z := .agg #[.int .i64 0, .int .i64 0, .slice none 0 0]) Try.underlying28 (by kernel_rfl) rfl (by decide)
set_option maxRecDepth 100000 in
set_option maxHeartbeats 4000000 in
theorem clone_any (b o N c : Nat) (ss : List St) (w : World) (hN : ss.length = N) (hN2 : N ≤ 1000) (hA : Rd w (some ⟨b, o, none⟩) (stC ss)) :
    Calls Try.prog 16 #[.slice (some ⟨b, o, none⟩) N c] w fun r w' => (∃ v, r = .returned v ∧ w'.ownsRow w.heap.size 27 3 v N (stC ss)) ∧ Ch S0 w w' := by
  have hnn : ∀ w, (binOp .eql 28 (.slice (some ⟨b, o, none⟩) N c) (.slice none 0 0)).run Try.prog w = .ok (.bool false) w := fun w => by kernel_rfl
  have h0 : (w.alloc (.cells #[] 27)).ownsRow w.heap.size 27 3 (.slice (some ⟨w.heap.size, 0, none⟩) 0 0) 0 [] := World.ownsRow_made w (e := 27) (size := 3) (base := w.heap.size) #[] 0 (Nat.le_refl _) (by unfold maxLen; omega) (by simp)
  have HO0 := Lib.hid h0
  have HA := Lib.hid (hA.keep0 ((Ch.refl S0 w).alloc (.cells #[] 27)))
  have HN := Lib.hid hN
  clear hA hN h0
  go_enter Try.func16, Try.ntmps16
  go_wp2_with (at_builtin; go_loud (refine app_all elSt rfl (.tmp 5) (.tmp 6) rfl w.heap.size 0 (.slice (some ⟨w.heap.size, 0, none⟩) 0 0) [] rfl HO0.out b o N c (stC ss) (by rw [stC_len, HN.out]) (stC_one ss) rfl HA.out (by unfold maxLen; omega) (by omega) (by simp only [World.size_alloc]; omega) ?_); intro v' w4 hown4 hc4 hb4 _; have HOw := Lib.hid hown4; have HC4 := Lib.hid hc4; clear hown4 hc4 hb4)
  go_ret
  refine ⟨⟨_, rfl, ?_⟩, ?_⟩
  · have := HOw.out
    simpa using this
  · exact ((Ch.refl S0 w).alloc _).trans' HC4.out (fun j hj e => by simp [Value.ownBlock] at e; omega)
end Go.Proofs.Ytlppnbmaedgodaa
