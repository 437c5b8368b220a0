/- WALKS: steps that enqueue; a clone of steps. -/
import Derived.Test.YtbfcnimebdoagaaFX
import Derived.Test.YtbfcnimebdoagaaFY
import Derived.Test.YtbfcnimebdoagaaD1
namespace Go.Proofs.Ytbfcnimebdoagaa
open Go.RowKit
set_option linter.unusedVariables false
set_option linter.unusedSimpArgs false

theorem enq_take {xs : List Int} {i : Nat} {x : Int} (h : xs[i]? = some x) : hpCells (enqOf (xs.take (i + 1))) = hpCells (enqOf (xs.take i)) ++ [.int .i64 1, .int .i64 0, .int .i64 x, .slice none 0 0] := by
  rw [List.take_add_one, h]
  simp [enqOf, hpCells, hpC, enqS]
set_option maxRecDepth 100000 in
theorem dfEnq_any (A : Option Addr) (n c : Nat) (xs : List Int) (w : World) (hx : xs.length = n) (hn : n ≤ 1000000) (hA : Rd w A (sv xs)) (h16 : is16 xs) :
    Calls Try.prog 10 #[.slice A n c, .int .i64 0] w fun r w' => ∃ v, r = .returned v ∧ w'.ownsRow w.heap.size 28 4 v n (hpCells (enqOf xs)) ∧ Ch S0 w w' := by
  have HX := Lib.hid hx
  have HA := Lib.hid hA
  have H16 := Lib.hid h16
  clear hx hA h16
  go_enter Try.func10, Try.ntmps10
  go_wp2_with fail
  go_loopw [5, 10] (fun vo vi wr => ∃ i : Nat, i ≤ n ∧ vi = .int .i64 i ∧ wr.ownsRow w.heap.size 28 4 vo i (hpCells (enqOf (xs.take i))) ∧ Ch S0 w wr) (fun _ vi _ => n - (intOf vi).toNat)
  case atStart => exact ⟨0, by omega, rfl, World.ownsRow_nil _ _ _ _, Ch.refl _ _⟩
  case round =>
    obtain ⟨i, hi, rfl, hO, hC⟩ := hrel
    have HO := Lib.hid hO
    have HC := Lib.hid hC
    clear hO hC
    by_cases hlt : i < n
    · have hlti : (i : Int) < (n : Nat) := by omega
      obtain ⟨x, hx⟩ : ∃ x, xs[i]? = some x := ⟨xs[i]'(by have := HX.out; omega), by simp [HX.out, hlt]⟩
      obtain ⟨q, o, hAe, c0⟩ := (HA.out.keep0 HC.out).at (sv_at hx)
      subst hAe
      obtain ⟨b1, b2⟩ := H16.out x (List.mem_of_getElem? hx)
      have HT := Lib.hid (enq_take hx)
      have hsz := HC.out.size
      clear hx
      go_wp2_with (at_builtin; go_loud (refine app_own elHs rfl (.tmp 14) (.tmp 20) rfl w.heap.size i u5 (hpCells (enqOf (xs.take i))) rfl HO.out [.int .i64 1, .int .i64 0, .int .i64 x, .slice none 0 0] rfl (by simp [Value.oneCell']) _ rfl rfl (by unfold maxLen; omega) (by omega) hsz ?_); intro v' w4 hown4 hc4 hb4; have HOw := Lib.hid hown4; have HC4 := Lib.hid hc4; clear hown4 hc4 hb4)
      go_roundw
      case rel => exact ⟨i + 1, by omega, by go_num, by rw [HT.out]; exact HOw.out, HC.out.trans' HC4.out (fun j hj hs => absurd (own_lt HO.out j hs).1 (by omega))⟩
      case measure => simp [intOf]; omega
    · have hin : ¬ (i : Int) < (n : Nat) := by omega
      have hie : i = n := by omega
      go_wp2_with fail
      go_ret
      refine ⟨_, rfl, ?_, HC.out⟩
      have := HO.out
      rw [hie, ← HX.out, List.take_length] at this
      rwa [← HX.out]
set_option maxRecDepth 100000 in
set_option maxHeartbeats 4000000 in
theorem clone_hp (b o N c : Nat) (ss : List Hp) (w : World) (hN : ss.length = N) (hN0 : 0 < N) (hN2 : N ≤ 100000) (hA : Rd w (some ⟨b, o, none⟩) (hpCells ss)) :
    Calls Try.prog 27 #[.slice (some ⟨b, o, none⟩) N c] w fun r w' => ∃ v, r = .returned v ∧ w'.ownsRow w.heap.size 28 4 v N (hpCells ss) ∧ Ch S0 w w' := by
  have hnn : ∀ w, (binOp .eql 24 (.slice (some ⟨b, o, none⟩) N c) (.slice none 0 0)).run Try.prog w = .ok (.bool false) w := fun w => by kernel_rfl
  have h0 : (w.alloc (.cells #[] 28)).ownsRow w.heap.size 28 4 (.slice (some ⟨w.heap.size, 0, none⟩) 0 0) 0 [] := World.ownsRow_made w (e := 28) (size := 4) (base := w.heap.size) #[] 0 (Nat.le_refl _) (by unfold maxLen; omega) (by simp)
  have HO0 := Lib.hid h0
  have HA := Lib.hid (hA.keep0 ((Ch.refl S0 w).alloc (.cells #[] 28)))
  have HN := Lib.hid hN
  clear hA hN h0
  go_enter Try.func27, Try.ntmps27
  go_wp2_with (at_builtin; go_loud (refine app_all elHs rfl (.tmp 5) (.tmp 6) rfl w.heap.size 0 (.slice (some ⟨w.heap.size, 0, none⟩) 0 0) [] rfl HO0.out b o N c (hpCells ss) (by rw [hpC_len, HN.out]) (hp_one ss) rfl HA.out (by unfold maxLen; omega) (by omega) (by simp only [World.size_alloc]; omega) ?_); intro v' w4 hown4 hc4 hb4 _; have HOw := Lib.hid hown4; have HC4 := Lib.hid hc4; clear hown4 hc4 hb4)
  go_ret
  refine ⟨_, rfl, ?_, ?_⟩
  · have := HOw.out
    simpa using this
  · exact ((Ch.refl S0 w).alloc _).trans' HC4.out (fun j hj e => by simp [Value.ownBlock] at e; omega)
set_option maxRecDepth 100000 in
theorem clone_hp0 (w : World) : Calls Try.prog 27 #[.slice none 0 0] w fun r w' => r = .returned (.slice none 0 0) ∧ w' = w := by
  have hnn : ∀ w, (binOp .eql 24 (.slice none 0 0) (.slice none 0 0)).run Try.prog w = .ok (.bool true) w := fun w => by kernel_rfl
  go_enter Try.func27, Try.ntmps27
  go_wp2_with fail
  go_ret
  exact ⟨rfl, rfl⟩
/-- A slice of steps that is nil, or lies somewhere. -/
theorem clone_any (A : Option Addr) (N c : Nat) (ss : List Hp) (w : World) (hN : ss.length = N) (hN2 : N ≤ 100000) (hA : Rd w A (hpCells ss)) (hsh : (N = 0 ∧ A = none ∧ c = 0) ∨ 0 < N) :
    Calls Try.prog 27 #[.slice A N c] w fun r w' => ∃ v, r = .returned v ∧ w'.ownsRow w.heap.size 28 4 v N (hpCells ss) ∧ Ch S0 w w' := by
  rcases hsh with ⟨rfl, rfl, rfl⟩ | h0
  · obtain rfl := List.eq_nil_of_length_eq_zero hN
    refine (clone_hp0 w).mono ?_
    rintro r w' ⟨h1, h2⟩
    subst h2
    exact ⟨_, h1, World.ownsRow_nil _ _ _ _, Ch.refl _ _⟩
  · obtain ⟨b, o, rfl, _⟩ := hA.lt (by rw [hpC_len, hN]; omega)
    exact clone_hp b o N c ss w hN h0 hN2 hA
end Go.Proofs.Ytbfcnimebdoagaa
