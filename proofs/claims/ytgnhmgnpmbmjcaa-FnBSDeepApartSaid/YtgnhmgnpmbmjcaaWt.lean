/- WALKS: top. -/
import Derived.Test.YtgnhmgnpmbmjcaaP7
import Derived.Test.YtgnhmgnpmbmjcaaWq
import Derived.Test.YtgnhmgnpmbmjcaaWs
namespace Go.Proofs.Ytgnhmgnpmbmjcaa
open Go.RowKit
set_option linter.unusedVariables false
set_option linter.unusedSimpArgs false
theorem tup_eq {k : IntKind} {a b : Int} {v : Value} (h : a = b) : Ending.returned (.tuple #[.int k a, v]) = .returned (.tuple #[.int k b, v]) := by rw [h]
theorem all_zero {g : Nat → Bool} (h : ∀ j, Bit.wd g j = 0) (k : Nat) : g k = false := by
  have hb := Bit.wd_test g (k / 64) (k % 64)
  have e : 64 * (k / 64) + k % 64 = k := by omega
  have h64 : decide (k % 64 < 64) = true := by simp; omega
  rw [e, h64, Bool.true_and, h] at hb
  simpa using hb.symm
set_option maxRecDepth 100000 in
set_option maxHeartbeats 1000000 in
theorem top_any (b sb L : Nat) (g : Nat → Bool) (w : World) (h : BS w b sb L g) (hL : L ≤ 40000) :
    Calls Try.prog 84 #[.pointer (some ⟨b, 0, none⟩)] w fun r w' => ((∃ t : Nat, t < L ∧ g t = true ∧ (∀ k, t < k → g k = false) ∧ r = .returned (.tuple #[.int .u64 t, .bool true])) ∨ ((∀ k, g k = false) ∧ r = .returned (.tuple #[.int .u64 0, .bool false]))) ∧ Ch S0 w w' := by
  obtain ⟨cap, c0, c1, h4, h5, f0, f1, fs, h6⟩ := h.look
  have hoff := h.off
  have HF := Lib.hid hoff
  have H := Lib.hid h
  clear h6 fs h hoff
  go_enter Try.func84, Try.ntmps84
  go_wp2_with fail
  go_loopw [4] (fun v wr => ∃ x : Int, -1 ≤ x ∧ x < (nw L : Nat) ∧ v = .int .i64 x ∧ Hid (∀ j : Nat, x < (j : Int) → Bit.wd g j = 0) ∧ w = wr) (fun v _ => (intOf v + 1).toNat)
  case atStart => exact ⟨(nw L : Nat) - 1, by omega, by omega, rfl, Lib.hid fun j hj => Bit.wd_zero fun k _ => HF.out _ (by unfold nw at hj; omega), rfl⟩
  case round =>
    obtain ⟨x, hx1, hx2, rfl, HZ, rfl⟩ := hrel
    by_cases hx : 0 ≤ x
    · obtain ⟨m, rfl⟩ : ∃ m : Nat, x = m := ⟨x.toNat, by omega⟩
      obtain ⟨cap, _, _, _, _, _, _, _, h6⟩ := H.out.look
      have d0 := h6 m (by omega)
      clear h6
      obtain ⟨y, hy⟩ : ∃ y, Bit.wd g m = y := ⟨_, rfl⟩
      rw [hy] at d0
      have hylt : y < 18446744073709551616 := by rw [← hy]; exact Bit.wd_lt _ _
      have HYL := Lib.hid hylt
      have HY := Lib.hid hy
      clear hy hylt
      by_cases hz : y = 0
      · subst hz
        go_wp2_with fail
        go_roundw
        case rel => exact ⟨(m : Int) - 1, by omega, by omega, by go_num, Lib.hid fun j hj => by
          by_cases e : j = m
          · subst e; exact HY.out
          · exact HZ.out j (by omega), trivial⟩
        case measure => simp [intOf] <;> omega
      · obtain ⟨t, ht64, hlen, htop, hab⟩ := top_bit hz HYL.out
        have hzd : ((y : Int) == 0) = false := beq_eq_false_iff_ne.2 (by omega)
        have T1 := Lib.hid hlen
        have T2 := Lib.hid htop
        have T3 := Lib.hid hab
        clear hlen htop hab hz
        go_wp2_with fail
        refine (len64_of _ y rfl HYL.out _ T1.out _).mono ?_
        rintro r w1 ⟨rfl, rfl⟩
        go_wp2_with fail
        have q := place_of g m t (by rw [HY.out]; exact T2.out) (by rw [HY.out]; exact T3.out) (fun j hj => HZ.out j (by omega))
        go_ret2
        refine ⟨Or.inl ⟨64 * m + t, ?_, q.1, q.2, tup_eq (by omega)⟩, Ch.refl _ _⟩
        apply Classical.byContradiction
        intro hn
        have := HF.out (64 * m + t) (by omega)
        rw [q.1] at this
        exact absurd this (by decide)
    · go_wp2_with fail
      go_ret2
      refine ⟨Or.inr ⟨fun k => ?_, rfl⟩, Ch.refl _ _⟩
      exact all_zero (fun j => HZ.out j (by omega)) k
end Go.Proofs.Ytgnhmgnpmbmjcaa
