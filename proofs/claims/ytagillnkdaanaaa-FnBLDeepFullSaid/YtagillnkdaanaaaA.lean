/- WALKS: the small functions of a bitset, Test and Set within its length. -/
import Derived.Test.YtagillnkdaanaaaM
import Derived.BigQuiet
import Derived.Lib.Hide
import Derived.BigQuiet
import Derived.Deep.QuietTactic
import Derived.Lib.Hide
import Derived.Lib.SliceRun
import Derived.StillTailTactics
namespace Go.Proofs.Ytagillnkdaanaaa
open Go.RowKit
set_option linter.unusedVariables false
set_option linter.unusedSimpArgs false

set_option maxHeartbeats 400000 in
theorem cap_any (w : World) : Calls Try.prog 49 #[] w fun e w' => e = .returned (.int .u64 18446744073709551615) ∧ w = w' := by
  go_enter Try.func49, Try.ntmps49
  go_wp2
  go_ret
  exact ⟨rfl, rfl⟩

theorem int_eq {k : IntKind} {a b : Int} (h : a = b) : Ending.returned (.int k a) = .returned (.int k b) := by rw [h]

set_option maxHeartbeats 400000 in
theorem wordsNeeded_any (n : Nat) (i : Int) (hn : i = n) (h : n ≤ 1000000) (w : World) : Calls Try.prog 46 #[.int .u64 i] w fun e w' => e = .returned (.int .i64 (nw n : Nat)) ∧ w = w' := by
  subst hn
  go_enter Try.func46, Try.ntmps46
  go_wp2_with (go_at_call 49; refine (cap_any _).mono ?_; rintro e w' ⟨rfl, rfl⟩)
  go_ret
  exact ⟨int_eq (by unfold nw; omega), rfl⟩

set_option maxHeartbeats 400000 in
theorem wordsNeededUnbound_any (n : Nat) (i : Int) (hn : i = n) (h : n ≤ 1000000) (w : World) : Calls Try.prog 48 #[.int .u64 i] w fun e w' => e = .returned (.int .i64 (nw n : Nat)) ∧ w = w' := by
  subst hn
  go_enter Try.func48, Try.ntmps48
  go_wp2
  go_ret
  exact ⟨int_eq (by unfold nw; omega), rfl⟩

set_option maxHeartbeats 400000 in
theorem wordsIndex_any (i : Nat) (x : Int) (hx : x = i) (h : i ≤ 1000000) (w : World) : Calls Try.prog 43 #[.int .u64 x] w fun e w' => e = .returned (.int .u64 (i % 64 : Nat)) ∧ w = w' := by
  subst hx
  go_enter Try.func43, Try.ntmps43
  go_wp2
  go_ret
  exact ⟨int_eq (by rw [show (63 : Int) = ((63 : Nat) : Int) from rfl, u64_and_nat _ _ (by omega) (by omega), nat_mask6]), rfl⟩

theorem wrap_two (k : Nat) (hk : k < 64) : IntKind.u64.wrap (2 ^ k) = ((2 ^ k : Nat) : Int) := by
  have h := Bit.two_pow_lt64 k hk
  have e : ((2 : Int) ^ k) = ((2 ^ k : Nat) : Int) := (Int.natCast_pow 2 k).symm
  rw [IntKind.wrap_u64, e]
  exact Int.emod_eq_of_lt (Int.natCast_nonneg _) (Int.ofNat_lt.2 h)

theorem drewN_ch (S : Nat → Prop) (w : World) (n : Nat) : Ch S w (w.drewN n) := ⟨rfl, rfl, rfl, Nat.le_refl _, fun _ _ _ => rfl⟩

/-- What is read of a bitset: its two cells, its word of place i. -/
theorem BS.look {w : World} {b sb L : Nat} {g : Nat → Bool} (h : BS w b sb L g) : ∃ cap, w.cell? ⟨b, 0, none⟩ = some (.int .u64 L) ∧ w.cell? ⟨b, 1, none⟩ = some (.slice (some ⟨sb, 0, none⟩) (nw L) cap) ∧ nw L ≤ cap ∧ cap ≤ 9223372036854775807 ∧
    w.frozen? ⟨b, 0, none⟩ = false ∧ w.frozen? ⟨b, 1, none⟩ = false ∧ (∀ i, w.frozen? ⟨sb, i, none⟩ = false) ∧ ∀ i, i < nw L → w.cell? ⟨sb, i, none⟩ = some (.int .u64 (Bit.wd g i : Nat)) := by
  obtain ⟨hne, hoff, cap, C, h1, h2, h3, h4, h5, h6⟩ := h
  exact ⟨cap, by rw [h1.cell]; rfl, by rw [h1.cell]; rfl, h4, h5, h1.free 0, h1.free 1, h2.free, fun i hi => by rw [h2.cell, h6 i hi]⟩

/-- A word stored. -/
theorem BS.store {w : World} {b sb L : Nat} {g g' : Nat → Bool} (h : BS w b sb L g) (i : Nat) {x : Int} (hi : i < nw L) (hx : x = ((Bit.wd g' i : Nat) : Int)) (ho : ∀ j, j ≠ i → j < nw L → Bit.wd g' j = Bit.wd g j) (hoff : ∀ k, L ≤ k → g' k = false) :
    BS (w.setCell ⟨sb, i, none⟩ (.int .u64 x)) b sb L g' := by
  obtain ⟨hne, _, cap, C, h1, h2, h3, h4, h5, h6⟩ := h
  subst hx
  refine ⟨hne, hoff, cap, C.setIfInBounds i (.int .u64 (Bit.wd g' i : Nat)), h1.setOther (by simpa using Ne.symm hne) _, h2.set _ _, by simpa using h3, h4, h5, fun j hj => ?_⟩
  by_cases e : i = j
  · subst e; rw [Array.getElem?_setIfInBounds_self_of_lt (by omega)]
  · rw [Array.getElem?_setIfInBounds_ne e, ho j (Ne.symm e) hj]; exact h6 j hj

set_option maxHeartbeats 400000 in
theorem test_in (b sb L i : Nat) (g : Nat → Bool) (w : World) (h : BS w b sb L g) (hi : i < L) (hL : L ≤ 90000) :
    Calls Try.prog 31 #[.pointer (some ⟨b, 0, none⟩), .int .u64 i] w fun e w' => e = .returned (.bool (g i)) ∧ Ch S0 w w' := by
  obtain ⟨cap, c0, c1, h4, h5, f0, f1, fs, h6⟩ := h.look
  have d0 := h6 (i / 64) (by unfold nw; omega)
  have hb : ((i / 64 : Nat) : Int) < (nw L : Nat) := by unfold nw; omega
  clear h fs h6
  go_enter Try.func31, Try.ntmps31
  go_wp2
  go_quiet ((go_at_call 43; exact Calls.quiet_of_same ((wordsIndex_any i _ rfl (by omega) _).mono fun _ _ ⟨h1, h2⟩ => ⟨h1, h2.symm⟩)))
  go_wp2
  go_ret
  refine ⟨?_, drewN_ch _ _ _⟩
  rw [wrap_two _ (by omega), u64_and_nat _ _ (Bit.wd_lt _ _) (Bit.two_pow_lt64 _ (by omega)), Bit.wd_and_one]
  have hp : (2 : Nat) ^ (i % 64) ≠ 0 := by simp
  cases g i
  · simp
  · simp; exact_mod_cast hp

theorem BS.drew {w : World} {b sb L : Nat} {g : Nat → Bool} (h : BS w b sb L g) : BS w.drew b sb L g := h.keep (S := S0) ⟨rfl, rfl, rfl, Nat.le_refl _, fun _ _ _ => rfl⟩ (fun h => h) (fun h => h)

set_option maxHeartbeats 400000 in
theorem set_in (b sb L i : Nat) (g : Nat → Bool) (w : World) (h : BS w b sb L g) (hi : i < L) (hL : L ≤ 90000) :
    Calls Try.prog 33 #[.pointer (some ⟨b, 0, none⟩), .int .u64 i] w fun e w' => e = .returned (.pointer (some ⟨b, 0, none⟩)) ∧ BS w' b sb L (Bit.put g i true) ∧ Ch (S2 b sb) w w' := by
  have hi64 : i / 64 < nw L := by unfold nw; omega
  have hst := fun (x : Int) (hx : x = ((Bit.wd (Bit.put g i true) (i / 64) : Nat) : Int)) => (h.store (g' := Bit.put g i true) (i / 64) hi64 hx (fun j hj _ => Bit.wd_put_other g i _ j hj) (fun k hk => by have := h.off k hk; simp [Bit.put, this]; omega)).drew
  obtain ⟨cap, c0, c1, h4, h5, f0, f1, fs, h6⟩ := h.look
  have d0 := h6 (i / 64) hi64
  have e0 := fs (i / 64)
  have hb : (0 : Int) ≤ (i : Int) / 64 := by omega
  have hb' : (i : Int) / 64 < (nw L : Nat) := by omega
  have ht : ((i : Int) / 64).toNat = i / 64 := by omega
  have H := Lib.hid hst
  clear h fs h6 hst
  go_enter Try.func33, Try.ntmps33
  go_wp2
  go_still_tail 13, (by kernel_rfl)
  still_call (wordsIndex_any i _ rfl (by omega) _).mono fun _ _ ⟨h1, h2⟩ => ⟨h1, h2.symm⟩
  repeat still_step
  refine wpStill_nil ?_
  go_wp2
  go_ret
  exact ⟨rfl, H.out _ (by rw [wrap_two _ (by omega), u64_or_nat _ _ (Bit.wd_lt _ _) (Bit.two_pow_lt64 _ (by omega)), Bit.wd_set]), ((Ch.refl _ _).setCell _ (fun _ => Or.inr rfl) _).drew⟩
end Go.Proofs.Ytagillnkdaanaaa
