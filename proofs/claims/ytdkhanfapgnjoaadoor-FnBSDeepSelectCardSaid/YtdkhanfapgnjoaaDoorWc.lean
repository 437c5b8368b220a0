/- WALKS: extendSet on bitsets; Test, Set, Clear, Flip. -/
import Derived.Test.YtdkhanfapgnjoaaDoorWb
import Derived.Deep.QuietTactic
import Derived.BigQuiet
import Derived.StillTailTactics
namespace Go.Proofs.YtdkhanfapgnjoaaDoor
open Go.RowKit
set_option linter.unusedVariables false
set_option linter.unusedSimpArgs false

/-- A step on a bitset leaves its block, and its words in the old block or in a new one; only these two have changed. -/
def Out (w w' : World) (b sb : Nat) (L : Nat) (g : Nat → Bool) : Prop := ∃ sb', BS w' b sb' L g ∧ (sb' = sb ∨ w.heap.size ≤ sb') ∧ Ch (S2 b sb) w w'

theorem nw_le {i j : Nat} (h : i ≤ j) : nw i ≤ nw j := by unfold nw; omega

theorem extend_any (b sb L i : Nat) (g : Nat → Bool) (w : World) (h : BS w b sb L g) (hL : L ≤ i) (hi : i ≤ 40000) :
    Calls Tryd.prog 22 #[.pointer (some ⟨b, 0, none⟩), .int .u64 i] w fun e w' => e = .returned (.tuple #[]) ∧ Out w w' b sb (i + 1) g := by
  have hlt := h.lt
  obtain ⟨hne, hoff, cap, C, h1, h2, h3, h4, h5, h6⟩ := h
  have hz : ∀ j, nw L ≤ j → Bit.wd g j = 0 := fun j hj => Bit.wd_zero fun k _ => hoff _ (by unfold nw at hj; omega)
  by_cases hc : nw (i + 1) ≤ cap
  · refine (extend_room b sb L (nw L) cap i C w hne (by omega) (nw_le (by omega)) hc h3 h5 h1 h2).mono ?_
    rintro e w' ⟨he, C', k1, k2, k3, k4, k5, k6⟩
    refine ⟨he, sb, ⟨hne, fun k hk => hoff k (by omega), cap, C', k1, k2, k3, hc, h5, fun j hj => ?_⟩, Or.inl rfl, k6⟩
    by_cases hj2 : j < nw L
    · rw [k4 j hj2]; exact h6 j hj2
    · rw [k5 j (by omega) hj, hz j (by omega)]; rfl
  · refine (extend_grow b sb L (nw L) cap i C w hne (by omega) h4 (by omega) h3 h1 h2 (fun j hj => ⟨_, h6 j hj⟩)).mono ?_
    rintro e w' ⟨he, C', k1, k2, k3, k4, k5, k6⟩
    refine ⟨he, w.heap.size, ⟨by omega, fun k hk => hoff k (by omega), 2 * nw (i + 1), C', k1, k2, k3, by omega, by unfold nw; omega, fun j hj => ?_⟩, Or.inr (Nat.le_refl _), k6⟩
    by_cases hj2 : j < nw L
    · rw [k4 j hj2]; exact h6 j hj2
    · rw [k5 j (by omega) hj, hz j (by omega)]; rfl

theorem wrap_two (k : Nat) (hk : k < 64) : IntKind.u64.wrap (2 ^ k) = ((2 ^ k : Nat) : Int) := by
  have h := Bit.two_pow_lt64 k hk
  have e : ((2 : Int) ^ k) = ((2 ^ k : Nat) : Int) := (Int.natCast_pow 2 k).symm
  rw [IntKind.wrap_u64, e]
  exact Int.emod_eq_of_lt (Int.natCast_nonneg _) (Int.ofNat_lt.2 h)
theorem drewN_ch (S : Nat → Prop) (w : World) (n : Nat) : Ch S w (w.drewN n) := ⟨rfl, rfl, rfl, Nat.le_refl _, fun _ _ _ => rfl⟩

/-- What is read of a bitset: its two cells, its word of place i. -/
theorem BS.look {w : World} {b sb L : Nat} {g : Nat → Bool} (h : BS w b sb L g) : ∃ cap, w.cell? ⟨b, 0, none⟩ = some (.int .u64 L) ∧ w.cell? ⟨b, 1, none⟩ = some (.slice (some ⟨sb, 0, none⟩) (nw L) cap) ∧ nw L ≤ cap ∧ cap ≤ 100000 ∧
    w.frozen? ⟨b, 0, none⟩ = false ∧ w.frozen? ⟨b, 1, none⟩ = false ∧ (∀ i, w.frozen? ⟨sb, i, none⟩ = false) ∧ ∀ i, i < nw L → w.cell? ⟨sb, i, none⟩ = some (.int .u64 (Bit.wd g i : Nat)) := by
  obtain ⟨hne, hoff, cap, C, h1, h2, h3, h4, h5, h6⟩ := h
  exact ⟨cap, by rw [h1.cell]; rfl, by rw [h1.cell]; rfl, h4, h5, h1.free 0, h1.free 1, h2.free, fun i hi => by rw [h2.cell, h6 i hi]⟩

/-- A word stored. -/
theorem BS.store {w : World} {b sb L : Nat} {g g' : Nat → Bool} (h : BS w b sb L g) (i : Nat) {x : Int} (hi : i < nw L) (hx : x = ((Bit.wd g' i : Nat) : Int)) (ho : ∀ j, j ≠ i → j < nw L → Bit.wd g' j = Bit.wd g j) (hoff : ∀ k, L ≤ k → g' k = false) :
    BS (w.setCell ⟨sb, i, none⟩ (.int .u64 x)) b sb L g' := by
  obtain ⟨hne, _, cap, C, h1, h2, h3, h4, h5, h6⟩ := h
  subst hx
  refine ⟨hne, hoff, cap, C.setIfInBounds i (.int .u64 (Bit.wd g' i : Nat)), h1.setOther (by simpa using Ne.symm hne) _, h2.set _ _, by simpa using h3, h4, h5, fun j hj => ?_⟩
  by_cases e : i = j
  · subst e; rw [Array.getElem?_setIfInBounds_self_of_lt (by omega)]
  · rw [Array.getElem?_setIfInBounds_ne e, ho j (Ne.symm e) hj]; exact h6 j hj

set_option maxHeartbeats 400000 in
theorem test_in (b sb L i : Nat) (g : Nat → Bool) (w : World) (h : BS w b sb L g) (hi : i < L) (hL : L ≤ 90000) :
    Calls Tryd.prog 25 #[.pointer (some ⟨b, 0, none⟩), .int .u64 i] w fun e w' => e = .returned (.bool (g i)) ∧ Ch S0 w w' := by
  obtain ⟨cap, c0, c1, h4, h5, f0, f1, fs, h6⟩ := h.look
  have d0 := h6 (i / 64) (by unfold nw; omega)
  have hb : ((i / 64 : Nat) : Int) < (nw L : Nat) := by unfold nw; omega
  clear h fs h6
  go_enter Tryd.func25, Tryd.ntmps25
  go_wp2
  go_quiet ((go_at_call 23; exact Calls.quiet_of_same ((wordsIndex_any i _ rfl (by omega) _).mono fun _ _ ⟨h1, h2⟩ => ⟨h1, h2.symm⟩)))
  go_wp2
  go_ret
  refine ⟨?_, drewN_ch _ _ _⟩
  rw [wrap_two _ (by omega), u64_and_nat _ _ (Bit.wd_lt _ _) (Bit.two_pow_lt64 _ (by omega)), Bit.wd_and_one]
  have hp : (2 : Nat) ^ (i % 64) ≠ 0 := by simp
  cases g i
  · simp
  · simp; exact_mod_cast hp

set_option maxHeartbeats 400000 in
theorem test_out (b sb L i : Nat) (g : Nat → Bool) (w : World) (h : BS w b sb L g) (hi : L ≤ i) :
    Calls Tryd.prog 25 #[.pointer (some ⟨b, 0, none⟩), .int .u64 i] w fun e w' => e = .returned (.bool false) ∧ Ch S0 w w' := by
  obtain ⟨cap, c0, c1, h4, h5, f0, f1, fs, h6⟩ := h.look
  clear h fs h6
  go_enter Tryd.func25, Tryd.ntmps25
  go_wp2
  go_ret
  exact ⟨rfl, Ch.refl _ _⟩

theorem test_any (b sb L i : Nat) (g : Nat → Bool) (w : World) (h : BS w b sb L g) (hL : L ≤ 90000) (x : Int) (hx : x = i) :
    Calls Tryd.prog 25 #[.pointer (some ⟨b, 0, none⟩), .int .u64 x] w fun e w' => e = .returned (.bool (g i)) ∧ Ch S0 w w' := by
  subst hx
  by_cases hi : i < L
  · exact test_in b sb L i g w h hi hL
  · rw [h.off i (by omega)]; exact test_out b sb L i g w h (by omega)

theorem BS.drew {w : World} {b sb L : Nat} {g : Nat → Bool} (h : BS w b sb L g) : BS w.drew b sb L g := h.keep (S := S0) ⟨rfl, rfl, rfl, Nat.le_refl _, fun _ _ _ => rfl⟩ (fun h => h) (fun h => h)

set_option maxHeartbeats 400000 in
theorem set_in (b sb L i : Nat) (g : Nat → Bool) (w : World) (h : BS w b sb L g) (hi : i < L) (hL : L ≤ 90000) :
    Calls Tryd.prog 13 #[.pointer (some ⟨b, 0, none⟩), .int .u64 i] w fun e w' => e = .returned (.pointer (some ⟨b, 0, none⟩)) ∧ BS w' b sb L (Bit.put g i true) ∧ Ch (S2 b sb) w w' := by
  have hi64 : i / 64 < nw L := by unfold nw; omega
  have hst := fun (x : Int) (hx : x = ((Bit.wd (Bit.put g i true) (i / 64) : Nat) : Int)) => (h.store (g' := Bit.put g i true) (i / 64) hi64 hx (fun j hj _ => Bit.wd_put_other g i _ j hj) (fun k hk => by have := h.off k hk; simp [Bit.put, this]; omega)).drew
  obtain ⟨cap, c0, c1, h4, h5, f0, f1, fs, h6⟩ := h.look
  have d0 := h6 (i / 64) hi64
  have e0 := fs (i / 64)
  have hb : (0 : Int) ≤ (i : Int) / 64 := by omega
  have hb' : (i : Int) / 64 < (nw L : Nat) := by omega
  have ht : ((i : Int) / 64).toNat = i / 64 := by omega
  have H := Lib.hid hst
  clear h fs h6 hst
  go_enter Tryd.func13, Tryd.ntmps13
  go_wp2
  go_still_tail 13, (by kernel_rfl)
  still_call (wordsIndex_any i _ rfl (by omega) _).mono fun _ _ ⟨h1, h2⟩ => ⟨h1, h2.symm⟩
  repeat still_step
  refine wpStill_nil ?_
  go_wp2
  go_ret
  exact ⟨rfl, H.out _ (by rw [wrap_two _ (by omega), u64_or_nat _ _ (Bit.wd_lt _ _) (Bit.two_pow_lt64 _ (by omega)), Bit.wd_set]), ((Ch.refl _ _).setCell _ (fun _ => Or.inr rfl) _).drew⟩

set_option maxHeartbeats 400000 in
theorem set_out (b sb L i : Nat) (g : Nat → Bool) (w : World) (h : BS w b sb L g) (hi : L ≤ i) (hi2 : i ≤ 40000) :
    Calls Tryd.prog 13 #[.pointer (some ⟨b, 0, none⟩), .int .u64 i] w fun e w' => e = .returned (.pointer (some ⟨b, 0, none⟩)) ∧ Out w w' b sb (i + 1) (Bit.put g i true) := by
  have hl := h.lt
  obtain ⟨cap, c0, c1, h4, h5, f0, f1, fs, h6⟩ := h.look
  have H := Lib.hid h
  clear fs h6 h
  go_enter Tryd.func13, Tryd.ntmps13
  go_wp2_with fail
  refine (extend_any b sb L i g _ H.out hi hi2).mono ?_
  rintro e w1 ⟨rfl, sb', hB, hsb, hC⟩
  have hi64 : i / 64 < nw (i + 1) := by unfold nw; omega
  have hst := fun (x : Int) (hx : x = ((Bit.wd (Bit.put g i true) (i / 64) : Nat) : Int)) => (hB.store (g' := Bit.put g i true) (i / 64) hi64 hx (fun j hj _ => Bit.wd_put_other g i _ j hj) (fun k hk => by have := hB.off k hk; simp [Bit.put, this]; omega)).drew
  obtain ⟨cap', k0, k1, h4', h5', f0', f1', fs', h6'⟩ := hB.look
  have d0 := h6' (i / 64) hi64
  have e0 := fs' (i / 64)
  have hb : (0 : Int) ≤ (i : Int) / 64 := by omega
  have hb' : (i : Int) / 64 < (nw (i + 1) : Nat) := by omega
  have ht : ((i : Int) / 64).toNat = i / 64 := by omega
  have H2 := Lib.hid hst
  have H3 := Lib.hid hsb
  have H4 := Lib.hid hC
  clear hB fs' h6' hst hsb hC c0 c1 f0 f1
  go_wp2_with fail
  go_still_tail 13, (by kernel_rfl)
  still_call (wordsIndex_any i _ rfl (by omega) _).mono fun _ _ ⟨h1, h2⟩ => ⟨h1, h2.symm⟩
  repeat still_step
  refine wpStill_nil ?_
  go_wp2
  go_ret
  refine ⟨rfl, sb', H2.out _ (by rw [wrap_two _ (by omega), u64_or_nat _ _ (Bit.wd_lt _ _) (Bit.two_pow_lt64 _ (by omega)), Bit.wd_set]), H3.out, (H4.out.setCell _ (fun hlt => ?_) _).drew⟩
  rcases H3.out with e | e
  · exact Or.inr e
  · exact absurd hlt (by simp; omega)

/-- Set. -/
theorem set_any (b sb L i : Nat) (g : Nat → Bool) (w : World) (h : BS w b sb L g) (hL : L ≤ 90000) (hi : i ≤ 40000) (x : Int) (hx : x = i) :
    Calls Tryd.prog 13 #[.pointer (some ⟨b, 0, none⟩), .int .u64 x] w fun e w' => e = .returned (.pointer (some ⟨b, 0, none⟩)) ∧ Out w w' b sb (max L (i + 1)) (Bit.put g i true) := by
  subst hx
  by_cases hlt : i < L
  · refine (set_in b sb L i g w h hlt hL).mono ?_
    rintro e w' ⟨he, hB, hC⟩
    exact ⟨he, sb, by rw [Nat.max_eq_left (by omega)]; exact hB, Or.inl rfl, hC⟩
  · rw [Nat.max_eq_right (by omega)]
    exact set_out b sb L i g w h (by omega) hi

end Go.Proofs.YtdkhanfapgnjoaaDoor
