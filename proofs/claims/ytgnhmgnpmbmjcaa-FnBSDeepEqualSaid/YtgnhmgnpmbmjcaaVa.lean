/- WALKS: InsertAt at 0. -/
import Derived.Test.YtgnhmgnpmbmjcaaWu
namespace Go.Proofs.Ytgnhmgnpmbmjcaa
open Go.RowKit
set_option linter.unusedVariables false
set_option linter.unusedSimpArgs false
theorem BS.words {w : World} {b sb L : Nat} {g g' : Nat → Bool} (h : BS w b sb L g) (e : ∀ j, j < nw L → Bit.wd g' j = Bit.wd g j) (hoff : ∀ k, L ≤ k → g' k = false) : BS w b sb L g' := by
  obtain ⟨hne, _, cap, C, h1, h2, h3, h4, h5, h6⟩ := h
  exact ⟨hne, hoff, cap, C, h1, h2, h3, h4, h5, fun j hj => by rw [e j hj]; exact h6 j hj⟩
theorem frozen_set (w : World) (a p : Addr) (v : Value) : (w.setCell a v).frozen? p = w.frozen? p := by
  simp [go_sem]
theorem mix_step (m j : Nat) (f g : Nat → Bool) (h : j ≠ m) : Bit.wd (mix m f g) j = Bit.wd (mix (m + 1) f g) j := by
  by_cases q1 : j < m
  · rw [wd_mix_lt _ _ _ _ q1, wd_mix_lt _ _ _ _ (by omega)]
  · rw [wd_mix_ge _ _ _ _ (by omega), wd_mix_ge _ _ _ _ (by omega)]
theorem top_of (x : Nat) (hx : x < 18446744073709551616) : (x &&& 9223372036854775808) / 9223372036854775808 = x / 2 ^ 63 := by
  have := nat_hi64_63 x
  rw [this, Nat.mod_eq_of_lt hx, Nat.mul_div_cancel _ (by decide)]
theorem ins_val (g : Nat → Bool) (m : Nat) (hm : 0 < m) : bits BinOp.or IntKind.u64 (IntKind.u64.wrap (((Bit.wd g m : Nat) : Int) * 2)) (bits BinOp.and IntKind.u64 ((Bit.wd g (m - 1) : Nat) : Int) 9223372036854775808 / 9223372036854775808) = ((Bit.wd (shR g 1) m : Nat) : Int) := by
  obtain ⟨j, rfl⟩ : ∃ j, m = j + 1 := ⟨m - 1, by omega⟩
  have e1 : IntKind.u64.wrap (((Bit.wd g (j + 1) : Nat) : Int) * 2) = ((Bit.wd g (j + 1) * 2 ^ (1 % 64) % 18446744073709551616 : Nat) : Int) := by
    rw [IntKind.wrap_u64, show (2 : Nat) ^ (1 % 64) = 2 from by decide]; omega
  have e2 : bits BinOp.and IntKind.u64 ((Bit.wd g j : Nat) : Int) 9223372036854775808 / 9223372036854775808 = ((Bit.wd g j / 2 ^ (64 - 1 % 64) : Nat) : Int) := by
    rw [show (9223372036854775808 : Int) = ((9223372036854775808 : Nat) : Int) from rfl, u64_and_nat _ _ (Bit.wd_lt _ _) (by decide)]
    have := top_of (Bit.wd g j) (Bit.wd_lt _ _)
    exact congrArg Int.ofNat this
  have := shR_wd g 1 j (by decide)
  rw [Nat.add_sub_cancel, e1, e2, u64_or_nat _ _ (Nat.mod_lt _ (by decide)) (Nat.lt_of_le_of_lt (Nat.div_le_self _ _) (Bit.wd_lt _ _)), this]
theorem and_all (g : Nat → Bool) : Bit.wd g 0 &&& 18446744073709551615 = Bit.wd g 0 := by
  have h := Bit.wd_and g (fun _ => true) 0
  rw [← Bit.wd_all 0] at h
  rw [h]
  exact Bit.wd_congr fun k _ => by simp
theorem ins_val0 (g : Nat → Bool) : bits BinOp.or IntKind.u64 (bits BinOp.and IntKind.u64 ((Bit.wd g 0 : Nat) : Int) 0) (IntKind.u64.wrap (bits BinOp.and IntKind.u64 ((Bit.wd g 0 : Nat) : Int) (bits BinOp.xor IntKind.u64 IntKind.u64.max 0) * 2)) = ((Bit.wd (shR g 1) 0 : Nat) : Int) := by
  have e1 : bits BinOp.and IntKind.u64 ((Bit.wd g 0 : Nat) : Int) 0 = ((0 : Nat) : Int) := by
    rw [show (0 : Int) = ((0 : Nat) : Int) from rfl, u64_and_nat _ _ (Bit.wd_lt _ _) (by decide), Nat.and_zero]
  have e2 : bits BinOp.xor IntKind.u64 IntKind.u64.max 0 = ((18446744073709551615 : Nat) : Int) := by decide
  have e3 := shR_wd0 g 1
  have hb := Bit.wd_lt g 0
  rw [e1, e2, u64_and_nat _ _ hb (by decide), and_all]
  have e4 : IntKind.u64.wrap (((Bit.wd g 0 : Nat) : Int) * 2) = ((Bit.wd g 0 * 2 ^ (1 % 64) % 18446744073709551616 : Nat) : Int) := by
    rw [IntKind.wrap_u64, show (2 : Nat) ^ (1 % 64) = 2 from by decide]; omega
  rw [e4, u64_or_nat _ _ (by decide) (Nat.mod_lt _ (by decide)), Nat.zero_or, e3]
/-- A word stored twice. -/
theorem BS.store2 {w : World} {b sb L : Nat} {g g' : Nat → Bool} (h : BS w b sb L g) (i : Nat) (x : Int) {y : Int} (hi : i < nw L) (hy : y = ((Bit.wd g' i : Nat) : Int)) (ho : ∀ j, j ≠ i → j < nw L → Bit.wd g' j = Bit.wd g j) (hoff : ∀ k, L ≤ k → g' k = false) :
    BS ((w.setCell ⟨sb, i, none⟩ (.int .u64 x)).setCell ⟨sb, i, none⟩ (.int .u64 y)) b sb L g' := by
  obtain ⟨hne, _, cap, C, h1, h2, h3, h4, h5, h6⟩ := h
  subst hy
  refine ⟨hne, hoff, cap, (C.setIfInBounds i (.int .u64 x)).setIfInBounds i (.int .u64 (Bit.wd g' i : Nat)), (h1.setOther (by simpa using Ne.symm hne) _).setOther (by simpa using Ne.symm hne) _, (h2.set _ _).set _ _, by simpa using h3, h4, h5, fun j hj => ?_⟩
  by_cases e : i = j
  · subst e; rw [Array.getElem?_setIfInBounds_self_of_lt (by simp; omega)]
  · rw [Array.getElem?_setIfInBounds_ne e, Array.getElem?_setIfInBounds_ne e, ho j (Ne.symm e) hj]; exact h6 j hj
set_option maxRecDepth 100000 in
set_option maxHeartbeats 1000000 in
theorem insert0_any (b sb L : Nat) (g : Nat → Bool) (w : World) (h : BS w b sb L g) (hL : L ≤ 20000) (h0 : 0 < L) (x : Int) (hx : x = 0) :
    Calls Try.prog 66 #[.pointer (some ⟨b, 0, none⟩), .int .u64 x] w fun r w' => r = .returned (.pointer (some ⟨b, 0, none⟩)) ∧ Out w w' b sb (L + 1) (shR g 1) := by
  subst hx
  obtain ⟨_, x0, _⟩ := h.look
  have hlt := h.lt
  have H := Lib.hid h
  clear h
  have hd : decide ((L : Int) ≤ 0) = false := by simp; omega
  go_enter Try.func66, Try.ntmps66
  go_wp2_with fail
  refine (extend_any b sb L L g _ H.out (Nat.le_refl _) (by omega)).mono ?_
  rintro r wE ⟨rfl, sb1, h, hsb, hCE⟩
  have HCE := Lib.hid hCE
  clear hCE x0
  have hne := h.ne
  have hne' := Ne.symm hne
  obtain ⟨cap, c0, c1, h4, h5, f0, f1, fs, h6⟩ := h.look
  have hn1 : 0 < nw (L + 1) := by unfold nw; omega
  have hn2 : nw (L + 1) ≤ 400 := by unfold nw; omega
  have hoff := h.off
  have hoS : ∀ k, L + 1 ≤ k → shR g 1 k = false := fun k hk => by unfold shR; rw [H.out.off (k - 1) (by omega), Bool.and_false]
  have HO := Lib.hid hoff
  have HOS := Lib.hid hoS
  have hst : BS wE b sb1 (L + 1) (mix (nw (L + 1)) g (shR g 1)) := h.words (fun j hj => (wd_mix_lt _ _ _ _ hj)) (fun k hk => by unfold mix; split; exact hoff k hk; exact hoS k hk)
  have HB := Lib.hid hst
  clear h fs h6 hst hoff hoS
  go_wp2_with fail
  go_loopw [6] (fun v wr => ∃ m : Nat, m + 1 ≤ nw (L + 1) ∧ v = .int .u64 m ∧ BS wr b sb1 (L + 1) (mix (m + 1) g (shR g 1)) ∧ Ch (S2 b sb) w wr) (fun v _ => (intOf v).toNat)
  case atStart => exact ⟨nw (L + 1) - 1, by omega, by go_num, by rw [show nw (L + 1) - 1 + 1 = nw (L + 1) from by omega]; exact HB.out, HCE.out⟩
  case round =>
    obtain ⟨m, hm, rfl, hJ, hC⟩ := hrel
    clear c0 c1 f0 f1 h4 h5
    obtain ⟨cap2, c0, c1, h4, h5, f0, f1, fs, h6⟩ := hJ.look
    have d1 := h6 m (by omega)
    rw [wd_mix_lt _ _ _ _ (by omega)] at d1
    have e1 := fs m
    have i1 : (m : Int) < (nw (L + 1) : Nat) := by omega
    have i2 : m < nw (L + 1) := by omega
    by_cases hlt : 0 < m
    · have d0 := h6 (m - 1) (by omega)
      rw [wd_mix_lt _ _ _ _ (by omega)] at d0
      have HJ := Lib.hid hJ
      have HC := Lib.hid hC
      clear hJ hC fs h6
      have HS := Lib.hid fun (y : Int) (hy : y = ((Bit.wd (mix m g (shR g 1)) m : Nat) : Int)) => HJ.out.store2 m (IntKind.u64.wrap (((Bit.wd g m : Nat) : Int) * 2)) i2 hy (fun j hj _ => mix_step _ _ _ _ hj) (fun k hk => by unfold mix; split; exact HO.out k hk; exact HOS.out k hk)
      have HC2 : Hid (Ch (S2 b sb) w (wr.setCell ⟨sb1, m, none⟩ (.int .u64 (IntKind.u64.wrap (((Bit.wd g m : Nat) : Int) * 2))))) := Lib.hid (HC.out.setCell _ (fun h => by rcases hsb with rfl | h2; exact Or.inr rfl; simp at h; omega) _)
      have hn0 : m - 1 ≠ m := by omega
      have t0 : (wr.setCell ⟨sb1, m, none⟩ (.int .u64 (IntKind.u64.wrap (((Bit.wd g m : Nat) : Int) * 2)))).cell? ⟨b, 1, none⟩ = some (.slice (some ⟨sb1, 0, none⟩) (nw (L + 1)) cap2) := by rw [World.cell?_setCell_other _ _ _ _ (by intro e; injection e; omega)]; exact c1
      have t1 : (wr.setCell ⟨sb1, m, none⟩ (.int .u64 (IntKind.u64.wrap (((Bit.wd g m : Nat) : Int) * 2)))).cell? ⟨sb1, m, none⟩ = some (.int .u64 (IntKind.u64.wrap (((Bit.wd g m : Nat) : Int) * 2))) := World.cell?_setCell_same _ _ _ d1
      have t2 : (wr.setCell ⟨sb1, m, none⟩ (.int .u64 (IntKind.u64.wrap (((Bit.wd g m : Nat) : Int) * 2)))).cell? ⟨sb1, m - 1, none⟩ = some (.int .u64 (Bit.wd g (m - 1) : Nat)) := by rw [World.cell?_setCell_other _ _ _ _ (by intro e; injection e; omega)]; exact d0
      have t3 : (wr.setCell ⟨sb1, m, none⟩ (.int .u64 (IntKind.u64.wrap (((Bit.wd g m : Nat) : Int) * 2)))).frozen? ⟨sb1, m, none⟩ = false := by rw [frozen_set]; exact e1
      have hwr : IntKind.u64.wrap ((m : Int) - 1) = (m : Int) - 1 := by rw [IntKind.wrap_u64]; omega
      have k0 : (0 : Int) ≤ IntKind.u64.wrap ((m : Int) - 1) := by rw [hwr]; omega
      have k1 : (IntKind.u64.wrap ((m : Int) - 1)).toNat = m - 1 := by rw [hwr]; omega
      have k2 : IntKind.u64.wrap ((m : Int) - 1) < (nw (L + 1) : Nat) := by rw [hwr]; omega
      have k3 : (0 : Int) ≤ (m : Int) := by omega
      clear hwr
      go_wp2_with fail
      generalize (wr.setCell ⟨sb1, m, none⟩ (.int .u64 (IntKind.u64.wrap (((Bit.wd g m : Nat) : Int) * 2)))) = W1 at *
      clear c0 c1 d0 d1 e1
      go_still_tail 19, (by kernel_rfl)
      repeat still_step
      try (refine wpStill_nil ?_)
      go_wp2_with fail
      go_roundw
      case rel => exact ⟨m - 1, by omega, by go_num, by rw [show m - 1 + 1 = m from by omega]; exact (HS.out _ (by rw [wd_mix_ge _ _ _ _ (Nat.le_refl _)]; exact ins_val g m hlt)).drew, (HC2.out.setCell _ (fun h => by rcases hsb with rfl | h2; exact Or.inr rfl; simp at h; omega) _).drew⟩
      case measure => simp [intOf] <;> omega
    · obtain rfl : m = 0 := by omega
      have HJ := Lib.hid hJ
      have HC := Lib.hid hC
      clear hJ hC fs h6
      have HS := Lib.hid fun (x y : Int) (hy : y = ((Bit.wd (shR g 1) 0 : Nat) : Int)) => HJ.out.store2 0 x i2 hy (fun j hj _ => (wd_mix_ge _ _ _ _ (by omega)).symm) HOS.out
      go_wp2_with fail
      refine (wordsIndex_any 0 _ rfl (by omega) _).mono ?_
      rintro r w1 ⟨rfl, rfl⟩
      go_wp2_with fail
      go_ret
      exact ⟨rfl, sb1, HS.out _ _ (ins_val0 g), hsb, (HC.out.setCell _ (fun h => by rcases hsb with rfl | h2; exact Or.inr rfl; simp at h; omega) _).setCell _ (fun h => by rcases hsb with rfl | h2; exact Or.inr rfl; simp at h; omega) _⟩
end Go.Proofs.Ytgnhmgnpmbmjcaa
