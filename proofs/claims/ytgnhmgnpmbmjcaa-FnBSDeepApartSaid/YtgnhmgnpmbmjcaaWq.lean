/- WALKS: DeleteAt, Count. -/
import Derived.Test.YtgnhmgnpmbmjcaaP6
import Derived.Test.YtgnhmgnpmbmjcaaWo
namespace Go.Proofs.Ytgnhmgnpmbmjcaa
open Go.RowKit
set_option linter.unusedVariables false
set_option linter.unusedSimpArgs false
theorem high_mask (n : Nat) (h : n < 64) : bits BinOp.xor IntKind.u64 IntKind.u64.max (IntKind.u64.wrap (IntKind.u64.wrap (2 ^ n) - 1)) = ((18446744073709551616 - 2 ^ n : Nat) : Int) := by
  have hp : 0 < 2 ^ n := Nat.pow_pos (by decide)
  have hq := Bit.two_pow_lt64 n h
  rw [low_mask n h, show IntKind.u64.max = ((18446744073709551615 : Nat) : Int) from rfl, u64_xor_nat _ _ (by omega) (low_lt _ (by omega)), all_xor _ (low_lt _ (by omega)), show 18446744073709551615 - (2 ^ n - 1) = 18446744073709551616 - 2 ^ n from by omega]
theorem low_again (n : Nat) (h : n < 64) : bits BinOp.xor IntKind.u64 IntKind.u64.max (((18446744073709551616 - 2 ^ n : Nat) : Int)) = ((2 ^ n - 1 : Nat) : Int) := by
  have hp : 0 < 2 ^ n := Nat.pow_pos (by decide)
  have hq := Bit.two_pow_lt64 n h
  rw [show IntKind.u64.max = ((18446744073709551615 : Nat) : Int) from rfl, u64_xor_nat _ _ (by omega) (high_lt _), all_xor _ (high_lt _), show 18446744073709551615 - (18446744073709551616 - 2 ^ n) = 2 ^ n - 1 from by omega]
theorem del_val1 (g : Nat → Bool) (i : Nat) : bits BinOp.and IntKind.u64 ((Bit.wd g (i / 64) : Nat) : Int) (bits BinOp.xor IntKind.u64 IntKind.u64.max (bits BinOp.xor IntKind.u64 IntKind.u64.max (IntKind.u64.wrap (IntKind.u64.wrap (2 ^ (i % 64)) - 1)))) = ((Bit.wd (delC g i) (i / 64) : Nat) : Int) := by
  rw [high_mask _ (by omega), low_again _ (by omega), u64_and_nat _ _ (Bit.wd_lt _ _) (low_lt _ (by omega)), delC_wd]
theorem del_val2 (g : Nat → Bool) (i : Nat) (x : Int) (hx : x = ((Bit.wd (delC g i) (i / 64) : Nat) : Int)) : bits BinOp.or IntKind.u64 x (bits BinOp.and IntKind.u64 (bits BinOp.and IntKind.u64 ((Bit.wd g (i / 64) : Nat) : Int) (bits BinOp.xor IntKind.u64 IntKind.u64.max (IntKind.u64.wrap (IntKind.u64.wrap (2 ^ (i % 64)) - 1))) / 2) (bits BinOp.xor IntKind.u64 IntKind.u64.max (IntKind.u64.wrap (IntKind.u64.wrap (2 ^ (i % 64)) - 1)))) = ((Bit.wd (delF g i (i / 64 + 1)) (i / 64) : Nat) : Int) := by
  have hlt : (Bit.wd g (i / 64) &&& (18446744073709551616 - 2 ^ (i % 64))) < 18446744073709551616 := Nat.lt_of_le_of_lt Nat.and_le_left (Bit.wd_lt _ _)
  rw [hx, high_mask _ (by omega), u64_and_nat _ _ (Bit.wd_lt _ _) (high_lt _), show ((((Bit.wd g (i / 64) &&& (18446744073709551616 - 2 ^ (i % 64))) : Nat) : Int) / 2) = ((((Bit.wd g (i / 64) &&& (18446744073709551616 - 2 ^ (i % 64))) / 2 : Nat)) : Int) from by omega,
    u64_and_nat _ _ (by omega) (high_lt _), u64_or_nat _ _ (Bit.wd_lt _ _) (Nat.lt_of_le_of_lt Nat.and_le_left (by omega)), delF_first]
theorem del_val3 (g : Nat → Bool) (i j : Nat) (hj : i / 64 < j) : bits BinOp.or IntKind.u64 ((Bit.wd (delF g i j) (j - 1) : Nat) : Int) (IntKind.u64.wrap (bits BinOp.and IntKind.u64 ((Bit.wd (delF g i j) j : Nat) : Int) 1 * 9223372036854775808)) = ((Bit.wd (delH g i j) (j - 1) : Nat) : Int) := by
  have e : IntKind.u64.wrap (bits BinOp.and IntKind.u64 ((Bit.wd (delF g i j) j : Nat) : Int) 1 * 9223372036854775808) = (((Bit.wd (delF g i j) j &&& 1) * 2 ^ 63 % 18446744073709551616 : Nat) : Int) := by
    rw [show (1 : Int) = ((1 : Nat) : Int) from rfl, u64_and_nat _ _ (Bit.wd_lt _ _) (by decide), IntKind.wrap_u64]; omega
  rw [e, u64_or_nat _ _ (Bit.wd_lt _ _) (Nat.mod_lt _ (by decide)), delH_wd g i j hj]
theorem del_val4 (g : Nat → Bool) (i j : Nat) (hj : i / 64 < j) : ((Bit.wd (delF g i j) j : Nat) : Int) / 2 = ((Bit.wd (delF g i (j + 1)) j : Nat) : Int) := by
  rw [← delF_wd g i j hj, delH_other g i j j (by omega)]; omega
theorem wordCount_cell (b L : Nat) (x : Int) (hx : x = L) (w : World) (h : w.cell? ⟨b, 0, none⟩ = some (.int .u64 x)) (hL : L ≤ 90000) :
    Calls Try.prog 81 #[.pointer (some ⟨b, 0, none⟩)] w fun e w' => e = .returned (.int .i64 (nw L : Nat)) ∧ w = w' := by
  subst hx
  go_enter Try.func81, Try.ntmps81
  go_wp2_with fail
  refine (wordsNeededUnbound_any L _ rfl (by omega) _).mono ?_
  rintro r w1 ⟨rfl, rfl⟩
  go_wp2
  go_ret
  exact ⟨rfl, rfl⟩
theorem BS.shorter {w : World} {b sb L L' : Nat} {g : Nat → Bool} (h : BS w b sb L g) {x : Int} (hx : x = L') (hn : nw L' = nw L) (hoff : ∀ k, L' ≤ k → g k = false) : BS (w.setCell ⟨b, 0, none⟩ (.int .u64 x)) b sb L' g := by
  obtain ⟨hne, _, cap, C, h1, h2, h3, h4, h5, h6⟩ := h
  subst hx
  refine ⟨hne, hoff, cap, C, ?_, h2.setOther (by simpa using hne) _, h3, by omega, h5, fun j hj => h6 j (by omega)⟩
  have := h1.set 0 (.int .u64 (L' : Nat))
  rw [hn]
  simpa using this
theorem BS.cut {w : World} {b sb L L' cap : Nat} {g : Nat → Bool} (h : BS w b sb L g) {x : Int} (hx : x = L') (hn : nw L' ≤ nw L) (hoff : ∀ k, L' ≤ k → g k = false) (hc : w.cell? ⟨b, 1, none⟩ = some (.slice (some ⟨sb, 0, none⟩) (nw L) cap)) : BS ((w.setCell ⟨b, 0, none⟩ (.int .u64 x)).setCell ⟨b, 1, none⟩ (.slice (some ⟨sb, 0, none⟩) (nw L') cap)) b sb L' g := by
  obtain ⟨hne, _, cap', C, h1, h2, h3, h4, h5, h6⟩ := h
  subst hx
  rw [h1.cell] at hc
  simp at hc
  subst hc
  refine ⟨hne, hoff, cap', C, ?_, (h2.setOther (by simpa using hne) _).setOther (by simpa using hne) _, h3, by omega, h5, fun j hj => h6 j (by omega)⟩
  have := (h1.set 0 (.int .u64 (L' : Nat))).set 1 (.slice (some ⟨sb, 0, none⟩) (nw L') cap')
  simpa using this
set_option maxRecDepth 100000 in
set_option maxHeartbeats 1000000 in
theorem deleteAt_any (b sb L i : Nat) (g : Nat → Bool) (w : World) (h : BS w b sb L g) (hi : i < L) (hL : L ≤ 20000) (x : Int) (hx : x = i) :
    Calls Try.prog 56 #[.pointer (some ⟨b, 0, none⟩), .int .u64 x] w fun r w' => r = .returned (.pointer (some ⟨b, 0, none⟩)) ∧ Out w w' b sb (L - 1) (delR g i) := by
  subst hx
  have hne := h.ne
  have hne' := Ne.symm hne
  obtain ⟨cap, c0, c1, h4, h5, f0, f1, fs, h6⟩ := h.look
  have hi64 : i / 64 < nw L := by unfold nw; omega
  have d0 := h6 (i / 64) hi64
  have e0 := fs (i / 64)
  have hi0 : (0 : Int) ≤ (i : Int) / 64 := by omega
  have hi1 : ((i : Int) / 64).toNat = i / 64 := by omega
  have hi2 : (i : Int) / 64 < (nw L : Nat) := by omega
  have hoff := h.off
  have hst1 := fun (x y : Int) (hx : x = ((Bit.wd (delC g i) (i / 64) : Nat) : Int)) (hy : y = ((Bit.wd (delF g i (i / 64 + 1)) (i / 64) : Nat) : Int)) => (h.store (g' := delC g i) (i / 64) hi64 hx (fun j hj _ => delC_other g i j hj) (fun k hk => delC_off hoff hi hk)).store (g' := delF g i (i / 64 + 1)) (i / 64) hi64 hy (fun j hj _ => delF_first_other g i j hj) (fun k hk => delF_off hoff hi hk)
  have HS := Lib.hid hst1
  have HO := Lib.hid hoff
  clear h6 fs h hst1 hoff
  go_enter Try.func56, Try.ntmps56
  go_wp2_with fail
  refine (wordsIndex_any i _ rfl (by omega) _).mono ?_
  rintro r w1 ⟨rfl, rfl⟩
  go_wp2_with fail
  go_loopw [8] (fun k wr => ∃ j : Nat, i / 64 < j ∧ j ≤ nw L ∧ k = .int .i64 j ∧ BS wr b sb L (delF g i j) ∧ Ch (S2 b sb) w wr) (fun k _ => nw L - (intOf k).toNat)
  case atStart => exact ⟨i / 64 + 1, by omega, by omega, by go_num, HS.out _ _ (del_val1 g i) (del_val2 g i _ (del_val1 g i)), ((Ch.refl _ _).setCell _ (fun _ => Or.inr rfl) _).setCell _ (fun _ => Or.inr rfl) _⟩
  case round =>
    obtain ⟨j, hj1, hj2, rfl, hJ, hC⟩ := hrel
    clear c0 c1 f0 f1 d0 e0 h4 h5
    obtain ⟨cap2, c0, c1, h4, h5, f0, f1, fs, h6⟩ := hJ.look
    by_cases hlt : j < nw L
    · have d0 := h6 (j - 1) (by omega)
      have d1 := h6 j hlt
      have e0 := fs (j - 1)
      have e1 := fs j
      have hwr : IntKind.i64.wrap ((j : Int) - 1) = (j : Int) - 1 := IntWalk.i64_in _ (by omega)
      have hk0 : (0 : Int) ≤ IntKind.i64.wrap ((j : Int) - 1) := by rw [hwr]; omega
      have hk1 : (IntKind.i64.wrap ((j : Int) - 1)).toNat = j - 1 := by rw [hwr]; omega
      have hk2 : IntKind.i64.wrap ((j : Int) - 1) < (nw L : Nat) := by rw [hwr]; omega
      clear hwr
      have HC := Lib.hid hC
      have HJ := Lib.hid hJ
      clear hJ hC fs h6
      go_wp2_with fail
      go_still_tail 19, (by kernel_rfl)
      repeat still_step
      have hst := fun (x y : Int) (hx : x = ((Bit.wd (delH g i j) (j - 1) : Nat) : Int)) (hy : y = ((Bit.wd (delF g i (j + 1)) j : Nat) : Int)) => ((HJ.out.store (g' := delH g i j) (j - 1) (by omega) hx (fun l hl _ => delH_other g i j l hl) (fun k hk => delH_off HO.out hi hk)).drew).store (g' := delF g i (j + 1)) j hlt hy (fun l hl _ => delF_other g i j l hj1 hl) (fun k hk => delF_off HO.out hi hk)
      have HS2 := Lib.hid hst
      clear hst
      go_wp2_with fail
      go_roundw
      case rel => exact ⟨j + 1, by omega, by omega, by go_num, HS2.out _ _ (del_val3 g i j hj1) (del_val4 g i j hj1), (((HC.out.setCell _ (fun _ => Or.inr rfl) _).drew).setCell _ (fun _ => Or.inr rfl) _)⟩
      case measure => simp [intOf]; omega
    · obtain rfl : j = nw L := by omega
      have HC := Lib.hid hC
      have HJ := Lib.hid hJ
      have e1 : delF g i (nw L) = delR g i := delF_end HO.out hi (by unfold nw; omega)
      have hoff2 : ∀ k, L - 1 ≤ k → delF g i (nw L) k = false := fun k hk => by rw [e1]; exact delR_off HO.out hi (by omega)
      have E1 := Lib.hid e1
      have HO2 := Lib.hid hoff2
      have HB1 := Lib.hid fun (x : Int) (hx : x = ((L - 1 : Nat) : Int)) (hn : nw (L - 1) = nw L) => (hJ.shorter hx hn hoff2)
      have HB2 := Lib.hid fun (x : Int) (hx : x = ((L - 1 : Nat) : Int)) (hn : nw (L - 1) ≤ nw L) => (hJ.cut hx hn hoff2 c1)
      clear hJ hC fs h6 e1 hoff2
      have k0 : (wr.setCell ⟨b, 0, none⟩ (.int .u64 ((L : Int) - 1))).cell? ⟨b, 0, none⟩ = some (.int .u64 ((L : Int) - 1)) := World.cell?_setCell_same _ _ _ c0
      go_wp2_with fail
      refine (wordCount_cell b (L - 1) ((L : Int) - 1) (by omega) _ k0 (by omega)).mono ?_
      rintro r w1 ⟨rfl, rfl⟩
      obtain ⟨n', hn'⟩ : ∃ n', n' = nw (L - 1) := ⟨_, rfl⟩
      have hn2 : n' ≤ nw L := by rw [hn']; unfold nw; omega
      rw [← hn']
      have HN := Lib.hid hn'
      clear hn'
      by_cases hz : n' < nw L
      · go_wp2_with fail
        go_ret
        have hn := HN.out
        subst hn
        exact ⟨rfl, sb, (HB2.out _ (by omega) (by omega)).to E1.out, Or.inl rfl, (HC.out.setCell _ (fun _ => Or.inl rfl) _).setCell _ (fun _ => Or.inl rfl) _⟩
      · go_wp2_with fail
        go_ret
        have hn := HN.out
        exact ⟨rfl, sb, (HB1.out _ (by omega) (by omega)).to E1.out, Or.inl rfl, (HC.out.setCell _ (fun _ => Or.inl rfl) _)⟩

set_option maxRecDepth 100000 in
theorem count_any (b sb L : Nat) (g : Nat → Bool) (w : World) (h : BS w b sb L g) (hL : L ≤ 90000) :
    Calls Try.prog 58 #[.pointer (some ⟨b, 0, none⟩)] w fun r w' => r = .returned (.int .u64 (Bit.cnt g L : Nat)) ∧ Ch S0 w w' := by
  obtain ⟨cap, c0, c1, h4, h5, f0, f1, fs, h6⟩ := h.look
  obtain ⟨m, hm⟩ : ∃ m, Bit.cnt g L = m := ⟨_, rfl⟩
  have hm2 : Bit.ones g (64 * 0) (64 * (0 + nw L)) = m := by rw [← hm]; exact Bit.cnt_clamp h.off _ (by unfold nw; omega)
  rw [hm]
  have hc : ∀ j, j < nw L → w.cell? ⟨sb, 0 + j, none⟩ = some (.int .u64 (Bit.wd g (0 + j) : Nat)) := fun j hj => by rw [Nat.zero_add]; exact h6 j hj
  have HM := Lib.hid hm2
  have H6 := Lib.hid hc
  clear h6 fs h hm hm2 hc
  go_enter Try.func58, Try.ntmps58
  go_wp2_with fail
  refine (popcnt_of sb 0 (nw L) _ 0 g _ (by omega) H6.out m HM.out _ rfl).mono ?_
  rintro r w1 ⟨rfl, hC⟩
  have HC := Lib.hid hC
  clear hC
  go_wp2_with fail
  go_ret
  exact ⟨rfl, HC.out⟩
end Go.Proofs.Ytgnhmgnpmbmjcaa
