/- WALKS: DeleteAt, Count. -/
import Derived.Test.YtdkhanfapgnjoaaDoorP6
import Derived.Test.YtdkhanfapgnjoaaDoorWo
namespace Go.Proofs.YtdkhanfapgnjoaaDoor
open Go.RowKit
set_option linter.unusedVariables false
set_option linter.unusedSimpArgs false
theorem high_mask (n : Nat) (h : n < 64) : bits BinOp.xor IntKind.u64 IntKind.u64.max (IntKind.u64.wrap (IntKind.u64.wrap (2 ^ n) - 1)) = ((18446744073709551616 - 2 ^ n : Nat) : Int) := by
  have hp : 0 < 2 ^ n := Nat.pow_pos (by decide)
  have hq := Bit.two_pow_lt64 n h
  rw [low_mask n h, show IntKind.u64.max = ((18446744073709551615 : Nat) : Int) from rfl, u64_xor_nat _ _ (by omega) (low_lt _ (by omega)), all_xor _ (low_lt _ (by omega)), show 18446744073709551615 - (2 ^ n - 1) = 18446744073709551616 - 2 ^ n from by omega]
theorem low_again (n : Nat) (h : n < 64) : bits BinOp.xor IntKind.u64 IntKind.u64.max (((18446744073709551616 - 2 ^ n : Nat) : Int)) = ((2 ^ n - 1 : Nat) : Int) := by
  have hp : 0 < 2 ^ n := Nat.pow_pos (by decide)
  have hq := Bit.two_pow_lt64 n h
  rw [show IntKind.u64.max = ((18446744073709551615 : Nat) : Int) from rfl, u64_xor_nat _ _ (by omega) (high_lt _), all_xor _ (high_lt _), show 18446744073709551615 - (18446744073709551616 - 2 ^ n) = 2 ^ n - 1 from by omega]
theorem del_val1 (g : Nat → Bool) (i : Nat) : bits BinOp.and IntKind.u64 ((Bit.wd g (i / 64) : Nat) : Int) (bits BinOp.xor IntKind.u64 IntKind.u64.max (bits BinOp.xor IntKind.u64 IntKind.u64.max (IntKind.u64.wrap (IntKind.u64.wrap (2 ^ (i % 64)) - 1)))) = ((Bit.wd (delC g i) (i / 64) : Nat) : Int) := by
  rw [high_mask _ (by omega), low_again _ (by omega), u64_and_nat _ _ (Bit.wd_lt _ _) (low_lt _ (by omega)), delC_wd]
theorem del_val2 (g : Nat → Bool) (i : Nat) (x : Int) (hx : x = ((Bit.wd (delC g i) (i / 64) : Nat) : Int)) : bits BinOp.or IntKind.u64 x (bits BinOp.and IntKind.u64 (bits BinOp.and IntKind.u64 ((Bit.wd g (i / 64) : Nat) : Int) (bits BinOp.xor IntKind.u64 IntKind.u64.max (IntKind.u64.wrap (IntKind.u64.wrap (2 ^ (i % 64)) - 1))) / 2) (bits BinOp.xor IntKind.u64 IntKind.u64.max (IntKind.u64.wrap (IntKind.u64.wrap (2 ^ (i % 64)) - 1)))) = ((Bit.wd (delF g i (i / 64 + 1)) (i / 64) : Nat) : Int) := by
  have hlt : (Bit.wd g (i / 64) &&& (18446744073709551616 - 2 ^ (i % 64))) < 18446744073709551616 := Nat.lt_of_le_of_lt Nat.and_le_left (Bit.wd_lt _ _)
  rw [hx, high_mask _ (by omega), u64_and_nat _ _ (Bit.wd_lt _ _) (high_lt _), show ((((Bit.wd g (i / 64) &&& (18446744073709551616 - 2 ^ (i % 64))) : Nat) : Int) / 2) = ((((Bit.wd g (i / 64) &&& (18446744073709551616 - 2 ^ (i % 64))) / 2 : Nat)) : Int) from by omega,
    u64_and_nat _ _ (by omega) (high_lt _), u64_or_nat _ _ (Bit.wd_lt _ _) (Nat.lt_of_le_of_lt Nat.and_le_left (by omega)), delF_first]
theorem del_val3 (g : Nat → Bool) (i j : Nat) (hj : i / 64 < j) : bits BinOp.or IntKind.u64 ((Bit.wd (delF g i j) (j - 1) : Nat) : Int) (IntKind.u64.wrap (bits BinOp.and IntKind.u64 ((Bit.wd (delF g i j) j : Nat) : Int) 1 * 9223372036854775808)) = ((Bit.wd (delH g i j) (j - 1) : Nat) : Int) := by
  have e : IntKind.u64.wrap (bits BinOp.and IntKind.u64 ((Bit.wd (delF g i j) j : Nat) : Int) 1 * 9223372036854775808) = (((Bit.wd (delF g i j) j &&& 1) * 2 ^ 63 % 18446744073709551616 : Nat) : Int) := by
    rw [show (1 : Int) = ((1 : Nat) : Int) from rfl, u64_and_nat _ _ (Bit.wd_lt _ _) (by decide), IntKind.wrap_u64]; omega
  rw [e, u64_or_nat _ _ (Bit.wd_lt _ _) (Nat.mod_lt _ (by decide)), delH_wd g i j hj]
theorem del_val4 (g : Nat → Bool) (i j : Nat) (hj : i / 64 < j) : ((Bit.wd (delF g i j) j : Nat) : Int) / 2 = ((Bit.wd (delF g i (j + 1)) j : Nat) : Int) := by
  rw [← delF_wd g i j hj, delH_other g i j j (by omega)]; omega
theorem BS.shorter {w : World} {b sb L L' : Nat} {g : Nat → Bool} (h : BS w b sb L g) {x : Int} (hx : x = L') (hn : nw L' = nw L) (hoff : ∀ k, L' ≤ k → g k = false) : BS (w.setCell ⟨b, 0, none⟩ (.int .u64 x)) b sb L' g := by
  obtain ⟨hne, _, cap, C, h1, h2, h3, h4, h5, h6⟩ := h
  subst hx
  refine ⟨hne, hoff, cap, C, ?_, h2.setOther (by simpa using hne) _, h3, by omega, h5, fun j hj => h6 j (by omega)⟩
  have := h1.set 0 (.int .u64 (L' : Nat))
  rw [hn]
  simpa using this
theorem BS.cut {w : World} {b sb L L' cap : Nat} {g : Nat → Bool} (h : BS w b sb L g) {x : Int} (hx : x = L') (hn : nw L' ≤ nw L) (hoff : ∀ k, L' ≤ k → g k = false) (hc : w.cell? ⟨b, 1, none⟩ = some (.slice (some ⟨sb, 0, none⟩) (nw L) cap)) : BS ((w.setCell ⟨b, 0, none⟩ (.int .u64 x)).setCell ⟨b, 1, none⟩ (.slice (some ⟨sb, 0, none⟩) (nw L') cap)) b sb L' g := by
  obtain ⟨hne, _, cap', C, h1, h2, h3, h4, h5, h6⟩ := h
  subst hx
  rw [h1.cell] at hc
  simp at hc
  subst hc
  refine ⟨hne, hoff, cap', C, ?_, (h2.setOther (by simpa using hne) _).setOther (by simpa using hne) _, h3, by omega, h5, fun j hj => h6 j (by omega)⟩
  have := (h1.set 0 (.int .u64 (L' : Nat))).set 1 (.slice (some ⟨sb, 0, none⟩) (nw L') cap')
  simpa using this
set_option maxRecDepth 100000 in
theorem count_any (b sb L : Nat) (g : Nat → Bool) (w : World) (h : BS w b sb L g) (hL : L ≤ 90000) :
    Calls Tryd.prog 16 #[.pointer (some ⟨b, 0, none⟩)] w fun r w' => r = .returned (.int .u64 (Bit.cnt g L : Nat)) ∧ Ch S0 w w' := by
  obtain ⟨cap, c0, c1, h4, h5, f0, f1, fs, h6⟩ := h.look
  obtain ⟨m, hm⟩ : ∃ m, Bit.cnt g L = m := ⟨_, rfl⟩
  have hm2 : Bit.ones g (64 * 0) (64 * (0 + nw L)) = m := by rw [← hm]; exact Bit.cnt_clamp h.off _ (by unfold nw; omega)
  rw [hm]
  have hc : ∀ j, j < nw L → w.cell? ⟨sb, 0 + j, none⟩ = some (.int .u64 (Bit.wd g (0 + j) : Nat)) := fun j hj => by rw [Nat.zero_add]; exact h6 j hj
  have HM := Lib.hid hm2
  have H6 := Lib.hid hc
  clear h6 fs h hm hm2 hc
  go_enter Tryd.func16, Tryd.ntmps16
  go_wp2_with fail
  refine (popcnt_of sb 0 (nw L) _ 0 g _ (by omega) H6.out m HM.out _ rfl).mono ?_
  rintro r w1 ⟨rfl, hC⟩
  have HC := Lib.hid hC
  clear hC
  go_wp2_with fail
  go_ret
  exact ⟨rfl, HC.out⟩
end Go.Proofs.YtdkhanfapgnjoaaDoor
