/- WALKS: Select, Rank. -/
import Derived.Test.YtdkhanfapgnjoaaDoorNa
namespace Go.Proofs.YtdkhanfapgnjoaaDoor
open Go.RowKit
set_option linter.unusedVariables false
set_option linter.unusedSimpArgs false

theorem cnt_all_words {g : Nat → Bool} {L : Nat} (h : ∀ k, L ≤ k → g k = false) : Bit.cnt g (64 * nw L) = Bit.cnt g L := by
  obtain ⟨d, hd⟩ := Nat.le.dest (show L ≤ 64 * nw L by unfold nw; omega)
  rw [← hd, Bit.cnt_add, Bit.cnt_none d fun k hk => h _ (by omega), Nat.add_zero]

set_option maxRecDepth 100000 in
set_option maxHeartbeats 1000000 in
theorem select_any (b sb L j : Nat) (g : Nat → Bool) (w : World) (h : BS w b sb L g) (hL : L ≤ 40000) (hj : j < Bit.cnt g L) :
    Calls Tryd.prog 17 #[.pointer (some ⟨b, 0, none⟩), .int .u64 j] w fun e w' => (∃ r : Nat, e = .returned (.int .u64 r) ∧ g r = true ∧ Bit.cnt g r = j) ∧ w = w' := by
  have hall := cnt_all_words h.off
  have hle := Bit.cnt_le g L
  obtain ⟨cap, c0, c1, h4, h5, f0, f1, fs, h6⟩ := h.look
  have D := Lib.hid h6
  have HA := Lib.hid hall
  have HJ := Lib.hid hj
  have hj2 : j ≤ 40000 := by omega
  have hnw : nw L ≤ 1000 := by unfold nw; omega
  clear h fs h6 hall hj hle
  go_enter Tryd.func17, Tryd.ntmps17
  go_wp2_with fail
  go_loopw [5, 15] (fun vt vi wr => ∃ i t : Nat, i ≤ nw L ∧ vi = .int .i64 i ∧ vt = .int .u64 t ∧ Hid (Bit.cnt g (64 * i) + t = j) ∧ t ≤ 40000 ∧ wr = w) (fun _ vi _ => nw L - (intOf vi).toNat)
  case atStart => exact ⟨0, j, by omega, rfl, rfl, Lib.hid (by simp [Bit.cnt]), hj2, rfl⟩
  case round =>
    obtain ⟨i, t, hi, rfl, rfl, HT, ht, hwr⟩ := hrel
    obtain rfl : w = wr := hwr.symm
    have hlt : i < nw L := Nat.lt_of_not_le fun h => by obtain rfl : i = nw L := (by omega); have := HT.out; rw [HA.out] at this; have := HJ.out; omega
    have hlti : (i : Int) < (nw L : Nat) := by omega
    have d0 := D.out i hlt
    obtain ⟨y, hy⟩ : ∃ y, Bit.wd g i = y := ⟨_, rfl⟩
    have hyl : y < 18446744073709551616 := by rw [← hy]; exact Bit.wd_lt _ _
    obtain ⟨p, hp⟩ : ∃ p, Bit.pc y = p := ⟨_, rfl⟩
    have hpl : p ≤ 64 := by rw [← hp]; exact Bit.pc_le _
    have hcw : Bit.cnt g (64 * (i + 1)) = Bit.cnt g (64 * i) + p := by rw [Bit.cnt_word, hy, hp]
    have hc27 := fun w => onesCount_any y hyl w
    rw [hp] at hc27
    have H27 := Lib.hid hc27
    have H28 := Lib.hid (fun (h : t < Bit.pc y) w => select64_any y t hyl h w)
    rw [hy] at d0
    have HY := Lib.hid hy
    have HP := Lib.hid hp
    have HCW := Lib.hid hcw
    clear hy hp hcw hyl hc27
    go_wp2_with fail
    refine (H27.out _).mono ?_
    rintro e w1 ⟨rfl, rfl⟩
    by_cases hb : t < p
    · have hbi : (t : Int) < (p : Nat) := by omega
      go_wp2_with fail
      refine (H28.out (by rw [HP.out]; exact hb) _).mono ?_
      rintro e w1 ⟨⟨r, rfl, hr, h1, h2⟩, rfl⟩
      have Q1 := Lib.hid h1
      have Q2 := Lib.hid h2
      clear h1 h2
      go_wp2_with fail
      go_ret
      obtain ⟨a1, a2⟩ := Bit.wd_found (g := g) (i := i) (r := r) (l := t) hr (by rw [HY.out]; exact Q1.out) (by rw [HY.out]; exact Q2.out)
      exact ⟨⟨64 * i + r, int_eq (by omega), a1, by rw [a2]; exact HT.out⟩, rfl⟩
    · have hbi : ¬ (t : Int) < (p : Nat) := by omega
      have hbj : (p : Int) ≤ (t : Nat) := by omega
      go_wp2_with fail
      go_roundw
      case rel => exact ⟨i + 1, t - p, by omega, by go_num, by go_num, Lib.hid (by have := HT.out; have := HCW.out; omega), by omega, by trivial⟩
      case measure => simp [intOf]; omega

set_option maxRecDepth 100000 in
set_option maxHeartbeats 1000000 in
theorem rank_any (b sb L i : Nat) (g : Nat → Bool) (w : World) (h : BS w b sb L g) (hL : L ≤ 40000) (hi : i < L) :
    Calls Tryd.prog 20 #[.pointer (some ⟨b, 0, none⟩), .int .u64 i] w fun e w' => e = .returned (.int .u64 (Bit.cnt g (i + 1) : Nat)) ∧ w = w' := by
  obtain ⟨cap, c0, c1, h4, h5, f0, f1, fs, h6⟩ := h.look
  obtain ⟨res, hres⟩ : ∃ r, Bit.cnt g (i + 1) = r := ⟨_, rfl⟩
  rw [hres]
  have D := Lib.hid h6
  have HR := Lib.hid hres
  have hnw : nw L ≤ 1000 := by unfold nw; omega
  have i0 : (0 : Int) ≤ (i : Int) / 64 := by omega
  obtain ⟨q, hq⟩ : ∃ q, q = i / 64 := ⟨_, rfl⟩
  have hqi : (i : Int) / 64 = (q : Nat) := by omega
  have hqn : q < nw L := by unfold nw; omega
  have hqni : (q : Int) < (nw L : Nat) := by omega
  have hqni2 : ¬ (nw L : Int) < (q : Nat) := by omega
  have hcl := Bit.cnt_le g (i + 1)
  have HQ := Lib.hid hq
  clear h fs h6 hres hq
  go_enter Tryd.func20, Tryd.ntmps20
  go_wp2_with fail
  go_loopw [4, 7, 8] (fun vr vj _ wr => ∃ j r : Nat, j ≤ q ∧ vj = .int .i64 j ∧ vr = .int .u64 r ∧ Hid (Bit.cnt g (64 * j) = r) ∧ r ≤ 64 * j ∧ wr = w) (fun _ vj _ _ => q - (intOf vj).toNat)
  case atStart => exact ⟨0, 0, by omega, rfl, rfl, Lib.hid rfl, by omega, rfl⟩
  case round =>
    obtain ⟨j, r, hj, rfl, rfl, HT, hr, hwr⟩ := hrel
    obtain rfl : w = wr := hwr.symm
    by_cases hlt : j < q
    · have hlti : (j : Int) < (q : Nat) := by omega
      have hjn : (j : Int) < (nw L : Nat) := by omega
      have d0 := D.out j (by omega)
      obtain ⟨y, hy⟩ : ∃ y, Bit.wd g j = y := ⟨_, rfl⟩
      have hyl : y < 18446744073709551616 := by rw [← hy]; exact Bit.wd_lt _ _
      obtain ⟨p, hp⟩ : ∃ p, Bit.pc y = p := ⟨_, rfl⟩
      have hpl : p ≤ 64 := by rw [← hp]; exact Bit.pc_le _
      have hcw : Bit.cnt g (64 * (j + 1)) = Bit.cnt g (64 * j) + p := by rw [Bit.cnt_word, hy, hp]
      have hc27 := fun w => onesCount_any y hyl w
      rw [hp] at hc27
      have H27 := Lib.hid hc27
      rw [hy] at d0
      have HP := Lib.hid hp
      have HCW := Lib.hid hcw
      clear hy hp hcw hyl hc27
      by_cases hz : y = 0
      · have hzd : ((y : Int) == 0) = true := beq_iff_eq.2 (by omega)
        have hp0 : p = 0 := by rw [← HP.out, hz]; exact Bit.cnt_none 64 fun k _ => Nat.zero_testBit k
        clear hz
        go_wp2_with fail
        go_roundw
        case rel => exact ⟨j + 1, r, by omega, by go_num, rfl, Lib.hid (by rw [HCW.out, HT.out, hp0]; omega), by omega, by trivial⟩
        case measure => simp [intOf]; omega
      · have hzd : ((y : Int) == 0) = false := beq_eq_false_iff_ne.2 (by omega)
        clear hz
        go_wp2_with fail
        refine (H27.out _).mono ?_
        rintro e w1 ⟨rfl, rfl⟩
        go_wp2_with fail
        go_roundw
        case rel => exact ⟨j + 1, r + p, by omega, by go_num, by go_num, Lib.hid (by rw [HCW.out, HT.out]), by omega, by trivial⟩
        case measure => simp [intOf]; omega
    · obtain rfl : j = q := by omega
      have d0 := D.out j (by omega)
      obtain ⟨y, hy⟩ : ∃ y, Bit.wd g j * 2 ^ (63 - i % 64) % 18446744073709551616 = y := ⟨_, rfl⟩
      have hyl : y < 18446744073709551616 := by rw [← hy]; exact Nat.mod_lt _ (by decide)
      have hp : r + Bit.pc y = res := by
        have := Bit.rank_word g i
        rw [← HQ.out, HT.out, HR.out, hy] at this
        exact this
      have H27 := Lib.hid (fun w => onesCount_any y hyl w)
      have hpc := Bit.pc_le y
      have hsh : IntKind.u64.wrap (((Bit.wd g j : Nat) : Int) * 2 ^ min (IntKind.u64.wrap (63 - bits BinOp.and IntKind.u64 (i : Int) 63)).toNat 64) = (y : Int) := by
        have e1 : bits BinOp.and IntKind.u64 (i : Int) 63 = ((i % 64 : Nat) : Int) := by rw [show (63 : Int) = ((63 : Nat) : Int) from rfl, u64_and_nat _ _ (by omega) (by omega), nat_mask6]
        have e2 : (IntKind.u64.wrap (63 - ((i % 64 : Nat) : Int))).toNat = 63 - i % 64 := by rw [IntKind.wrap_u64]; omega
        rw [e1, e2, show min (63 - i % 64) 64 = 63 - i % 64 by omega, IntKind.wrap_u64, ← hy]
        simp
      have HP := Lib.hid hp
      have HY := Lib.hid hy
      clear hp hyl hy
      go_wp2_with fail
      refine (H27.out _).mono ?_
      rintro e w1 ⟨rfl, rfl⟩
      go_wp2_with fail
      go_ret
      exact ⟨int_eq (by have := HP.out; omega), rfl⟩
end Go.Proofs.YtdkhanfapgnjoaaDoor
