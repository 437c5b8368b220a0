/- WALKS: counting bits: OnesCount64, popcntSlice. -/
import Derived.Test.YtdkhanfapgnjoaaDoorWk
import Derived.Test.YtdkhanfapgnjoaaDoorP5
import Derived.Laws.Bits128
namespace Go.Proofs.YtdkhanfapgnjoaaDoor
set_option linter.unusedVariables false
set_option linter.unusedSimpArgs false
open Go.RowKit
theorem u64_fit (n : Nat) (h : n < 18446744073709551616) : IntKind.u64.wrap (n : Int) = (n : Int) := by rw [IntKind.wrap_u64]; omega
set_option maxRecDepth 100000 in
theorem onesCount_any (x : Nat) (hx : x < 18446744073709551616) (w : World) :
    Calls Tryd.prog 27 #[.int .u64 x] w fun e w' => e = .returned (.int .i64 (Bit.pc x : Nat)) ∧ w = w' := by
  obtain ⟨a, ha⟩ : ∃ a, a = ((x / 2) &&& 6148914691236517205) + (x &&& 6148914691236517205) := ⟨_, rfl⟩
  obtain ⟨b, hb⟩ : ∃ b, b = ((a / 4) &&& 3689348814741910323) + (a &&& 3689348814741910323) := ⟨_, rfl⟩
  obtain ⟨c, hc⟩ : ∃ c, c = (b / 16 + b) &&& 1085102592571150095 := ⟨_, rfl⟩
  obtain ⟨d, hd⟩ : ∃ d, d = c + c / 256 := ⟨_, rfl⟩
  obtain ⟨e, he⟩ : ∃ e, e = d + d / 65536 := ⟨_, rfl⟩
  obtain ⟨f, hf⟩ : ∃ f, f = e + e / 4294967296 := ⟨_, rfl⟩
  obtain ⟨hp, la, lb, lb2, ld, le, lf⟩ := Bit.pop_pc hx ⟨ha, hb, hc, hd, he, hf⟩
  have lc : c < 18446744073709551616 := by omega
  have e1 : IntKind.u64.wrap (bits BinOp.and IntKind.u64 ((x : Int) / 2) 6148914691236517205 + bits BinOp.and IntKind.u64 (x : Int) 6148914691236517205) = (a : Int) := by
    have q1 := u64_and_nat (x / 2) 6148914691236517205 (by omega) (by omega)
    have q2 := u64_and_nat x 6148914691236517205 hx (by omega)
    rw [show (x : Int) / 2 = ((x / 2 : Nat) : Int) from by omega, show (6148914691236517205 : Int) = ((6148914691236517205 : Nat) : Int) from rfl, q1, q2, ← Int.natCast_add, ← ha]
    exact u64_fit a la
  have e2 : IntKind.u64.wrap (bits BinOp.and IntKind.u64 ((a : Int) / 4) 3689348814741910323 + bits BinOp.and IntKind.u64 (a : Int) 3689348814741910323) = (b : Int) := by
    have q1 := u64_and_nat (a / 4) 3689348814741910323 (by omega) (by omega)
    have q2 := u64_and_nat a 3689348814741910323 la (by omega)
    rw [show (a : Int) / 4 = ((a / 4 : Nat) : Int) from by omega, show (3689348814741910323 : Int) = ((3689348814741910323 : Nat) : Int) from rfl, q1, q2, ← Int.natCast_add, ← hb]
    exact u64_fit b lb
  have e3 : bits BinOp.and IntKind.u64 (IntKind.u64.wrap ((b : Int) / 16 + (b : Int))) 1085102592571150095 = (c : Int) := by
    have q1 := u64_and_nat (b / 16 + b) 1085102592571150095 lb2 (by omega)
    rw [show (b : Int) / 16 + (b : Int) = ((b / 16 + b : Nat) : Int) from by omega, u64_fit _ lb2, show (1085102592571150095 : Int) = ((1085102592571150095 : Nat) : Int) from rfl, q1, ← hc]
  have e4 : IntKind.u64.wrap ((c : Int) + (c : Int) / 256) = (d : Int) := by
    rw [show (c : Int) + (c : Int) / 256 = (d : Int) from by omega]; exact u64_fit d ld
  have e5 : IntKind.u64.wrap ((d : Int) + (d : Int) / 65536) = (e : Int) := by
    rw [show (d : Int) + (d : Int) / 65536 = (e : Int) from by omega]; exact u64_fit e le
  have e6 : IntKind.u64.wrap ((e : Int) + (e : Int) / 4294967296) = (f : Int) := by
    rw [show (e : Int) + (e : Int) / 4294967296 = (f : Int) from by omega]; exact u64_fit f lf
  have E1 := Lib.hid e1
  have E2 := Lib.hid e2
  have E3 := Lib.hid e3
  have E4 := Lib.hid e4
  have E5 := Lib.hid e5
  have E6 := Lib.hid e6
  have HP := Lib.hid hp
  have LF := Lib.hid lf
  clear e1 e2 e3 e4 e5 e6 hp la lb lb2 lc ld le lf ha hb hc hd he hf hx
  go_enter Tryd.func27, Tryd.ntmps27
  go_wp2
  rw [E1.out, E2.out, E3.out, E4.out, E5.out, E6.out]
  go_ret
  refine ⟨int_eq (by rw [i64_and127, wrap64]; have := HP.out; omega), rfl⟩

theorem Bit.ones_step (g : Nat → Bool) (j0 k : Nat) : Bit.ones g (64 * j0) (64 * (j0 + (k + 1))) = Bit.ones g (64 * j0) (64 * (j0 + k)) + Bit.pc (Bit.wd g (j0 + k)) := Bit.ones_word g (64 * j0) (j0 + k) (by omega)
set_option maxRecDepth 100000 in
theorem popcnt_any (sb o n cap j0 : Nat) (g : Nat → Bool) (w : World) (hn : n ≤ 100000) (hc : ∀ j, j < n → w.cell? ⟨sb, o + j, none⟩ = some (.int .u64 (Bit.wd g (j0 + j) : Nat))) :
    Calls Tryd.prog 26 #[.slice (some ⟨sb, o, none⟩) n cap] w fun e w' => e = .returned (.int .u64 (Bit.ones g (64 * j0) (64 * (j0 + n)) : Nat)) ∧ Ch S0 w w' := by
  have HC := Lib.hid hc
  clear hc
  go_enter Tryd.func26, Tryd.ntmps26
  go_wp2_with fail
  go_loopw [3, 4, 5, 6, 8] (fun v3 v4 v5 v6 v8 wr => ∃ a b c d k : Nat, k ≤ n ∧ v3 = .int .u64 a ∧ v4 = .int .u64 b ∧ v5 = .int .u64 c ∧ v6 = .int .u64 d ∧ v8 = .int .i64 k ∧ Hid (a + b + c + d = Bit.ones g (64 * j0) (64 * (j0 + k))) ∧ a ≤ 64 * k ∧ b ≤ 64 * k ∧ c ≤ 64 * k ∧ d ≤ 64 * k ∧ Ch S0 w wr) (fun _ _ _ _ k _ => n - (intOf k).toNat)
  case atStart => exact ⟨0, 0, 0, 0, 0, Nat.zero_le _, rfl, rfl, rfl, rfl, rfl, Lib.hid (Bit.ones_self _ _).symm, by omega, by omega, by omega, by omega, Ch.refl _ _⟩
  case round =>
    obtain ⟨a, b, c, d, k, hk, rfl, rfl, rfl, rfl, rfl, HS, ha, hb, hc, hd, hch⟩ := hrel
    by_cases hlt : k + 4 ≤ n
    · have x0 := fun j (h : j < n) => show wr.cell? ⟨sb, o + j, none⟩ = some (.int .u64 (Bit.wd g (j0 + j) : Nat)) by rw [World.cell?_of_block (w := w) (hch.block sb (World.block_lt_of_cell? w _ (HC.out j h)) (fun h => h))]; exact HC.out j h
      have d0 := x0 k (by omega)
      have d1 := x0 (k + 1) (by omega)
      have d2 := x0 (k + 2) (by omega)
      have d3 := x0 (k + 3) (by omega)
      have q0 := Bit.pc_le (Bit.wd g (j0 + k))
      have q1 := Bit.pc_le (Bit.wd g (j0 + (k + 1)))
      have q2 := Bit.pc_le (Bit.wd g (j0 + (k + 2)))
      have q3 := Bit.pc_le (Bit.wd g (j0 + (k + 3)))
      have HCH := Lib.hid hch
      clear x0 hch
      go_wp2_with fail
      refine (onesCount_any _ (Bit.wd_lt _ _) _).mono ?_
      rintro r w1 ⟨rfl, rfl⟩
      go_wp2_with fail
      refine (onesCount_any _ (Bit.wd_lt _ _) _).mono ?_
      rintro r w1 ⟨rfl, rfl⟩
      go_wp2_with fail
      refine (onesCount_any _ (Bit.wd_lt _ _) _).mono ?_
      rintro r w1 ⟨rfl, rfl⟩
      go_wp2_with fail
      refine (onesCount_any _ (Bit.wd_lt _ _) _).mono ?_
      rintro r w1 ⟨rfl, rfl⟩
      go_wp2_with fail
      go_roundw
      case rel =>
        refine ⟨a + Bit.pc (Bit.wd g (j0 + k)), b + Bit.pc (Bit.wd g (j0 + (k + 1))), c + Bit.pc (Bit.wd g (j0 + (k + 2))), d + Bit.pc (Bit.wd g (j0 + (k + 3))), k + 4, hlt, by go_num, by go_num, by go_num, by go_num, by go_num, Lib.hid ?_, by omega, by omega, by omega, by omega, HCH.out⟩
        have q := HS.out
        have e0 : Bit.ones g (64 * j0) (64 * (j0 + (k + 1))) = Bit.ones g (64 * j0) (64 * (j0 + k)) + Bit.pc (Bit.wd g (j0 + k)) := Bit.ones_step g j0 k
        have e1 : Bit.ones g (64 * j0) (64 * (j0 + (k + 2))) = Bit.ones g (64 * j0) (64 * (j0 + (k + 1))) + Bit.pc (Bit.wd g (j0 + (k + 1))) := Bit.ones_step g j0 (k + 1)
        have e2 : Bit.ones g (64 * j0) (64 * (j0 + (k + 3))) = Bit.ones g (64 * j0) (64 * (j0 + (k + 2))) + Bit.pc (Bit.wd g (j0 + (k + 2))) := Bit.ones_step g j0 (k + 2)
        have e3 : Bit.ones g (64 * j0) (64 * (j0 + (k + 4))) = Bit.ones g (64 * j0) (64 * (j0 + (k + 3))) + Bit.pc (Bit.wd g (j0 + (k + 3))) := Bit.ones_step g j0 (k + 3)
        omega
      case measure => simp [intOf]; omega
    · have HCH := Lib.hid hch
      clear hch
      go_wp2_with fail
      obtain ⟨t, ht⟩ : ∃ t : Nat, t = a + b + c + d := ⟨_, rfl⟩
      rw [show (a : Int) + b + c + d = (t : Int) from by omega]
      have HT : Hid (t = Bit.ones g (64 * j0) (64 * (j0 + k))) := Lib.hid (ht.trans HS.out)
      clear ht
      go_loopw [2, 8] (fun v2 v8 wr => ∃ t k : Nat, k ≤ n ∧ v2 = .int .u64 t ∧ v8 = .int .i64 k ∧ Hid (t = Bit.ones g (64 * j0) (64 * (j0 + k))) ∧ Ch S0 w wr) (fun _ k _ => n - (intOf k).toNat)
      case atStart => exact ⟨t, k, hk, rfl, rfl, HT, HCH.out⟩
      case round =>
        clear HT HCH HS ha hb hc hd hlt hk
        obtain ⟨t, k, hk, rfl, rfl, HT, hch⟩ := hrel
        by_cases hlt : k < n
        · have x0 := fun j (h : j < n) => show wr.cell? ⟨sb, o + j, none⟩ = some (.int .u64 (Bit.wd g (j0 + j) : Nat)) by rw [World.cell?_of_block (w := w) (hch.block sb (World.block_lt_of_cell? w _ (HC.out j h)) (fun h => h))]; exact HC.out j h
          have d0 := x0 k (by omega)
          have q0 := Bit.pc_le (Bit.wd g (j0 + k))
          have qt : t ≤ 64 * k := by rw [HT.out]; have := Bit.ones_le g (64 * j0) (64 * (j0 + k)); omega
          have HCH := Lib.hid hch
          clear x0 hch
          go_wp2_with fail
          refine (onesCount_any _ (Bit.wd_lt _ _) _).mono ?_
          rintro r w1 ⟨rfl, rfl⟩
          go_wp2_with fail
          go_roundw
          case rel => exact ⟨t + Bit.pc (Bit.wd g (j0 + k)), k + 1, hlt, by go_num, by go_num, Lib.hid (by rw [Bit.ones_step, HT.out]), HCH.out⟩
          case measure => simp [intOf]; omega
        · obtain rfl : k = n := by omega
          have HCH := Lib.hid hch
          clear hch
          go_wp2_with fail
          go_ret
          have q := HT.out
          subst q
          exact ⟨rfl, HCH.out⟩
end Go.Proofs.YtdkhanfapgnjoaaDoor
