/- WALKS: what is said of an entry. -/
import Derived.Test.YtbfcnimebdoagaaFK
import Derived.Test.YtbfcnimebdoagaaFN
import Derived.Deep.RegionLaw
import Derived.Laws.FloatArith
namespace Go.Proofs.Ytbfcnimebdoagaa
open Go.RowKit
set_option linter.unusedVariables false
set_option linter.unusedSimpArgs false

set_option maxHeartbeats 4000000 in
set_option maxRecDepth 100000 in
theorem said_any (hh i a n c : Nat) (v0 : Value) (Ad : Option Addr) (E : List (Option Nat)) (p : Int) (w : World) (hB : Blk w hh #[v0, .slice Ad n c]) (hR : Rd w Ad (ovs E)) (hn : E.length = n) (hn9 : n ≤ 100000) (hi : E[i]? = some (some a)) (hu : ∀ j, E[j]? = some (some a) → j = i) (hM : ∀ b, some b ∈ E → ∃ c, Blk w b c)
    (h6 : w.cell? ⟨a, 6, none⟩ = some (.float .f64 (floatOfInt .f64 p))) (hp : p.natAbs < 2 ^ 53) :
    Calls Try.prog 36 #[.pointer (some ⟨hh, 0, none⟩), .pointer (some ⟨a, 0, none⟩), .nilIface] w fun r w' => r = .returned (.agg #[.bool true, .int .i64 i, .int .i64 p, .int .i64 0, .bool false]) ∧ Ch S0 w w' := by
  have hin : i < n := by rw [← hn]; exact (List.getElem?_eq_some_iff.1 hi).1
  obtain ⟨W1, hW1⟩ : ∃ W, W = (w.alloc (.cells #[.bool false, .int .i64 0, .int .i64 0, .int .i64 0, .bool false] 32)).alloc (.cells #[.bool true, .int .i64 (-1), .int .i64 0, .int .i64 0, .bool false] 32) := ⟨_, rfl⟩
  have hC1 : Ch S0 w W1 := by rw [hW1]; exact ((Ch.refl _ _).alloc _).alloc _
  have hB1 : Blk W1 (w.heap.size + 1) #[.bool true, .int .i64 (-1), .int .i64 0, .int .i64 0, .bool false] := by
    have := Blk.new (w.alloc (.cells #[.bool false, .int .i64 0, .int .i64 0, .int .i64 0, .bool false] 32)) #[.bool true, .int .i64 (-1), .int .i64 0, .int .i64 0, .bool false] 32
    rw [World.size_alloc] at this
    rw [hW1]
    exact this
  have hB0 : Blk W1 w.heap.size #[.bool false, .int .i64 0, .int .i64 0, .int .i64 0, .bool false] := by
    rw [hW1]
    exact (Blk.new w #[.bool false, .int .i64 0, .int .i64 0, .int .i64 0, .bool false] 32).alloc _
  have HB0 := Lib.hid hB0
  have k1 := (hB.keep hC1 (fun h => h)).cell 1
  simp only [List.getElem?_toArray, List.getElem?_cons_zero, List.getElem?_cons_succ] at k1
  obtain ⟨ob, hob⟩ : ∃ o, o = w.heap.size + 1 := ⟨_, rfl⟩
  have HC1 := Lib.hid hC1
  have HB1 := Lib.hid hB1
  have HW1 := Lib.hid hW1
  have HR := Lib.hid hR
  have HN := Lib.hid hn
  have HI := Lib.hid hi
  have HU := Lib.hid hu
  have HM := Lib.hid hM
  have H6 := Lib.hid h6
  have HP := Lib.hid hp
  have HOb := Lib.hid hob
  clear hB hC1 hB1 hB0 hR hn hi hu hM h6 hp hW1
  go_enter Try.func36, Try.ntmps36
  go_upto_region 2 with fail
  rw [← HW1.out]
  rw [← hob]
  rw [← hob] at HB1
  clear hob
  go_wp2_with fail
  go_loopw [18] (fun vi wr => ∃ j : Nat, j ≤ n ∧ vi = .int .i64 j ∧ Blk wr ob #[.bool true, .int .i64 (if i < j then (i : Int) else -1), .int .i64 (if i < j then p else 0), .int .i64 0, .bool false] ∧ Ch (S1 ob) W1 wr) (fun vi _ => n - (intOf vi).toNat)
  case atStart => exact ⟨0, Nat.zero_le _, rfl, HB1.out, Ch.refl _ _⟩
  case round =>
    obtain ⟨j, hj, rfl, hB, hC⟩ := hrel
    have HB := Lib.hid hB
    have HC := Lib.hid hC
    clear hB hC
    by_cases hlt : j < n
    · have hlti : (j : Int) < (n : Nat) := by omega
      have hj0 : (0 : Int) ≤ (j : Nat) := by omega
      obtain ⟨o, ho⟩ : ∃ o, E[j]? = some o := ⟨_, List.getElem?_eq_getElem (by rw [HN.out]; exact hlt)⟩
      have hcb : ∀ b q, Ad = some ⟨b, q, none⟩ → ¬ S1 ob b := fun b q e h => by
        obtain ⟨b', q', e', h'⟩ := HR.out.lt (by rw [ovs_length, HN.out]; omega)
        rw [e] at e'; cases e'
        have : b = ob := h
        have := HOb.out
        omega
      obtain ⟨qb, qo, e, c0⟩ := ((HR.out.keep0 HC1.out).keep HC.out hcb).at (ovs_at ho)
      subst e
      have HO := Lib.hid ho
      clear ho hcb
      have HBk : ∀ b, some b ∈ E → ∃ c, Blk wr b c := fun b hb => by
        obtain ⟨c, hc⟩ := HM.out b hb
        exact ⟨c, (hc.keep HC1.out (fun h => h)).keep HC.out (fun h => by have : b = ob := h; have := hc.lt; have := HOb.out; omega)⟩
      by_cases hji : j = i
      · have hoa : o = some a := by have := HO.out; rw [hji, HI.out] at this; exact (Option.some.inj this).symm
        subst hoa
        subst hji
        obtain ⟨ca, hca⟩ := HBk a (List.mem_of_getElem? HI.out)
        have hpe := ptr_eq hca hca
        rw [decide_eq_true rfl] at hpe
        dsimp only [op] at c0
        have hB := HB.out
        rw [if_neg (Nat.lt_irrefl j), if_neg (Nat.lt_irrefl j)] at hB
        have z1 := hB.cell 1
        have z2 := hB.cell 2
        have y1 := hB.free 1
        have y2 := hB.free 2
        simp only [List.getElem?_toArray, List.getElem?_cons_zero, List.getElem?_cons_succ] at z1 z2
        have hab : a < w.heap.size := World.block_lt_of_cell? w _ H6.out
        have c6 : wr.cell? ⟨a, 6, none⟩ = some (.float .f64 (floatOfInt .f64 p)) := by
          rw [World.cell?_of_block (w := w) (((HC1.out.mono (T := S1 ob) (fun _ _ h => h.elim)).trans HC.out).block a hab (fun h => by have : a = ob := h; have := HOb.out; omega))]
          exact H6.out
        have hcv : ∀ w, (convert 78 3 (.float .f64 (floatOfInt .f64 p))).run Try.prog w = .ok (.int .i64 p) w := fun w => run_convert_float_int w 78 3 .f64 .i64 _ p (by kernel_rfl) (by kernel_rfl) (fl_back p HP.out)
        obtain ⟨fp, hfp⟩ : ∃ q, q = floatOfInt .f64 p := ⟨_, rfl⟩
        rw [← hfp] at c6 hcv
        have HB2 := Lib.hid hB
        clear HBk hca hab hB hfp
        go_wp2_with fail
        go_region
        have hb1 := HB2.out.set 1 (.int .i64 j)
        have hb2 := hb1.set 2 (.int .i64 p)
        simp only [List.setIfInBounds_toArray, List.set_cons_zero, List.set_cons_succ] at hb2
        have HB3 := Lib.hid hb2
        clear hb1 hb2 z1 z2 y1 y2 c6 hcv hpe c0
        go_step
        go_wp2_with fail
        go_roundw
        case rel =>
          refine ⟨j + 1, by omega, by go_num, ?_, ?_⟩
          · rw [if_pos (Nat.lt_succ_self j), if_pos (Nat.lt_succ_self j)]
            exact HB3.out
          · exact ((HC.out.setCell ⟨ob, 1, none⟩ (fun _ => rfl) _).setCell ⟨ob, 2, none⟩ (fun _ => rfl) _).drew
        case measure => simp [intOf]; omega
      · have hoa : o ≠ some a := fun e => hji (HU.out j (e ▸ HO.out))
        cases o with
        | none => 
          dsimp only [op] at c0
          clear HBk hoa
          go_wp2_with fail
          go_roundw
          case rel =>
            refine ⟨j + 1, by omega, by go_num, ?_, HC.out⟩
            have e : (i < j + 1) = (i < j) := by simp; omega
            simp only [e]
            exact HB.out
          case measure => simp [intOf]; omega
        | some b =>
          have hab : a ≠ b := fun e => hoa (by rw [e])
          obtain ⟨ca, hca⟩ := HBk a (List.mem_of_getElem? HI.out)
          obtain ⟨cb, hcb⟩ := HBk b (List.mem_of_getElem? HO.out)
          have hpe := ptr_eq hca hcb
          rw [decide_eq_false hab] at hpe
          dsimp only [op] at c0
          clear HBk hoa hab hca hcb
          go_wp2_with fail
          go_roundw
          case rel =>
            refine ⟨j + 1, by omega, by go_num, ?_, HC.out⟩
            have e : (i < j + 1) = (i < j) := by simp; omega
            simp only [e]
            exact HB.out
          case measure => simp [intOf]; omega
    · have hin2 : ¬ (j : Int) < (n : Nat) := by omega
      have hjn : j = n := by omega
      have hB := HB.out
      rw [if_pos (by omega), if_pos (by omega)] at hB
      have z0 := hB.cell 0
      have z1 := hB.cell 1
      have z2 := hB.cell 2
      have z3 := hB.cell 3
      have z4 := hB.cell 4
      simp only [List.getElem?_toArray, List.getElem?_cons_zero, List.getElem?_cons_succ] at z0 z1 z2 z3 z4
      have hr := HB0.out.keep HC.out (fun h => by have : w.heap.size = ob := h; have := HOb.out; omega)
      have x0 := hr.cell 0
      have x1 := hr.cell 1
      have x2 := hr.cell 2
      have x3 := hr.cell 3
      have x4 := hr.cell 4
      have f0 := hr.free 0
      have f1 := hr.free 1
      have f2 := hr.free 2
      have f3 := hr.free 3
      have f4 := hr.free 4
      simp only [List.getElem?_toArray, List.getElem?_cons_zero, List.getElem?_cons_succ] at x0 x1 x2 x3 x4
      have hrl := hr.lt
      clear hlt hj hjn hB hr
      go_wp2_with fail
      refine bodyPost_ret (v := .agg #[.bool true, .int .i64 i, .int .i64 p, .int .i64 0, .bool false]) (by simp [results, Try.results36, go_sem, x0, x1, x2, x3, x4, hrl]) rfl ⟨rfl, ?_⟩
      have hcc : Ch S0 w wr := HC1.out.trans' HC.out (fun k hk e => by have : k = ob := e; have := HOb.out; omega)
      exact ((((hcc.setCell ⟨w.heap.size, 0, none⟩ (fun h => absurd h (Nat.lt_irrefl _)) _).setCell ⟨w.heap.size, 1, none⟩ (fun h => absurd h (Nat.lt_irrefl _)) _).setCell ⟨w.heap.size, 2, none⟩ (fun h => absurd h (Nat.lt_irrefl _)) _).setCell ⟨w.heap.size, 3, none⟩ (fun h => absurd h (Nat.lt_irrefl _)) _).setCell ⟨w.heap.size, 4, none⟩ (fun h => absurd h (Nat.lt_irrefl _)) _
end Go.Proofs.Ytbfcnimebdoagaa
