/- THE WALK of FnFIDeepOrder. -/
import Derived.Test.YtjliofloheellaaV
import Derived.StillTailTactics
import Derived.Deep.RegionLaw
import Derived.RegionTactic
import Derived.ChangeAlike
import Derived.BigQuiet
import Derived.Deep.QuietTactic
namespace Go.Proofs.Ytjliofloheellaa
open Go.RowKit
set_option linter.unusedVariables false
set_option linter.unusedSimpArgs false

/-- n steps that came in: their keys and values. -/
def PIn (w : World) (A : Option Addr) (n : Nat) (k v : Nat → Nat) : Prop := ∀ j, j < n → k j < 18446744073709551616 ∧ v j < 18446744073709551616 ∧ ∃ q o, A = some ⟨q, o, none⟩ ∧ w.cell? ⟨q, o + j * 3 + 1, none⟩ = some (.int .u64 (k j : Nat)) ∧ w.cell? ⟨q, o + j * 3 + 2, none⟩ = some (.int .u64 (v j : Nat))
theorem PIn.keep {w w' : World} {A : Option Addr} {n : Nat} {k v : Nat → Nat} (h : PIn w A n k v) (hc : Ch S0 w w') : PIn w' A n k v := fun j hj => by
  obtain ⟨h0, h1, q, o, h2, h3, h4⟩ := h j hj
  have hb := hc.block q (World.block_lt_of_cell? w _ h3) (fun h => h)
  exact ⟨h0, h1, q, o, h2, by rw [World.cell?_of_block (w := w) hb]; exact h3, by rw [World.cell?_of_block (w := w) hb]; exact h4⟩

/-- Behind i rounds: the steps so far. -/
structure ThI (W wr : World) (vt : Value) (xs : List Stp) : Prop where
  row : Row3 W.heap.size wr vt xs
  sets : Sets xs
  small : ∀ x ∈ xs, x.k < 18446744073709551616
  ch : Ch S0 W wr

theorem ThI.keep {W wr w' : World} {vt : Value} {xs : List Stp} (h : ThI W wr vt xs) (hc : Ch S0 wr w') : ThI W w' vt xs := ⟨h.row.keepS hc (fun _ _ h => h), h.sets, h.small, h.ch.trans hc⟩
theorem ThI.grow {W wr w' : World} {vt v' : Value} {xs : List Stp} {x : Stp} (h : ThI W wr vt xs) (hr : Row3 W.heap.size w' v' (xs ++ [x])) (hc : Ch (fun b => vt.ownBlock = some b) wr w') (hx : x.op = 1 ∧ x.k < 18446744073709551616) (hf : ∀ (l : Nat) (y : Stp), xs[l]? = some y → y.k ≠ x.k) : ThI W w' v' (xs ++ [x]) := by
  refine ⟨hr, ⟨fun y hy => ?_, fun i j a b ha hb e => ?_⟩, fun y hy => ?_, h.ch.trans' hc (fun k hk hs => ?_)⟩
  · rw [List.mem_append, List.mem_singleton] at hy
    rcases hy with hy | rfl
    · exact h.sets.op y hy
    · exact hx.1
  · have cas : ∀ (l : Nat) (y : Stp), (xs ++ [x])[l]? = some y → (l < xs.length ∧ xs[l]? = some y) ∨ (l = xs.length ∧ y = x) := fun l y hl => by
      have h1 := (List.getElem?_eq_some_iff.1 hl).1
      simp at h1
      by_cases h2 : l < xs.length
      · rw [List.getElem?_append_left h2] at hl; exact Or.inl ⟨h2, hl⟩
      · have h3 : l = xs.length := by omega
        subst h3
        simp at hl
        exact Or.inr ⟨rfl, hl.symm⟩
    rcases cas i a ha with ⟨_, h1⟩ | ⟨h1, rfl⟩ <;> rcases cas j b hb with ⟨_, h2⟩ | ⟨h2, rfl⟩
    · exact h.sets.diff i j a b h1 h2 e
    · exact absurd e (hf i a h1)
    · exact absurd e.symm (hf j b h2)
    · omega
  · rw [List.mem_append, List.mem_singleton] at hy
    rcases hy with hy | rfl
    · exact h.small y hy
    · exact hx.2
  · have := own_lt h.row k hs
    omega

theorem two_cells (w : World) (x y : Stp) : ∀ i u, (stepCells [x, y])[i]? = some u → (w.alloc (Obj.cells #[Value.int .i64 x.op, .int .u64 x.k, .int .u64 x.v, .int .i64 y.op, .int .u64 y.k, .int .u64 y.v] 26)).cell? ⟨w.heap.size, i, none⟩ = some u := fun i u h => by
  have hb := Blk.new w #[Value.int .i64 x.op, .int .u64 x.k, .int .u64 x.v, .int .i64 y.op, .int .u64 y.k, .int .u64 y.v] 26
  rw [hb.cell]
  simpa [stepCells] using h
theorem two_cellsD (w : World) (x y : Stp) : ∀ i u, (stepCells [x, y])[i]? = some u → (World.drew (w.alloc (Obj.cells #[Value.int .i64 x.op, .int .u64 x.k, .int .u64 x.v, .int .i64 y.op, .int .u64 y.k, .int .u64 y.v] 26))).cell? ⟨w.heap.size, i, none⟩ = some u := two_cells w x y
theorem steps_two (w : World) (x y : Stp) : Steps (w.alloc (Obj.cells #[Value.int .i64 x.op, .int .u64 x.k, .int .u64 x.v, .int .i64 y.op, .int .u64 y.k, .int .u64 y.v] 26)) (some ⟨w.heap.size, 0, none⟩) [x, y] := fun j z hj => by
  obtain ⟨a1, a2, a3⟩ := stepCells_at _ j z hj
  exact ⟨_, 0, rfl, by rw [Nat.zero_add]; exact two_cells w x y _ _ a1, by rw [Nat.zero_add]; exact two_cells w x y _ _ a2, by rw [Nat.zero_add]; exact two_cells w x y _ _ a3⟩
theorem fine_two (ot : Nat) : Fine [⟨1, ot, 4⟩, ⟨3, ot, 0⟩] S00 := by
  intro i x h
  match i, h with
  | 0, h => simp at h; subst h; exact ⟨by simp, fun _ => rfl, by simp [sts]⟩
  | 1, h => simp at h; subst h; exact ⟨by simp, by simp, by simp [sts, next]⟩
  | i + 2, h => simp at h
theorem says_two (ot : Nat) : says [⟨1, ot, 4⟩, ⟨3, ot, 0⟩] S00 2 = [(0, false), (0, true)] := by
  simp [says, sts, next, said, upd]
theorem one_cells (w : World) (x : Stp) : ∀ i u, (stepCells [x])[i]? = some u → (w.alloc (Obj.cells #[Value.int .i64 x.op, .int .u64 x.k, .int .u64 x.v] 26)).cell? ⟨w.heap.size, i, none⟩ = some u := fun i u h => by
  have hb := Blk.new w #[Value.int .i64 x.op, .int .u64 x.k, .int .u64 x.v] 26
  rw [hb.cell]
  simpa [stepCells] using h

set_option maxRecDepth 100000 in
set_option maxHeartbeats 8000000 in
theorem order_small (u n cap ot : Nat) (A : Option Addr) (k v : Nat → Nat) (w : World) (hu : u < 65536) (hn : n ≤ 2147483647) (hA : PIn w A n k v) (hot : (ot : Int) ≤ 18446744073709551615) :
    Calls Try.prog 3 #[.int .u16 u, .slice A n cap, .int .u64 ot] w fun r w' => r = .returned (.bool true) ∧ Ch S0 w w' := by
  have HA := Lib.hid hA
  clear hA
  go_enter Try.func3, Try.ntmps3
  go_wp2_with fail
  go_loopw [7, 10] (fun vt vi wr => ∃ (i : Nat) (xs : List Stp), i ≤ n ∧ i ≤ 100 ∧ xs.length ≤ i ∧ vi = .int .i64 i ∧ ThI w wr vt xs) (fun _ vi _ => n - (intOf vi).toNat)
  case atStart => exact ⟨0, [], by omega, by omega, by simp, rfl, Row3.nil _ _, ⟨fun _ h => (by cases h), fun _ _ _ _ h => (by simp at h)⟩, fun _ h => (by cases h), Ch.refl _ _⟩
  case round =>
    obtain ⟨i, xs, hi, hi2, hxl, rfl, hJ⟩ := hrel
    have HJ := Lib.hid hJ
    clear hJ
    by_cases hlt : i < n ∧ i < 100
    · have h1 : (i : Int) < (n : Nat) := by omega
      have h2 : (i : Int) < 100 := by omega
      obtain ⟨hk, hv, q, o, hAe, c1, c2⟩ := (HA.out.keep HJ.out.ch) i hlt.1
      subst hAe
      have hq0 : (0 : Int) ≤ (i : Nat) := by omega
      obtain ⟨_, _, q', o', hAe', c1', c2'⟩ := (HA.out.keep (HJ.out.ch.alloc (Obj.cells #[Value.int .i64 0, .int .u64 0, .int .u64 0] 26))) i hlt.1
      simp only [Option.some.injEq, Addr.mk.injEq, and_true] at hAe'
      obtain ⟨rfl, rfl⟩ := hAe'
      have hql := World.block_lt_of_cell? wr _ c1
      have HK := Lib.hid hk
      clear hk hv
      go_wp2_with fail
      go_region
      generalize hw1 : (World.drew (wr.alloc (Obj.cells #[Value.int .i64 1, .int .u64 (k i : Nat), .int .u64 (v i : Nat)] 26))) = w1
      have hC1 : Ch S0 wr w1 := by rw [← hw1]; exact ((Ch.refl _ _).alloc _).drew
      have hB1 : Blk w1 wr.heap.size #[Value.int .i64 1, .int .u64 (k i : Nat), .int .u64 (v i : Nat)] := by rw [← hw1]; exact (Blk.new _ _ _).drew
      have HJ1 := Lib.hid (HJ.out.keep hC1)
      have HB1 := Lib.hid hB1
      obtain ⟨A', cap', hvt, _⟩ := HJ.out.row.shape
      subst hvt
      generalize wr.heap.size = sb at *
      clear hC1 hB1 hw1 HJ c1 c2 c1' c2' hql
      have hlen : xs.length ≤ 100 := by omega
      go_wp2_with fail
      go_loopw [12, 13] (fun vf vj wr2 => ∃ (j : Nat) (fr : Bool), j ≤ xs.length ∧ vf = .bool fr ∧ vj = .int .i64 j ∧ Hid (fr = true ↔ ∀ l y, l < j → xs[l]? = some y → y.k ≠ k i) ∧ Ch S0 w1 wr2) (fun _ vj _ => xs.length - (intOf vj).toNat)
      case atStart => exact ⟨0, true, by omega, rfl, rfl, Lib.hid ⟨fun _ l y h => (by omega), fun _ => rfl⟩, Ch.refl _ _⟩
      case round =>
        obtain ⟨j, fr, hj, rfl, rfl, HFr, hC2⟩ := hrel
        have HJ2 := Lib.hid (HJ1.out.keep hC2)
        have HB2 := Lib.hid (HB1.out.keep hC2 (fun h => h))
        have HC2 := Lib.hid hC2
        clear hC2
        by_cases hjl : j < xs.length
        · have hji : (j : Int) < (xs.length : Nat) := by omega
          have hj0 : (0 : Int) ≤ (j : Nat) := by omega
          obtain ⟨x, hx⟩ : ∃ x, xs[j]? = some x := ⟨xs[j], by simp [hjl]⟩
          obtain ⟨A2, cap2, hA2, hSt, _⟩ := HJ2.out.row.shape
          simp only [Value.slice.injEq] at hA2
          obtain ⟨rfl, _, rfl⟩ := hA2
          obtain ⟨g, go, hAg, _, d1, _⟩ := hSt j x hx
          subst hAg
          have y1 := HB2.out.cell 1
          simp only [List.getElem?_toArray, List.getElem?_cons_zero, List.getElem?_cons_succ] at y1
          have hstep : ∀ b : Bool, (b = true ↔ fr = true ∧ x.k ≠ k i) → (b = true ↔ ∀ l y, l < j + 1 → xs[l]? = some y → y.k ≠ k i) := fun b hb => by
            rw [hb, HFr.out]
            constructor
            · rintro ⟨h1, h2⟩ l y hl hy
              by_cases e : l = j
              · subst e; rw [hx] at hy; cases hy; exact h2
              · exact h1 l y (by omega) hy
            · intro h1
              exact ⟨fun l y hl hy => h1 l y (by omega) hy, h1 j x (by omega) hx⟩
          have HSt := Lib.hid hstep
          clear hSt hx hstep
          cases fr with
          | false =>
            go_wp2_with fail
            go_quiet (fail)
            go_wp2_with fail
            go_roundw
            case rel => exact ⟨j + 1, false, by omega, rfl, by go_num, Lib.hid (HSt.out false (by simp)), HC2.out.trans (by first | exact Ch.refl _ _ | exact (Ch.refl _ _).drew | exact ⟨rfl, rfl, rfl, Nat.le_refl _, fun _ _ _ => rfl⟩)⟩
            case measure => simp [intOf]; omega
          | true =>
            by_cases hk2 : x.k = k i
            · have hd : ((x.k : Int) != ((k i : Nat) : Int)) = false := by simp; omega
              have HKe := Lib.hid hk2
              clear hk2
              go_wp2_with fail
              go_quiet (fail)
              go_wp2_with fail
              go_roundw
              case rel => exact ⟨j + 1, false, by omega, rfl, by go_num, Lib.hid (HSt.out false (by simp [HKe.out])), HC2.out.trans (by first | exact Ch.refl _ _ | exact (Ch.refl _ _).drew | exact ⟨rfl, rfl, rfl, Nat.le_refl _, fun _ _ _ => rfl⟩)⟩
              case measure => simp [intOf]; omega
            · have hd : ((x.k : Int) != ((k i : Nat) : Int)) = true := by simp; omega
              have HKe := Lib.hid hk2
              clear hk2
              go_wp2_with fail
              go_quiet (fail)
              go_wp2_with fail
              go_roundw
              case rel => exact ⟨j + 1, true, by omega, rfl, by go_num, Lib.hid (HSt.out true (by simp [HKe.out])), HC2.out.trans (by first | exact Ch.refl _ _ | exact (Ch.refl _ _).drew | exact ⟨rfl, rfl, rfl, Nat.le_refl _, fun _ _ _ => rfl⟩)⟩
              case measure => simp [intOf]; omega
        · have hje : j = xs.length := by omega
          have hjn : ¬ (j : Int) < (xs.length : Nat) := by omega
          have HJe := Lib.hid hje
          have y0 := HB2.out.cell 0
          have y1 := HB2.out.cell 1
          have y2 := HB2.out.cell 2
          simp only [List.getElem?_toArray, List.getElem?_cons_zero, List.getElem?_cons_succ] at y0 y1 y2
          clear hje
          cases fr with
          | false =>
            go_wp2_with fail
            go_roundw
            case rel => exact ⟨i + 1, xs, by omega, by omega, by omega, by go_num, HJ2.out⟩
            case measure => simp [intOf]; omega
          | true =>
            have hrow := HJ2.out.row.keepS (S := S0) ((Ch.refl _ _).alloc (Obj.cells #[Value.int .i64 ((1 : Nat) : Int), .int .u64 (k i : Nat), .int .u64 (v i : Nat)] 26)) (fun _ _ h => h)
            have HRow := Lib.hid hrow
            have hsz := HJ2.out.ch.size
            have hsz3 : w.heap.size ≤ (wr.alloc (Obj.cells #[Value.int .i64 1, .int .u64 (k i : Nat), .int .u64 (v i : Nat)] 26)).heap.size := by simp; omega
            clear hrow
            go_wp2_with (at_builtin; go_loud (refine app26 rfl _ _ rfl w.heap.size (.slice A' xs.length cap') xs [⟨1, k i, v i⟩] rfl HRow.out wr.heap.size 1 1 rfl rfl (one_cells wr ⟨1, k i, v i⟩) (by omega) (by omega) hsz3 ?_); intro v' w3 hrow3 hgr3 hb3; have HG := Lib.hid (HJ2.out.grow (x := ⟨1, k i, v i⟩) hrow3 (((Ch.refl _ _).alloc _).trans (Ch.ofGrown hgr3 fun b hb => hb)) ⟨rfl, HK.out⟩ (fun l y hy => HFr.out.1 rfl l y (by have := (List.getElem?_eq_some_iff.1 hy).1; have := HJe.out; omega) hy)); clear hrow3 hgr3 hb3)
            go_roundw
            case rel => exact ⟨i + 1, _, by omega, by omega, by simp; omega, by go_num, HG.out⟩
            case measure => simp [intOf]; omega
    · by_cases hin : i < n
      · have h1 : (i : Int) < (n : Nat) := by omega
        have h2 : ¬ (i : Int) < 100 := by omega
        have HI0 : Hid (BkI w wr u7 (.slice none 0 0) (.slice none 0 0) xs [] []) := Lib.hid ⟨HJ.out.row, Row3.nil _ _, Row3.nil _ _, fun _ _ h => (by cases h), fun _ _ h => (by cases h), fun _ h => (by cases h), HJ.out.ch⟩
        have HSets := Lib.hid HJ.out.sets
        have HSm := Lib.hid HJ.out.small
        have hxl2 : xs.length ≤ 100 := by omega
        obtain ⟨A', cap', hvt, _⟩ := HJ.out.row.shape
        subst hvt
        clear HJ
        go_wp2_with fail
        go_loopw [8, 9, 14] (fun vb va vi wr3 => ∃ j : Nat, j ≤ xs.length ∧ vi = .int .i64 ((xs.length : Int) - 1 - j) ∧ BkI w wr3 (.slice A' xs.length cap') vb va xs (xs.reverse.take j) (askL xs j)) (fun _ _ vi _ => (intOf vi + 1).toNat)
        case atStart => exact ⟨0, by omega, by go_num, HI0.out⟩
        case round =>
          obtain ⟨j, hj, rfl, hB⟩ := hrel
          have HB := Lib.hid hB
          clear hB HI0
          by_cases hjl : j < xs.length
          · obtain ⟨l, hl⟩ : ∃ l, l = xs.length - 1 - j := ⟨_, rfl⟩
            have hli : (xs.length : Int) - 1 - j = (l : Nat) := by omega
            have hl0 : (0 : Int) ≤ (l : Nat) := by omega
            have hll : (l : Int) < (xs.length : Nat) := by omega
            obtain ⟨x, hx⟩ : ∃ x, xs[l]? = some x := ⟨xs[l]'(by omega), by simp [show l < xs.length by omega]⟩
            have hxop : x.op = 1 := HSets.out.op x (List.mem_of_getElem? hx)
            obtain ⟨xo, xk, xv⟩ := x
            obtain rfl : xo = 1 := hxop
            have hxk : xk < 18446744073709551616 := HSm.out _ (List.mem_of_getElem? hx)
            have htk := rev_take hjl (by rw [← hl]; exact hx)
            have hak := askL_succ hjl (by rw [← hl]; exact hx)
            have hal := askL_len xs j hj
            obtain ⟨hst, _⟩ := HB.out.t.steps
            obtain ⟨g, go, hAg, c0, c1, c2⟩ := hst l _ hx
            subst hAg
            have c0 : wr.cell? ⟨g, go + l * 3, none⟩ = some (.int .i64 1) := c0
            have hgl := World.block_lt_of_cell? wr _ c0
            rw [hli]
            obtain ⟨k1, hk1⟩ : ∃ k1, k1 = (xk + 1) % 18446744073709551616 := ⟨_, rfl⟩
            have hw1 : IntKind.u64.wrap ((xk : Int) + 1) = (k1 : Nat) := by rw [IntKind.wrap_u64]; omega
            have HX := Lib.hid hx
            have HTk := Lib.hid htk
            have HAk := Lib.hid hak
            have HK1 := Lib.hid hk1
            have HLi := Lib.hid hli
            have htl : (xs.reverse.take j).length = j := by simp; omega
            have hrowB := HB.out.b.keepS (S := S0) ((Ch.refl _ _).alloc (Obj.cells #[Value.int .i64 ((1 : Nat) : Int), .int .u64 (xk : Nat), .int .u64 (xv : Nat)] 26)) (fun _ _ h => h)
            have HRowB := Lib.hid hrowB
            have hsz := HB.out.ch.size
            have hsz3 : w.heap.size ≤ (wr.alloc (Obj.cells #[Value.int .i64 1, .int .u64 (xk : Nat), .int .u64 (xv : Nat)] 26)).heap.size := by simp; omega
            clear htk hak hk1 hx hst hrowB hl hli hxk
            go_wp2_with (at_builtin; go_loud (refine app26 rfl _ _ rfl w.heap.size u8 (xs.reverse.take j) [⟨1, xk, xv⟩] rfl HRowB.out wr.heap.size 1 1 rfl rfl (one_cells wr ⟨1, xk, xv⟩) (by omega) (by omega) hsz3 ?_); intro v' w3 hrow3 hgr3 hb3; have HB3 := Lib.hid (HB.out.growB ((Ch.refl _ _).alloc _) hrow3 hgr3 hb3); clear hrow3 hgr3 hb3)
            obtain ⟨hst3, _⟩ := HB3.out.t.steps
            obtain ⟨g3, go3, hAg3, _, d1, _⟩ := hst3 l _ HX.out
            simp only [Option.some.injEq, Addr.mk.injEq, and_true] at hAg3
            obtain ⟨rfl, rfl⟩ := hAg3
            have hsz5 := HB3.out.ch.size
            clear hst3 c0 c1 c2
            have hsz6 : w.heap.size ≤ (World.drew (w3.alloc (Obj.cells #[Value.int .i64 2, .int .u64 (xk : Nat), .int .u64 0, .int .i64 3, .int .u64 (k1 : Nat), .int .u64 0] 26))).heap.size := by simp; omega
            have HRA := Lib.hid (HB3.out.a.keepS (S := S0) (((Ch.refl _ _).alloc (Obj.cells #[Value.int .i64 ((2 : Nat) : Int), .int .u64 (xk : Nat), .int .u64 ((0 : Nat) : Int), .int .i64 ((3 : Nat) : Int), .int .u64 (k1 : Nat), .int .u64 ((0 : Nat) : Int)] 26)).drew) (fun _ _ h => h))
            go_region_law (refine step26 rfl (.tmp 80) (.tmp 94) rfl w.heap.size u9 (askL xs j) [⟨2, xk, 0⟩, ⟨3, k1, 0⟩] rfl HRA.out w3.heap.size 2 2 rfl rfl (two_cellsD w3 ⟨2, xk, 0⟩ ⟨3, k1, 0⟩) (by omega) (by omega) hsz6 ?_; intro v4 w4 hrow4 hgr4 hb4; have HB4 := Lib.hid (HB3.out.growA (((Ch.refl _ _).alloc _).drew) hrow4 hgr4 hb4); clear hrow4 hgr4 hb4)
            all_goals
              have HK1' := HK1.out
              rw [← HK1'] at HAk
              go_wp2_with fail
              go_roundw
              case rel => exact ⟨j + 1, hjl, by have := HLi.out; go_num, by rw [HTk.out, HAk.out]; exact HB4.out⟩
              case measure => simp [intOf] <;> omega
          · have hje : j = xs.length := by omega
            have hjn : (xs.length : Int) - 1 - j = -1 := by omega
            subst hje
            rw [hjn]
            have HB0 := Lib.hid (by have h := HB.out; rwa [List.take_of_length_le (by simp)] at h : BkI w wr (.slice A' xs.length cap') u8 u9 xs xs.reverse (askL xs xs.length))
            clear HB
            have hal := askL_len xs xs.length (Nat.le_refl _)
            have hsz := HB0.out.ch.size
            have hQA := Lib.hid (show (askL xs xs.length ++ [(⟨2, ot, 0⟩ : Stp), ⟨5, 0, 0⟩]).length = 2 * xs.length + 2 by simp [hal])
            have hsz3 : w.heap.size ≤ (wr.alloc (Obj.cells #[Value.int .i64 2, .int .u64 (ot : Nat), .int .u64 0, .int .i64 5, .int .u64 0, .int .u64 0] 26)).heap.size := by simp; omega
            have HRA := Lib.hid (HB0.out.a.keepS (S := S0) ((Ch.refl _ _).alloc (Obj.cells #[Value.int .i64 ((2 : Nat) : Int), .int .u64 (ot : Nat), .int .u64 ((0 : Nat) : Int), .int .i64 ((5 : Nat) : Int), .int .u64 ((0 : Nat) : Int), .int .u64 ((0 : Nat) : Int)] 26)) (fun _ _ h => h))
            obtain ⟨B0, capB, hu8, hj1⟩ := HB0.out.b.shape
            clear hj1
            simp only [List.length_reverse] at hu8
            subst hu8

            go_wp2_with (at_builtin; (first | (refine app26 rfl _ _ rfl w.heap.size u9 (askL xs xs.length) [⟨2, ot, 0⟩, ⟨5, 0, 0⟩] rfl HRA.out wr.heap.size 2 2 rfl rfl (two_cells wr ⟨2, ot, 0⟩ ⟨5, 0, 0⟩) (by omega) (by omega) hsz3 ?_; intro va wa hrow4 hgr4 hb4; obtain ⟨Qs, ga, ca, HQs, hQl, hva, HBa⟩ := (HB0.out.growA ((Ch.refl _ _).alloc _) hrow4 hgr4 hb4).named (2 * xs.length + 2) hQA.out (Nat.succ_pos _); clear hrow4 hgr4 hb4; subst hva) | go_loud (refine app26 rfl _ _ rfl w.heap.size (.slice A' xs.length cap') xs Qs rfl HBa.out.t ga ca (2 * xs.length + 2) hQl.out rfl (rowAt HBa.out.a) (by omega) (by omega) HBa.out.ch.size ?_; intro vT wT hrow5 hgr5 hb5; obtain ⟨AT, capT, hvT, HBT⟩ := (HBa.out.growT (Ch.refl _ _) hrow5 hgr5 hb5).namedT; clear hrow5 hgr5 hb5; subst hvT)))
            have hum : ((u : Int) % 601) = ((u % 601 : Nat) : Int) := by omega
            have HUm := Lib.hid hum
            rw [hum]
            clear hum
            have hQops : Hid (∀ x ∈ Qs, x.op ∈ [2, 3, 5]) := Lib.hid (by
              rw [HQs.out]
              intro x hx
              rcases List.mem_append.1 hx with h | h
              · exact askL_ops _ _ x h
              · simp at h
                rcases h with rfl | rfl <;> simp)
            have HSt := Lib.hid HBT.out.t.steps.1
            have hnT := Lib.hid (show xs.length + Qs.length ≤ 1000 by have := hQl.out; omega)
            refine (run_any (u % 601) _ _ _ (xs ++ Qs) _ (by omega) (by simp) hnT.out HSt.out (fine_of HSets.out (by omega) hQops.out)).mono ?_
            rintro r w1 ⟨⟨v1, rfl, hown1⟩, hC1⟩
            have HB1 := Lib.hid (HBT.out.keep hC1)
            obtain ⟨ys1, hys1⟩ : ∃ ys, ys = says (xs ++ Qs) S00 (xs.length + Qs.length) := ⟨_, rfl⟩
            rw [← hys1] at hown1
            have HYs1 := Lib.hid hys1
            have HYl1 := Lib.hid (show ys1.length = 3 * xs.length + 2 by rw [hys1, says_full _ _ _ (by simp), hQl.out]; omega)
            have HOwn1 := Lib.hid hown1
            have HC1 := Lib.hid hC1
            clear hys1 hown1 hC1
            go_wp2_with (at_builtin; go_loud (refine app26 rfl _ _ rfl w.heap.size (.slice B0 xs.length capB) xs.reverse Qs rfl HB1.out.b ga ca (2 * xs.length + 2) hQl.out rfl (rowAt HB1.out.a) (by simp; omega) (by omega) HB1.out.ch.size ?_; intro vB wB hrow6 hgr6 hb6; have HG6 := Lib.hid hgr6; obtain ⟨AB, capB2, hvB, HBB⟩ := (HB1.out.growB (Ch.refl _ _) hrow6 hgr6 hb6).namedB; clear hrow6 hgr6 hb6; subst hvB))
            first | rw [HUm.out] | skip
            have HSt2 := Lib.hid HBB.out.b.steps.1
            refine (run_any (u % 601) _ _ _ (xs.reverse ++ Qs) _ (by omega) (by simp) hnT.out HSt2.out (fine_of (sets_rev HSets.out) (by simp; omega) hQops.out)).mono ?_
            rintro r w2 ⟨⟨v2, rfl, hown2⟩, hC2⟩
            have hown1b := own_keepS (own_keepS HOwn1.out (Ch.ofGrown HG6.out fun b hb => hb) (fun g hg e => by
              have h1 := own_lt HOwn1.out g hg
              have h2 := own_lt HBT.out.b g e
              omega)) hC2 (fun _ _ h => h)
            obtain ⟨ys2, hys2⟩ : ∃ ys, ys = says (xs.reverse ++ Qs) S00 (xs.length + Qs.length) := ⟨_, rfl⟩
            rw [← hys2] at hown2
            have HYs2 := Lib.hid hys2
            have HYl2 := Lib.hid (show ys2.length = 3 * xs.length + 2 by rw [hys2, says_full _ _ _ (by simp), hQl.out]; omega)
            have HCw := Lib.hid (HBB.out.ch.trans hC2)
            obtain ⟨g1, k1, hv1, _, hA1⟩ := own_ans hown1b (by rw [HYl1.out]; omega)
            obtain ⟨g2, k2, hv2, _, hA2⟩ := own_ans hown2 (by rw [HYl2.out]; omega)
            rw [HYl1.out] at hv1
            rw [HYl2.out] at hv2
            subst hv1 hv2
            have HA1 := Lib.hid hA1
            have HA2 := Lib.hid hA2
            have hEq := Lib.hid (order_law (Q := Qs) HSets.out hQops.out)
            have hLa : ys1[3 * xs.length + 1]? = some (xs.length, false) := by
              have h := order_last (Q := askL xs xs.length ++ [(⟨2, ot, 0⟩ : Stp)]) HSets.out (by
                intro x hx
                rcases List.mem_append.1 hx with h | h
                · exact askL_ops _ _ x h
                · simp at h
                  subst h
                  simp) 0 0
              rw [HYs1.out, HQs.out]
              have e1 : (askL xs xs.length ++ [(⟨2, ot, 0⟩ : Stp)]) ++ [⟨5, 0, 0⟩] = askL xs xs.length ++ [⟨2, ot, 0⟩, ⟨5, 0, 0⟩] := by simp
              rw [e1] at h
              have e2 : xs.length + (askL xs xs.length ++ [(⟨2, ot, 0⟩ : Stp)]).length = 3 * xs.length + 1 := by simp [hal]; omega
              rw [e2] at h
              simpa using h
            have d0 := (hA1 _ _ hLa).1
            have d1 : w2.cell? ⟨g1, (xs.length + (2 * xs.length + 1)) * 2, none⟩ = some (.int .u64 (xs.length : Nat)) := by rw [show xs.length + (2 * xs.length + 1) = 3 * xs.length + 1 by omega]; exact d0
            clear hown1b hown2 hys2 hA1 hA2 hLa hC2
            go_wp2_with fail
            have hEq2 := Lib.hid (show ∀ i, xs.length ≤ i → ys1[i]? = ys2[i]? from fun i hi => by
              have h := hEq.out i hi
              rw [List.length_append, List.length_append, List.length_reverse] at h
              rw [HYs1.out, HYs2.out]
              exact h)
            clear hEq d0 d1
            rw [show xs.length + (2 * xs.length + 2) - 1 = xs.length + (2 * xs.length + 1) from rfl]
            go_loopw [18] (fun vj wr => ∃ j : Nat, xs.length ≤ j ∧ j ≤ 3 * xs.length + 2 ∧ vj = .int .i64 j ∧ Ch S0 w2 wr) (fun vj _ => 3 * xs.length + 2 - (intOf vj).toNat)
            case atStart => exact ⟨xs.length, by omega, by omega, rfl, Ch.refl _ _⟩
            case round =>
              obtain ⟨j, hj1, hj2, rfl, hC5⟩ := hrel
              by_cases hjl : j < 3 * xs.length + 2
              · have hji : (j : Int) < 3 * (xs.length : Int) + 2 := by omega
                have hj0 : (0 : Int) ≤ (j : Nat) := by omega
                obtain ⟨y, hy⟩ : ∃ y, ys1[j]? = some y := ⟨ys1[j]'(by rw [HYl1.out]; exact hjl), by simp [HYl1.out, hjl]⟩
                have hy2 : ys2[j]? = some y := by rw [← hEq2.out j hj1]; exact hy
                have hk : ∀ (g i : Nat) (u : Value), w2.cell? ⟨g, i, none⟩ = some u → wr.cell? ⟨g, i, none⟩ = some u := fun g i u h => by rw [World.cell?_of_block (w := w2) (hC5.block g (World.block_lt_of_cell? _ _ h) (fun h => h))]; exact h
                obtain ⟨e0, e1⟩ := HA1.out _ _ hy
                obtain ⟨f0, f1⟩ := HA2.out _ _ hy2
                have e0 := hk _ _ _ e0
                have e1 := hk _ _ _ e1
                have f0 := hk _ _ _ f0
                have f1 := hk _ _ _ f1
                have HC5 := Lib.hid hC5
                clear hk hy hy2 hC5
                obtain ⟨yn, yb⟩ := y
                go_wp2_with fail
                go_quiet (fail)
                go_wp2_with fail
                go_roundw
                case rel => exact ⟨j + 1, by omega, by omega, by go_num, HC5.out.trans (by first | exact Ch.refl _ _ | exact (Ch.refl _ _).drew | exact ⟨rfl, rfl, rfl, Nat.le_refl _, fun _ _ _ => rfl⟩)⟩
                case measure => simp [intOf]; omega
              · have hjn : ¬ (j : Int) < 3 * (xs.length : Int) + 2 := by omega
                have HC5 := Lib.hid (HCw.out.trans hC5)
                clear hC5
                go_wp2_with fail
                first | rw [HUm.out] | skip
                refine (run_any (u % 601) 2 _ _ [⟨1, ot, 4⟩, ⟨3, ot, 0⟩] _ (by omega) rfl (by omega) (steps_two _ _ _) (fine_two ot)).mono ?_
                rintro r w6 ⟨⟨v6, rfl, hown6⟩, hC6⟩
                rw [says_two] at hown6
                obtain ⟨g6, k6, hv6, _, hA6⟩ := own_ans hown6 (by decide)
                obtain ⟨_, d6⟩ := hA6 1 _ rfl
                have d6 : w6.cell? ⟨g6, 3, none⟩ = some (.bool true) := d6
                subst hv6
                have HC6 := Lib.hid (HC5.out.trans (((Ch.refl _ _).alloc _).trans hC6))
                clear hC6 hown6 hA6
                go_wp2_with fail
                go_ret
                exact ⟨rfl, HC6.out⟩
      · have h1 : ¬ (i : Int) < (n : Nat) := by omega
        have HI0 : Hid (BkI w wr u7 (.slice none 0 0) (.slice none 0 0) xs [] []) := Lib.hid ⟨HJ.out.row, Row3.nil _ _, Row3.nil _ _, fun _ _ h => (by cases h), fun _ _ h => (by cases h), fun _ h => (by cases h), HJ.out.ch⟩
        have HSets := Lib.hid HJ.out.sets
        have HSm := Lib.hid HJ.out.small
        have hxl2 : xs.length ≤ 100 := by omega
        obtain ⟨A', cap', hvt, _⟩ := HJ.out.row.shape
        subst hvt
        clear HJ
        go_wp2_with fail
        go_loopw [8, 9, 14] (fun vb va vi wr3 => ∃ j : Nat, j ≤ xs.length ∧ vi = .int .i64 ((xs.length : Int) - 1 - j) ∧ BkI w wr3 (.slice A' xs.length cap') vb va xs (xs.reverse.take j) (askL xs j)) (fun _ _ vi _ => (intOf vi + 1).toNat)
        case atStart => exact ⟨0, by omega, by go_num, HI0.out⟩
        case round =>
          obtain ⟨j, hj, rfl, hB⟩ := hrel
          have HB := Lib.hid hB
          clear hB HI0
          by_cases hjl : j < xs.length
          · obtain ⟨l, hl⟩ : ∃ l, l = xs.length - 1 - j := ⟨_, rfl⟩
            have hli : (xs.length : Int) - 1 - j = (l : Nat) := by omega
            have hl0 : (0 : Int) ≤ (l : Nat) := by omega
            have hll : (l : Int) < (xs.length : Nat) := by omega
            obtain ⟨x, hx⟩ : ∃ x, xs[l]? = some x := ⟨xs[l]'(by omega), by simp [show l < xs.length by omega]⟩
            have hxop : x.op = 1 := HSets.out.op x (List.mem_of_getElem? hx)
            obtain ⟨xo, xk, xv⟩ := x
            obtain rfl : xo = 1 := hxop
            have hxk : xk < 18446744073709551616 := HSm.out _ (List.mem_of_getElem? hx)
            have htk := rev_take hjl (by rw [← hl]; exact hx)
            have hak := askL_succ hjl (by rw [← hl]; exact hx)
            have hal := askL_len xs j hj
            obtain ⟨hst, _⟩ := HB.out.t.steps
            obtain ⟨g, go, hAg, c0, c1, c2⟩ := hst l _ hx
            subst hAg
            have c0 : wr.cell? ⟨g, go + l * 3, none⟩ = some (.int .i64 1) := c0
            have hgl := World.block_lt_of_cell? wr _ c0
            rw [hli]
            obtain ⟨k1, hk1⟩ : ∃ k1, k1 = (xk + 1) % 18446744073709551616 := ⟨_, rfl⟩
            have hw1 : IntKind.u64.wrap ((xk : Int) + 1) = (k1 : Nat) := by rw [IntKind.wrap_u64]; omega
            have HX := Lib.hid hx
            have HTk := Lib.hid htk
            have HAk := Lib.hid hak
            have HK1 := Lib.hid hk1
            have HLi := Lib.hid hli
            have htl : (xs.reverse.take j).length = j := by simp; omega
            have hrowB := HB.out.b.keepS (S := S0) ((Ch.refl _ _).alloc (Obj.cells #[Value.int .i64 ((1 : Nat) : Int), .int .u64 (xk : Nat), .int .u64 (xv : Nat)] 26)) (fun _ _ h => h)
            have HRowB := Lib.hid hrowB
            have hsz := HB.out.ch.size
            have hsz3 : w.heap.size ≤ (wr.alloc (Obj.cells #[Value.int .i64 1, .int .u64 (xk : Nat), .int .u64 (xv : Nat)] 26)).heap.size := by simp; omega
            clear htk hak hk1 hx hst hrowB hl hli hxk
            go_wp2_with (at_builtin; go_loud (refine app26 rfl _ _ rfl w.heap.size u8 (xs.reverse.take j) [⟨1, xk, xv⟩] rfl HRowB.out wr.heap.size 1 1 rfl rfl (one_cells wr ⟨1, xk, xv⟩) (by omega) (by omega) hsz3 ?_); intro v' w3 hrow3 hgr3 hb3; have HB3 := Lib.hid (HB.out.growB ((Ch.refl _ _).alloc _) hrow3 hgr3 hb3); clear hrow3 hgr3 hb3)
            obtain ⟨hst3, _⟩ := HB3.out.t.steps
            obtain ⟨g3, go3, hAg3, _, d1, _⟩ := hst3 l _ HX.out
            simp only [Option.some.injEq, Addr.mk.injEq, and_true] at hAg3
            obtain ⟨rfl, rfl⟩ := hAg3
            have hsz5 := HB3.out.ch.size
            clear hst3 c0 c1 c2
            have hsz6 : w.heap.size ≤ (World.drew (w3.alloc (Obj.cells #[Value.int .i64 2, .int .u64 (xk : Nat), .int .u64 0, .int .i64 3, .int .u64 (k1 : Nat), .int .u64 0] 26))).heap.size := by simp; omega
            have HRA := Lib.hid (HB3.out.a.keepS (S := S0) (((Ch.refl _ _).alloc (Obj.cells #[Value.int .i64 ((2 : Nat) : Int), .int .u64 (xk : Nat), .int .u64 ((0 : Nat) : Int), .int .i64 ((3 : Nat) : Int), .int .u64 (k1 : Nat), .int .u64 ((0 : Nat) : Int)] 26)).drew) (fun _ _ h => h))
            go_region_law (refine step26 rfl (.tmp 80) (.tmp 94) rfl w.heap.size u9 (askL xs j) [⟨2, xk, 0⟩, ⟨3, k1, 0⟩] rfl HRA.out w3.heap.size 2 2 rfl rfl (two_cellsD w3 ⟨2, xk, 0⟩ ⟨3, k1, 0⟩) (by omega) (by omega) hsz6 ?_; intro v4 w4 hrow4 hgr4 hb4; have HB4 := Lib.hid (HB3.out.growA (((Ch.refl _ _).alloc _).drew) hrow4 hgr4 hb4); clear hrow4 hgr4 hb4)
            all_goals
              have HK1' := HK1.out
              rw [← HK1'] at HAk
              go_wp2_with fail
              go_roundw
              case rel => exact ⟨j + 1, hjl, by have := HLi.out; go_num, by rw [HTk.out, HAk.out]; exact HB4.out⟩
              case measure => simp [intOf] <;> omega
          · have hje : j = xs.length := by omega
            have hjn : (xs.length : Int) - 1 - j = -1 := by omega
            subst hje
            rw [hjn]
            have HB0 := Lib.hid (by have h := HB.out; rwa [List.take_of_length_le (by simp)] at h : BkI w wr (.slice A' xs.length cap') u8 u9 xs xs.reverse (askL xs xs.length))
            clear HB
            have hal := askL_len xs xs.length (Nat.le_refl _)
            have hsz := HB0.out.ch.size
            have hQA := Lib.hid (show (askL xs xs.length ++ [(⟨2, ot, 0⟩ : Stp), ⟨5, 0, 0⟩]).length = 2 * xs.length + 2 by simp [hal])
            have hsz3 : w.heap.size ≤ (wr.alloc (Obj.cells #[Value.int .i64 2, .int .u64 (ot : Nat), .int .u64 0, .int .i64 5, .int .u64 0, .int .u64 0] 26)).heap.size := by simp; omega
            have HRA := Lib.hid (HB0.out.a.keepS (S := S0) ((Ch.refl _ _).alloc (Obj.cells #[Value.int .i64 ((2 : Nat) : Int), .int .u64 (ot : Nat), .int .u64 ((0 : Nat) : Int), .int .i64 ((5 : Nat) : Int), .int .u64 ((0 : Nat) : Int), .int .u64 ((0 : Nat) : Int)] 26)) (fun _ _ h => h))
            obtain ⟨B0, capB, hu8, hj1⟩ := HB0.out.b.shape
            clear hj1
            simp only [List.length_reverse] at hu8
            subst hu8

            go_wp2_with (at_builtin; (first | (refine app26 rfl _ _ rfl w.heap.size u9 (askL xs xs.length) [⟨2, ot, 0⟩, ⟨5, 0, 0⟩] rfl HRA.out wr.heap.size 2 2 rfl rfl (two_cells wr ⟨2, ot, 0⟩ ⟨5, 0, 0⟩) (by omega) (by omega) hsz3 ?_; intro va wa hrow4 hgr4 hb4; obtain ⟨Qs, ga, ca, HQs, hQl, hva, HBa⟩ := (HB0.out.growA ((Ch.refl _ _).alloc _) hrow4 hgr4 hb4).named (2 * xs.length + 2) hQA.out (Nat.succ_pos _); clear hrow4 hgr4 hb4; subst hva) | go_loud (refine app26 rfl _ _ rfl w.heap.size (.slice A' xs.length cap') xs Qs rfl HBa.out.t ga ca (2 * xs.length + 2) hQl.out rfl (rowAt HBa.out.a) (by omega) (by omega) HBa.out.ch.size ?_; intro vT wT hrow5 hgr5 hb5; obtain ⟨AT, capT, hvT, HBT⟩ := (HBa.out.growT (Ch.refl _ _) hrow5 hgr5 hb5).namedT; clear hrow5 hgr5 hb5; subst hvT)))
            have hum : ((u : Int) % 601) = ((u % 601 : Nat) : Int) := by omega
            have HUm := Lib.hid hum
            rw [hum]
            clear hum
            have hQops : Hid (∀ x ∈ Qs, x.op ∈ [2, 3, 5]) := Lib.hid (by
              rw [HQs.out]
              intro x hx
              rcases List.mem_append.1 hx with h | h
              · exact askL_ops _ _ x h
              · simp at h
                rcases h with rfl | rfl <;> simp)
            have HSt := Lib.hid HBT.out.t.steps.1
            have hnT := Lib.hid (show xs.length + Qs.length ≤ 1000 by have := hQl.out; omega)
            refine (run_any (u % 601) _ _ _ (xs ++ Qs) _ (by omega) (by simp) hnT.out HSt.out (fine_of HSets.out (by omega) hQops.out)).mono ?_
            rintro r w1 ⟨⟨v1, rfl, hown1⟩, hC1⟩
            have HB1 := Lib.hid (HBT.out.keep hC1)
            obtain ⟨ys1, hys1⟩ : ∃ ys, ys = says (xs ++ Qs) S00 (xs.length + Qs.length) := ⟨_, rfl⟩
            rw [← hys1] at hown1
            have HYs1 := Lib.hid hys1
            have HYl1 := Lib.hid (show ys1.length = 3 * xs.length + 2 by rw [hys1, says_full _ _ _ (by simp), hQl.out]; omega)
            have HOwn1 := Lib.hid hown1
            have HC1 := Lib.hid hC1
            clear hys1 hown1 hC1
            go_wp2_with (at_builtin; go_loud (refine app26 rfl _ _ rfl w.heap.size (.slice B0 xs.length capB) xs.reverse Qs rfl HB1.out.b ga ca (2 * xs.length + 2) hQl.out rfl (rowAt HB1.out.a) (by simp; omega) (by omega) HB1.out.ch.size ?_; intro vB wB hrow6 hgr6 hb6; have HG6 := Lib.hid hgr6; obtain ⟨AB, capB2, hvB, HBB⟩ := (HB1.out.growB (Ch.refl _ _) hrow6 hgr6 hb6).namedB; clear hrow6 hgr6 hb6; subst hvB))
            first | rw [HUm.out] | skip
            have HSt2 := Lib.hid HBB.out.b.steps.1
            refine (run_any (u % 601) _ _ _ (xs.reverse ++ Qs) _ (by omega) (by simp) hnT.out HSt2.out (fine_of (sets_rev HSets.out) (by simp; omega) hQops.out)).mono ?_
            rintro r w2 ⟨⟨v2, rfl, hown2⟩, hC2⟩
            have hown1b := own_keepS (own_keepS HOwn1.out (Ch.ofGrown HG6.out fun b hb => hb) (fun g hg e => by
              have h1 := own_lt HOwn1.out g hg
              have h2 := own_lt HBT.out.b g e
              omega)) hC2 (fun _ _ h => h)
            obtain ⟨ys2, hys2⟩ : ∃ ys, ys = says (xs.reverse ++ Qs) S00 (xs.length + Qs.length) := ⟨_, rfl⟩
            rw [← hys2] at hown2
            have HYs2 := Lib.hid hys2
            have HYl2 := Lib.hid (show ys2.length = 3 * xs.length + 2 by rw [hys2, says_full _ _ _ (by simp), hQl.out]; omega)
            have HCw := Lib.hid (HBB.out.ch.trans hC2)
            obtain ⟨g1, k1, hv1, _, hA1⟩ := own_ans hown1b (by rw [HYl1.out]; omega)
            obtain ⟨g2, k2, hv2, _, hA2⟩ := own_ans hown2 (by rw [HYl2.out]; omega)
            rw [HYl1.out] at hv1
            rw [HYl2.out] at hv2
            subst hv1 hv2
            have HA1 := Lib.hid hA1
            have HA2 := Lib.hid hA2
            have hEq := Lib.hid (order_law (Q := Qs) HSets.out hQops.out)
            have hLa : ys1[3 * xs.length + 1]? = some (xs.length, false) := by
              have h := order_last (Q := askL xs xs.length ++ [(⟨2, ot, 0⟩ : Stp)]) HSets.out (by
                intro x hx
                rcases List.mem_append.1 hx with h | h
                · exact askL_ops _ _ x h
                · simp at h
                  subst h
                  simp) 0 0
              rw [HYs1.out, HQs.out]
              have e1 : (askL xs xs.length ++ [(⟨2, ot, 0⟩ : Stp)]) ++ [⟨5, 0, 0⟩] = askL xs xs.length ++ [⟨2, ot, 0⟩, ⟨5, 0, 0⟩] := by simp
              rw [e1] at h
              have e2 : xs.length + (askL xs xs.length ++ [(⟨2, ot, 0⟩ : Stp)]).length = 3 * xs.length + 1 := by simp [hal]; omega
              rw [e2] at h
              simpa using h
            have d0 := (hA1 _ _ hLa).1
            have d1 : w2.cell? ⟨g1, (xs.length + (2 * xs.length + 1)) * 2, none⟩ = some (.int .u64 (xs.length : Nat)) := by rw [show xs.length + (2 * xs.length + 1) = 3 * xs.length + 1 by omega]; exact d0
            clear hown1b hown2 hys2 hA1 hA2 hLa hC2
            go_wp2_with fail
            have hEq2 := Lib.hid (show ∀ i, xs.length ≤ i → ys1[i]? = ys2[i]? from fun i hi => by
              have h := hEq.out i hi
              rw [List.length_append, List.length_append, List.length_reverse] at h
              rw [HYs1.out, HYs2.out]
              exact h)
            clear hEq d0 d1
            rw [show xs.length + (2 * xs.length + 2) - 1 = xs.length + (2 * xs.length + 1) from rfl]
            go_loopw [18] (fun vj wr => ∃ j : Nat, xs.length ≤ j ∧ j ≤ 3 * xs.length + 2 ∧ vj = .int .i64 j ∧ Ch S0 w2 wr) (fun vj _ => 3 * xs.length + 2 - (intOf vj).toNat)
            case atStart => exact ⟨xs.length, by omega, by omega, rfl, Ch.refl _ _⟩
            case round =>
              obtain ⟨j, hj1, hj2, rfl, hC5⟩ := hrel
              by_cases hjl : j < 3 * xs.length + 2
              · have hji : (j : Int) < 3 * (xs.length : Int) + 2 := by omega
                have hj0 : (0 : Int) ≤ (j : Nat) := by omega
                obtain ⟨y, hy⟩ : ∃ y, ys1[j]? = some y := ⟨ys1[j]'(by rw [HYl1.out]; exact hjl), by simp [HYl1.out, hjl]⟩
                have hy2 : ys2[j]? = some y := by rw [← hEq2.out j hj1]; exact hy
                have hk : ∀ (g i : Nat) (u : Value), w2.cell? ⟨g, i, none⟩ = some u → wr.cell? ⟨g, i, none⟩ = some u := fun g i u h => by rw [World.cell?_of_block (w := w2) (hC5.block g (World.block_lt_of_cell? _ _ h) (fun h => h))]; exact h
                obtain ⟨e0, e1⟩ := HA1.out _ _ hy
                obtain ⟨f0, f1⟩ := HA2.out _ _ hy2
                have e0 := hk _ _ _ e0
                have e1 := hk _ _ _ e1
                have f0 := hk _ _ _ f0
                have f1 := hk _ _ _ f1
                have HC5 := Lib.hid hC5
                clear hk hy hy2 hC5
                obtain ⟨yn, yb⟩ := y
                go_wp2_with fail
                go_quiet (fail)
                go_wp2_with fail
                go_roundw
                case rel => exact ⟨j + 1, by omega, by omega, by go_num, HC5.out.trans (by first | exact Ch.refl _ _ | exact (Ch.refl _ _).drew | exact ⟨rfl, rfl, rfl, Nat.le_refl _, fun _ _ _ => rfl⟩)⟩
                case measure => simp [intOf]; omega
              · have hjn : ¬ (j : Int) < 3 * (xs.length : Int) + 2 := by omega
                have HC5 := Lib.hid (HCw.out.trans hC5)
                clear hC5
                go_wp2_with fail
                first | rw [HUm.out] | skip
                refine (run_any (u % 601) 2 _ _ [⟨1, ot, 4⟩, ⟨3, ot, 0⟩] _ (by omega) rfl (by omega) (steps_two _ _ _) (fine_two ot)).mono ?_
                rintro r w6 ⟨⟨v6, rfl, hown6⟩, hC6⟩
                rw [says_two] at hown6
                obtain ⟨g6, k6, hv6, _, hA6⟩ := own_ans hown6 (by decide)
                obtain ⟨_, d6⟩ := hA6 1 _ rfl
                have d6 : w6.cell? ⟨g6, 3, none⟩ = some (.bool true) := d6
                subst hv6
                have HC6 := Lib.hid (HC5.out.trans (((Ch.refl _ _).alloc _).trans hC6))
                clear hC6 hown6 hA6
                go_wp2_with fail
                go_ret
                exact ⟨rfl, HC6.out⟩
end Go.Proofs.Ytjliofloheellaa
