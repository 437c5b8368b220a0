/- THE WALK of FnBSDeepSelect. -/
import Derived.Test.YtdkhanfapgnjoaaDoorNd
namespace Go.Proofs.YtdkhanfapgnjoaaDoor
open Go.RowKit
set_option linter.unusedVariables false
set_option linter.unusedSimpArgs false

theorem next_is {g : Nat → Bool} {f i n : Nat} {is : Bool} (h : NextIs g f n is) (hf : f ≤ i) (hg : g i = true) (hb : ∀ k, f ≤ k → k < i → g k = false) : is = true ∧ n = i := by
  cases is with
  | false => have := h.2 rfl i hf; rw [hg] at this; cases this
  | true =>
    obtain ⟨h1, h2, h3⟩ := h.1 rfl
    refine ⟨rfl, ?_⟩
    rcases Nat.lt_trichotomy n i with q | q | q
    · have := hb n h1 q; rw [h2] at this; cases this
    · exact q
    · have := h3 i hf q; rw [hg] at this; cases this
theorem bsnext_is {base : Nat} (v : Value) (L : Nat) (g : Nat → Bool) (w : World) (h : IsB base w v L g) (f i : Nat) (hi : f ≤ 50000) (hT : TabAt w) (hf : f ≤ i) (hg : g i = true) (hb : ∀ k, f ≤ k → k < i → g k = false) :
    Calls Tryd.prog 9 #[v, .int .u64 f] w fun e w' => e = .returned (.tuple #[.int .u64 i, .bool true]) ∧ Ch S0 w w' :=
  (bsnext_any v L g w h f hi hT).mono fun e w' ⟨⟨n, is, he, hN⟩, hC⟩ => by
    obtain ⟨rfl, rfl⟩ := next_is hN hf hg hb
    exact ⟨he, hC⟩
theorem bsnext_none {base : Nat} (v : Value) (L : Nat) (g : Nat → Bool) (w : World) (h : IsB base w v L g) (f : Nat) (hi : f ≤ 50000) (hT : TabAt w) (hb : ∀ k, f ≤ k → g k = false) :
    Calls Tryd.prog 9 #[v, .int .u64 f] w fun e w' => (∃ n : Nat, e = .returned (.tuple #[.int .u64 n, .bool false])) ∧ Ch S0 w w' :=
  (bsnext_any v L g w h f hi hT).mono fun e w' ⟨⟨n, is, he, hN⟩, hC⟩ => by
    cases is with
    | false => exact ⟨⟨n, he⟩, hC⟩
    | true =>
      obtain ⟨h1, h2, h3⟩ := hN.1 rfl
      rw [hb n h1] at h2
      cases h2
theorem bsprev_is {base : Nat} (v : Value) (L : Nat) (g : Nat → Bool) (w : World) (h : IsB base w v L g) (i : Nat) (hi : i < L) (hg : g i = true) :
    Calls Tryd.prog 10 #[v, .int .u64 i] w fun e w' => e = .returned (.tuple #[.int .u64 i, .bool true]) ∧ Ch S0 w w' :=
  (bsprevset_any v L g w h i i i rfl hi (Nat.le_refl _) hg).mono fun e w' ⟨⟨n, h1, h2, h3, he⟩, hC⟩ => by
    have : n = i := by
      rcases Nat.lt_or_ge n i with q | q
      · have := h3 i q (Nat.le_refl _); rw [hg] at this; cases this
      · omega
    subst this
    exact ⟨he, hC⟩

set_option maxRecDepth 100000 in
set_option maxHeartbeats 4000000 in
theorem select_small (l1 : Nat) (P1 : Option Addr) (m1 r1 : Nat) (xs1 : List Nat) (u1 : Nat) (w : World) (hl1 : Lst 0 w (.slice P1 m1 r1) xs1) (hx1 : ∀ j (hj : j < xs1.length), xs1[j] < 18446744073709551616) (hn1 : xs1.length = m1) (hm1 : m1 ≤ 2147483647) (hu1 : u1 < 65536) (hT : TabAt w) :
    Calls Tryd.prog 3 #[.agg #[.int .u64 l1, .slice P1 m1 r1], .int .u16 u1] w fun e w' => e = .returned (.bool true) ∧ Ch S0 w w' := by
  have HX1 := Lib.hid hx1
  have LX1 := Lib.hid hn1
  have IX1 := Lib.hid hl1
  have HT := Lib.hid hT
  clear hx1 hn1 hl1 hT
  have Bp : Hid (Blk (w.alloc (Obj.cells #[.int .u64 l1, .slice P1 m1 r1] 25)) w.heap.size #[.int .u64 l1, .slice P1 m1 r1]) := Lib.hid (Blk.new _ _ _)
  have HC0 : Hid (Ch S0 w (w.alloc (Obj.cells #[.int .u64 l1, .slice P1 m1 r1] 25))) := Lib.hid ((Ch.refl _ _).alloc _)
  go_enter Tryd.func3, Tryd.ntmps3
  go_wp2_with fail
  refine (fits_yes l1 m1 r1 P1 _ hm1).mono ?_
  rintro e w1 ⟨rfl, hC⟩
  have HC1 := Lib.hid (HC0.out.trans hC)
  have Bx := Bp.out.keep hC (fun h => h)
  have x0 := Bx.cell 0
  have x1 := Bx.cell 1
  simp only [List.getElem?_toArray, List.getElem?_cons_zero, List.getElem?_cons_succ] at x0 x1
  clear hC Bx Bp HC0
  go_wp2_with fail
  refine (bits_any l1 _ xs1 _ (IX1.out.keep HC1.out) HX1.out (by rw [LX1.out]; omega)).mono ?_
  rintro e w2 ⟨v2, L0, g0, rfl, hL0, hV, hC⟩
  have V2 := Lib.hid hV
  have HC2 := Lib.hid (HC1.out.trans hC)
  clear hC hV HC1 x0 x1
  go_wp2_with fail
  refine (bsset_any v2 L0 g0 _ V2.out (u1 % 400) _ (by omega) (by omega)).mono ?_
  rintro e w3 ⟨v3, rfl, hV, hC⟩
  obtain ⟨L, hL⟩ : ∃ L, L = max L0 (u1 % 400 + 1) := ⟨_, rfl⟩
  obtain ⟨g, hg⟩ : ∃ g, g = Bit.put g0 (u1 % 400) true := ⟨_, rfl⟩
  have hL4 : L ≤ 400 := by omega
  have hgu : g (u1 % 400) = true := by rw [hg]; simp [Bit.put]
  have huL : u1 % 400 < L := by omega
  rw [← hL, ← hg] at hV
  have HGU := Lib.hid hgu
  obtain ⟨A, n, c, rfl⟩ := hV.shape
  have V3 := Lib.hid hV
  have HC3 := Lib.hid (HC2.out.trans hC)
  clear hV hC HC2 V2 hL hg hgu
  go_wp2_with fail
  have Ba : Hid (Blk (w3.alloc (Obj.cells #[.int .u64 L, .slice A n c] 25)) w3.heap.size #[.int .u64 L, .slice A n c]) := Lib.hid (Blk.new _ _ _)
  have hc4 : Ch S0 w3 (w3.alloc (Obj.cells #[.int .u64 L, .slice A n c] 25)) := (Ch.refl _ _).alloc _
  have V4 := Lib.hid (V3.out.keep hc4)
  have HC4 := Lib.hid (HC3.out.trans hc4)
  clear hc4 V3 HC3
  obtain ⟨N, hN⟩ : ∃ N, Bit.cnt g L = N := ⟨_, rfl⟩
  have hNL : N ≤ 400 := by rw [← hN]; exact Nat.le_trans (Bit.cnt_le _ _) hL4
  have hN0 : 0 < N := by rw [← hN]; exact Bit.cnt_pos HGU.out huL
  have HN := Lib.hid hN
  clear hN
  refine (bscount_t _ L g _ V4.out N HN.out).mono ?_
  rintro e w5 ⟨rfl, hC⟩
  have HC5 := Lib.hid (HC4.out.trans hC)
  have V5 := Lib.hid (V4.out.keep hC)
  have B5 := Lib.hid (Ba.out.keep hC (fun h => h))
  clear hC V4 HC4 Ba
  generalize w3.heap.size = ba at *
  go_wp2_with fail
  go_loopw [7, 8] (fun vf vj wr => ∃ j f : Nat, j ≤ N ∧ vj = .int .u64 j ∧ vf = .int .u64 f ∧ Hid (Bit.cnt g f = j) ∧ f ≤ 400 ∧ Ch S0 w5 wr) (fun _ vj _ => N - (intOf vj).toNat)
  case atStart => exact ⟨0, 0, by omega, rfl, rfl, Lib.hid rfl, by omega, Ch.refl _ _⟩
  case round =>
    obtain ⟨j, f, hj, rfl, rfl, HF, hf, hC⟩ := hrel
    have Bx := Lib.hid (B5.out.keep hC (fun h => h))
    have Vx := Lib.hid (V5.out.keep hC)
    have HCx := Lib.hid (HC5.out.trans hC)
    have HC0 := Lib.hid hC
    clear hC
    have x0 := Bx.out.cell 0
    have x1 := Bx.out.cell 1
    simp only [List.getElem?_toArray, List.getElem?_cons_zero, List.getElem?_cons_succ] at x0 x1
    by_cases hlt : j < N
    · have hlti : (j : Int) < (N : Nat) := by omega
      have hlt2 : j < Bit.cnt g L := by rw [HN.out]; exact hlt
      have HLT := Lib.hid hlt2
      clear hlt2
      go_wp2_with fail
      refine (bsselect_any _ L g _ Vx.out j HLT.out).mono ?_
      rintro e w6 ⟨⟨i, rfl, hgi, hci⟩, hC⟩
      have hiL : i < L := Nat.lt_of_not_le fun h => by rw [Vx.out.off i h] at hgi; cases hgi
      obtain ⟨hfi, hnone, hnext⟩ := Bit.cnt_next HF.out hgi hci
      have G1 := Lib.hid hgi
      have G2 := Lib.hid hnone
      have G3 := Lib.hid hnext
      clear hgi hci hnone hnext
      have HC6 := Lib.hid (HCx.out.trans hC)
      have HD6 := Lib.hid (HC0.out.trans hC)
      have V6 := Lib.hid (Vx.out.keep hC)
      have B6x := Lib.hid (Bx.out.keep hC (fun h => h))
      clear hC x0 x1 Vx Bx HCx HC0
      have x0 := B6x.out.cell 0
      have x1 := B6x.out.cell 1
      simp only [List.getElem?_toArray, List.getElem?_cons_zero, List.getElem?_cons_succ] at x0 x1
      go_wp2_with fail
      refine (bsnext_is _ L g _ V6.out f i (by omega) (tab_keep HT.out HC6.out) hfi G1.out G2.out).mono ?_
      rintro e w7 ⟨rfl, hC⟩
      have HC7 := Lib.hid (HC6.out.trans hC)
      have HD7 := Lib.hid (HD6.out.trans hC)
      have V7 := Lib.hid (V6.out.keep hC)
      have B7x := Lib.hid (B6x.out.keep hC (fun h => h))
      clear hC x0 x1 V6 B6x HC6 HD6
      have x0 := B7x.out.cell 0
      have x1 := B7x.out.cell 1
      simp only [List.getElem?_toArray, List.getElem?_cons_zero, List.getElem?_cons_succ] at x0 x1
      go_wp2_with fail
      refine (bsprev_is _ L g _ V7.out i hiL G1.out).mono ?_
      rintro e w8 ⟨rfl, hC⟩
      have HC8 := Lib.hid (HC7.out.trans hC)
      have HD8 := Lib.hid (HD7.out.trans hC)
      have V8 := Lib.hid (V7.out.keep hC)
      have B8x := Lib.hid (B7x.out.keep hC (fun h => h))
      clear hC x0 x1 V7 B7x HC7 HD7
      have x0 := B8x.out.cell 0
      have x1 := B8x.out.cell 1
      simp only [List.getElem?_toArray, List.getElem?_cons_zero, List.getElem?_cons_succ] at x0 x1
      go_wp2_with fail
      refine (bsrank_any _ L g _ V8.out i (j + 1) hiL G3.out).mono ?_
      rintro e w9 ⟨rfl, hC⟩
      have HC9 := Lib.hid (HC8.out.trans hC)
      have HD9 := Lib.hid (HD8.out.trans hC)
      have V9 := Lib.hid (V8.out.keep hC)
      have B9x := Lib.hid (B8x.out.keep hC (fun h => h))
      clear hC x0 x1 V8 B8x HC8 HD8
      have x0 := B9x.out.cell 0
      have x1 := B9x.out.cell 1
      simp only [List.getElem?_toArray, List.getElem?_cons_zero, List.getElem?_cons_succ] at x0 x1
      have e1 : ((j + 1 : Nat) : Int) = (j : Int) + 1 := by omega
      go_wp2_with fail
      go_roundw
      case rel => exact ⟨j + 1, i + 1, by omega, by go_num, by go_num, G3, by omega, HD9.out⟩
      case measure => simp [intOf]; omega
    · obtain rfl : j = N := by omega
      have hlast : ∀ k, f ≤ k → g k = false := Bit.cnt_last Vx.out.off (by rw [HF.out, HN.out])
      have HLA := Lib.hid hlast
      have hN0i : (0 : Int) < (j : Nat) := by omega
      have hNLi : (j : Int) ≤ 400 := by omega
      clear hlast
      go_wp2_with fail
      refine (bsnext_none _ L g _ Vx.out f (by omega) (tab_keep HT.out HCx.out) HLA.out).mono ?_
      rintro e w6 ⟨⟨n1, rfl⟩, hC⟩
      have HC6 := Lib.hid (HCx.out.trans hC)
      clear hC
      go_wp2_with fail
      go_ret
      exact ⟨rfl, HC6.out⟩
end Go.Proofs.YtdkhanfapgnjoaaDoor
