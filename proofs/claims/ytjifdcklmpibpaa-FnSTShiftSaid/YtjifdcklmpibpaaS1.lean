/- FnSTShift: the plain law, and the walk. -/
import Derived.Test.YtjifdcklmpibpaaT5
import Derived.Test.YtjifdcklmpibpaaO
import Derived.Test.YtjifdcklmpibpaaD1
import Derived.Deep.RegionHeld3
namespace Go.Proofs.Ytjifdcklmpibpaa
open Go.RowKit
set_option linter.unusedVariables false
set_option linter.unusedSimpArgs false

theorem srt_map (xs : List Int) (k : Int) : (srt xs).map (· + k) = srt (xs.map (· + k)) := by
  refine sorted_eq ?_ (srt_sorted _) (((srt_perm xs).map _).trans (srt_perm _).symm)
  rw [List.pairwise_map]
  exact (srt_sorted xs).imp fun h => by omega
theorem does_in (xs ys : List Int) (x : Int) : (does 2 (puts (fun _ => false, 0) xs) ys).1 x = (decide (x ∈ xs) && !decide (x ∈ ys)) := by
  have e : does 2 (puts (fun _ => false, 0) xs) ys = pops (puts (fun _ => false, 0) xs) ys := by simp [does]
  rw [e, pops_in, puts_in]
  simp
theorem shift_plain {xs ys d d' : List Int} {k : Int} (hd : d.Nodup) (hm : ∀ y, y ∈ d ↔ (does 2 (puts (fun _ => false, 0) xs) ys).1 y = true) (hd' : d'.Nodup) (hm' : ∀ y, y ∈ d' ↔ (does 2 (puts (fun _ => false, 0) (xs.map (· + k))) (ys.map (· + k))).1 y = true) :
    (srt d).map (· + k) = srt d' ∧ d.length = d'.length := by
  have hn : (d.map (· + k)).Nodup := by
    unfold List.Nodup
    rw [List.pairwise_map]
    exact hd.imp fun hne e => hne (by omega)
  have hp : (d.map (· + k)).Perm d' := by
    refine (List.perm_ext_iff_of_nodup hn hd').2 fun z => ?_
    rw [hm', does_in, List.mem_map]
    have e1 : ∀ l : List Int, z ∈ l.map (· + k) ↔ z - k ∈ l := fun l => by
      rw [List.mem_map]
      constructor
      · rintro ⟨a, ha, rfl⟩
        have : a + k - k = a := by omega
        rw [this]; exact ha
      · intro h; exact ⟨z - k, h, by omega⟩
    constructor
    · rintro ⟨y, hy, rfl⟩
      rw [hm, does_in] at hy
      have e2 : y + k - k = y := by omega
      simp only [e1, e2]
      exact hy
    · intro h
      simp only [e1] at h
      refine ⟨z - k, ?_, by omega⟩
      rw [hm, does_in]
      exact h
  refine ⟨?_, ?_⟩
  · rw [srt_map]; exact srt_eq hp
  · have := hp.length_eq
    simpa using this

theorem few20 {n : Nat} (h : few30 n = true) : 0 < n ∧ n ≤ 30 := by simpa [few30] using h

set_option maxRecDepth 100000 in
set_option maxHeartbeats 8000000 in
theorem shift_small (A B : Option Addr) (n m cA cB : Nat) (xs ys : List Int) (k : Int) (w : World) (hx : xs.length = n) (hy : ys.length = m) (hn : n ≤ 2147483647) (hm : m ≤ 2147483647) (hA : Rd w A (sv xs)) (hB : Rd w B (sv ys)) (h1 : is16 xs) (h2 : is16 ys) (hk : -32768 ≤ k) (hk2 : k ≤ 32767) :
    Calls Try.prog 3 #[.slice A n cA, .slice B m cB, .int .i16 k] w fun r w' => r = .returned (.bool true) ∧ Ch S0 w w' := by
  have HX := Lib.hid hx
  have HY := Lib.hid hy
  have HA := Lib.hid hA
  have HB := Lib.hid hB
  have HX6 := Lib.hid h1
  have HY6 := Lib.hid h2
  have d1 : ¬ (2147483647 : Int) < (n : Nat) := by omega
  have d2 : ¬ (2147483647 : Int) < (m : Nat) := by omega
  clear hx hy hA hB h1 h2
  go_enter Try.func3, Try.ntmps3
  go_wp2_with fail
  refine (dxFew_any A n cA _ hn).mono ?_
  rintro r w1 ⟨rfl, rfl⟩
  cases hf : few30 n with
  | false =>
    clear hf
    go_wp2_with fail
    go_ret
    exact ⟨rfl, Ch.refl _ _⟩
  | true =>
    obtain ⟨f1, f2⟩ := few20 hf
    clear hf
    go_wp2_with fail
    refine (dxFew_any B m cB _ hm).mono ?_
    rintro r w1 ⟨rfl, rfl⟩
    cases hf : few30 m with
    | false =>
      clear hf
      go_wp2_with fail
      go_ret
      exact ⟨rfl, Ch.refl _ _⟩
    | true =>
      obtain ⟨f3, f4⟩ := few20 hf
      clear hf
      by_cases h20 : n ≤ 20 ∧ m ≤ 20
      case neg =>
        by_cases h21 : n ≤ 20
        · have g1 : ¬ (20 : Int) < (n : Nat) := by omega
          have g2 : (20 : Int) < (m : Nat) := by omega
          clear h20
          go_wp2_with fail
          go_ret
          exact ⟨rfl, Ch.refl _ _⟩
        · have g1 : (20 : Int) < (n : Nat) := by omega
          clear h20
          go_wp2_with fail
          go_ret
          exact ⟨rfl, Ch.refl _ _⟩
      case pos =>
      have g1 : ¬ (20 : Int) < (n : Nat) := by omega
      have g2 : ¬ (20 : Int) < (m : Nat) := by omega
      have H20 := Lib.hid h20
      clear h20
      go_wp2_with fail
      refine (dsInts_any A n cA xs _ HX.out (by omega) HA.out HX6.out).mono ?_
      rintro r w1 ⟨v1, rfl, hO1, hC1⟩
      obtain ⟨A1, cap1, rfl, hR1, _⟩ := own_rd hO1
      have HR1 := Lib.hid hR1
      have HC1 := Lib.hid hC1
      clear hO1 hR1 hC1
      go_wp2_with fail
      refine (dsInts_any B m cB ys _ HY.out (by omega) (HB.out.keep0 HC1.out) HY6.out).mono ?_
      rintro r w2 ⟨v2, rfl, hO2, hC2⟩
      obtain ⟨A2, cap2, rfl, hR2, _⟩ := own_rd hO2
      have HR2 := Lib.hid hR2
      have HR12 := Lib.hid (HR1.out.keep0 hC2)
      have HC2 := Lib.hid (HC1.out.trans hC2)
      clear hO2 hR2 hC2
      go_wp2_with fail
      have hc2 : Ch S0 w2 (w2.alloc (.cells #[.int .i64 2, .slice A2 m cap2] 33)) := (Ch.refl S0 w2).alloc _
      refine (said_any A1 (some ⟨w2.heap.size, 0, none⟩) A2 n cap1 1 m cap2 2 xs ys _ (Or.inr rfl) HX.out (by omega) (HR12.out.keep0 hc2) (Rd.new w2 [.int .i64 2, .slice A2 m cap2] 33) HY.out (by omega) (HR2.out.keep0 hc2)).mono ?_
      rintro r w3 ⟨F3, cf3, b3, ea3, en3, ec3, d3, rfl, hF3, hl3, hn3, hm3, hC3⟩
      obtain ⟨N1, hN1⟩ : ∃ N1, (does 2 (puts (fun _ => false, 0) xs) ys).2 = N1 := ⟨_, rfl⟩
      rw [hN1] at hl3 ⊢
      have hc3 := hc2.trans hC3
      have HR13 := Lib.hid (HR12.out.keep0 hc3)
      have HR23 := Lib.hid (HR2.out.keep0 hc3)
      have HC3 := Lib.hid (HC2.out.trans hc3)
      have hs3 : w3.heap.size < (w3.alloc (.cells #[.int .i64 N1, .slice F3 N1 cf3, .bool b3, .slice ea3 en3 ec3] 29)).heap.size := by simp
      have HF3 := Lib.hid hF3
      have HL3 := Lib.hid hl3
      have HNd3 := Lib.hid hn3
      have HM3 := Lib.hid hm3
      clear hc2 hC3 hc3 hF3 hl3 hn3 hm3 hN1
      go_wp2_with fail
      obtain ⟨w4, hw4⟩ : ∃ w4, w3.alloc (.cells #[.int .i64 N1, .slice F3 N1 cf3, .bool b3, .slice ea3 en3 ec3] 29) = w4 := ⟨_, rfl⟩
      have hc4 : Ch S0 w3 w4 := by rw [← hw4]; exact (Ch.refl S0 w3).alloc _
      have hb4 : Blk w4 w3.heap.size #[.int .i64 N1, .slice F3 N1 cf3, .bool b3, .slice ea3 en3 ec3] := by rw [← hw4]; exact Blk.new _ _ _
      rw [hw4]
      have HC4 := Lib.hid (HC3.out.trans hc4)
      have HR14 := Lib.hid (HR13.out.keep0 hc4)
      have HR24 := Lib.hid (HR23.out.keep0 hc4)
      have HB4 := Lib.hid hb4
      have HF4 := Lib.hid (HF3.out.keep0 hc4)
      clear hw4 hc4 hb4 hs3
      refine (dxPlus_any A1 n cap1 xs k _ HX.out (by omega) HR14.out (fun x hx => by have := HX6.out x hx; omega) (by omega) (by omega)).mono ?_
      rintro r w5 ⟨v5, rfl, hO5, hC5⟩
      obtain ⟨A5, cap5, rfl, hR5, _⟩ := own_rd hO5
      have HR5 := Lib.hid hR5
      have HR25 := Lib.hid (HR24.out.keep0 hC5)
      have HB5 := Lib.hid (HB4.out.keep hC5 (fun h => h))
      have HF5 := Lib.hid (HF4.out.keep0 hC5)
      have HC5 := Lib.hid (HC4.out.trans hC5)
      clear hO5 hR5 hC5
      go_wp2_with fail
      refine (dxPlus_any A2 m cap2 ys k _ HY.out (by omega) HR25.out (fun x hx => by have := HY6.out x hx; omega) (by omega) (by omega)).mono ?_
      rintro r w6 ⟨v6, rfl, hO6, hC6⟩
      obtain ⟨A6, cap6, rfl, hR6, _⟩ := own_rd hO6
      have HR6 := Lib.hid hR6
      have HR56 := Lib.hid (HR5.out.keep0 hC6)
      have HB6 := Lib.hid (HB5.out.keep hC6 (fun h => h))
      have HF6 := Lib.hid (HF5.out.keep0 hC6)
      have HC6 := Lib.hid (HC5.out.trans hC6)
      clear hO6 hR6 hC6
      go_wp2_with fail
      have hc6 : Ch S0 w6 (w6.alloc (.cells #[.int .i64 2, .slice A6 m cap6] 33)) := (Ch.refl S0 w6).alloc _
      refine (said_any A5 (some ⟨w6.heap.size, 0, none⟩) A6 n cap5 1 m cap6 2 (xs.map (· + k)) (ys.map (· + k)) _ (Or.inr rfl) (by simp [HX.out]) (by omega) (HR56.out.keep0 hc6) (Rd.new w6 [.int .i64 2, .slice A6 m cap6] 33) (by simp [HY.out]) (by omega) (HR6.out.keep0 hc6)).mono ?_
      rintro r w7 ⟨F7, cf7, b7, ea7, en7, ec7, d7, rfl, hF7, hl7, hn7, hm7, hC7⟩
      obtain ⟨hsrt, hlen⟩ := shift_plain HNd3.out HM3.out hn7 hm7
      rw [HL3.out] at hlen
      rw [← hl7, ← hlen]
      have hc7 := hc6.trans hC7
      have HB7 := Lib.hid (HB6.out.keep hc7 (fun h => h))
      have HF37 := Lib.hid (HF6.out.keep0 hc7)
      have HC7 := Lib.hid (HC6.out.trans hc7)
      have HF7 := Lib.hid hF7
      have HSrt := Lib.hid hsrt
      have HL7 : Hid (d7.length = N1) := Lib.hid hlen.symm
      have hbd : ∀ y ∈ srt d3, -1000000000 ≤ y ∧ y ≤ 1000000000 := fun y hy => by
        have h1 : y ∈ d3 := (srt_perm d3).subset hy
        have h2 := (HM3.out y).1 h1
        rw [does_in] at h2
        simp only [Bool.and_eq_true, decide_eq_true_eq] at h2
        have := HX6.out y h2.1
        omega
      have HBd := Lib.hid hbd
      have hN1 : N1 ≤ 1000000 := by
        have h1 := nodup_sub d3 xs HNd3.out (fun y hy => by
          have h2 := (HM3.out y).1 hy
          rw [does_in] at h2
          simp only [Bool.and_eq_true, decide_eq_true_eq] at h2
          exact h2.1)
        have := HX.out
        have := HL3.out
        omega
      clear hc6 hC7 hc7 hF7 hl7 hn7 hm7 hsrt hlen hbd
      go_wp2_with fail
      obtain ⟨w8, hw8⟩ : ∃ w8, w7.alloc (.cells #[.int .i64 N1, .slice F7 N1 cf7, .bool b7, .slice ea7 en7 ec7] 29) = w8 := ⟨_, rfl⟩
      have hc8 : Ch S0 w7 w8 := by rw [← hw8]; exact (Ch.refl S0 w7).alloc _
      have hb8 : Blk w8 w7.heap.size #[.int .i64 N1, .slice F7 N1 cf7, .bool b7, .slice ea7 en7 ec7] := by rw [← hw8]; exact Blk.new _ _ _
      rw [hw8]
      have HC8 := Lib.hid (HC7.out.trans hc8)
      have HBc := Lib.hid hb8
      have hb9 := HB7.out.keep hc8 (fun h => h)
      have HB9 := Lib.hid hb9
      have HF38 := Lib.hid (HF37.out.keep0 hc8)
      have HF78 := Lib.hid (HF7.out.keep0 hc8)
      have s0 := hb9.cell 0
      have s1 := hb9.cell 1
      have s2 := hb8.cell 0
      have s3 := hb8.cell 1
      simp only [List.getElem?_toArray, List.getElem?_cons_zero, List.getElem?_cons_succ] at s0 s1 s2 s3
      have wr1 : IntKind.i64.wrap k = k := IntWalk.i64_in _ (by omega)
      have hk9 : -1000000000 ≤ k := by omega
      have hk8 : k ≤ 1000000000 := by omega
      have HLs : Hid ((srt d3).length = N1) := Lib.hid (by rw [srt_len]; exact HL3.out)
      have HLm : Hid (((srt d3).map (· + k)).length = N1) := Lib.hid (by simp [srt_len, HL3.out])
      have HLt : Hid ((srt d7).length = N1) := Lib.hid (by rw [srt_len]; exact HL7.out)
      have HDe : Hid (decide ((srt d3).map (· + k) = srt d7) = true) := Lib.hid (by rw [HSrt.out]; simp)
      have k1 : ((N1 : Int) == (N1 : Int)) = true := by simp
      clear hw8 hc8 hb8 hb9
      go_region_held3 (fun w' => w'.cell? ⟨w3.heap.size, 0, none⟩ = some (.int .i64 N1) ∧ w'.cell? ⟨w3.heap.size, 1, none⟩ = some (.slice F3 N1 cf3) ∧ w'.cell? ⟨w7.heap.size, 0, none⟩ = some (.int .i64 N1) ∧ w'.cell? ⟨w7.heap.size, 1, none⟩ = some (.slice F7 N1 cf7))
        (first | ((try dsimp only); (repeat' apply And.intro) <;> assumption) | (go_keep; done))
        (first | (go_at_call 9; (with_reducible refine (sorted_any F7 N1 cf7 d7 wp HL7.out hN1 (HF78.out.keep0 Kwp.out)).mono ?_); rintro r wb ⟨Ab, capb, rfl, hRx, hCx⟩; have Kwb := Lib.hid (Ch.trans Kwp.out hCx); have Rb := Lib.hid hRx; have Rpb := Lib.hid (Rp.out.keep0 hCx); clear hRx; have zb9 := HB9.out.keep Kwb.out (fun h => h); have zc9 := HBc.out.keep Kwb.out (fun h => h); have s0 := zb9.cell 0; have s1 := zb9.cell 1; have s2 := zc9.cell 0; have s3 := zc9.cell 1; simp only [List.getElem?_toArray, List.getElem?_cons_zero, List.getElem?_cons_succ] at s0 s1 s2 s3; clear zb9 zc9; clear hCx) | (go_at_call 9; (with_reducible refine (sorted_any F7 N1 cf7 d7 wa HL7.out hN1 (HF78.out.keep0 Kwa.out)).mono ?_); rintro r wb ⟨Ab, capb, rfl, hRx, hCx⟩; have Kwb := Lib.hid (Ch.trans Kwa.out hCx); have Rb := Lib.hid hRx; have Rab := Lib.hid (Ra.out.keep0 hCx); clear hRx; have zb9 := HB9.out.keep Kwb.out (fun h => h); have zc9 := HBc.out.keep Kwb.out (fun h => h); have s0 := zb9.cell 0; have s1 := zb9.cell 1; have s2 := zc9.cell 0; have s3 := zc9.cell 1; simp only [List.getElem?_toArray, List.getElem?_cons_zero, List.getElem?_cons_succ] at s0 s1 s2 s3; clear zb9 zc9; clear hCx) | (go_at_call 9; (with_reducible refine (sorted_any F3 N1 cf3 d3 wb HL3.out hN1 (HF38.out.keep0 Kwb.out)).mono ?_); rintro r wa ⟨Aa, capa, rfl, hRx, hCx⟩; have Kwa := Lib.hid (Ch.trans Kwb.out hCx); have Ra := Lib.hid hRx; have Rba := Lib.hid (Rb.out.keep0 hCx); clear hRx; have zb9 := HB9.out.keep Kwa.out (fun h => h); have zc9 := HBc.out.keep Kwa.out (fun h => h); have s0 := zb9.cell 0; have s1 := zb9.cell 1; have s2 := zc9.cell 0; have s3 := zc9.cell 1; simp only [List.getElem?_toArray, List.getElem?_cons_zero, List.getElem?_cons_succ] at s0 s1 s2 s3; clear zb9 zc9; clear hCx) | (go_at_call 9; (with_reducible refine (sorted_any F3 N1 cf3 d3 w8.drew HL3.out hN1 (HF38.out.keep0 (Ch.refl S0 w8).drew)).mono ?_); rintro r wa ⟨Aa, capa, rfl, hRx, hCx⟩; have Kwa := Lib.hid (Ch.trans (Ch.refl S0 w8).drew hCx); have Ra := Lib.hid hRx; clear hRx; have zb9 := HB9.out.keep Kwa.out (fun h => h); have zc9 := HBc.out.keep Kwa.out (fun h => h); have s0 := zb9.cell 0; have s1 := zb9.cell 1; have s2 := zc9.cell 0; have s3 := zc9.cell 1; simp only [List.getElem?_toArray, List.getElem?_cons_zero, List.getElem?_cons_succ] at s0 s1 s2 s3; clear zb9 zc9; clear hCx) | (go_at_call 9; (with_reducible refine (sorted_any F7 N1 cf7 d7 w8.drew HL7.out hN1 (HF78.out.keep0 (Ch.refl S0 w8).drew)).mono ?_); rintro r wb ⟨Ab, capb, rfl, hRx, hCx⟩; have Kwb := Lib.hid (Ch.trans (Ch.refl S0 w8).drew hCx); have Rb := Lib.hid hRx; clear hRx; have zb9 := HB9.out.keep Kwb.out (fun h => h); have zc9 := HBc.out.keep Kwb.out (fun h => h); have s0 := zb9.cell 0; have s1 := zb9.cell 1; have s2 := zc9.cell 0; have s3 := zc9.cell 1; simp only [List.getElem?_toArray, List.getElem?_cons_zero, List.getElem?_cons_succ] at s0 s1 s2 s3; clear zb9 zc9; clear hCx) | (go_at_call 7; (with_reducible refine (dxPlus_any Aa N1 capa (srt d3) k wa HLs.out hN1 Ra.out HBd.out hk9 hk8).mono ?_); rintro r wp ⟨vp, rfl, hOx, hCx⟩; have Kwp := Lib.hid (Ch.trans Kwa.out hCx); obtain ⟨Ap, capp, rfl, hRx, _⟩ := own_rd hOx; have Rp := Lib.hid hRx; (first | have Rbp := Lib.hid (Rba.out.keep0 hCx) | skip); clear hRx hOx; have zb9 := HB9.out.keep Kwp.out (fun h => h); have zc9 := HBc.out.keep Kwp.out (fun h => h); have s0 := zb9.cell 0; have s1 := zb9.cell 1; have s2 := zc9.cell 0; have s3 := zc9.cell 1; simp only [List.getElem?_toArray, List.getElem?_cons_zero, List.getElem?_cons_succ] at s0 s1 s2 s3; clear zb9 zc9; clear hCx) | (go_at_call 7; (with_reducible refine (dxPlus_any Aa N1 capa (srt d3) k wb HLs.out hN1 Rab.out HBd.out hk9 hk8).mono ?_); rintro r wp ⟨vp, rfl, hOx, hCx⟩; have Kwp := Lib.hid (Ch.trans Kwb.out hCx); obtain ⟨Ap, capp, rfl, hRx, _⟩ := own_rd hOx; have Rp := Lib.hid hRx; have Rbp := Lib.hid (Rb.out.keep0 hCx); clear hRx hOx; have zb9 := HB9.out.keep Kwp.out (fun h => h); have zc9 := HBc.out.keep Kwp.out (fun h => h); have s0 := zb9.cell 0; have s1 := zb9.cell 1; have s2 := zc9.cell 0; have s3 := zc9.cell 1; simp only [List.getElem?_toArray, List.getElem?_cons_zero, List.getElem?_cons_succ] at s0 s1 s2 s3; clear zb9 zc9; clear hCx) | (go_at_call 8; (with_reducible refine (equal_int Ap Ab N1 N1 capp capb ((srt d3).map (· + k)) (srt d7) wb HLm.out HLt.out hN1 hN1 Rpb.out Rb.out).mono ?_); rintro r we ⟨rfl, hCx⟩; rw [HDe.out]; have Kwe := Lib.hid (Ch.trans Kwb.out hCx); have zb9 := HB9.out.keep Kwe.out (fun h => h); have zc9 := HBc.out.keep Kwe.out (fun h => h); have s0 := zb9.cell 0; have s1 := zb9.cell 1; have s2 := zc9.cell 0; have s3 := zc9.cell 1; simp only [List.getElem?_toArray, List.getElem?_cons_zero, List.getElem?_cons_succ] at s0 s1 s2 s3; clear zb9 zc9; clear hCx) | (go_at_call 8; (with_reducible refine (equal_int Ap Ab N1 N1 capp capb ((srt d3).map (· + k)) (srt d7) wp HLm.out HLt.out hN1 hN1 Rp.out Rbp.out).mono ?_); rintro r we ⟨rfl, hCx⟩; rw [HDe.out]; have Kwe := Lib.hid (Ch.trans Kwp.out hCx); have zb9 := HB9.out.keep Kwe.out (fun h => h); have zc9 := HBc.out.keep Kwe.out (fun h => h); have s0 := zb9.cell 0; have s1 := zb9.cell 1; have s2 := zc9.cell 0; have s3 := zc9.cell 1; simp only [List.getElem?_toArray, List.getElem?_cons_zero, List.getElem?_cons_succ] at s0 s1 s2 s3; clear zb9 zc9; clear hCx))
      all_goals
        go_wp2_with fail
        go_ret
        exact ⟨rfl, HC8.out.trans Kwe.out⟩
end Go.Proofs.Ytjifdcklmpibpaa
