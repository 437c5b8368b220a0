/- FnGRMore: the plain law, and the walk. -/
import Derived.Test.YtjifdcklmpibpaaDoorT
import Derived.Deep.DeepCutAuto
import Derived.Deep.RegionLaw
import Derived.Deep.RegionHeld3
namespace Go.Proofs.YtjifdcklmpibpaaDoor
open Go.RowKit
set_option linter.unusedVariables false
set_option linter.unusedSimpArgs false

theorem more_there {G : PG} {X Y k : Int} (h : G.ver k = true) : (G.add X Y).ver k = true ∧ (G.add X Y).deg k = if G.err X Y = 0 ∧ (k = X ∨ k = Y) then G.deg k + 1 else G.deg k := by
  refine ⟨by rw [PG.add_ver, h]; rfl, ?_⟩
  rw [PG.add_deg]
  unfold PG.err
  by_cases h1 : X = Y
  · simp [h1]
  · cases h2 : G.adj X Y <;> simp [h1]
theorem more_new {G : PG} {X Y k : Int} (ho : G.Ok) (h : G.ver k = false) (hn : X ≠ Y) (hk : k = X ∨ k = Y) : (G.add X Y).ver k = true ∧ (G.add X Y).deg k = 1 ∧ G.err X Y = 0 := by
  obtain ⟨n1, n2⟩ := ho.no k h
  have ha : G.adj X Y = false := by
    rcases hk with rfl | rfl
    · exact n1 _
    · rw [ho.sym]; exact n1 _
  refine ⟨?_, ?_, by simp [PG.err, hn, ha]⟩
  · rw [PG.add_ver]
    rcases hk with rfl | rfl <;> simp [hn]
  · rw [PG.add_deg]
    simp [hn, ha, hk, n2]
theorem more_off {G : PG} {X Y k : Int} (ho : G.Ok) (h : G.ver k = false) (hk : ¬ (X ≠ Y ∧ (k = X ∨ k = Y))) : (G.add X Y).ver k = false ∧ ¬ (G.err X Y = 0 ∧ (k = X ∨ k = Y)) := by
  refine ⟨?_, fun ⟨h1, h2⟩ => ?_⟩
  · rw [PG.add_ver, h]
    by_cases hn : X = Y
    · simp [hn]
    · simp [hn] at hk ⊢
      omega
  · have hn : X ≠ Y := fun e => by simp [PG.err, e] at h1
    exact hk ⟨hn, h2⟩

set_option maxRecDepth 100000 in
set_option maxHeartbeats 8000000 in
theorem more_small (n cap : Nat) (A : Option Addr) (xs : List (Int × Int)) (X Y : Int) (q B : Nat) (e1 e2 e3 : Addr) (w : World) (hn : xs.length = n) (hn1 : n ≤ 2147483647) (hA : Rd w A (ev xs)) (hE : Er w B e1 e2 e3) (hq : q < 256) :
    Calls Tryd.prog 3 #[.slice A n cap, .agg #[.int .i64 X, .int .i64 Y], .int .u8 q] w fun r w' => r = .returned (.bool true) ∧ Ch S0 w w' := by
  have HA := Lib.hid hA
  have HE := Lib.hid hE
  have HN := Lib.hid hn
  have h31 : ¬ (2147483647 : Int) < (n : Nat) := by omega
  have HC0 : Hid (Ch S0 w (w.alloc (.cells #[.int .i64 X, .int .i64 Y] 24))) := Lib.hid ((Ch.refl S0 w).alloc _)
  clear hA hE hn
  go_enter Tryd.func3, Tryd.ntmps3
  go_wp2_with fail
  refine (few_any n cap A xs _ HN.out hn1 (HA.out.keep0 HC0.out)).mono ?_
  rintro r w1 ⟨rfl, hC1⟩
  have HC1 := Lib.hid hC1
  have hb1 := (Blk.new w #[.int .i64 X, .int .i64 Y] 24).keep hC1 (fun h => h)
  have HB1 := Lib.hid hb1
  have c0 := hb1.cell 0
  have c1 := hb1.cell 1
  simp only [List.getElem?_toArray, List.getElem?_cons_zero, List.getElem?_cons_succ] at c0 c1
  cases hf : few xs with
  | false =>
    clear hC1 hb1 hf
    go_wp2_with fail
    go_ret
    exact ⟨rfl, HC0.out.trans HC1.out⟩
  | true =>
    have HF := Lib.hid hf
    clear hC1 hb1 hf
    go_wp2_with fail
    refine (few_any 1 1 _ [(X, Y)] _ rfl (by omega) (Rd.new w1 (ev [(X, Y)]) 24)).mono ?_
    rintro r w2 ⟨rfl, hC2⟩
    have HC2 := Lib.hid (((Ch.refl S0 w1).alloc (.cells #[.int .i64 X, .int .i64 Y] 24)).trans hC2)
    clear hC2
    cases hf2 : few [(X, Y)] with
    | false =>
      clear hf2
      go_wp2_with fail
      go_ret
      exact ⟨rfl, (HC0.out.trans HC1.out).trans HC2.out⟩
    | true =>
      clear hf2
      have hc3 := (HC0.out.trans HC1.out).trans HC2.out
      have HC3 := Lib.hid hc3
      have hb3 := HB1.out.keep HC2.out (fun h => h)
      have HB3 := Lib.hid hb3
      have d0 := hb3.cell 0
      have d1 := hb3.cell 1
      have f0 := hb3.free 0
      simp only [List.getElem?_toArray, List.getElem?_cons_zero, List.getElem?_cons_succ] at d0 d1
      clear hc3 hb3
      go_upto_region 5 with fail
      have hx20 : xs.length ≤ 20 ∧ 0 < xs.length := by
        have := HF.out
        simp [few] at this
        exact ⟨this.2, this.1.2⟩
      have hne : 0 < (ev xs).length := by rw [ev_length]; omega
      obtain ⟨ab, ao, hAe, _⟩ := HA.out.lt hne
      subst hAe
      have hn20 : n ≤ 20 := by have := HN.out; omega
      have HXn := Lib.hid hx20
      clear hx20 hne
      go_cut [7] (fun v7 wx => wx.ownsRow w2.heap.size 24 2 v7 (n + 1) (ev (xs ++ [(X, Y)])) ∧ Ch S0 w2 wx)
      case first =>
        have hev : ev (xs ++ [(X, Y)]) = ev xs ++ [.int .i64 X, .int .i64 Y] := by simp [ev]
        have HEv := Lib.hid hev
        clear hev
        have HOne : Hid (∀ u ∈ [Value.int .i64 X, .int .i64 Y], u.oneCell' = true) := Lib.hid (by simp [Value.oneCell'])
        have HM1 : Hid (n + 1 ≤ maxLen) := Lib.hid (by unfold maxLen; omega)
        have HM2 : Hid ((n + 1) * 16 ≤ 140737488355328) := Lib.hid (by omega)
        go_region_law (first | (go_simp; go_at_call 7; (with_reducible refine (clone_edges n cap ab ao xs w2.drew HN.out (Nat.le_trans hn20 (by decide)) (HA.out.keep0 HC3.out.drew)).mono ?_); rintro r w4 ⟨v4, rfl, hO4, hC4⟩; have HO4 := Lib.hid (own_base (base' := w2.heap.size) hO4 (by simp)); have hC5 : Ch S0 w2 w4 := Ch.trans (Ch.refl S0 w2).drew hC4; have HC5 := Lib.hid hC5; have hb4 := HB3.out.keep hC5 (fun h => h); have g0 := hb4.cell 0; have g1 := hb4.cell 1; simp only [List.getElem?_toArray, List.getElem?_cons_zero, List.getElem?_cons_succ] at g0 g1; clear hO4 hC4 hC5 hb4) | (go_simp; go_at_call 7; (with_reducible refine (clone_edges n cap ab ao xs (w2.alloc (.cells #[.int .i64 X, .int .i64 Y] 24)).drew HN.out (Nat.le_trans hn20 (by decide)) (HA.out.keep0 (HC3.out.alloc _).drew)).mono ?_); rintro r w4 ⟨v4, rfl, hO4, hC4⟩; have HR4 := Lib.hid ((Rd.new w2 [.int .i64 X, .int .i64 Y] 24).keep0 ((Ch.refl S0 _).drew.trans hC4)); have HO4 := Lib.hid (own_base (base' := w2.heap.size) hO4 (by simp)); have hC5 : Ch S0 w2 w4 := Ch.trans ((Ch.refl S0 w2).alloc _).drew hC4; have HC5 := Lib.hid hC5; have hb4 := HB3.out.keep hC5 (fun h => h); have g0 := hb4.cell 0; have g1 := hb4.cell 1; simp only [List.getElem?_toArray, List.getElem?_cons_zero, List.getElem?_cons_succ] at g0 g1; clear hO4 hC4 hC5 hb4) | (refine step_all elEdge rfl (.tmp 32) (.tmp 34) rfl w2.heap.size n v4 (ev xs) (by rfl) HO4.out w2.heap.size 0 1 1 [.int .i64 X, .int .i64 Y] rfl HOne.out (by rfl) HR4.out HM1.out HM2.out HC5.out.size ?_; intro v5 w5 hO5 hC6 hb6 _; have HO5 := Lib.hid hO5; have HC6 := Lib.hid hC6; clear hO5 hC6 hb6; have HCf := Lib.hid (HC5.out.trans' HC6.out (fun i hi hs => absurd (own_lt HO4.out i hs).1 (by omega)))) | (refine step_all elEdge rfl (.tmp 32) (.tmp 34) rfl w2.heap.size n v4 (ev xs) (by rfl) (own_keep0 HO4.out ((Ch.refl S0 w4).alloc _)) w4.heap.size 0 1 1 [.int .i64 X, .int .i64 Y] rfl HOne.out (by rfl) (Rd.new w4 _ 24) HM1.out HM2.out (HC5.out.alloc (.cells #[.int .i64 X, .int .i64 Y] 24)).size ?_; intro v5 w5 hO5 hC6 hb6 _; have HO5 := Lib.hid hO5; have HC6 := Lib.hid hC6; clear hO5 hC6 hb6; have HCf := Lib.hid ((HC5.out.alloc (.cells #[.int .i64 X, .int .i64 Y] 24)).trans' HC6.out (fun i hi hs => absurd (own_lt HO4.out i hs).1 (by omega)))))
        all_goals (go_wp2_with fail; go_meet; exact ⟨by rw [HEv.out]; exact HO5.out, HCf.out⟩)
      case rest =>
      obtain ⟨hO5, hC5⟩ := hcut
      obtain ⟨A5, cap5, rfl, hR5, _, _, _, _⟩ := own_rd hO5
      have hb5 := HB3.out.keep hC5 (fun h => h)
      have HR5 := Lib.hid hR5
      have HC5 := Lib.hid (HC3.out.trans hC5)
      have HB5 := Lib.hid hb5
      have HNm : Hid ((xs ++ [(X, Y)]).length = n + 1) := Lib.hid (by simp [HN.out])
      obtain ⟨G, hG⟩ : ∃ G, PG.nil.adds xs = G := ⟨_, rfl⟩
      have hGo : G.Ok := by rw [← hG]; exact PG.Ok.nil.adds xs
      have hG2 := PG.adds_snoc PG.nil xs (X, Y)
      rw [hG] at hG2
      have herr := PG.errI_snoc PG.nil xs (X, Y)
      rw [hG] at herr
      have HG := Lib.hid hG
      have HG2 := Lib.hid hG2
      have HErr := Lib.hid herr
      have HGo := Lib.hid hGo
      clear hO5 hC5 hR5 hb5 hG hG2 herr hGo c0 c1 d0 d1 f0
      go_wp2_with fail
      refine (grrun_any (n + 1) cap5 A5 (xs ++ [(X, Y)]) B e1 e2 e3 _ HNm.out (by omega) HR5.out (HE.out.keep0 HC5.out)).mono ?_
      rintro r w6 ⟨v6, rfl, hO6, hC6⟩
      obtain ⟨A6, cap6, rfl, hR6, _, _, hA6, _⟩ := own_rd hO6
      have hA6 : ∃ b6, A6 = some ⟨b6, 0, none⟩ := hA6.resolve_left (by omega)
      obtain ⟨b6, rfl⟩ := hA6
      rw [HErr.out] at hR6
      have he6 : (iv (PG.nil.errI xs ++ [((G.err X Y : Nat) : Int)]))[n]? = some (.int .i64 ((G.err X Y : Nat) : Int)) := by
        rw [iv_snoc, List.getElem?_append_right (by simp [PG.errI_len, HN.out])]
        simp [PG.errI_len, HN.out]
      have hcell : w6.cell? ⟨b6, n, none⟩ = some (.int .i64 ((G.err X Y : Nat) : Int)) := by
        obtain ⟨b, o, e, h⟩ := hR6.at he6
        cases e
        simpa using h
      have HE6 := Lib.hid hcell
      have HC6 := Lib.hid hC6
      have HC7 := Lib.hid (HC5.out.trans hC6)
      clear hO6 hR6 he6 hC6 hcell
      go_wp2_with fail
      refine (awake_any B e1 e2 e3 _ (HE.out.keep0 HC7.out)).mono ?_
      rintro r w7 ⟨rfl, hC8⟩
      have HC8 := Lib.hid hC8
      have HC9 := Lib.hid (HC7.out.trans hC8)
      have hb9 := HB5.out.keep (HC6.out.trans hC8) (fun h => h)
      have g0 := hb9.cell 0
      have g1 := hb9.cell 1
      simp only [List.getElem?_toArray, List.getElem?_cons_zero, List.getElem?_cons_succ] at g0 g1
      have hce : w7.cell? ⟨b6, n, none⟩ = some (.int .i64 ((G.err X Y : Nat) : Int)) := by
        rw [World.cell?_of_block (w := w6) (hC8.block b6 (World.block_lt_of_cell? _ _ HE6.out) (fun h => h))]; exact HE6.out
      have HB9 := Lib.hid hb9
      have HCe := Lib.hid hce
      have hnn : (((n : Int) + 1) != ((n : Int) + 1)) = false := by simp
      clear hC8 hb9 hce
      go_wp2_with fail
      obtain ⟨k, hk⟩ : ∃ k : Int, ((q : Nat) : Int) % 13 = k := ⟨_, rfl⟩
      rw [hk]
      refine (grdeg_any n cap (some ⟨ab, ao, none⟩) xs B e1 e2 e3 _ _ HN.out (by omega) (HA.out.keep0 HC9.out) (HE.out.keep0 HC9.out)).mono ?_
      rintro r w10 ⟨rfl, hC10⟩
      rw [HG.out]
      have hc10 : w10.cell? ⟨b6, n, none⟩ = some (.int .i64 ((G.err X Y : Nat) : Int)) := by
        rw [World.cell?_of_block (w := w7) (hC10.block b6 (World.block_lt_of_cell? _ _ HCe.out) (fun h => h))]; exact HCe.out
      have hb10 := HB9.out.keep hC10 (fun h => h)
      have HC10 := Lib.hid (HC9.out.trans hC10)
      have HC10b := Lib.hid ((HC6.out.trans HC8.out).trans hC10)
      have HB10 := Lib.hid hb10
      have HCe10 := Lib.hid hc10
      clear hC10 hc10 hb10 g0 g1
      have hnt31 : n ≤ 1000 := by omega
      obtain ⟨c, hc⟩ : ∃ c, G.err X Y = c := ⟨_, rfl⟩
      rw [hc] at HCe10
      have hdl := PG.deg_le xs k PG.nil
      rw [HG.out] at hdl
      have hdl : G.deg k ≤ 1000 := by have := HN.out; simp only [PG.nil] at hdl; omega
      obtain ⟨d, hd⟩ : ∃ d, G.deg k = d := ⟨_, rfl⟩
      rw [hd] at hdl
      have HCc := Lib.hid hc
      have HD := Lib.hid hd
      clear hc hd
      by_cases hv : G.ver k = true
      · obtain ⟨hv2, hd2⟩ := more_there (X := X) (Y := Y) hv
        rw [HD.out, HCc.out] at hd2
        rw [if_pos hv, if_pos hv, HD.out]
        have HV2 := Lib.hid hv2
        clear hv hv2
        by_cases hin : c = 0 ∧ (k = X ∨ k = Y)
        · rw [if_pos hin] at hd2
          have HD2 := Lib.hid hd2
          clear hd2
          go_wp2_with fail
          refine (grdeg_any (n + 1) cap5 A5 (xs ++ [(X, Y)]) B e1 e2 e3 k _ HNm.out (by omega) (HR5.out.keep0 HC10b.out) (HE.out.keep0 HC10.out)).mono ?_
          rintro r w11 ⟨rfl, hC11⟩
          rw [HG2.out]
          have hc11 : w11.cell? ⟨b6, n, none⟩ = some (.int .i64 (c : Int)) := by
            rw [World.cell?_of_block (w := w10) (hC11.block b6 (World.block_lt_of_cell? _ _ HCe10.out) (fun h => h))]; exact HCe10.out
          have hb11 := HB10.out.keep hC11 (fun h => h)
          have g0 := hb11.cell 0
          have g1 := hb11.cell 1
          simp only [List.getElem?_toArray, List.getElem?_cons_zero, List.getElem?_cons_succ] at g0 g1
          have HC11 := Lib.hid (HC10.out.trans hC11)
          have HC11b := Lib.hid (HC10b.out.trans hC11)
          have hni0 : (0 : Int) ≤ (n : Nat) := by omega
          have hnlt : (n : Int) < ((n + 1 : Nat) : Int) := by omega
          have hnt : ((n : Nat) : Int).toNat = n := by omega
          clear hC11 hb11
          rw [HV2.out, HD2.out]
          obtain ⟨hc0, hkk⟩ := hin
          have hc1 : ((c : Int) == 0) = true := by simp [hc0]
          have hdd : ((d : Int) + 1 == (d : Int) + 1) = true := by simp
          by_cases hkx : k = X
          · have hb1 : (k == X) = true := by simp [hkx]
            clear hkk hkx hc0
            go_wp2_with fail
            refine (gradj_any (n + 1) cap5 A5 (xs ++ [(X, Y)]) B e1 e2 e3 k _ HNm.out (by omega) (HR5.out.keep0 HC11b.out) (HE.out.keep0 HC11.out)).mono ?_
            rintro r w12 ⟨done, v12, rfl, hl12, _, _, hO12, hC13⟩
            rw [HG2.out, HV2.out]
            rw [HG2.out, HD2.out] at hl12
            obtain ⟨A12, cap12, rfl, _⟩ := own_rd hO12
            have HC13 := Lib.hid (HC11.out.trans hC13)
            rw [hl12]
            clear hO12 hC13 hl12
            go_wp2_with fail
            go_ret
            exact ⟨rfl, HC13.out⟩
          · have hb1 : (k == X) = false := by simp [hkx]
            have hb2 : (k == Y) = true := by simp [hkk.resolve_left hkx]
            clear hkk hkx hc0
            go_wp2_with fail
            refine (gradj_any (n + 1) cap5 A5 (xs ++ [(X, Y)]) B e1 e2 e3 k _ HNm.out (by omega) (HR5.out.keep0 HC11b.out) (HE.out.keep0 HC11.out)).mono ?_
            rintro r w12 ⟨done, v12, rfl, hl12, _, _, hO12, hC13⟩
            rw [HG2.out, HV2.out]
            rw [HG2.out, HD2.out] at hl12
            obtain ⟨A12, cap12, rfl, _⟩ := own_rd hO12
            have HC13 := Lib.hid (HC11.out.trans hC13)
            rw [hl12]
            clear hO12 hC13 hl12
            go_wp2_with fail
            go_ret
            exact ⟨rfl, HC13.out⟩
        · rw [if_neg hin] at hd2
          have HD2 := Lib.hid hd2
          clear hd2
          go_wp2_with fail
          refine (grdeg_any (n + 1) cap5 A5 (xs ++ [(X, Y)]) B e1 e2 e3 k _ HNm.out (by omega) (HR5.out.keep0 HC10b.out) (HE.out.keep0 HC10.out)).mono ?_
          rintro r w11 ⟨rfl, hC11⟩
          rw [HG2.out]
          have hc11 : w11.cell? ⟨b6, n, none⟩ = some (.int .i64 (c : Int)) := by
            rw [World.cell?_of_block (w := w10) (hC11.block b6 (World.block_lt_of_cell? _ _ HCe10.out) (fun h => h))]; exact HCe10.out
          have hb11 := HB10.out.keep hC11 (fun h => h)
          have g0 := hb11.cell 0
          have g1 := hb11.cell 1
          simp only [List.getElem?_toArray, List.getElem?_cons_zero, List.getElem?_cons_succ] at g0 g1
          have HC11 := Lib.hid (HC10.out.trans hC11)
          have HC11b := Lib.hid (HC10b.out.trans hC11)
          have hni0 : (0 : Int) ≤ (n : Nat) := by omega
          have hnlt : (n : Int) < ((n + 1 : Nat) : Int) := by omega
          have hnt : ((n : Nat) : Int).toNat = n := by omega
          clear hC11 hb11
          rw [HV2.out, HD2.out]
          have hdd : ((d : Int) == (d : Int)) = true := by simp
          by_cases hc0 : c = 0
          · have hkx : ¬ k = X := fun e => hin ⟨hc0, Or.inl e⟩
            have hky : ¬ k = Y := fun e => hin ⟨hc0, Or.inr e⟩
            have hc1 : ((c : Int) == 0) = true := by simp [hc0]
            have hb1 : (k == X) = false := by simp [hkx]
            have hb2 : (k == Y) = false := by simp [hky]
            clear hkx hky hc0 hin
            go_wp2_with fail
            refine (gradj_any (n + 1) cap5 A5 (xs ++ [(X, Y)]) B e1 e2 e3 k _ HNm.out (by omega) (HR5.out.keep0 HC11b.out) (HE.out.keep0 HC11.out)).mono ?_
            rintro r w12 ⟨done, v12, rfl, hl12, _, _, hO12, hC13⟩
            rw [HG2.out, HV2.out]
            rw [HG2.out, HD2.out] at hl12
            obtain ⟨A12, cap12, rfl, _⟩ := own_rd hO12
            have HC13 := Lib.hid (HC11.out.trans hC13)
            rw [hl12]
            clear hO12 hC13 hl12
            go_wp2_with fail
            go_ret
            exact ⟨rfl, HC13.out⟩
          · have hc1 : ((c : Int) == 0) = false := by simp [hc0]
            clear hc0 hin
            go_wp2_with fail
            refine (gradj_any (n + 1) cap5 A5 (xs ++ [(X, Y)]) B e1 e2 e3 k _ HNm.out (by omega) (HR5.out.keep0 HC11b.out) (HE.out.keep0 HC11.out)).mono ?_
            rintro r w12 ⟨done, v12, rfl, hl12, _, _, hO12, hC13⟩
            rw [HG2.out, HV2.out]
            rw [HG2.out, HD2.out] at hl12
            obtain ⟨A12, cap12, rfl, _⟩ := own_rd hO12
            have HC13 := Lib.hid (HC11.out.trans hC13)
            rw [hl12]
            clear hO12 hC13 hl12
            go_wp2_with fail
            go_ret
            exact ⟨rfl, HC13.out⟩
      · have hv : G.ver k = false := by simpa using hv
        by_cases hnew : X ≠ Y ∧ (k = X ∨ k = Y)
        · obtain ⟨hv2, hd2, he2⟩ := more_new HGo.out hv hnew.1 hnew.2
          rw [HCc.out] at he2
          rw [hv]
          have HV2 := Lib.hid hv2
          have HD2 := Lib.hid hd2
          have hc1 : ((c : Int) == 0) = true := by simp [he2]
          have hkk := hnew.2
          clear hv hv2 hd2 he2 hnew
          go_wp2_with fail
          refine (grdeg_any (n + 1) cap5 A5 (xs ++ [(X, Y)]) B e1 e2 e3 k _ HNm.out (by omega) (HR5.out.keep0 HC10b.out) (HE.out.keep0 HC10.out)).mono ?_
          rintro r w11 ⟨rfl, hC11⟩
          rw [HG2.out]
          have hc11 : w11.cell? ⟨b6, n, none⟩ = some (.int .i64 (c : Int)) := by
            rw [World.cell?_of_block (w := w10) (hC11.block b6 (World.block_lt_of_cell? _ _ HCe10.out) (fun h => h))]; exact HCe10.out
          have hb11 := HB10.out.keep hC11 (fun h => h)
          have g0 := hb11.cell 0
          have g1 := hb11.cell 1
          simp only [List.getElem?_toArray, List.getElem?_cons_zero, List.getElem?_cons_succ] at g0 g1
          have HC11 := Lib.hid (HC10.out.trans hC11)
          have HC11b := Lib.hid (HC10b.out.trans hC11)
          have hni0 : (0 : Int) ≤ (n : Nat) := by omega
          have hnlt : (n : Int) < ((n + 1 : Nat) : Int) := by omega
          have hnt : ((n : Nat) : Int).toNat = n := by omega
          clear hC11 hb11
          rw [HV2.out, HD2.out]
          by_cases hkx : k = X
          · have hb1 : (k == X) = true := by simp [hkx]
            clear hkk hkx
            go_wp2_with fail
            go_ret
            exact ⟨rfl, HC11.out⟩
          · have hb1 : (k == X) = false := by simp [hkx]
            have hb2 : (k == Y) = true := by simp [hkk.resolve_left hkx]
            clear hkk hkx
            go_wp2_with fail
            go_ret
            exact ⟨rfl, HC11.out⟩
        · obtain ⟨hv2, hin⟩ := more_off HGo.out hv hnew
          rw [HCc.out] at hin
          rw [hv]
          have HV2 := Lib.hid hv2
          clear hv hv2 hnew
          go_wp2_with fail
          refine (grdeg_any (n + 1) cap5 A5 (xs ++ [(X, Y)]) B e1 e2 e3 k _ HNm.out (by omega) (HR5.out.keep0 HC10b.out) (HE.out.keep0 HC10.out)).mono ?_
          rintro r w11 ⟨rfl, hC11⟩
          rw [HG2.out]
          have hc11 : w11.cell? ⟨b6, n, none⟩ = some (.int .i64 (c : Int)) := by
            rw [World.cell?_of_block (w := w10) (hC11.block b6 (World.block_lt_of_cell? _ _ HCe10.out) (fun h => h))]; exact HCe10.out
          have hb11 := HB10.out.keep hC11 (fun h => h)
          have g0 := hb11.cell 0
          have g1 := hb11.cell 1
          simp only [List.getElem?_toArray, List.getElem?_cons_zero, List.getElem?_cons_succ] at g0 g1
          have HC11 := Lib.hid (HC10.out.trans hC11)
          have HC11b := Lib.hid (HC10b.out.trans hC11)
          have hni0 : (0 : Int) ≤ (n : Nat) := by omega
          have hnlt : (n : Int) < ((n + 1 : Nat) : Int) := by omega
          have hnt : ((n : Nat) : Int).toNat = n := by omega
          clear hC11 hb11
          rw [HV2.out]
          by_cases hc0 : c = 0
          · have hkx : ¬ k = X := fun e => hin ⟨hc0, Or.inl e⟩
            have hky : ¬ k = Y := fun e => hin ⟨hc0, Or.inr e⟩
            have hc1 : ((c : Int) == 0) = true := by simp [hc0]
            have hb1 : (k == X) = false := by simp [hkx]
            have hb2 : (k == Y) = false := by simp [hky]
            clear hkx hky hc0 hin
            go_wp2_with fail
            go_ret
            exact ⟨rfl, HC11.out⟩
          · have hc1 : ((c : Int) == 0) = false := by simp [hc0]
            clear hc0 hin
            go_wp2_with fail
            go_ret
            exact ⟨rfl, HC11.out⟩
end Go.Proofs.YtjifdcklmpibpaaDoor
