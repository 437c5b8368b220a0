/- WALK: FnAVNone. -/
import Derived.Test.YtlppnbmaedgodaaQ5
namespace Go.Proofs.Ytlppnbmaedgodaa
open Go.RowKit
set_option linter.unusedVariables false
set_option linter.unusedSimpArgs false

theorem fine_initN {ss : List St} {s : St} : ∀ {Ls : List (List (Int × Int))}, FineAll Ls (ss ++ [s]) → FineAll Ls ss := by
  induction ss with
  | nil => intro Ls _; trivial
  | cons x ss ih => intro Ls h; exact ⟨h.1, ih h.2⟩
theorem two_inN {w : World} {old young : List (Int × Int)} {A1 A2 : Option Addr} {c1 c2 : Nat} (h1 : Rd w A1 (ec old)) (h2 : Rd w A2 (ec young)) : ∀ s ∈ [(⟨1, 0, old, A1, c1⟩ : St), ⟨2, 1, young, A2, c2⟩], StIn w s := fun s hs => by
  simp at hs
  rcases hs with rfl | rfl
  · exact h1
  · exact h2
theorem one_inN {w : World} {old : List (Int × Int)} {A1 : Option Addr} {c1 : Nat} (h1 : Rd w A1 (ec old)) : ∀ s ∈ [(⟨1, 0, old, A1, c1⟩ : St)], StIn w s := fun s hs => by
  obtain rfl := List.mem_singleton.1 hs
  exact h1
set_option maxRecDepth 100000 in
set_option maxHeartbeats 16000000 in
theorem none_small (A B : Option Addr) (n n2 c cb : Nat) (xs ys : List Int) (w : World) (hx : xs.length = n) (hy : ys.length = n2) (hn : n ≤ 2147483647) (hn2 : n2 ≤ 2147483647) (hA : Rd w A (sv xs)) (hB : Rd w B (sv ys)) (h1 : is16 xs) (h2 : is16 ys) :
    Calls Try.prog 4 #[.slice A n c, .slice B n2 cb] w fun r w' => r = .returned (.bool true) ∧ Ch S0 w w' := by
  have HX := Lib.hid hx
  have HY := Lib.hid hy
  have HA := Lib.hid hA
  have HB := Lib.hid hB
  have H16 := Lib.hid h1
  have H17 := Lib.hid h2
  clear hx hA h1 hy hB h2
  have hni : ¬ (2147483647 : Int) < (n : Nat) := by omega
  have hni2 : ¬ (2147483647 : Int) < (n2 : Nat) := by omega
  have HF := Lib.hid (dxFew_any A n c w hn)
  have HF2 := Lib.hid (fun w' => dxFew_any B n2 cb w' hn2)
  cases hf : few30 n
  · rw [hf] at HF
    clear hf
    go_enter Try.func4, Try.ntmps4
    go_wp2_with fail
    refine HF.out.mono ?_
    rintro r w1 ⟨rfl, e1⟩
    rw [e1]
    clear e1
    go_wp2_with fail
    go_ret
    exact ⟨rfl, Ch.refl _ _⟩
  rw [hf] at HF
  obtain ⟨h0, h30⟩ : 0 < n ∧ n ≤ 30 := by simpa [few30] using hf
  clear hf
  cases hf : few30 n2
  · rw [hf] at HF2
    clear hf
    go_enter Try.func4, Try.ntmps4
    go_wp2_with fail
    refine HF.out.mono ?_
    rintro r w1 ⟨rfl, e1⟩
    rw [e1]
    clear e1
    go_wp2_with fail
    refine (HF2.out _).mono ?_
    rintro r w1 ⟨rfl, e1⟩
    rw [e1]
    clear e1
    go_wp2_with fail
    go_ret
    exact ⟨rfl, Ch.refl _ _⟩
  rw [hf] at HF2
  obtain ⟨h02, h302⟩ : 0 < n2 ∧ n2 ≤ 30 := by simpa [few30] using hf
  clear hf
  obtain ⟨L1, f1, f2, f3⟩ := none_facts xs ys (by rw [HX.out]; exact h0)
  have hop := dv_pos (more := 0) (xs := xs) (by rw [HX.out]; exact h0)
  have hol := dvL_len 0 xs
  have hol2 := dvL_len 0 ys
  rw [HX.out] at hol
  rw [HY.out] at hol2
  obtain ⟨own, hown⟩ : ∃ l, dvL 0 xs = l := ⟨_, rfl⟩
  obtain ⟨oth, hoth⟩ : ∃ l, dvL 0 ys = l := ⟨_, rfl⟩
  have HE0 := Lib.hid (fun w' (hc : Ch S0 w w') => dvEntries_any A n c xs 0 w' HX.out (by omega) (by omega) (by omega) (HA.out.keep0 hc) H16.out)
  have HE1 := Lib.hid (fun w' (hc : Ch S0 w w') => dvEntries_any B n2 cb ys 0 w' HY.out (by omega) (by omega) (by omega) (HB.out.keep0 hc) H17.out)
  rw [hown] at f1 f2 f3 hop hol HE0
  rw [hoth] at f3 hol2 HE1
  obtain ⟨m, hm⟩ : ∃ m, own.length = m := ⟨_, rfl⟩
  obtain ⟨k, hk⟩ : ∃ k, oth.length = k := ⟨_, rfl⟩
  rw [hm] at hop hol HE0 f2
  rw [hk] at hol2 HE1
  have Hf1 := Lib.hid f1
  have Hf2 := Lib.hid f2
  have Hf3 := Lib.hid f3
  have HM := Lib.hid hm
  have HK := Lib.hid hk
  have eg : ∀ args w, (callFunc 11 args).run Try.prog w = .ok (.enter 11 args) w := enters_of Try.func11 (by kernel_rfl) rfl
  have HEg := Lib.hid eg
  clear f1 f2 f3 hown hoth hm hk eg
  go_enter Try.func4, Try.ntmps4
  go_wp2_with fail
  refine HF.out.mono ?_
  rintro r w1 ⟨rfl, e1⟩
  rw [e1]
  clear e1
  go_wp2_with fail
  refine (HF2.out _).mono ?_
  rintro r w1 ⟨rfl, e1⟩
  rw [e1]
  clear e1
  go_wp2_with fail
  refine (HE0.out _ (Ch.refl _ _)).mono ?_
  rintro r w1 ⟨⟨v, rfl, hO⟩, hC1⟩
  obtain ⟨A1, c1, rfl, hR1, _, _, _, _⟩ := own_rd hO
  have HR1 := Lib.hid hR1
  have HC1 := Lib.hid hC1
  clear hO hR1 hC1
  go_wp2_with fail
  refine (HE1.out _ HC1.out).mono ?_
  rintro r w2 ⟨⟨v, rfl, hO⟩, hC2⟩
  obtain ⟨A2, c2, rfl, hR2, _, _, _, _⟩ := own_rd hO
  have HR1 := Lib.hid (HR1.out.keep0 hC2)
  have HR2 := Lib.hid hR2
  have HC2 := Lib.hid (HC1.out.trans hC2)
  clear hO hR2 hC2 HE0 HE1
  go_wp2_with fail
  go_loopw [6, 36] (fun vo vi wr => ∃ i q : Nat, i ≤ k ∧ vi = .int .i64 i ∧ q ≤ i ∧ wr.ownsRow w2.heap.size 38 2 vo q (ec ((oth.take i).filter (outP own))) ∧ Ch S0 w2 wr) (fun _ vi _ => k - (intOf vi).toNat)
  case atStart => exact ⟨0, 0, by omega, rfl, Nat.le_refl _, World.ownsRow_nil _ _ _ _, Ch.refl _ _⟩
  case round =>
    obtain ⟨i, q, hi, rfl, hqi, hO, hC⟩ := hrel
    have HO := Lib.hid hO
    have HC := Lib.hid hC
    clear hO hC
    by_cases hlt : i < k
    · have hlti : (i : Int) < (k : Nat) := by omega
      have hi0 : (0 : Int) ≤ (i : Nat) := by omega
      obtain ⟨⟨x, v⟩, hx⟩ : ∃ x, oth[i]? = some x := ⟨oth[i]'(by have := HK.out; omega), by simp [HK.out, hlt]⟩
      obtain ⟨p, o, hAe, c0, c3⟩ := rd_ec (HR2.out.keep0 HC.out) hx
      subst hAe
      have HT := Lib.hid (out_snoc (own := own) hx)
      have hsz := HC.out.size
      obtain ⟨W2, hW2⟩ : ∃ W, W = wr.alloc (.cells #[.int .i64 x, .int .i64 v] 38) := ⟨_, rfl⟩
      have hb2 := Blk.new wr #[.int .i64 x, .int .i64 v] 38
      rw [← hW2] at hb2
      have hx2 : W2.cell? ⟨wr.heap.size, 0, none⟩ = some (.int .i64 x) := hb2.cell 0
      have hC2 : Ch S0 wr W2 := by rw [hW2]; exact (Ch.refl S0 wr).alloc _
      have hbl : wr.heap.size < W2.heap.size := by rw [hW2, World.size_alloc]; omega
      have HCon := Lib.hid (contains_any 11 #[.pointer (some ⟨wr.heap.size, 0, none⟩)] (fun k => decide (k = x)) A1 m c1 own W2 HEg.out HM.out (by omega) (HR1.out.keep0 (HC.out.trans hC2)) (fun wr' k v hc => clos2_any wr.heap.size k v x 0 wr' (by rw [World.cell?_of_block (w := W2) (hc.block _ hbl (fun h => h))]; exact hx2)))
      have HW2 := Lib.hid hW2
      have HB2 := Lib.hid hb2
      have HC2w := Lib.hid (HC.out.trans hC2)
      have HO2 := Lib.hid (own_keep0 HO.out hC2)
      simp only at c0 c3
      clear hx hC2 hW2 hbl hx2 hb2
      cases han : own.any (fun o => decide (o.1 = x)) <;> rw [han] at HCon
      · have HT2 : Hid (ec ((oth.take (i + 1)).filter (outP own)) = ec ((oth.take i).filter (outP own)) ++ [.int .i64 x, .int .i64 v]) := Lib.hid (by rw [HT.out, if_pos (by unfold outP; rw [han]; rfl), ec_snoc])
        clear han
        go_wp2_with (first | (go_at_call 10; rw [← HW2.out]; refine HCon.out.mono ?_; rintro r w3 ⟨rfl, hC3⟩; have hb3 := HB2.out.keep hC3 (fun h => h); have x3 := hb3.cell 0; have x4 := hb3.cell 1; simp only [List.getElem?_toArray, List.getElem?_cons_zero, List.getElem?_cons_succ] at x3 x4; have HC3 := Lib.hid (HC2w.out.trans hC3); have HO3 := Lib.hid (own_keep0 HO2.out hC3); have hs3 := HC3.out.size; clear hC3 hb3) | (at_builtin; go_loud (refine app_own elAV rfl (.tmp 44) (.tmp 46) rfl w2.heap.size q _ (ec ((oth.take i).filter (outP own))) rfl HO3.out [.int .i64 x, .int .i64 v] rfl (by simp [Value.oneCell']) w3.heap.size rfl rfl (by unfold maxLen; omega) (by omega) hs3 ?_); intro v' w4 hown4 hc4 hb4; have HOw := Lib.hid hown4; have HC4 := Lib.hid hc4; clear hown4 hc4 hb4))
        go_roundw
        case rel => exact ⟨i + 1, q + 1, by omega, by go_num, by omega, by rw [HT2.out]; exact HOw.out, HC3.out.trans' HC4.out (fun j hj e => absurd (own_lt HO.out j e).1 (by omega))⟩
        case measure => simp [intOf]; omega
      · have HT2 : Hid ((oth.take (i + 1)).filter (outP own) = (oth.take i).filter (outP own)) := Lib.hid (by rw [HT.out, if_neg (by unfold outP; rw [han]; decide), List.append_nil])
        clear han
        go_wp2_with (go_at_call 10; rw [← HW2.out]; refine HCon.out.mono ?_; rintro r w3 ⟨rfl, hC3⟩; have HC3 := Lib.hid (HC2w.out.trans hC3); have HO3 := Lib.hid (own_keep0 HO2.out hC3); clear hC3)
        go_roundw
        case rel => exact ⟨i + 1, q, by omega, by go_num, by omega, by rw [HT2.out]; exact HO3.out, HC3.out⟩
        case measure => simp [intOf]; omega
    · have hin : ¬ (i : Int) < (k : Nat) := by omega
      have hie : i = k := by omega
      have hO := HO.out
      rw [hie, ← HK.out, List.take_length] at hO
      obtain ⟨others, hot⟩ : ∃ l, oth.filter (outP own) = l := ⟨_, rfl⟩
      have hf3 := Hf3.out
      rw [hot] at hO hf3
      have hql := own_ec hO
      obtain ⟨A3, c3, rfl, hR3, _, _, _, _⟩ := own_rd hO
      have HR3 := Lib.hid hR3
      have HQl := Lib.hid hql
      have HF3 := Lib.hid hf3
      have HR1 := Lib.hid (HR1.out.keep0 HC.out)
      have HCr := Lib.hid (HC2.out.trans HC.out)
      clear hO hie hot hql hR3 HR2 HC2 HC HO hf3
      by_cases hq0 : q = 0
      · subst hq0
        go_wp2_with fail
        go_ret
        exact ⟨rfl, HCr.out⟩
      have hq1 : ¬ (q : Int) = 0 := by omega
      obtain ⟨W3, hW3⟩ : ∃ W, W = wr.alloc (.cells #[.int .i64 1, .int .i64 0, .slice A1 m c1, .int .i64 2, .int .i64 1, .slice A3 q c3] 27) := ⟨_, rfl⟩
      have hC23 : Ch S0 wr W3 := by rw [hW3]; exact (Ch.refl S0 wr).alloc _
      have HSS : Hid (Rd W3 (some ⟨wr.heap.size, 0, none⟩) (stC [⟨1, 0, own, A1, c1⟩, ⟨2, 1, others, A3, c3⟩])) := Lib.hid (by
        have e : stC [⟨1, 0, own, A1, c1⟩, ⟨2, 1, others, A3, c3⟩] = [.int .i64 1, .int .i64 0, .slice A1 m c1, .int .i64 2, .int .i64 1, .slice A3 q c3] := by simp [stC, St.cells, HM.out, HQl.out]
        rw [e, hW3]
        exact Rd.new wr _ 27)
      have HS1 : Hid (Rd W3 (some ⟨wr.heap.size, 0, none⟩) (stC [⟨1, 0, own, A1, c1⟩])) := Lib.hid (by
        have := HSS.out.take 3
        exact this)
      have HR1 := Lib.hid (HR1.out.keep0 hC23)
      have HR3 := Lib.hid (HR3.out.keep0 hC23)
      have HC3 := Lib.hid (HCr.out.trans hC23)
      have HW3 := Lib.hid hW3
      have hfine : ∀ (Aq : Option Addr) (cq : Nat), FineAll [[]] ([⟨1, 0, own, A1, c1⟩, ⟨2, 1, others, A3, c3⟩] ++ [⟨3, 2, ask own, Aq, cq⟩]) ∧ FineAll [[]] ([⟨1, 0, own, A1, c1⟩] ++ [⟨3, 1, ask own, Aq, cq⟩]) := fun Aq cq => none_fine (by rw [HM.out]; exact hop) (by rw [HM.out]; omega) (by rw [HQl.out]; omega) (by rw [HQl.out]; omega) (by simp [ask]) (by rw [Hf1.out, Hf2.out, HM.out]) (by rw [Hf1.out]; exact HF3.out)
      have HFi := Lib.hid hfine
      have HAsk1 := Lib.hid (asked_any wr.heap.size 0 1 2 m c1 A1 [⟨1, 0, own, A1, c1⟩] own W3 rfl (by omega) HM.out HS1.out HR1.out (one_inN HR1.out) (fun Aq cq => (HFi.out Aq cq).2) L1 (by simp [runL, stepL, Hf1.out]) (by omega))
      have HAsk2 := Lib.hid (fun w' (hc : Ch S0 W3 w') => asked_any wr.heap.size 0 2 2 m c1 A1 [⟨1, 0, own, A1, c1⟩, ⟨2, 1, others, A3, c3⟩] own w' rfl (by omega) HM.out (HSS.out.keep0 hc) (HR1.out.keep0 hc) (two_inN (HR1.out.keep0 hc) (HR3.out.keep0 hc)) (fun Aq cq => (HFi.out Aq cq).1) L1 (by simp [runL, stepL, Hf1.out]) (by omega))
      have HRun := Lib.hid (fun w' (hc : Ch S0 W3 w') => run_any (some ⟨wr.heap.size, 0, none⟩) 2 2 [⟨1, 0, own, A1, c1⟩, ⟨2, 1, others, A3, c3⟩] w' rfl (by omega) (HSS.out.keep0 hc) (two_inN (HR1.out.keep0 hc) (HR3.out.keep0 hc)) (fine_initN (HFi.out none 0).1))
      clear hC23 hW3 hfine
      go_wp2_with (go_at_call 7; rw [← HW3.out]; refine HAsk1.out.mono ?_; rintro r w4 ⟨⟨P1, d1, P2, d2, rfl, hp1, hp2⟩, hC4⟩; rw [Hf2.out]; have HP1 := Lib.hid hp1; have HP2 := Lib.hid hp2; have HC4 := Lib.hid hC4; clear hp1 hp2 hC4)
      have hA4 : Ch S0 w4 (w4.alloc (.cells #[.int .i64 m, .slice P1 m d1, .slice P2 m d2] 31)) := (Ch.refl S0 w4).alloc _
      have HBa := Lib.hid (Blk.new w4 #[.int .i64 m, .slice P1 m d1, .slice P2 m d2] 31)
      have HP1 := Lib.hid (HP1.out.keep0 hA4)
      have HP2 := Lib.hid (HP2.out.keep0 hA4)
      have HC4 := Lib.hid (HC4.out.trans hA4)
      refine (HAsk2.out _ HC4.out).mono ?_
      rintro r w5 ⟨⟨Q1, e1, Q2, e2, rfl, hp1, hp2⟩, hC5⟩
      rw [Hf2.out]
      have hA5 : Ch S0 w5 (w5.alloc (.cells #[.int .i64 m, .slice Q1 m e1, .slice Q2 m e2] 31)) := (Ch.refl S0 w5).alloc _
      have HBb := Lib.hid (Blk.new w5 #[.int .i64 m, .slice Q1 m e1, .slice Q2 m e2] 31)
      have HBa := Lib.hid (HBa.out.keep (hC5.trans hA5) (fun h => h))
      have HP1 := Lib.hid (HP1.out.keep0 (hC5.trans hA5))
      have HP2 := Lib.hid (HP2.out.keep0 (hC5.trans hA5))
      have HQ1 := Lib.hid (hp1.keep0 hA5)
      have HQ2 := Lib.hid (hp2.keep0 hA5)
      have HC5 := Lib.hid ((HC4.out.trans hC5).trans hA5)
      clear hA4 hA5 hp1 hp2 hC5
      go_wp2_with fail
      refine (HRun.out _ HC5.out).mono ?_
      rintro r w6 ⟨⟨v, rfl, hR⟩, hC6⟩
      obtain ⟨g, c6, E2, e6, rfl, k2, x2⟩ := none_out hR Hf1.out
      rw [show (ansG L1 others).length = q by simp [ansG, HQl.out]] at k2
      rw [hc_map] at x2
      have HX2 := Lib.hid x2
      have hba := HBa.out.keep hC6 (fun h => h)
      have hbb := HBb.out.keep hC6 (fun h => h)
      have a0 := hba.cell 0
      have a1 := hba.cell 1
      have a2 := hba.cell 2
      have b0 := hbb.cell 0
      have b1 := hbb.cell 1
      have b2 := hbb.cell 2
      simp only [List.getElem?_toArray, List.getElem?_cons_zero, List.getElem?_cons_succ] at a0 a1 a2 b0 b1 b2
      have hlen : (ansG L1 (ask own)).length = m := by simp [ansG, ask, HM.out]
      have hP2 := HP2.out.keep0 hC6
      have hQ2 := HQ2.out.keep0 hC6
      rw [hc_map] at hP2 hQ2
      have HSm := Lib.hid (dvSame_any m m d1 d2 e1 e2 P1 P2 Q1 Q2 ((ansG L1 (ask own)).map sE) ((ansG L1 (ask own)).map (fun p => p.2.isSome)) w6 (by rw [List.length_map]; exact hlen) (by rw [List.length_map]; exact hlen) (by omega) (HP1.out.keep0 hC6) hP2 (HQ1.out.keep0 hC6) hQ2)
      have HC6 := Lib.hid ((HC3.out.trans HC5.out).trans hC6)
      clear hR x2 hba hbb hlen hP2 hQ2 hC6
      go_wp2_with fail
      refine HSm.out.mono ?_
      rintro r w7 ⟨rfl, hC7⟩
      have k3 := cell_to k2 hC7
      have HCo := Lib.hid (cont_none E2 q e6 ((ansG L1 others).map (fun p => p.2.isSome)) w7 (by rw [List.length_map]; simp [ansG, HQl.out]) (by omega) (hc_false HF3.out) (HX2.out.keep0 hC7))
      have HC7 := Lib.hid (HC6.out.trans hC7)
      clear a0 a1 a2 b0 b1 b2 k2 hC7
      go_wp2_with fail
      refine HCo.out.mono ?_
      rintro r w8 ⟨rfl, hC8⟩
      have HC8 := Lib.hid (HC7.out.trans hC8)
      clear hC8
      go_wp2_with fail
      go_ret
      exact ⟨rfl, HC8.out⟩
end Go.Proofs.Ytlppnbmaedgodaa
