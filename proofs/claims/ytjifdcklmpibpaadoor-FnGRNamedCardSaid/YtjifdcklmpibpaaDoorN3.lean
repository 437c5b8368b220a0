/- FnGRNamed: the walk. -/
import Derived.Test.YtjifdcklmpibpaaDoorN2
namespace Go.Proofs.YtjifdcklmpibpaaDoor
open Go.RowKit
set_option linter.unusedVariables false
set_option linter.unusedSimpArgs false

set_option maxRecDepth 100000 in
set_option maxHeartbeats 8000000 in
theorem gnamed_small (n cap : Nat) (A : Option Addr) (xs : List (Int × Int)) (p q B : Nat) (e1 e2 e3 : Addr) (w : World) (hn : xs.length = n) (hn1 : n ≤ 2147483647) (hA : Rd w A (ev xs)) (hE : Er w B e1 e2 e3) (hp : p < 256) (hq : q < 256) :
    Calls Tryd.prog 5 #[.slice A n cap, .int .u8 p, .int .u8 q] w fun r w' => r = .returned (.bool true) ∧ Ch S0 w w' := by
  have HA := Lib.hid hA
  have HE := Lib.hid hE
  have HN := Lib.hid hn
  have h31 : ¬ (2147483647 : Int) < (n : Nat) := by omega
  clear hA hE hn
  go_enter Tryd.func5, Tryd.ntmps5
  go_wp2_with fail
  refine (few_any n cap A xs _ HN.out hn1 HA.out).mono ?_
  rintro r w1 ⟨rfl, hC1⟩
  cases hf : few xs with
  | false =>
    have HC1 := Lib.hid hC1
    clear hC1 hf
    go_wp2_with fail
    go_ret
    exact ⟨rfl, HC1.out⟩
  | true =>
    have hf2 := hf
    simp only [few, Bool.and_eq_true, decide_eq_true_eq, List.all_eq_true] at hf2
    obtain ⟨⟨hr, hl0⟩, hl20⟩ := hf2
    rw [HN.out] at hl0 hl20
    have HRr := Lib.hid hr
    have HC1 := Lib.hid hC1
    obtain ⟨x0, hx0⟩ : ∃ x, xs[0]? = some x := ⟨xs[0]'(by rw [HN.out]; omega), by simp⟩
    obtain ⟨ab, ao, hAe, c0, _⟩ := rd_edge (HA.out.keep0 hC1) hx0
    subst hAe
    have HX0 := Lib.hid hx0
    clear hr hC1 hf hx0 c0
    have hn0i : (0 : Int) < (n : Nat) := by omega
    go_wp2_with fail
    obtain ⟨t, ht⟩ : ∃ t : Int, 1 + ((p : Nat) : Int) % 9 = t := ⟨_, rfl⟩
    have ht1 : 1 ≤ t := by omega
    have ht9 : t ≤ 9 := by omega
    rw [ht]
    refine (named_any n cap (some ⟨ab, ao, none⟩) xs t (q : Nat) _ HN.out (by omega) (HA.out.keep0 HC1.out) HRr.out ht1 ht9 (by omega) (by omega)).mono ?_
    rintro r w2 ⟨v2, rfl, hO2, hC2⟩
    obtain ⟨A2, cap2, rfl, hR2, _, _, hA2, _⟩ := own_rd hO2
    obtain ⟨b2, rfl⟩ := hA2.resolve_left (by omega)
    have HR2 := Lib.hid hR2
    have HC2 := Lib.hid (HC1.out.trans hC2)
    have hSim : Sim (nam t (q : Nat)) (PG.nil.adds xs) (PG.nil.adds (namE t (q : Nat) xs)) := (Sim.nil _).adds (nam_inj ht1) xs
    have hErr : PG.nil.errI (namE t (q : Nat) xs) = PG.nil.errI xs := (Sim.nil _).errs (nam_inj ht1) xs
    have hNl : (namE t (q : Nat) xs).length = n := by simp [namE, HN.out]
    have hx1 : (namE t (q : Nat) xs)[0]? = some (nam t (q : Nat) x0.1, nam t (q : Nat) x0.2) := by simp [namE, HX0.out]
    obtain ⟨ys, hys⟩ : ∃ ys, namE t (q : Nat) xs = ys := ⟨_, rfl⟩
    obtain ⟨G, hG⟩ : ∃ G, PG.nil.adds xs = G := ⟨_, rfl⟩
    obtain ⟨G', hG'⟩ : ∃ G', PG.nil.adds ys = G' := ⟨_, rfl⟩
    rw [hys] at hSim hErr hNl hx1 HR2
    rw [hG, hG'] at hSim
    have hGin : ∀ x y, G.adj x y = true → (0 ≤ x ∧ x ≤ 12) ∧ (0 ≤ y ∧ y ≤ 12) := by
      rw [← hG]
      exact PG.adj_in (p := fun x => 0 ≤ x ∧ x ≤ 12) xs PG.nil (fun x hx => by have := HRr.out x hx; simp only [inR, decide_eq_true_eq] at this; omega) (fun _ _ h => by cases h)
    have HGin := Lib.hid hGin
    have HG := Lib.hid hG
    have HG' := Lib.hid hG'
    have HSim := Lib.hid hSim
    have HErr := Lib.hid hErr
    have HNl := Lib.hid hNl
    have HX1 := Lib.hid hx1
    clear hO2 hR2 hC2 hSim hErr hNl hx1 hys hG hG' hGin
    go_wp2_with fail
    refine (grrun_any n cap _ xs B e1 e2 e3 _ HN.out (by omega) (HA.out.keep0 HC2.out) (HE.out.keep0 HC2.out)).mono ?_
    rintro r w3 ⟨v3, rfl, hO3, hC3⟩
    rw [HG.out]
    obtain ⟨A3, cap3, rfl, hR3, _⟩ := own_rd hO3
    have HR3 := Lib.hid hR3
    have HC3 := Lib.hid (HC2.out.trans hC3)
    have HR23 := Lib.hid (HR2.out.keep0 hC3)
    clear hO3 hR3 hC3
    go_wp2_with fail
    refine (grrun_any n cap2 _ ys B e1 e2 e3 _ HNl.out (by omega) HR23.out (HE.out.keep0 HC3.out)).mono ?_
    rintro r w4 ⟨v4, rfl, hO4, hC4⟩
    rw [HG'.out, HSim.out.nv, HSim.out.ne]
    obtain ⟨A4, cap4, rfl, hR4, _⟩ := own_rd hO4
    have HR4 := Lib.hid hR4
    have HR34 := Lib.hid (HR3.out.keep0 hC4)
    have HR24 := Lib.hid (HR23.out.keep0 hC4)
    have HC4 := Lib.hid (HC3.out.trans hC4)
    obtain ⟨N1, hN1⟩ : ∃ N1, G.nv = N1 := ⟨_, rfl⟩
    obtain ⟨N2, hN2⟩ : ∃ N2, G.ne = N2 := ⟨_, rfl⟩
    rw [hN1, hN2]
    clear hO4 hR4 hC4 hN1 hN2
    go_wp2_with fail
    refine (awake_any B e1 e2 e3 _ (HE.out.keep0 HC4.out)).mono ?_
    rintro r w5 ⟨rfl, hC5⟩
    have HR35 := Lib.hid (HR34.out.keep0 hC5)
    have HR45 := Lib.hid (HR4.out.keep0 hC5)
    have HR25 := Lib.hid (HR24.out.keep0 hC5)
    have HC5 := Lib.hid (HC4.out.trans hC5)
    clear hC5
    go_wp2_with fail
    refine (equal_int _ _ n n cap3 cap4 (PG.nil.errI xs) (PG.nil.errI ys) _ (by rw [PG.errI_len, HN.out]) (by rw [PG.errI_len, HNl.out]) (by omega) (by omega) HR35.out HR45.out).mono ?_
    rintro r w6 ⟨rfl, hC6⟩
    have e : decide (PG.nil.errI xs = PG.nil.errI ys) = true := by rw [HErr.out]; simp
    rw [e]
    have HR26 := Lib.hid (HR25.out.keep0 hC6)
    have HC6 := Lib.hid (HC5.out.trans hC6)
    have hA6 := HA.out.keep0 HC6.out
    obtain ⟨_, _, e', c0, _⟩ := rd_edge hA6 HX0.out
    cases e'
    have c0 : w6.cell? ⟨ab, ao, none⟩ = some (.int .i64 x0.1) := by simpa using c0
    have k1 : ((N1 : Int) != (N1 : Int)) = false := by simp
    have k2 : ((N2 : Int) != (N2 : Int)) = false := by simp
    clear hC6 e hA6
    go_wp2_with fail
    refine (gradj_any n cap _ xs B e1 e2 e3 x0.1 _ HN.out (by omega) (HA.out.keep0 HC6.out) (HE.out.keep0 HC6.out)).mono ?_
    rintro r w7 ⟨d7, v7, rfl, hl7, hnd7, hm7, hO7, hC7⟩
    rw [HG.out] at hl7 hm7
    rw [HG.out]
    have hdl := PG.deg_le xs x0.1 PG.nil
    rw [HG.out] at hdl
    have hdl7 : d7.length ≤ 1000 := by have := HN.out; simp only [PG.nil] at hdl; omega
    obtain ⟨A7, cap7, rfl, hR7, _⟩ := own_rd hO7
    have HR7 := Lib.hid hR7
    have HC7 := Lib.hid (HC6.out.trans hC7)
    have hR27 := HR26.out.keep0 hC7
    have HR27 := Lib.hid hR27
    obtain ⟨_, _, e', c7, _⟩ := rd_edge hR27 HX1.out
    cases e'
    have c7 : w7.cell? ⟨b2, 0, none⟩ = some (.int .i64 (nam t (q : Nat) x0.1)) := by simpa using c7
    have HNd7 := Lib.hid hnd7
    have HM7 := Lib.hid hm7
    obtain ⟨no, hno⟩ : ∃ no : Nat, (if G.ver x0.1 = true then 0 else 1) = no := ⟨_, rfl⟩
    rw [hno]
    have HNo := Lib.hid hno
    have hlt7 := World.block_lt_of_cell? _ _ c7
    clear hO7 hR7 hC7 hR27 hl7 hnd7 hm7 hdl hno
    go_wp2_with fail
    refine (gradj_any n cap2 _ ys B e1 e2 e3 (nam t (q : Nat) x0.1) _ HNl.out (by omega) HR27.out (HE.out.keep0 HC7.out)).mono ?_
    rintro r w8 ⟨d8, v8, rfl, hl8, hnd8, hm8, hO8, hC8⟩
    rw [HG'.out] at hl8 hm8
    rw [HG'.out, HSim.out.ver, HNo.out]
    have hdl8 : d8.length ≤ 1000 := by
      have hdl := PG.deg_le ys (nam t (q : Nat) x0.1) PG.nil
      rw [HG'.out] at hdl
      have := HNl.out
      simp only [PG.nil] at hdl
      omega
    obtain ⟨A8, cap8, rfl, hR8, _⟩ := own_rd hO8
    have HR8 := Lib.hid hR8
    have HC8 := Lib.hid (HC7.out.trans hC8)
    have HR78 := Lib.hid (HR7.out.keep0 hC8)
    have hsrt := named_sorted (nam_inj ht1) HSim.out x0.1 HNd7.out HM7.out hnd8 hm8
    have HSrt := Lib.hid hsrt
    have hbd : ∀ y ∈ d7, 0 ≤ y ∧ y ≤ 12 := fun y hy => (HGin.out _ _ ((HM7.out y).1 hy)).2
    have HBd := Lib.hid hbd
    clear hO8 hR8 hC8 hl8 hnd8 hm8 hsrt hbd c0 c7
    go_wp2_with fail
    go_loopw [20, 89] (fun vo vi wr => ∃ i : Nat, i ≤ d7.length ∧ vi = .int .i64 i ∧ wr.ownsRow w8.heap.size 3 1 vo i (iv ((d7.take i).map (nam t (q : Nat)))) ∧ Ch S0 w8 wr) (fun _ vi _ => d7.length - (intOf vi).toNat)
    case atStart => exact ⟨0, by omega, rfl, World.ownsRow_nil _ _ _ _, Ch.refl _ _⟩
    case round =>
      obtain ⟨i, hi, rfl, hO, hC⟩ := hrel
      have HO := Lib.hid hO
      have HC := Lib.hid hC
      clear hO hC
      by_cases hlt : i < d7.length
      · have hlti : (i : Int) < (d7.length : Nat) := by omega
        obtain ⟨y, hy⟩ : ∃ y, d7[i]? = some y := ⟨d7[i], by simp [hlt]⟩
        obtain ⟨b, o, hAe, cy⟩ := (HR78.out.keep0 HC.out).at (iv_at hy)
        subst hAe
        have hyb := HBd.out y (List.mem_of_getElem? hy)
        obtain ⟨m1, m2⟩ := mul_bd hyb.1 hyb.2 ht1 ht9
        have hts : iv ((d7.take (i + 1)).map (nam t (q : Nat))) = iv ((d7.take i).map (nam t (q : Nat))) ++ [.int .i64 (y * t + (q : Nat))] := by
          rw [List.take_add_one, hy]
          simp [iv, nam]
        have HT := Lib.hid hts
        have hsz := HC.out.size
        clear hts hy hyb
        go_wp2_with (at_builtin; go_loud (refine app_own elInt rfl (.tmp 93) (.tmp 99) rfl w8.heap.size i u20 (iv ((d7.take i).map (nam t (q : Nat)))) rfl HO.out [.int .i64 (y * t + (q : Nat))] rfl (by simp [Value.oneCell']) _ rfl rfl (by unfold maxLen; omega) (by omega) hsz ?_); intro v' w4 hown4 hc4 hb4; have HOw := Lib.hid hown4; have HC4 := Lib.hid hc4; clear hown4 hc4 hb4)
        go_roundw
        case rel => exact ⟨i + 1, by omega, by go_num, by rw [HT.out]; exact HOw.out, HC.out.trans' HC4.out (fun j hj hs => absurd (own_lt HO.out j hs).1 (by omega))⟩
        case measure => simp [intOf]; omega
      · have hin : ¬ (i : Int) < (d7.length : Nat) := by omega
        have hie : i = d7.length := by omega
        subst hie
        have hO := HO.out
        rw [List.take_length] at hO
        obtain ⟨A9, cap9, rfl, hR9, _⟩ := own_rd hO
        have HR9 := Lib.hid hR9
        have k3 : ((no : Int) == (no : Int)) = true := by simp
        clear hO hR9
        go_wp2_with fail
        refine (sorted_any _ _ _ (d7.map (nam t (q : Nat))) _ (by simp) (by omega) HR9.out).mono ?_
        rintro r w10 ⟨A10, cap10, rfl, hR10, hC10⟩
        have HR10 := Lib.hid hR10
        have HC10 := Lib.hid (HC.out.trans hC10)
        clear hR10 hC10
        go_wp2_with fail
        refine (sorted_any _ _ _ d8 _ rfl (by omega) (HR8.out.keep0 HC10.out)).mono ?_
        rintro r w11 ⟨A11, cap11, rfl, hR11, hC11⟩
        have HR11 := Lib.hid hR11
        have HR1011 := Lib.hid (HR10.out.keep0 hC11)
        have HC11 := Lib.hid (HC10.out.trans hC11)
        clear hR11 hC11
        go_wp2_with fail
        refine (equal_int _ _ _ _ _ _ (srt (d7.map (nam t (q : Nat)))) (srt d8) _ (by simp [srt_len]) (by simp [srt_len]) (by omega) (by omega) HR1011.out HR11.out).mono ?_
        rintro r w12 ⟨rfl, hC12⟩
        have e : decide (srt (d7.map (nam t (q : Nat))) = srt d8) = true := by rw [HSrt.out]; simp
        rw [e]
        have HC12 := Lib.hid (HC8.out.trans (HC11.out.trans hC12))
        clear hC12 e
        go_wp2_with fail
        go_ret
        exact ⟨rfl, HC12.out⟩
end Go.Proofs.YtjifdcklmpibpaaDoor
