/- WALKS: what comes out behind some steps. -/
import Derived.Test.YtbfcnimebdoagaaFZ
import Derived.Test.YtbfcnimebdoagaaI
namespace Go.Proofs.Ytbfcnimebdoagaa
open Go.RowKit
set_option linter.unusedVariables false
set_option linter.unusedSimpArgs false

theorem deqs_succ (m : Nat) : deqs (m + 1) = deqs m ++ [deqS] := by simp [deqs, List.replicate_succ']
theorem hst_deq (w : World) : HSt w deqS := ⟨rfl, Rd.nil _ _, fun b o e => (by cases e)⟩
theorem hst_enq (w : World) (x : Int) : HSt w (enqS x) := ⟨rfl, Rd.nil _ _, fun b o e => (by cases e)⟩
theorem HSt.keep0 {w w' : World} {s : Hp} (h : HSt w s) (hc : Ch S0 w w') : HSt w' s := ⟨h.1, h.2.1.keep0 hc, fun b o e => Nat.lt_of_lt_of_le (h.2.2 b o e) hc.size⟩
theorem drop_take {ds : List Hd} {N k : Nat} {d : Hd} (h : ds[k]? = some d) (hk : N ≤ k) : (ds.take (k + 1)).drop N = (ds.take k).drop N ++ [d] := by
  have hl := (List.getElem?_eq_some_iff.1 h).1
  rw [List.take_add_one, h, List.drop_append_of_le_length (by rw [List.length_take]; omega)]
  rfl
/-- What a dfOut gives. -/
def DfR (w : World) (ss : List Hp) (N m : Nat) (r : Ending) (w' : World) : Prop := ∃ v ds B cl, r = .returned (.tuple #[v, .bool true]) ∧ HRuns true (ss ++ deqs m) ds [] B cl ∧ w'.ownsRow w.heap.size 3 1 v m (iv ((ds.drop N).map Hd.p))
set_option maxRecDepth 100000 in
set_option maxHeartbeats 8000000 in
theorem dfOut_any (A : Option Addr) (N c m : Nat) (ss : List Hp) (w : World) (hN : ss.length = N) (hN2 : N ≤ 1000) (hm : m ≤ 1000) (hA : Rd w A (hpCells ss)) (hsh : (N = 0 ∧ A = none ∧ c = 0) ∨ 0 < N) (hs : ∀ s ∈ ss, HSt w s) (hf : HFine true (ss ++ deqs m) []) (hz : ∀ ds B cl, HRuns true (ss ++ deqs m) ds [] B cl → alive B = 0) :
    Calls Try.prog 12 #[.slice A N c, .int .i64 m] w fun r w' => DfR w ss N m r w' ∧ Ch S0 w w' := by
  obtain ⟨W1, hW1⟩ : ∃ W, W = w.alloc (.cells (hpCells exS).toArray 28) := ⟨_, rfl⟩
  have hC1 : Ch S0 w W1 := by rw [hW1]; exact (Ch.refl _ _).alloc _
  have hR1 : Rd W1 (some ⟨w.heap.size, 0, none⟩) (hpCells exS) := by rw [hW1]; exact Rd.new _ _ _
  have hrun := hrun_any 3 3 (some ⟨w.heap.size, 0, none⟩) exS W1 rfl (by omega) hR1 (fun s hs => by
    simp [exS] at hs
    rcases hs with rfl | rfl | rfl
    · exact hst_enq _ _
    · exact hst_enq _ _
    · exact hst_deq _) ex_fine
  have HRun := Lib.hid hrun
  have HN := Lib.hid hN
  have HA := Lib.hid hA
  have HSh := Lib.hid hsh
  have HS := Lib.hid hs
  have HF := Lib.hid hf
  have HZ := Lib.hid hz
  have HC1 := Lib.hid hC1
  have HW1 := Lib.hid (show W1 = w.alloc (.cells #[.int .i64 1, .int .i64 0, .int .i64 7, .slice none 0 0, .int .i64 1, .int .i64 0, .int .i64 4, .slice none 0 0, .int .i64 3, .int .i64 0, .int .i64 0, .slice none 0 0] 28) from hW1)
  clear hrun hN hA hsh hs hf hz hC1 hR1 hW1
  go_enter Try.func12, Try.ntmps12
  go_wp2_with fail
  rw [← HW1.out]
  refine HRun.out.mono ?_
  rintro r w2 ⟨⟨v, ds, B, cl, rfl, hO, hR⟩, hC2⟩
  obtain ⟨d0, d1, d2, rfl, p1, p2, p3⟩ := ex_out hR
  obtain ⟨A3, c3, rfl, hR3, _, _, hA3, _⟩ := own_rd hO
  obtain ⟨g3, rfl⟩ := hA3.resolve_left (by decide)
  obtain ⟨b, o, e, e0, e1, e2, e3, e4⟩ := rd_hd (j := 2) (x := d2) hR3 rfl
  cases e
  rw [p1] at e2
  rw [p2] at e1
  rw [p3] at e3
  simp only [Nat.zero_add] at e1 e2 e3
  have HC2 := Lib.hid (HC1.out.trans hC2)
  clear hO hR hR3 hC2 e0 e4
  go_wp2_with (go_at_call 27; refine (clone_any A N c ss _ HN.out (by omega) (HA.out.keep0 HC2.out) HSh.out).mono ?_; rintro r w3 ⟨v3, rfl, hO3, hC3⟩; have HO3 := Lib.hid hO3; have HC3 := Lib.hid (HC2.out.trans hC3); have hs3 := hC3.size; clear hO3 hC3)
  have hw3 : w.heap.size ≤ w3.heap.size := HC3.out.size
  have HO3 := Lib.hid (own_base HO3.out (Nat.le_trans HC2.out.size (Nat.le_refl _)))
  clear p1 p2 p3 e1 e2 e3
  go_loopw [8, 47] (fun vo vi wr => ∃ j : Nat, j ≤ m ∧ vi = .int .i64 j ∧ wr.ownsRow w.heap.size 28 4 vo (N + j) (hpCells (ss ++ deqs j)) ∧ Ch S0 w wr) (fun _ vi _ => m - (intOf vi).toNat)
  case atStart => exact ⟨0, by omega, rfl, by have := HO3.out; simpa [deqs] using this, HC3.out⟩
  case round =>
    obtain ⟨j, hj, rfl, hO, hC⟩ := hrel
    have HO := Lib.hid hO
    have HC := Lib.hid hC
    clear hO hC
    by_cases hlt : j < m
    · have hlti : (j : Int) < (m : Nat) := by omega
      have hsz := HC.out.size
      have HT : Hid (hpCells (ss ++ deqs (j + 1)) = hpCells (ss ++ deqs j) ++ hpC deqS) := Lib.hid (by rw [deqs_succ, ← List.append_assoc, hp_snoc])
      go_wp2_with (at_builtin; go_loud (refine app_own elHs rfl (.tmp 49) (.tmp 51) rfl w.heap.size (N + j) u8 (hpCells (ss ++ deqs j)) rfl HO.out (hpC deqS) rfl (by simp [hpC, deqS, Value.oneCell']) _ rfl rfl (by unfold maxLen; omega) (by omega) hsz ?_); intro v' w4 hown4 hc4 hb4; have HOw := Lib.hid hown4; have HC4 := Lib.hid hc4; clear hown4 hc4 hb4)
      go_roundw
      case rel => exact ⟨j + 1, by omega, by go_num, by rw [HT.out]; exact HOw.out, HC.out.trans' HC4.out (fun i hi hs => absurd (own_lt HO.out i hs).1 (by omega))⟩
      case measure => simp [intOf]; omega
    · have hin : ¬ (j : Int) < (m : Nat) := by omega
      have hje : j = m := by omega
      have hO := HO.out
      rw [hje] at hO
      obtain ⟨A5, c5, rfl, hR5, _, _, _, _⟩ := own_rd hO
      have hrun := hrun_any (N + m) c5 A5 (ss ++ deqs m) wr (by rw [List.length_append, HN.out, deqs_len]) (by omega) hR5 (fun s hs => by
        rcases List.mem_append.1 hs with h | h
        · exact (HS.out s h).keep0 HC.out
        · rw [List.eq_of_mem_replicate h]; exact hst_deq _) HF.out
      have HRun2 := Lib.hid hrun
      clear hrun hR5 hO
      rw [hje]
      have HJe := Lib.hid hje
      clear hje hj hlt hin
      go_wp2_with fail
      refine HRun2.out.mono ?_
      rintro r w4 ⟨⟨v, ds, B, cl, rfl, hO4, hR4⟩, hC4⟩
      have hdl := hR4.len
      rw [List.length_append, HN.out, deqs_len] at hdl
      obtain ⟨A6, c6, rfl, hR6, _, _, _, _⟩ := own_rd hO4
      have hemp := HZ.out ds B cl hR4
      have HDl := Lib.hid hdl
      have HR6 := Lib.hid hR6
      have HRn := Lib.hid hR4
      have HIs := Lib.hid (runs_is hR4)
      have HC4 := Lib.hid (HC.out.trans hC4)
      have HEmp := Lib.hid hemp
      clear hO4 hR4 hdl hR6 hemp hC4
      by_cases hm0 : m = 0
      · have hm1 : ¬ (0 : Int) < (m : Nat) := by omega
        have HM0 := Lib.hid hm0
        clear hm0
        go_wp2_with fail
        go_loopw [10, 77] (fun vo vi wx => ∃ k : Nat, k ≤ N + m ∧ vi = .int .i64 k ∧ wx.ownsRow w4.heap.size 3 1 vo (k - N) (iv (((ds.take k).drop N).map Hd.p)) ∧ Ch S0 w4 wx) (fun _ vi _ => N + m - (intOf vi).toNat)
        case atStart => exact ⟨0, Nat.zero_le _, rfl, by rw [Nat.zero_sub, List.take_zero, List.drop_nil]; exact World.ownsRow_nil _ _ _ _, Ch.refl _ _⟩
        case round =>
          obtain ⟨k, hk, rfl, hO, hCx⟩ := hrel
          have HOx := Lib.hid hO
          have HCx := Lib.hid hCx
          clear hO hCx
          by_cases hlt : k < N + m
          · have hlti : (k : Int) < ((N + m : Nat) : Int) := by omega
            have hlti2 : (k : Int) < (N : Int) + (m : Int) := by omega
            have hk0 : (0 : Int) ≤ (k : Nat) := by omega
            obtain ⟨d, hd⟩ : ∃ d, ds[k]? = some d := ⟨_, List.getElem?_eq_getElem (by rw [HDl.out]; exact hlt)⟩
            obtain ⟨b, o, e, e0, e1, e2, e3, e4⟩ := rd_hd (HR6.out.keep0 HCx.out) hd
            cases e
            have his := HIs.out d (List.mem_of_getElem? hd)
            rw [his] at e0
            have HDk := Lib.hid hd
            have hsz : w4.heap.size ≤ wr.heap.size := HCx.out.size
            clear hd his
            by_cases hkn : N ≤ k
            · exfalso; have := HM0.out; omega
            · have hkn2 : ¬ (N : Int) ≤ (k : Int) := by omega
              have HT : Hid (((ds.take (k + 1)).drop N) = ((ds.take k).drop N)) := Lib.hid (by rw [List.drop_eq_nil_of_le (by rw [List.length_take]; omega), List.drop_eq_nil_of_le (by rw [List.length_take]; omega)])
              go_wp2_with fail
              go_roundw
              case rel => exact ⟨k + 1, by omega, by go_num, by rw [HT.out, show k + 1 - N = k - N by omega]; exact own_keep0 HOx.out ((Ch.refl S0 wr).alloc _), HCx.out.alloc _⟩
              case measure => simp [intOf]; omega
          · have hin : ¬ (k : Int) < ((N + m : Nat) : Int) := by omega
            have hin2 : ¬ (k : Int) < (N : Int) + (m : Int) := by omega
            have hke : k = N + m := by omega
            go_wp2_with fail
            go_ret2
            refine ⟨⟨_, ds, B, cl, rfl, HRn.out, ?_⟩, HC4.out.trans HCx.out⟩
            have := own_base HOx.out HC4.out.size
            rw [hke, List.take_of_length_le (by rw [HDl.out]; exact Nat.le_refl _), show N + m - N = m by omega] at this
            exact this
      · have hm1 : (0 : Int) < (m : Nat) := by omega
        obtain ⟨q, hq⟩ : ∃ q, N + m = q + 1 := ⟨N + m - 1, by omega⟩
        obtain ⟨d9, hd9⟩ : ∃ d, ds[q]? = some d := ⟨_, List.getElem?_eq_getElem (by rw [HDl.out]; omega)⟩
        have hem := runs_last HRn.out (by rw [HDl.out, hq]; exact hd9)
        rw [HEmp.out] at hem
        obtain ⟨b9, o9, e9, _, _, _, _, j4⟩ := rd_hd HR6.out hd9
        subst e9
        rw [show d9.empty = true by rw [hem]; rfl] at j4
        have i1 : (0 : Int) ≤ (N : Int) + (m : Int) - 1 := by omega
        have i2 : (N : Int) + (m : Int) - 1 < (N : Int) + (m : Int) := by omega
        have i3 : ((N : Int) + (m : Int) - 1).toNat = q := by omega
        have HQ := Lib.hid hq
        clear hm0 hq hd9 hem
        go_wp2_with fail
        clear j4 i1 i2 i3
        go_loopw [10, 77] (fun vo vi wx => ∃ k : Nat, k ≤ N + m ∧ vi = .int .i64 k ∧ wx.ownsRow w4.heap.size 3 1 vo (k - N) (iv (((ds.take k).drop N).map Hd.p)) ∧ Ch S0 w4 wx) (fun _ vi _ => N + m - (intOf vi).toNat)
        case atStart => exact ⟨0, Nat.zero_le _, rfl, by rw [Nat.zero_sub, List.take_zero, List.drop_nil]; exact World.ownsRow_nil _ _ _ _, Ch.refl _ _⟩
        case round =>
          obtain ⟨k, hk, rfl, hO, hCx⟩ := hrel
          have HOx := Lib.hid hO
          have HCx := Lib.hid hCx
          clear hO hCx
          by_cases hlt : k < N + m
          · have hlti : (k : Int) < ((N + m : Nat) : Int) := by omega
            have hlti2 : (k : Int) < (N : Int) + (m : Int) := by omega
            have hk0 : (0 : Int) ≤ (k : Nat) := by omega
            obtain ⟨d, hd⟩ : ∃ d, ds[k]? = some d := ⟨_, List.getElem?_eq_getElem (by rw [HDl.out]; exact hlt)⟩
            obtain ⟨b, o, e, e0, e1, e2, e3, e4⟩ := rd_hd (HR6.out.keep0 HCx.out) hd
            cases e
            have his := HIs.out d (List.mem_of_getElem? hd)
            rw [his] at e0
            have HDk := Lib.hid hd
            have hsz : w4.heap.size ≤ wr.heap.size := HCx.out.size
            clear hd his
            by_cases hkn : N ≤ k
            · have hkn2 : (N : Int) ≤ (k : Int) := by omega
              have HT : Hid (iv (((ds.take (k + 1)).drop N).map Hd.p) = iv (((ds.take k).drop N).map Hd.p) ++ [.int .i64 d.p]) := Lib.hid (by rw [drop_take HDk.out hkn, List.map_append]; exact iv_snoc _ _)
              have HOy : Hid ((wr.alloc (.cells #[.bool true, .int .i64 d.e, .int .i64 d.p, .int .i64 d.size, .bool d.empty] 32)).ownsRow w4.heap.size 3 1 u10 (k - N) (iv (((ds.take k).drop N).map Hd.p))) := Lib.hid (own_keep0 HOx.out ((Ch.refl S0 wr).alloc _))
              have hone : ∀ u ∈ [Value.int .i64 d.p], u.oneCell' = true := by intro u hu; simp only [List.mem_singleton] at hu; subst hu; rfl
              have hsz2 : w4.heap.size ≤ (wr.alloc (.cells #[.bool true, .int .i64 d.e, .int .i64 d.p, .int .i64 d.size, .bool d.empty] 32)).heap.size := by rw [World.size_alloc]; omega
              go_wp2_with (at_builtin; go_loud (refine app_own elInt rfl (.tmp 88) (.tmp 91) rfl w4.heap.size (k - N) u10 (iv (((ds.take k).drop N).map Hd.p)) rfl HOy.out [.int .i64 d.p] rfl hone (wr.heap.size + 1) (World.size_alloc _ _) rfl (by unfold maxLen; omega) (by omega) hsz2 ?_); intro v' w5 hown5 hc5 hb5; have HOw := Lib.hid hown5; have HC5 := Lib.hid hc5; clear hown5 hc5 hb5)
              go_roundw
              case rel => exact ⟨k + 1, by omega, by go_num, by rw [HT.out, show k + 1 - N = k - N + 1 by omega]; exact HOw.out, (HCx.out.alloc _).trans' HC5.out (fun i hi hs => absurd (own_lt HOx.out i hs).1 (by omega))⟩
              case measure => simp [intOf]; omega
            · have hkn2 : ¬ (N : Int) ≤ (k : Int) := by omega
              have HT : Hid (((ds.take (k + 1)).drop N) = ((ds.take k).drop N)) := Lib.hid (by rw [List.drop_eq_nil_of_le (by rw [List.length_take]; omega), List.drop_eq_nil_of_le (by rw [List.length_take]; omega)])
              go_wp2_with fail
              go_roundw
              case rel => exact ⟨k + 1, by omega, by go_num, by rw [HT.out, show k + 1 - N = k - N by omega]; exact own_keep0 HOx.out ((Ch.refl S0 wr).alloc _), HCx.out.alloc _⟩
              case measure => simp [intOf]; omega
          · have hin : ¬ (k : Int) < ((N + m : Nat) : Int) := by omega
            have hin2 : ¬ (k : Int) < (N : Int) + (m : Int) := by omega
            have hke : k = N + m := by omega
            go_wp2_with fail
            go_ret2
            refine ⟨⟨_, ds, B, cl, rfl, HRn.out, ?_⟩, HC4.out.trans HCx.out⟩
            have := own_base HOx.out HC4.out.size
            rw [hke, List.take_of_length_le (by rw [HDl.out]; exact Nat.le_refl _), show N + m - N = m by omega] at this
            exact this
end Go.Proofs.Ytbfcnimebdoagaa
