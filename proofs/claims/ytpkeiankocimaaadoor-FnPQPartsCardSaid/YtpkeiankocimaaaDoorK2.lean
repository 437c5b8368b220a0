/- WALKS: the Keys that a script takes out. -/
import Derived.Test.YtpkeiankocimaaaDoorK1
namespace Go.Proofs.YtpkeiankocimaaaDoor
open Go.RowKit
set_option linter.unusedVariables false
set_option linter.unusedSimpArgs false

theorem gotK_take {ss : List St} {ds : List Sd} {i : Nat} {s : St} {d : Sd} (hs : ss[i]? = some s) (hd : ds[i]? = some d) (hl : ds.length = ss.length) : gotK (ss.take (i + 1)) (ds.take (i + 1)) = gotK (ss.take i) (ds.take i) ++ (if s.op = 2 then keys d.items else []) := by
  rw [List.take_add_one, List.take_add_one, hs, hd]
  show gotK (_ ++ [s]) (_ ++ [d]) = _
  rw [gotK_append _ _ _ _ (by simp [hl])]
  simp [gotK]
theorem keys_take (a : List El) (j : Nat) {x : El} (h : a[j]? = some x) : keys (a.take (j + 1)) = keys (a.take j) ++ [x.1] := by
  rw [List.take_add_one, h]
  simp [keys]

/-- What dxGot tells. -/
def GotX (w : World) (K : List Int) (r : Ending) (w' : World) : Prop := ∃ A m c, r = .returned (.tuple #[.slice A m c, .bool true]) ∧ K.length = m ∧ Rd w' A (iv K) ∧ Ch S0 w w'

set_option maxRecDepth 100000 in
set_option maxHeartbeats 8000000 in
theorem got_any (hint N cA b o : Nat) (dup : Bool) (ss : List St) (K : List Int) (w : World) (hh : hint ≤ 1000) (hN : ss.length = N) (hN0 : 0 < N) (hN2 : N ≤ 10000) (hA : Rd w (some ⟨b, o, none⟩) (stCells ss)) (hs : ∀ s ∈ ss, St1 w noB s) (hf : Fine dup ss [])
    (hK : ∀ ds c, Runs ss ds [] c → gotK ss ds = K) (hKl : K.length ≤ 100000) :
    Calls Tryd.prog 12 #[.int .i64 hint, .bool dup, .slice (some ⟨b, o, none⟩) N cA] w fun r w' => GotX w K r w' := by
  have HR := Lib.hid (run_any hint N cA dup _ ss w hh hN (by omega) hA hs hf)
  have HN := Lib.hid hN
  have HA := Lib.hid hA
  have HK := Lib.hid hK
  have HKl := Lib.hid hKl
  have HF := Lib.hid hf
  clear hN hA hs hf hK hKl
  go_enter Tryd.func12, Tryd.ntmps12
  go_wp2_with fail
  refine HR.out.mono ?_
  rintro r w1 ⟨⟨v, ds, c, rfl, hO, hS, hR⟩, hC⟩
  obtain ⟨A1, c1, rfl, hR1, _, hA1, hA2, _⟩ := own_rd hO
  have hgl : ∀ ss' ds', gotK ss' ds' = gotK ss' ds' := fun _ _ => rfl
  have hdl : ds.length = N := by rw [hR.len, HN.out]
  have HDl := Lib.hid hdl
  have HS := Lib.hid hS
  have HG := Lib.hid (HK.out ds c hR)
  have HSh := Lib.hid (runs_short HF.out hR)
  have HR1 := Lib.hid hR1
  have HC := Lib.hid hC
  clear hO hS hR hR1 hC hA1 hA2 hgl hdl
  have hnn : ((N : Int) != (N : Nat)) = false := by simp
  go_wp2_with fail
  go_loopw [9, 25] (fun vo vi wr => ∃ i : Nat, i ≤ N ∧ vi = .int .i64 i ∧ wr.ownsRow w1.heap.size 3 1 vo (gotK (ss.take i) (ds.take i)).length (iv (gotK (ss.take i) (ds.take i))) ∧ Ch S0 w1 wr) (fun _ vi _ => N - (intOf vi).toNat)
  case atStart => exact ⟨0, by omega, rfl, World.ownsRow_nil _ _ _ _, Ch.refl _ _⟩
  case round =>
    obtain ⟨i, hi, rfl, hO, hCi⟩ := hrel
    have HO := Lib.hid hO
    have HCi := Lib.hid hCi
    have hsz := hCi.size
    clear hO hCi
    by_cases hlt : i < N
    · have hlti : (i : Int) < (N : Nat) := by omega
      have hi0 : (0 : Int) ≤ (i : Nat) := by omega
      obtain ⟨s, hs⟩ : ∃ s, ss[i]? = some s := ⟨ss[i]'(by have := HN.out; omega), by simp [HN.out, hlt]⟩
      obtain ⟨d, hd⟩ : ∃ d, ds[i]? = some d := ⟨ds[i]'(by have := HDl.out; omega), by simp [HDl.out, hlt]⟩
      obtain ⟨b1, o1, e, c0, c1', c2, c3⟩ := rd_sd (HR1.out.keep0 HCi.out) hd
      subst e
      have HT : Hid (gotK (ss.take (i + 1)) (ds.take (i + 1)) = gotK (ss.take i) (ds.take i) ++ (if s.op = 2 then keys d.items else [])) := Lib.hid (gotK_take hs hd (by rw [HN.out, HDl.out]))
      obtain ⟨hdl, hdr, _⟩ := HS.out d (List.mem_of_getElem? hd)
      have HDr := Lib.hid hdr
      have HDi := Lib.hid hdl
      have hL2 : d.len ≤ 2000 := by rw [← hdl]; exact HSh.out d (List.mem_of_getElem? hd)
      have HSi := Lib.hid hs
      obtain ⟨L, hL⟩ : ∃ L, d.len = L := ⟨_, rfl⟩
      rw [hL] at HDi c0 hL2
      obtain ⟨k, hk⟩ : ∃ k, (gotK (ss.take i) (ds.take i)).length = k := ⟨_, rfl⟩
      rw [hk] at HO
      have HKk := Lib.hid hk
      clear hs hd hdl hdr hL hk
      go_upto_region 11 with fail
      obtain ⟨wa, hwa⟩ : ∃ wa, wa = wr.alloc (.cells #[.slice d.A L d.cap, .int .i64 d.n, .bool d.is, .int .i64 0] 36) := ⟨_, rfl⟩
      have hCa : Ch S0 wr wa := by rw [hwa]; exact (Ch.refl _ _).alloc _
      rw [← hwa]
      have HOa := Lib.hid (own_keep0 HO.out hCa)
      have HCa := Lib.hid (HCi.out.trans hCa)
      have HKn : Hid (k ≤ 100000) := Lib.hid (by
        have h1 := HKl.out
        have h2 := congrArg List.length HG.out
        have h4 : (gotK (ss.take i) (ds.take i)).length ≤ (gotK ss ds).length := by
          have e1 : gotK ss ds = gotK (ss.take i) (ds.take i) ++ gotK (ss.drop i) (ds.drop i) := by
            rw [← gotK_append _ _ _ _ (by simp [HN.out, HDl.out]), List.take_append_drop, List.take_append_drop]
          rw [e1, List.length_append]
          omega
        have := HKk.out
        omega)
      have HKL : Hid (∀ j, j ≤ L → s.op = 2 → k + j ≤ 100000) := Lib.hid (by
        intro j hj hop
        have h1 := HKl.out
        have h2 := congrArg List.length HG.out
        have h4 : (gotK (ss.take (i + 1)) (ds.take (i + 1))).length ≤ (gotK ss ds).length := by
          have e1 : gotK ss ds = gotK (ss.take (i + 1)) (ds.take (i + 1)) ++ gotK (ss.drop (i + 1)) (ds.drop (i + 1)) := by
            rw [← gotK_append _ _ _ _ (by simp [HN.out, HDl.out]), List.take_append_drop, List.take_append_drop]
          rw [e1, List.length_append]
          omega
        rw [HT.out, if_pos hop, List.length_append, keys_len, HKk.out, HDi.out] at h4
        omega)
      clear hwa hCa c0 c1' c2 c3
      go_loopw [9, 36] (fun vo vj wx => ∃ j : Nat, j ≤ L ∧ vj = .int .i64 j ∧ (∃ m, m ≤ 100000 ∧ wx.ownsRow w1.heap.size 3 1 vo m (iv (gotK (ss.take i) (ds.take i) ++ (if s.op = 2 then keys (d.items.take j) else [])))) ∧ Ch S0 w1 wx) (fun _ vj _ => L - (intOf vj).toNat)
      case atStart => exact ⟨0, by omega, rfl, ⟨k, HKn.out, by have := HOa.out; simpa [keys] using this⟩, HCa.out⟩
      case round =>
        obtain ⟨j, hj, rfl, ⟨m, hm, hO⟩, hCx⟩ := hrel
        have HO := Lib.hid hO
        have HCx := Lib.hid hCx
        have hszx := hCx.size
        clear hO hCx
        by_cases hlj : j < L
        · have hlji : (j : Int) < (L : Nat) := by omega
          have hj0 : (0 : Int) ≤ (j : Nat) := by omega
          obtain ⟨x, hx⟩ : ∃ x, d.items[j]? = some x := ⟨d.items[j]'(by have := HDi.out; omega), by simp [HDi.out, hlj]⟩
          obtain ⟨bx, ox, e, x0, x1⟩ := rd_pv (HDr.out.keep0 HCx.out) hx
          rw [e]
          obtain ⟨bs, os, e', s0, s1, s2⟩ := rd_st (HA.out.keep0 (HC.out.trans HCx.out)) HSi.out
          cases e'
          have hT2 := keys_take d.items j hx
          have HT2 := Lib.hid hT2
          have HE := Lib.hid e
          have hbl := World.block_lt_of_cell? _ _ s0
          clear hx hT2 s1 s2 e
          by_cases hop : s.op = 2
          · rw [hop] at s0
            have HOp := Lib.hid hop
            have HMm : Hid (m + 1 ≤ 100000) := Lib.hid (by
              have h1 := HO.out.1
              have h2 := HKL.out (j + 1) (by omega) hop
              rw [iv_length, if_pos hop, List.length_append, keys_len, HKk.out, List.length_take, HDi.out] at h1
              omega)
            clear hop
            obtain ⟨y1, hy1⟩ : ∃ y, x.1 = y := ⟨_, rfl⟩
            obtain ⟨y2, hy2⟩ : ∃ y, x.2 = y := ⟨_, rfl⟩
            rw [hy1] at x0
            rw [hy2] at x1
            have HY := Lib.hid hy1
            clear hy1 hy2
            go_wp2_with (at_builtin; go_loud (refine app_own elInt rfl (.tmp 46) (.tmp 49) rfl w1.heap.size m u9 _ rfl (own_keep0 HO.out ((Ch.refl S0 wr).alloc _)) [.int .i64 y1] rfl (by simp [Value.oneCell']) (wr.heap.size + 1) (World.size_alloc _ _) rfl (by have := HMm.out; unfold maxLen; omega) (by have := HMm.out; omega) (by simp only [World.size_alloc]; omega) ?_); intro v' w4 hown4 hc4 hb4; have HOw := Lib.hid hown4; have HC4 := Lib.hid hc4; clear hown4 hc4 hb4)
            go_roundw
            case rel =>
              refine ⟨j + 1, by omega, by go_num, ⟨m + 1, HMm.out, ?_⟩, (HCx.out.alloc _).trans' HC4.out (fun t ht e => absurd (own_lt HO.out t e).1 (by omega))⟩
              have h1 := HOw.out
              rw [if_pos HOp.out] at h1 ⊢
              rw [HT2.out, HY.out, ← List.append_assoc, iv_snoc]
              exact h1
            case measure => simp [intOf]; omega
          · have hopb : (s.op == 2) = false := by simp [hop]
            have HOp := Lib.hid hop
            clear hop
            go_wp2_with fail
            go_roundw
            case rel =>
              refine ⟨j + 1, by omega, by go_num, ⟨m, hm, ?_⟩, HCx.out.alloc _⟩
              have h1 := HO.out
              rw [if_neg HOp.out] at h1 ⊢
              exact own_keep0 h1 ((Ch.refl S0 wr).alloc _)
            case measure => simp [intOf]; omega
        · have hin : ¬ (j : Int) < (L : Nat) := by omega
          have hje : j = L := by omega
          go_wp2_with fail
          go_roundw
          case rel =>
            refine ⟨i + 1, by omega, by go_num, ?_, HCx.out⟩
            have h1 := HO.out
            rw [hje, ← HDi.out, List.take_length, ← HT.out] at h1
            have h2 := h1.1
            rw [iv_length] at h2
            have h3 : m = (gotK (ss.take (i + 1)) (ds.take (i + 1))).length := by omega
            rw [h3] at h1
            exact h1
          case measure => simp [intOf]; omega
    · have hin : ¬ (i : Int) < (N : Nat) := by omega
      have hie : i = N := by omega
      have h1 := HO.out
      have h2 := HDl.out
      have h3 := HN.out
      rw [hie, List.take_of_length_le (by omega), List.take_of_length_le (by omega), HG.out] at h1
      obtain ⟨Ao, co, rfl, hRo, _⟩ := own_rd h1
      have HRo := Lib.hid hRo
      clear h1 h2 h3 hRo
      go_wp2_with fail
      refine bodyPost_ret (v := .tuple #[.slice Ao K.length co, .bool true]) (by simp [results, Tryd.results12, go_sem]) rfl ?_
      exact ⟨_, _, _, rfl, rfl, HRo.out, HC.out.trans HCi.out⟩
end Go.Proofs.YtpkeiankocimaaaDoor
