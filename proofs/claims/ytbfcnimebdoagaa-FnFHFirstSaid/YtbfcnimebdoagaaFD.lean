/- WALKS: the least node goes from a heap. -/
import Derived.Test.YtbfcnimebdoagaaFE
namespace Go.Proofs.Ytbfcnimebdoagaa
open Go.RowKit
set_option linter.unusedVariables false
set_option linter.unusedSimpArgs false

set_option maxHeartbeats 40000000 in
set_option maxRecDepth 100000 in
theorem deq_some_any (hb : Nat) (N : List Nat) (s : FS) (G : Option Nat → List Nat) (h : Nat → Nat) (m : Nat) (w : World) (f : FHp w hb N s G h (some m)) :
    Calls Try.prog 38 #[.pointer (some ⟨hb, 0, none⟩)] w fun r w' => r = .returned (.tuple #[.pointer (some ⟨m, 0, none⟩), .nilIface]) ∧ DeqR w hb N s m w' ∧ Ch (SH hb N) w w' := by
  obtain ⟨hm, hmr, hnx, hpv, hbm, hl⟩ := f.min
  obtain ⟨n, hn⟩ : ∃ n, N.length = n + 1 := ⟨N.length - 1, by omega⟩
  have hB := f.blk
  rw [hn] at hB
  have hE : ∀ w', w' = w → Calls Try.prog 26 #[.pointer (some ⟨hb, 0, none⟩)] w' fun r w'' => r = .returned (.bool false) ∧ w'' = w' := by
    intro w' e
    subst e
    refine (empty_any hb (n + 1) _ w' hB).mono ?_
    rintro r w'' ⟨rfl, rfl⟩
    exact ⟨by simp, rfl⟩
  have q0 := hB.cell 0
  have q1 := hB.cell 1
  have g0 := hB.free 0
  have g1 := hB.free 1
  have q2 := (f.mem m hm).cell 2
  have q3 := (f.mem m hm).cell 3
  simp only [cells, op, List.getElem?_toArray, List.getElem?_cons_zero, List.getElem?_cons_succ] at q0 q1 q2 q3
  obtain ⟨a, ha⟩ : ∃ a, a = s.nx m := ⟨_, rfl⟩
  obtain ⟨b, hb'⟩ : ∃ a, a = s.pv m := ⟨_, rfl⟩
  rw [← ha] at q2
  rw [← hb'] at q3
  have hnf : (n : Int) < 100000 := by have := f.few; omega
  have hn0 : (0 : Int) ≤ (n : Nat) := by omega
  have HF := Lib.hid f
  have HB := Lib.hid hB
  have HN := Lib.hid hn
  have HA := Lib.hid ha
  have HBb := Lib.hid hb'
  have HE := Lib.hid hE
  have Hnx := Lib.hid hnx
  have Hpv := Lib.hid hpv
  have hBm : Blk (w.setCell ⟨hb, 1, none⟩ (.int .u64 (n : Nat))) m _ := (f.mem m hm).setOther (p := ⟨hb, 1, none⟩) hbm _
  have hBa : Blk (w.setCell ⟨hb, 1, none⟩ (.int .u64 (n : Nat))) a _ := (f.mem a (ha ▸ hnx)).setOther (p := ⟨hb, 1, none⟩) (fun e => f.out (by rw [show hb = a from e, ha]; exact hnx)) _
  have hpe := ptr_eq hBa hBm
  obtain ⟨eq, heq⟩ : ∃ eq, eq = decide (a = m) := ⟨_, rfl⟩
  rw [← heq] at hpe
  have HEq := Lib.hid heq
  have hB1 := hB.set 1 (.int .u64 (n : Nat))
  simp only [List.setIfInBounds_toArray, List.set_cons_zero, List.set_cons_succ] at hB1
  have HB1 := Lib.hid hB1
  have hC1 : Ch (SH hb N) w (w.setCell ⟨hb, 1, none⟩ (.int .u64 (n : Nat))) := Ch.setCell (p := ⟨hb, 1, none⟩) (Ch.refl _ w) (fun _ => Or.inl rfl) _
  have HC1 := Lib.hid hC1
  have HM1 := Lib.hid (f.mem.keep ((Ch.refl (S1 hb) w).setCell ⟨hb, 1, none⟩ (fun _ => rfl) (.int .u64 (n : Nat))) (fun a ha e => f.out (e ▸ ha)))
  clear f hB hn ha hb' hE hnx hpv hBm hBa heq hB1 hC1
  go_enter Try.func38, Try.ntmps38
  go_upto_if 34 with (go_at_call 26; refine (HE.out _ rfl).mono ?_; rintro r wx ⟨rfl, e⟩; rw [e]; clear e)
  go_cut [4] from 35 to 79 (fun v4 wx => v4 = .pointer (some ⟨m, 0, none⟩) ∧ Dq1 w hb N (ust s m) m (deqMn s m) wx)
  case first =>
    cases eq with
    | true =>
      have ham : a = m := by simpa using HEq.out
      go_wp2_with fail
      go_meet
      refine ⟨rfl, ?_⟩
      have hd : deqMn s m = none := by unfold deqMn; rw [← HA.out]; exact if_pos ham
      have hu : ust s m = s := by
        have h1 : s.nx m = m := HA.out.symm.trans ham
        have h2 : s.pv m = m := by have := HF.out.hp.wf.rings.inv m hm; rwa [h1] at this
        unfold ust
        rw [upd_eq (by rw [h2]), upd_eq (by rw [h1])]
      rw [hd, hu]
      have hb2 := HB1.out.set 0 (.pointer none)
      simp only [List.setIfInBounds_toArray, List.set_cons_zero] at hb2
      refine ⟨by rw [HN.out]; exact hb2, HM1.out.keep ((Ch.refl (S1 hb) _).setCell ⟨hb, 0, none⟩ (fun _ => rfl) (.pointer none)) (fun a ha e => HF.out.out (e ▸ ha)), Ch.setCell (p := ⟨hb, 0, none⟩) HC1.out (fun _ => Or.inl rfl) (.pointer none)⟩
    | false =>
      have ham : a ≠ m := by simpa using HEq.out
      have hbm2 : b ≠ m := fun e => ham (by have := (HF.out.hp.wf.rings.prev hmr).2; rw [← HBb.out, e, ← HA.out] at this; exact this)
      have haN : a ∈ N := HA.out ▸ Hnx.out
      have hbN : b ∈ N := HBb.out ▸ Hpv.out
      have hbb : hb ≠ b := fun e => HF.out.out (e ▸ hbN)
      have hba : hb ≠ a := fun e => HF.out.out (e ▸ haN)
      have k0 := HB1.out.cell 0
      have k2 := HM1.out.c2 hm
      have k3 := HM1.out.c3 hm
      have k4 := HM1.out.c2 hbN
      have k5 := HM1.out.free hbN 2
      rw [← HA.out] at k2
      rw [← HBb.out] at k3
      simp only [op, List.getElem?_toArray, List.getElem?_cons_zero] at k0
      clear hpe q0 q1 q2 q3 g0 g1
      obtain ⟨W1, hW1⟩ : ∃ W, W = w.setCell ⟨hb, 1, none⟩ (.int .u64 (n : Nat)) := ⟨_, rfl⟩
      rw [← hW1] at HB1 HC1 HM1 k0 k2 k3 k4 k5 ⊢
      clear hW1
      go_wp2_with fail
      go_region
      have M2 : Mem (W1.setCell ⟨b, 2, none⟩ (.pointer (some ⟨a, 0, none⟩))).drew N { s with nx := upd s.nx b a } := HM1.out.set2 b a
      have B2 : Blk (W1.setCell ⟨b, 2, none⟩ (.pointer (some ⟨a, 0, none⟩))).drew hb #[op (some m), .int .u64 (n : Nat)] := HB1.out.setOther (p := ⟨b, 2, none⟩) (Ne.symm hbb) _
      have C2 : Ch (SH hb N) w (W1.setCell ⟨b, 2, none⟩ (.pointer (some ⟨a, 0, none⟩))).drew := (Ch.setCell (p := ⟨b, 2, none⟩) HC1.out (fun _ => Or.inr hbN) _).drew
      obtain ⟨W2, hW2⟩ : ∃ W, W = (W1.setCell ⟨b, 2, none⟩ (.pointer (some ⟨a, 0, none⟩))).drew := ⟨_, rfl⟩
      rw [← hW2] at M2 B2 C2 ⊢
      have k0' := B2.cell 0
      have k2' := M2.c2 hm
      have k3' := M2.c3 hm
      have k4' := M2.c3 haN
      have k5' := M2.free haN 3
      simp only [op, List.getElem?_toArray, List.getElem?_cons_zero] at k0'
      simp only at k2' k3' k4'
      rw [show upd s.nx b a m = s.nx m from upd_ne _ _ (Ne.symm hbm2), ← HA.out] at k2'
      rw [← HBb.out] at k3'
      have HM2 := Lib.hid M2
      have HB2 := Lib.hid B2
      have HC2 := Lib.hid C2
      clear k0 k2 k3 k4 k5 HM1 HB1 HC1 hW2 M2 B2 C2
      go_wp2_with fail
      go_region
      have M3 : Mem (W2.setCell ⟨a, 3, none⟩ (.pointer (some ⟨b, 0, none⟩))).drew N { s with nx := upd s.nx b a, pv := upd s.pv a b } := HM2.out.set3 a b
      have B3 : Blk (W2.setCell ⟨a, 3, none⟩ (.pointer (some ⟨b, 0, none⟩))).drew hb #[op (some m), .int .u64 (n : Nat)] := HB2.out.setOther (p := ⟨a, 3, none⟩) (Ne.symm hba) _
      have C3 : Ch (SH hb N) w (W2.setCell ⟨a, 3, none⟩ (.pointer (some ⟨b, 0, none⟩))).drew := (Ch.setCell (p := ⟨a, 3, none⟩) HC2.out (fun _ => Or.inr haN) _).drew
      obtain ⟨W3, hW3⟩ : ∃ W, W = (W2.setCell ⟨a, 3, none⟩ (.pointer (some ⟨b, 0, none⟩))).drew := ⟨_, rfl⟩
      rw [← hW3] at M3 B3 C3 ⊢
      have k0 := B3.cell 0
      have k1 := B3.free 0
      have k2 := M3.c2 hm
      simp only [op, List.getElem?_toArray, List.getElem?_cons_zero] at k0
      simp only at k2
      rw [show upd s.nx b a m = s.nx m from upd_ne _ _ (Ne.symm hbm2), ← HA.out] at k2
      have hu : ust s m = { s with nx := upd s.nx b a, pv := upd s.pv a b } := by unfold ust; rw [← HA.out, ← HBb.out]
      have hd : deqMn s m = some a := by unfold deqMn; rw [← HA.out]; exact if_neg ham
      rw [← hu] at M3
      have B4 := B3.set 0 (.pointer (some ⟨a, 0, none⟩))
      simp only [List.setIfInBounds_toArray, List.set_cons_zero] at B4
      have M4 := M3.keep ((Ch.refl (S1 hb) _).setCell ⟨hb, 0, none⟩ (fun _ => rfl) (.pointer (some ⟨a, 0, none⟩))) (fun a ha e => HF.out.out (e ▸ ha))
      have C4 := Ch.setCell (p := ⟨hb, 0, none⟩) C3 (fun _ => Or.inl rfl) (.pointer (some ⟨a, 0, none⟩))
      have HM4 := Lib.hid M4
      have HB4 := Lib.hid B4
      have HC4 := Lib.hid C4
      have HD := Lib.hid hd
      clear k0' k2' k3' k4' k5' HM2 HB2 HC2 hW3 M3 B3 C3 M4 B4 C4 hd hu
      go_wp2_with fail
      go_meet
      refine ⟨rfl, ?_⟩
      rw [HD.out]
      exact ⟨by rw [HN.out]; exact HB4.out, HM4.out, HC4.out⟩
  obtain ⟨rfl, hD1⟩ := hcut
  clear q0 q1 q2 q3 g0 g1 hpe HEq HB1 HC1 HM1 HE HB HBb HA Hnx Hpv
  obtain ⟨hDB, hDM, hDC⟩ := hD1
  obtain ⟨o0, ho0⟩ : ∃ o, o = s.ch m := ⟨_, rfl⟩
  have k4 := hDM.c4 hm
  rw [show (ust s m).ch m = s.ch m from rfl, ← ho0] at k4
  have hnn : ∀ w : World, (binOp .neq 52 (op o0) (.pointer none)).run Try.prog w = .ok (.bool o0.isSome) w := fun w => by cases o0 <;> (unfold op; rw [run_neq_pointer_nil w _ _ Try.underlying52]; rfl)
  have hgn : ∀ x y, eqGuard .neq 52 x y (op o0) (.pointer none) = pure () := fun x y => by cases o0 <;> rfl
  obtain ⟨o1, ho1⟩ : ∃ o, o = deqMn s m := ⟨_, rfl⟩
  rw [← ho1] at hDB
  have HDB := Lib.hid hDB
  have HDM := Lib.hid hDM
  have HDC := Lib.hid hDC
  have HO0 := Lib.hid ho0
  have HO1 := Lib.hid ho1
  clear hDB hDM hDC ho0 ho1
  go_upto_if 84 with fail
  go_cut [4, 5, 6] from 85 to 102 (fun v4 v5 v6 wx => v4 = .pointer (some ⟨m, 0, none⟩) ∧ Dq1 w hb N (deqSt s m) m o1 wx)
  case first =>
    cases o0 with
    | none =>
      have HDe : Hid (Mem wc N (deqSt s m)) := Lib.hid (by
        have hg := HF.out.hp.wf.ch0 m hm HO0.out.symm
        refine Mem.parDone HF.out.hp.wf (L := []) (by rw [hg]) ?_
        rw [par_nil]; exact HDM.out)
      clear hnn hgn k4
      dsimp only [op, Option.isSome]
      go_wp2_with fail
      go_meet
      exact ⟨rfl, HDB.out, HDe.out, HDC.out⟩
    | some c =>
      have hcG := HF.out.hp.wf.ch1 m hm c HO0.out.symm
      obtain ⟨t, hpt, pt⟩ := HF.out.hp.wf.rings.ring _ c hcG
      have hndL := hpt.nodup_iff.2 (HF.out.hp.wf.rings.nd _)
      have hLN : ∀ x ∈ c :: t, x ∈ N ∧ x ≠ m := fun x hx => by
        obtain ⟨k1, k2, k3, k4⟩ := HF.out.hp.wf.kid (hpt.mem_iff.1 hx)
        exact ⟨k2, fun e => by rw [e] at k4; omega⟩
      have HPt := Lib.hid hpt
      have HPp := Lib.hid pt
      have HNd := Lib.hid hndL
      have HLN := Lib.hid hLN
      clear hcG hpt pt hndL hLN hnn hgn
      dsimp only [op] at k4
      dsimp only [op, Option.isSome]
      go_wp2_with fail
      go_loopw [5, 6] (fun vc vo wr => ∃ (u v : List Nat), vo = .bool (!v.isEmpty) ∧ vc = .pointer (some ⟨(v ++ [c]).headD 0, 0, none⟩) ∧ c :: t = u ++ v ∧ Dq1 w hb N (parSt (ust s m) u) m o1 wr) (fun vc vo _ => toGo (c :: t) vc vo)
      case atStart =>
        refine ⟨[], c :: t, rfl, rfl, rfl, HDB.out, ?_, HDC.out⟩
        rw [par_nil]; exact HDM.out
      case round =>
        obtain ⟨u, v, rfl, rfl, huv, hDB, hDM, hDC⟩ := hrel
        have HDBr := Lib.hid hDB
        have HDCr := Lib.hid hDC
        have HUv := Lib.hid huv
        cases v with
        | nil =>
          have HDe : Hid (Mem wr N (deqSt s m)) := Lib.hid (by
            rw [List.append_nil] at huv
            refine Mem.parDone HF.out.hp.wf (L := c :: t) HPt.out ?_
            rw [huv]; exact hDM)
          clear hDB hDM hDC huv
          dsimp only [List.isEmpty, Bool.not]
          go_wp2_with fail
          go_meet
          exact ⟨rfl, HDBr.out, HDe.out, HDCr.out⟩
        | cons x v' =>
          obtain ⟨hxN, hxm⟩ := HLN.out x (by rw [huv]; simp)
          have hcN := (HLN.out c (by simp)).1
          have hxG : x ∈ G (some m) := HPt.out.mem_iff.1 (by rw [huv]; simp)
          have hpm := HF.out.hp.wf.rings.prev hmr
          have hxp : x ≠ s.pv m := fun e => by
            have e1 := ((HF.out.hp.wf.rings.g _ _).1 hxG).2
            have e2 := ((HF.out.hp.wf.rings.g _ _).1 hpm.1).2
            rw [← e, e1] at e2; cases e2
          obtain ⟨y, hy⟩ : ∃ y, y = (v' ++ [c]).headD 0 := ⟨_, rfl⟩
          have hnx : s.nx x = y := by rw [hy]; exact path_next HPp.out huv
          have hyN : y ∈ N := by rw [← hnx]; exact HF.out.hp.wf.rings.nextN hxN
          have l5 := hDM.c5 hxN
          have f5 := hDM.free hxN 5
          have M2 := hDM.parNext x
          have l2 := M2.c2 hxN
          have l4 := M2.c4 hm
          rw [show (parSt (ust s m) (u ++ [x])).nx x = y from (upd_ne _ _ hxp).trans hnx] at l2
          rw [show (parSt (ust s m) (u ++ [x])).ch m = some c from HO0.out.symm] at l4
          dsimp only [op] at l4
          have hpn := ptr_ne (M2 y hyN) (M2 c hcN)
          have HHd := Lib.hid (head_first HNd.out huv)
          rw [← hy] at HHd
          obtain ⟨ok, hok⟩ : ∃ b, b = !decide (y = c) := ⟨_, rfl⟩
          rw [← hok] at hpn HHd
          have B2 := hDB.setOther (p := ⟨x, 5, none⟩) (fun e => HF.out.out (by rw [← show x = hb from e]; exact hxN)) (.pointer none)
          have C2 := Ch.setCell (p := ⟨x, 5, none⟩) hDC (fun _ => Or.inr hxN) (.pointer none)
          have HM2 := Lib.hid M2
          have HB2 := Lib.hid B2
          have HC2 := Lib.hid C2
          have HY := Lib.hid hy
          have HXl : Hid (toGo (c :: t) (.pointer (some ⟨y, 0, none⟩)) (.bool ok) < toGo (c :: t) (.pointer (some ⟨x, 0, none⟩)) (.bool true)) := Lib.hid (by
            have i1 : (c :: t).idxOf x = u.length := by rw [huv]; exact idx_mid (huv ▸ HNd.out)
            have l1 : (c :: t).length = u.length + v'.length + 1 := by rw [huv]; simp; omega
            rw [HHd.out]
            cases v' with
            | nil =>
              show 0 < (c :: t).length - (c :: t).idxOf x
              rw [i1, l1]; simp
            | cons z v'' =>
              have ez : y = z := hy
              have i2 : (c :: t).idxOf y = u.length + 1 := by
                have e3 : c :: t = (u ++ [x]) ++ z :: v'' := by rw [huv]; simp
                rw [e3, ez, idx_mid (e3 ▸ HNd.out)]; simp
              show (c :: t).length - (c :: t).idxOf y < (c :: t).length - (c :: t).idxOf x
              rw [i1, i2, l1]; simp only [List.length_cons]; omega)
          clear hDB hDM hDC M2 B2 C2 hy hok huv hnx hpm hxG
          dsimp only [List.isEmpty, Bool.not, List.cons_append, List.headD]
          go_wp2_with fail
          go_roundw
          case rel => exact ⟨u ++ [x], v', by rw [HHd.out]; cases v' <;> rfl, by rw [HY.out]; cases v' <;> rfl, by rw [HUv.out]; simp, HB2.out, HM2.out, HC2.out⟩
          case measure => exact HXl.out
  obtain ⟨rfl, hD2⟩ := hcut
  clear hnn hgn k4 HDB HDM HDC
  obtain ⟨hDB, hDM, hDC⟩ := hD2
  obtain ⟨o3, ho3⟩ : ∃ o, o = mres (deqSt s m) o1 o0 := ⟨_, rfl⟩
  have HWF : Hid (WF (N.erase m) (mst (deqSt s m) o1 o0) (ups (ups (ups G none ((G none).erase m)) (some m) []) none ((G none).erase m ++ G (some m))) h) := Lib.hid (by rw [HO0.out, HO1.out]; exact HF.out.hp.wf.deq hmr)
  have k0 := hDB.cell 0
  have k4 := hDM.c4 hm
  rw [show (deqSt s m).ch m = s.ch m from rfl, ← HO0.out] at k4
  simp only [List.getElem?_toArray, List.getElem?_cons_zero] at k0
  have HMg2 : Hid (Calls Try.prog 50 #[op o1, op o0] wc.drew fun r w' => r = .returned (op o3) ∧ Mem w' N (mst (deqSt s m) o1 o0) ∧ Ch (SN N) wc.drew w') := Lib.hid (by have := deq_merge (wx := wc.drew) HF.out hDM; rw [← HO0.out, ← HO1.out, ← ho3] at this; exact this)
  have HDB := Lib.hid hDB
  have HDM := Lib.hid hDM
  have HDC := Lib.hid hDC
  have HO3 := Lib.hid ho3
  clear hDB hDM hDC ho3
  go_upto_region 17 with fail
  go_cut [4] from 103 to 114 (fun v4 wx => v4 = .pointer (some ⟨m, 0, none⟩) ∧ Dq1 w hb N (mst (deqSt s m) o1 o0) m o3 wx)
  case first =>
    cases o3 with
    | none =>
      have HMg3 : Hid (Calls Try.prog 50 #[op o1, op o0] wc.drew fun r w' => r = .returned (.pointer none) ∧ Mem w' N (mst (deqSt s m) o1 o0) ∧ Ch (SN N) wc.drew w') := Lib.hid HMg2.out
      clear HMg2
      go_region_with (go_at_call 50; refine HMg3.out.mono ?_; rintro r wy ⟨rfl, hM4, hC4⟩; have b4 := (HDB.out.drew).keep hC4 (fun h => HF.out.out h); have j0 := b4.cell 0; have jf := b4.free 0; simp only [List.getElem?_toArray, List.getElem?_cons_zero] at j0; have HM4 := Lib.hid hM4; have HB4 := Lib.hid b4; have HC4 := Lib.hid hC4; clear b4 hM4 hC4)
      all_goals go_wp2
      all_goals go_meet
      all_goals exact ⟨rfl, Dq1.store none HB4.out HM4.out HC4.out HDC.out (by omega) HF.out.out⟩
    | some y =>
      have HMg3 : Hid (Calls Try.prog 50 #[op o1, op o0] wc.drew fun r w' => r = .returned (.pointer (some ⟨y, 0, none⟩)) ∧ Mem w' N (mst (deqSt s m) o1 o0) ∧ Ch (SN N) wc.drew w') := Lib.hid HMg2.out
      clear HMg2
      go_region_with (go_at_call 50; refine HMg3.out.mono ?_; rintro r wy ⟨rfl, hM4, hC4⟩; have b4 := (HDB.out.drew).keep hC4 (fun h => HF.out.out h); have j0 := b4.cell 0; have jf := b4.free 0; simp only [List.getElem?_toArray, List.getElem?_cons_zero] at j0; have HM4 := Lib.hid hM4; have HB4 := Lib.hid b4; have HC4 := Lib.hid hC4; clear b4 hM4 hC4)
      all_goals go_wp2
      all_goals go_meet
      all_goals exact ⟨rfl, Dq1.store (some y) HB4.out HM4.out HC4.out HDC.out (by omega) HF.out.out⟩
  obtain ⟨rfl, hD3⟩ := hcut
  clear HMg2 k0 k4 HDB HDM HDC
  have HD3 := Lib.hid hD3
  have q0 := hD3.1.cell 0
  simp only [List.getElem?_toArray, List.getElem?_cons_zero] at q0
  clear hD3
  cases o3 with
  | none =>
    dsimp only [op] at q0
    have HR : Hid (DeqR w hb N s m wc ∧ Ch (SH hb N) w wc) := Lib.hid (by
      have h1 := HD3.out
      have h3 := HO3.out
      rw [HO0.out, HO1.out] at h1 h3
      exact ⟨deq_last HF.out h3.symm h1, h1.2.2⟩)
    go_wp2_with fail
    go_ret2
    exact ⟨rfl, HR.out⟩
  | some y =>
    dsimp only [op] at q0
    have q1 := HD3.out.1.cell 1
    rw [show N.length - 1 = n by have := HN.out; omega] at q1
    simp only [List.getElem?_toArray, List.getElem?_cons_zero, List.getElem?_cons_succ] at q1
    have hbl := HD3.out.1.lt
    have hn9 : n ≤ 100000 := by omega
    have hmk := mk_ptrs n hn9
    obtain ⟨W1, hW1⟩ : ∃ W, W = wc.alloc (.cells (Array.replicate n (.pointer none)) 52) := ⟨_, rfl⟩
    obtain ⟨W2, hW2⟩ : ∃ W, W = W1.alloc (.cells (Array.replicate n (.pointer none)) 52) := ⟨_, rfl⟩
    have O1 := made0 wc n hn9
    have O2 := made0 W1 n hn9
    rw [← hW1] at O1
    rw [← hW2] at O2
    have C12 : Ch S0 wc W2 := by rw [hW2, hW1]; exact ((Ch.refl _ _).alloc _).alloc _
    have CW2 : Ch S0 W1 W2 := by rw [hW2]; exact (Ch.refl _ _).alloc _
    have hs1 : W1.heap.size = wc.heap.size + 1 := by rw [hW1]; exact World.size_alloc _ _
    have HO1w := Lib.hid (own_keep0 O1 CW2)
    have HO2w := Lib.hid O2
    have HC12 := Lib.hid C12
    have HS1 := Lib.hid hs1
    have HW1 := Lib.hid hW1
    have HW2 := Lib.hid hW2
    clear hW1 hW2 O1 O2 C12 CW2 hs1
    go_wp2_with fail
    rw [← HW1.out, ← HW2.out]
    have hyG : y ∈ (G none).erase m ++ G (some m) := by
      have h3 := HO3.out
      rw [HO0.out, HO1.out] at h3
      exact deq_some HF.out h3.symm
    obtain ⟨t, hpt, pt⟩ := HWF.out.rings.ring none y (by rw [ups_at]; exact hyG)
    have hnd := hpt.nodup_iff.2 (HWF.out.rings.nd none)
    have hin : ∀ x ∈ y :: t, x ∈ N := fun x hx => List.mem_of_mem_erase (HWF.out.rings.mem (hpt.mem_iff.1 hx))
    have C1 : Ch S0 wc W1 := by rw [HW1.out]; exact (Ch.refl _ _).alloc _
    have O2b : W2.ownsRow W1.heap.size 52 1 (.slice (some ⟨wc.heap.size + 1, 0, none⟩) 0 n) 0 [] := by
      have := HO2w.out
      rw [HS1.out] at this ⊢
      exact this
    have CW : Ch S0 W1 W2 := by rw [HW2.out]; exact (Ch.refl _ _).alloc _
    have hlt9 : (y :: t).length < 100000 := by
      have h1 := hnd.length_le_of_subset (fun x hx => hin x hx)
      have := HF.out.few
      omega
    have HPt := Lib.hid hpt
    have HPp := Lib.hid pt
    have HNd := Lib.hid hnd
    have HIn := Lib.hid hin
    have HC1 := Lib.hid C1
    have HO2b := Lib.hid O2b
    have HCW := Lib.hid CW
    have HL9 := Lib.hid hlt9
    clear hpt pt hnd hin C1 O2b CW hlt9 hyG
    go_loopw [8, 9] (fun v8 v9 wr => ∃ i : Nat, i ≤ (y :: t).length ∧ v9 = .pointer (some ⟨(y :: t ++ [y]).getD i 0, 0, none⟩) ∧ wr.ownsRow W1.heap.size 52 1 v8 i (pvs ((y :: t).take i)) ∧ Ch S0 W1 wr) (fun v8 _ _ => (y :: t).length - lenOf v8)
    case atStart => exact ⟨0, Nat.zero_le _, rfl, HO2b.out, HCW.out⟩
    case round =>
      obtain ⟨i, hi, rfl, hO, hC⟩ := hrel
      have hCw := HC1.out.trans hC
      have hMr : Mem wr N (mst (deqSt s m) o1 o0) := HD3.out.2.1.keep hCw (fun _ _ h => h)
      have hBr := HD3.out.1.keep hCw (fun h => h)
      obtain ⟨A8, c8, rfl, hR8, _, _, hA8, _⟩ := own_rd hO
      obtain ⟨x, hx⟩ : ∃ x, x = (y :: t ++ [y]).getD i 0 := ⟨_, rfl⟩
      rw [← hx]
      have hxN : x ∈ N := by
        rw [hx, List.getD_eq_getElem?_getD]
        rcases Nat.lt_or_ge i (y :: t).length with h1 | h1
        · rw [List.getElem?_append_left h1, List.getElem?_eq_getElem h1]
          exact HIn.out _ (List.getElem_mem h1)
        · have : i = (y :: t).length := by omega
          rw [List.getElem?_append_right h1, this, Nat.sub_self]
          exact HIn.out y (by simp)
      have hyN := HIn.out y (by simp)
      have hpn := ptr_ne (hMr y hyN) (hMr x hxN)
      have k2 := hMr.c2 hxN
      have HO := Lib.hid hO
      have HC := Lib.hid hC
      have HMr := Lib.hid hMr
      have HBr := Lib.hid hBr
      have HX := Lib.hid hx
      have HXN := Lib.hid hxN
      clear hO hC hMr hBr hx hxN hyN hCw
      have hbs := HC.out.size
      have HApart := Lib.hid (own_apart HO.out HD3.out.2.1 HC1.out.size)
      have hone : ∀ u ∈ [Value.pointer (some ⟨x, 0, none⟩)], u.oneCell' = true := by intro u hu; simp only [List.mem_singleton] at hu; subst hu; rfl
      have hL9 := HL9.out
      by_cases h0 : i = 0
      · subst h0
        clear hpn hR8
        go_wp2_with (at_builtin; go_loud (refine app_own elP rfl (.tmp 149) (.tmp 151) rfl W1.heap.size 0 (.slice A8 0 c8) (pvs ((y :: t).take 0)) rfl HO.out [.pointer (some ⟨x, 0, none⟩)] rfl hone _ rfl rfl (by unfold maxLen; omega) (by omega) hbs ?_); intro v' w4 hown4 hc4 hb4; have M4 := HMr.out.keep hc4 (fun a ha e => HApart.out a ha e); have k2' := M4.c2 HXN.out; have HM4 := Lib.hid M4; have HOw := Lib.hid hown4; have HC4 := Lib.hid hc4; have HB4 := Lib.hid hb4; clear hown4 hc4 hb4 M4)
        go_roundw
        case rel =>
          obtain ⟨e1, e2⟩ := take_next (L := y :: t) (i := 0) (by simp) y
          rw [← HX.out] at e1 e2
          refine ⟨0 + 1, by simp, ?_, by rw [e1, pvs_snoc]; exact HOw.out, HC.out.trans' HC4.out (fun j hj e => absurd (own_lt HO.out j e).1 (by omega))⟩
          rw [path_next HPp.out e2, drop_head (by simp) y]
        case measure =>
          have := HOw.out.1
          obtain ⟨_, _, e3, _⟩ := own_rd HOw.out
          subst e3
          simp only [lenOf]
          have : 0 < (y :: t).length := by simp
          omega
      · have hi0 : ¬ (i : Int) = 0 := by omega
        have hi1 : ((i : Int) == 0) = false := by simpa using hi0
        obtain ⟨g8, rfl⟩ := hA8.resolve_left h0
        obtain ⟨g9, o8, e8, c0⟩ := hR8.at (j := 0) (x := .pointer (some ⟨y, 0, none⟩)) (by simp [pvs, List.take_cons (show 0 < i by omega)])
        cases e8
        rw [Nat.add_zero] at c0
        have hip : (0 : Int) < (i : Nat) := by omega
        by_cases hlt : i < (y :: t).length
        · have hyx : Hid (y ≠ x) := Lib.hid (fun e => by
            have e2 := List.getElem?_eq_getElem hlt
            have e3 : x = (y :: t)[i] := by rw [HX.out, List.getD_eq_getElem?_getD, List.getElem?_append_left hlt, e2]; rfl
            rw [← e3, ← e] at e2
            exact h0 (nodup_at HNd.out e2 (by simp)))
          rw [decide_eq_false hyx.out] at hpn
          clear hR8
          go_wp2_with (at_builtin; go_loud (refine app_own elP rfl (.tmp 149) (.tmp 151) rfl W1.heap.size i (.slice (some ⟨g8, 0, none⟩) i c8) (pvs ((y :: t).take i)) rfl HO.out [.pointer (some ⟨x, 0, none⟩)] rfl hone _ rfl rfl (by unfold maxLen; omega) (by omega) hbs ?_); intro v' w4 hown4 hc4 hb4; have M4 := HMr.out.keep hc4 (fun a ha e => HApart.out a ha e); have k2' := M4.c2 HXN.out; have HM4 := Lib.hid M4; have HOw := Lib.hid hown4; have HC4 := Lib.hid hc4; have HB4 := Lib.hid hb4; clear hown4 hc4 hb4 M4)
          go_roundw
          case rel =>
            obtain ⟨e1, e2⟩ := take_next (L := y :: t) (i := i) hlt y
            rw [← HX.out] at e1 e2
            refine ⟨i + 1, by omega, ?_, by rw [e1, pvs_snoc]; exact HOw.out, HC.out.trans' HC4.out (fun j hj e => absurd (own_lt HO.out j e).1 (by omega))⟩
            rw [path_next HPp.out e2, drop_head hlt y]
          case measure =>
            have := HOw.out.1
            obtain ⟨_, _, e3, _⟩ := own_rd HOw.out
            subst e3
            simp only [lenOf]
            have := hlt
            omega
        · have hie : i = (y :: t).length := by omega
          have hxy : x = y := by rw [HX.out, hie, List.getD_eq_getElem?_getD, List.getElem?_append_right (Nat.le_refl _), Nat.sub_self]; rfl
          rw [hxy, decide_eq_true rfl] at hpn
          have HXY := Lib.hid hxy
          have HIE := Lib.hid hie
          rw [hxy]
          clear hR8 hxy hie hi hlt
          go_wp2_with fail
          clear HX HXN HXY hone c0 hip hi0 hi1 h0 hpn k2
          have hB3 := HBr.out
          rw [show N.length - 1 = n by have := HN.out; omega] at hB3
          obtain ⟨hoo, hg8⟩ : (∃ C, wr.ownsRow W1.heap.size 52 1 (.slice (some ⟨g8, 0, none⟩) i c8) C (pvs (y :: t)) ∧ C = (y :: t).length) ∧ W1.heap.size ≤ g8 ∧ g8 < wr.heap.size := by
            have h1 := HO.out
            have h2 := own_lt h1 g8 rfl
            rw [HIE.out, List.take_length] at h1
            rw [HIE.out]
            exact ⟨⟨_, h1, rfl⟩, h2⟩
          obtain ⟨C9, hoo, hC9⟩ := hoo
          obtain ⟨A9, c9, e9, hR9, _, _, _, _⟩ := own_rd hoo
          cases e9
          clear hC9
          have hMw := HD3.out.2.1
          have hCw9 : Ch S0 W1 wr := HC.out
          have hs19 := HS1.out
          have CS0 : CS w wc.heap.size hb n g8 N (y :: t) s (mst (deqSt s m) o1 o0) [] (.slice (some ⟨wc.heap.size, 0, none⟩) 0 n) y wr :=
            ⟨own_keep0 (own_keep0 (by rw [HW1.out]; exact made0 wc n hn9) (Ch.refl S0 W1)) hCw9, by
              intro e; have e2 : wc.heap.size = g8 := Option.some.inj e; omega, hR9, hg8.2, by omega, fun a ha => hMw.lt ha, hbl, fun a ha e => HF.out.out (e ▸ ha), Nat.le_trans HC1.out.size hCw9.size, HD3.out.2.2.size, HMr.out, hB3, HD3.out.2.2.trans ((HC1.out.trans hCw9).mono (fun _ _ h => h.elim)), fun a ha => by rw [mst_pr]; rfl, fun a ha e => by rw [mst_mr]; exact e⟩
          have HCS := Lib.hid CS0
          have HCon := Lib.hid (Con.start HWF.out HPt.out)
          obtain ⟨B, hBd⟩ : ∃ B, B = wc.heap.size := ⟨_, rfl⟩
          rw [← hBd] at HCS ⊢
          obtain ⟨s0, hs0⟩ : ∃ s0, s0 = mst (deqSt s m) o1 o0 := ⟨_, rfl⟩
          rw [← hs0] at HCS HCon
          obtain ⟨G0, hG0⟩ : ∃ G0, G0 = (ups (ups (ups G none ((G none).erase m)) (some m) []) none ((G none).erase m ++ G (some m))) := ⟨_, rfl⟩
          rw [← hG0] at HCon
          clear hBd hs0 hG0 CS0 hs19 hCw9 hMw hR9 hoo hg8 hB3 q0 q1 hbl hmk HO1w HO2w HC12 HS1 HW1 HW2 HPp HNd HIn HC1 HO2b HCW HO HC HMr HBr hbs HApart
          go_loopw [7, 155] (fun v7 vi wr => L3 w B hb n g8 m N (y :: t) s v7 vi wr) (fun _ vi _ => (y :: t).length - (intOf vi).toNat)
          case atStart => exact ⟨0, y, s0, G0, h, [], rfl, Nat.zero_le _, HCon.out, HCS.out⟩
          case round =>
            obtain ⟨j, mn, s1, G1, h1, T1, rfl, hj, hCon, hCS⟩ := hrel
            clear HCon HCS
            have HCon := Lib.hid hCon
            have HCS := Lib.hid hCS
            clear hCon hCS
            by_cases hlt : j < i
            · obtain ⟨c, hc⟩ : ∃ c, (y :: t)[j]? = some c := ⟨_, List.getElem?_eq_getElem (by rw [← HIE.out]; exact hlt)⟩
              have v0 := HCS.out.vat hc
              have C2 := Lib.hid (HCon.out.enter hc)
              have hcN := C2.out.cN.1
              have hlt2 : (j : Int) < i := by omega
              have hj0 : (0 : Int) ≤ j := by omega
              have hj9 : (j : Int) ≤ 99999 := by have := HIE.out; have := HL9.out; omega
              have HHc := Lib.hid hc
              clear hc hj
              go_wp2_with fail
              go_loopg [7, 11] (G1 none).length (fun k v7 v11 wr => L4 w B hb n g8 m j mn N (y :: t) s k v7 v11 wr)
              case atStart => exact ⟨c, s1, G1, h1, T1, rfl, rfl, C2.out, HCS.out⟩
              case round =>
                obtain ⟨c, s2, G2, h2, T2, rfl, hk, hC2, hCS⟩ := hrel
                clear HCS
                have HC2 := Lib.hid hC2
                have HCS := Lib.hid hCS
                have hcN := hC2.cN.1
                have HK := Lib.hid hk
                clear hC2 hCS hk C2 HCon
                go_wp2_with fail
                go_loopg [7] (s2.deg c + 1 - T2.length) (fun k v7 wr => L5 w B hb n g8 m j mn c N (y :: t) s s2 G2 h2 k v7 wr)
                case atStart => exact ⟨T2, rfl, HC2.out, HCS.out⟩
                case round =>
                  obtain ⟨T3, hk, hC2, hCS⟩ := hrel
                  clear HC2 HCS
                  have HC2 := Lib.hid hC2
                  have HCS := Lib.hid hCS
                  have HK5 := Lib.hid hk
                  clear hC2 hCS hk
                  obtain ⟨A7, c7, rfl, _, hTc, _, hA7, _⟩ := own_rd HCS.out.own
                  have k0 := HCS.out.mem.c0 hcN
                  obtain ⟨d, hd⟩ : ∃ d, d = s2.deg c := ⟨_, rfl⟩
                  rw [← hd] at k0 HK5
                  have hd9 : d < 100000 := by
                    have h1 := HC2.out.wf.deg_lt (HC2.out.wf.rings.mem HC2.out.cr)
                    have h2 := HF.out.few
                    have h3 : (N.erase m).length ≤ N.length := List.length_erase_le
                    omega
                  have hd9i : (d : Int) ≤ 99999 := by omega
                  have hd0 : (0 : Int) ≤ (d : Int) := by omega
                  have HD := Lib.hid hd
                  have HD9 := Lib.hid hd9
                  have HTc := Lib.hid hTc
                  clear hd hd9 hTc
                  obtain ⟨l3, hl3⟩ : ∃ l, l = T3.length := ⟨_, rfl⟩
                  have HL3 := Lib.hid hl3
                  rw [← hl3]
                  clear hl3
                  by_cases hge : l3 ≤ d
                  · have hge2 : (l3 : Int) ≤ d := by omega
                    have hone : ∀ u ∈ [Value.pointer none], u.oneCell' = true := by intro u hu; simp only [List.mem_singleton] at hu; subst hu; rfl
                    have hm9 : l3 + 1 ≤ maxLen := by have := HD9.out; unfold maxLen; omega
                    have hm8 : (l3 + 1) * 8 ≤ 140737488355328 := by have := HD9.out; omega
                    have hbw := HCS.out.bw
                    have ho3 := HCS.out.own
                    rw [← HL3.out] at ho3
                    have HO3b := Lib.hid ho3
                    clear ho3
                    go_wp2_with (at_builtin; go_loud (refine app_own elP rfl (.tmp 166) (.tmp 167) rfl B l3 (.slice A7 l3 c7) (ovs T3) rfl HO3b.out [.pointer none] rfl hone _ rfl rfl hm9 hm8 hbw ?_); intro v' w4 hown4 hc4 hb4; have HOw := Lib.hid hown4; have HC4 := Lib.hid hc4; have HB4 := Lib.hid hb4; clear hown4 hc4 hb4)
                    go_roundg (d - l3)
                    case rel =>
                      have hb5 := HB4.out
                      have ho5 := HOw.out
                      have hc5 := HC4.out
                      rw [HL3.out] at ho5
                      refine ⟨T3 ++ [none], ?_, HC2.out.push, ?_⟩
                      · rw [List.length_append, HL3.out, HD.out]; simp
                      · refine HCS.out.push (by rw [← HL3.out]; exact hc5) ho5 ?_
                        rw [← HL3.out]; exact hb5
                    case measure => have := HK5.out; have := HL3.out; omega
                  · have hge2 : ¬ (l3 : Int) ≤ d := by omega
                    have hge3 : (d : Int) < l3 := by omega
                    have hdl : d < l3 := by omega
                    obtain ⟨g7, rfl⟩ := hA7.resolve_left (by have := HL3.out; omega)
                    obtain ⟨o9, ho9⟩ : ∃ o, T3[d]? = some o := ⟨_, List.getElem?_eq_getElem (by rw [← HL3.out]; exact hdl)⟩
                    have HCS7 : Hid (CS w B hb n g8 N (y :: t) s s2 T3 (.slice (some ⟨g7, 0, none⟩) T3.length c7) mn wr) := HCS
                    have ct := HCS7.out.tat ho9
                    obtain ⟨ct, ft⟩ := ct
                    have HO9 := Lib.hid ho9
                    clear ho9
                    cases o9 with
                    | none =>
                      dsimp only [op] at ct
                      have hle := HC2.out.leave (by rw [← HD.out]; exact HO9.out)
                      rw [← HD.out] at hle
                      have P1 := HCS7.out.put d (some c)
                      dsimp only [op] at P1
                      have p0 := P1.blk.cell 0
                      have pf := P1.blk.free 0
                      simp only [List.getElem?_toArray, List.getElem?_cons_zero, op] at p0
                      have hmN := HC2.out.cN.2
                      have p6 := P1.mem.c6 hcN
                      have m6 := P1.mem.c6 hmN
                      have hsm : ∀ a ∈ N, (s2.pr a).natAbs < 2 ^ 53 := fun a ha => by rw [HCS.out.pr a ha]; exact HF.out.sm a ha
                      have hfl := fl_le (s2.pr c) (s2.pr mn) (hsm c hcN) (hsm mn hmN)
                      obtain ⟨pc, hpc⟩ : ∃ p, p = s2.pr c := ⟨_, rfl⟩
                      obtain ⟨pm, hpm⟩ : ∃ p, p = s2.pr mn := ⟨_, rfl⟩
                      rw [← hpc] at p6 hfl
                      rw [← hpm] at m6 hfl
                      have HLE := Lib.hid hle
                      have HP1 := Lib.hid P1
                      have HPc := Lib.hid hpc
                      have HPm := Lib.hid hpm
                      clear hle P1 hpc hpm hsm
                      by_cases hpp : pc ≤ pm
                      · rw [decide_eq_true hpp] at hfl
                        have HPP := Lib.hid hpp
                        clear hpp
                        go_wp2_with fail
                        go_quiet (fail)
                        clear p0 pf p6 m6 hfl ct ft v0 k0
                        have P2 := HP1.out.drewN nq
                        obtain ⟨W3, hW3⟩ : ∃ W, W = (wr.setCell ⟨g7, d, none⟩ (.pointer (some ⟨c, 0, none⟩))).drewN nq := ⟨_, rfl⟩
                        rw [← hW3] at P2 ⊢
                        have p0 := P2.blk.cell 0
                        have pf := P2.blk.free 0
                        simp only [List.getElem?_toArray, List.getElem?_cons_zero, op] at p0
                        have HP2 := Lib.hid P2
                        clear hW3 P2 HP1
                        go_step
                        go_wp2_with fail
                        go_roundw
                        case rel =>
                          have hdm : decMn s2 c mn = c := by unfold decMn; rw [if_pos (by have := HPP.out; rw [← HPc.out, ← HPm.out]; exact this)]
                          have hle := HLE.out
                          rw [hdm] at hle
                          refine ⟨j + 1, c, s2, G2, h2, T3.set d (some c), by simp, by have := HIE.out; omega, hle, ?_⟩
                          have hh := HP2.out.min c
                          rw [← HL3.out] at hh
                          exact hh
                        case measure =>
                          show (y :: t).length - ((j : Int) + 1).toNat < (y :: t).length - ((j : Int)).toNat
                          rw [← HIE.out]
                          omega
                      · rw [decide_eq_false hpp] at hfl
                        have HPP := Lib.hid hpp
                        clear hpp
                        go_wp2_with fail
                        go_quiet (fail)
                        clear p0 pf p6 m6 hfl ct ft v0 k0
                        have P2 := HP1.out.drewN nq
                        obtain ⟨W3, hW3⟩ : ∃ W, W = (wr.setCell ⟨g7, d, none⟩ (.pointer (some ⟨c, 0, none⟩))).drewN nq := ⟨_, rfl⟩
                        rw [← hW3] at P2 ⊢
                        have HP2 := Lib.hid P2
                        clear hW3 P2 HP1
                        go_step
                        go_wp2_with fail
                        go_roundw
                        case rel =>
                          have hdm : decMn s2 c mn = mn := by unfold decMn; rw [if_neg (by have := HPP.out; rw [← HPc.out, ← HPm.out]; omega)]
                          have hle := HLE.out
                          rw [hdm] at hle
                          refine ⟨j + 1, mn, s2, G2, h2, T3.set d (some c), by simp, by have := HIE.out; omega, hle, ?_⟩
                          have hh := HP2.out
                          rw [← HL3.out] at hh
                          exact hh
                        case measure =>
                          show (y :: t).length - ((j : Int) + 1).toNat < (y :: t).length - ((j : Int)).toNat
                          rw [← HIE.out]
                          omega
                    | some o =>
                      dsimp only [op] at ct
                      have ho := HC2.out.tab d o HO9.out
                      obtain ⟨ho1, _, _, _⟩ := ho
                      have hoN : o ∈ N := List.mem_of_mem_erase (HC2.out.wf.rings.mem ho1)
                      have P1 := HCS7.out.put d none
                      dsimp only [op] at P1
                      have p6 := P1.mem.c6 hcN
                      have m6 := P1.mem.c6 hoN
                      have hsm : ∀ a ∈ N, (s2.pr a).natAbs < 2 ^ 53 := fun a ha => by rw [HCS.out.pr a ha]; exact HF.out.sm a ha
                      have hfl := fl_lt (s2.pr o) (s2.pr c) (hsm o hoN) (hsm c hcN)
                      obtain ⟨pc, hpc⟩ : ∃ p, p = s2.pr c := ⟨_, rfl⟩
                      obtain ⟨pm, hpm⟩ : ∃ p, p = s2.pr o := ⟨_, rfl⟩
                      rw [← hpc] at p6 hfl
                      rw [← hpm] at m6 hfl
                      obtain ⟨bb, hbb⟩ : ∃ q, q = decide (pm < pc) := ⟨_, rfl⟩
                      rw [← hbb] at hfl
                      have HP1 := Lib.hid P1
                      have HPc := Lib.hid hpc
                      have HPm := Lib.hid hpm
                      have HBB := Lib.hid hbb
                      clear P1 hpc hpm hsm ho1 hbb
                      go_upto_region 36 with fail
                      go_quiet (fail)
                      have P2 := HP1.out.drewN nq
                      obtain ⟨W3, hW3⟩ : ∃ W, W = (wr.setCell ⟨g7, d, none⟩ (.pointer none)).drewN nq := ⟨_, rfl⟩
                      rw [← hW3] at P2 ⊢
                      have HP2 := Lib.hid P2
                      clear hW3 P2 HP1 p6 m6 hfl ct ft v0 k0
                      go_step
                      go_upto_if 205 with fail
                      go_cut [13, 14] from 159 to 261 (fun v13 v14 wx => ∃ a b, v13 = .pointer (some ⟨a, 0, none⟩) ∧ v14 = .pointer (some ⟨b, 0, none⟩) ∧ ((s2.pr o < s2.pr c ∧ a = o ∧ b = c) ∨ (¬ s2.pr o < s2.pr c ∧ a = c ∧ b = o)) ∧ CS w B hb n g8 N (y :: t) s s2 (T3.set d none) (.slice (some ⟨g7, 0, none⟩) T3.length c7) mn wx)
                      case first =>
                        cases bb with
                        | true =>
                          go_wp2_with fail
                          go_meet
                          exact ⟨o, c, rfl, rfl, Or.inl ⟨by have := HBB.out; rw [← HPc.out, ← HPm.out]; simpa using this, rfl, rfl⟩, HP2.out⟩
                        | false =>
                          go_wp2_with fail
                          go_meet
                          exact ⟨c, o, rfl, rfl, Or.inr ⟨by have := HBB.out; rw [← HPc.out, ← HPm.out]; simpa using this, rfl, rfl⟩, HP2.out⟩
                      obtain ⟨a1, b1, rfl, rfl, hab, hP⟩ := hcut
                      clear HP2
                      obtain ⟨hl1, haE, hbE, hne, hl2⟩ := HC2.out.link (by rw [← HD.out]; exact HO9.out) hab
                      rw [← HD.out] at hl1
                      have haN : a1 ∈ N := List.mem_of_mem_erase haE
                      have hbN : b1 ∈ N := List.mem_of_mem_erase hbE
                      have HBP : Hid (s2.par b1 ≠ some a1) := Lib.hid (root_nopar HC2.out HO9.out hab)
                      have HL1 := Lib.hid hl1
                      have HL2 := Lib.hid hl2
                      have HP := Lib.hid hP
                      have HAE := Lib.hid haE
                      have HBE := Lib.hid hbE
                      have HNE := Lib.hid hne
                      have HWF2 := Lib.hid HC2.out.wf
                      obtain ⟨nb, hnb⟩ : ∃ q, q = s2.nx b1 := ⟨_, rfl⟩
                      obtain ⟨pb, hpb⟩ : ∃ q, q = s2.pv b1 := ⟨_, rfl⟩
                      have hnN : nb ∈ N := by rw [hnb]; exact List.mem_of_mem_erase (HWF2.out.rings.nextN hbE)
                      have hpN : pb ∈ N := by rw [hpb]; exact List.mem_of_mem_erase (HWF2.out.rings.prevN hbE)
                      have k2 := hP.mem.c2 hbN
                      have k3 := hP.mem.c3 hbN
                      have k4 := hP.mem.c3 hnN
                      have k5 := hP.mem.free hnN 3
                      rw [← hnb] at k2
                      rw [← hpb] at k3
                      have HNB := Lib.hid hnb
                      have HPB := Lib.hid hpb
                      clear hnb hpb hl1 hl2 hP hab haE hbE hne
                      go_step
                      go_wp2_with fail
                      go_region
                      have P4 := (HP.out.n3 hnN pb).drew
                      obtain ⟨W4, hW4⟩ : ∃ W, W = (wc.setCell ⟨nb, 3, none⟩ (.pointer (some ⟨pb, 0, none⟩))).drew := ⟨_, rfl⟩
                      rw [← hW4] at P4 ⊢
                      have j2 := P4.mem.c2 hbN
                      have j3 := P4.mem.c3 hbN
                      have j4 := P4.mem.c2 hpN
                      have j5 := P4.mem.free hpN 2
                      simp only at j2 j3 j4
                      rw [← HNB.out] at j2
                      rw [show upd s2.pv nb pb b1 = pb by unfold upd; split; rfl; exact HPB.out.symm] at j3
                      have HP4 := Lib.hid P4
                      clear hW4 P4 HP k2 k3 k4 k5
                      go_wp2_with fail
                      go_region
                      have P5 := (HP4.out.n2 hpN nb).drew
                      obtain ⟨W5, hW5⟩ : ∃ W, W = (W4.setCell ⟨pb, 2, none⟩ (.pointer (some ⟨nb, 0, none⟩))).drew := ⟨_, rfl⟩
                      rw [← hW5] at P5 ⊢
                      have e5 : ({ ({ s2 with pv := upd s2.pv nb pb } : FS) with nx := upd s2.nx pb nb } : FS) = ust s2 b1 := by unfold ust; rw [← HNB.out, ← HPB.out]
                      rw [e5] at P5
                      clear e5
                      have P6 := P5.k6 hbN
                      have P7 := P6.k7 hbN
                      have k3 := P5.mem.c3 hbN
                      have f3 := P5.mem.free hbN 3
                      have k2 := P6.mem.c2 hbN
                      have f2 := P6.mem.free hbN 2
                      have k4 := P7.mem.c4 haN
                      obtain ⟨q, hq, hq2⟩ := mres_some (alone s2 b1) (s2.ch a1) b1
                      obtain ⟨o4, ho4⟩ : ∃ o, o = s2.ch a1 := ⟨_, rfl⟩
                      obtain ⟨dg, hdg⟩ : ∃ o, o = s2.deg a1 := ⟨_, rfl⟩
                      have hdg9 : (dg : Int) ≤ 99999 := by
                        have h1 := HC2.out.wf.deg_lt HAE.out
                        have h2 := HF.out.few
                        have h3 : (N.erase m).length ≤ N.length := List.length_erase_le
                        omega
                      have hdg0 : (0 : Int) ≤ (dg : Int) := by omega
                      have hsm2 : Sm N (alone s2 b1) := fun a ha => by
                        show (s2.pr a).natAbs < 2 ^ 53
                        rw [HCS7.out.pr a ha]; exact HF.out.sm a ha
                      have hchN : ∀ e, o4 = some e → e ∈ N ∧ (alone s2 b1).nx e ∈ N := fun e he => by
                        have h1 := link_ch HWF2.out HAE.out (ho4.symm.trans he)
                        exact ⟨List.mem_of_mem_erase h1.1, List.mem_of_mem_erase (link_nx HWF2.out HBE.out h1.1)⟩
                      have hchb : ∀ e, o4 = some e → e ≠ b1 := fun e he e2 => by
                        have h1 := link_ch HWF2.out HAE.out (ho4.symm.trans he)
                        rw [e2] at h1
                        exact HBP.out h1.2
                      have hmg := merge_to N (alone s2 b1) o4 b1 q (by rw [ho4]; exact hq) _ P7.mem hsm2 hchN ⟨hbN, List.mem_of_mem_erase (link_nx HWF2.out HBE.out HBE.out)⟩ hchb
                      have HMg : Hid (Calls Try.prog 50 #[op o4, .pointer (some ⟨b1, 0, none⟩)] ((W5.setCell ⟨b1, 3, none⟩ (.pointer (some ⟨b1, 0, none⟩))).setCell ⟨b1, 2, none⟩ (.pointer (some ⟨b1, 0, none⟩))) fun r w' => r = .returned (.pointer (some ⟨q, 0, none⟩)) ∧ Aft w B hb n g8 N (y :: t) s (linkSt s2 a1 b1) (T3.set d none) (.slice (some ⟨g7, 0, none⟩) T3.length c7) mn a1 b1 q dg w') := Lib.hid (by
                        refine hmg.mono ?_
                        rintro r wy ⟨h1, h2, h3⟩
                        rw [ho4] at h2
                        exact ⟨h1, CS.aft P7 haN hbN hq hdg h2 h3⟩)
                      rw [show (alone s2 b1).ch a1 = o4 from ho4.symm] at k4
                      clear hW5 P5 P6 P7 HP4 j2 j3 j4 j5 hq hq2 hsm2 hchN hchb ho4 hmg hdg
                      go_wp2_with (go_at_call 50; refine HMg.out.mono ?_; rintro r wy ⟨rfl, ⟨p4, i4⟩, g4, ⟨p5, i5⟩, g5, ⟨p1, i1⟩, g1, i0, g0, hfin⟩; have HFin := Lib.hid hfin; clear hfin)
                      go_roundg (linkG G2 a1 b1 none).length
                      case rel => exact ⟨a1, _, _, _, _, rfl, rfl, HL1.out, by have := HFin.out; rw [← HL3.out] at this; exact this⟩
                      case measure => have := HL2.out; have := HK.out; omega
            · have hji : j = i := by have := HIE.out; omega
              subst hji
              go_wp2_with fail
              go_ret2
              have hcon := HCon.out
              rw [HIE.out] at hcon
              have hcs := HCS.out
              have hNe : (N.erase m).length = n := by rw [List.length_erase_of_mem hm, HN.out]; rfl
              refine ⟨rfl, ⟨s1, G1, h1, some mn, ⟨by rw [hNe]; exact hcs.blk, fun a ha => hcs.mem a (List.mem_of_mem_erase ha), fun a ha => ?_, hcon.done, fun h => HF.out.out (List.mem_of_mem_erase h), by rw [hNe]; omega⟩, hcs.pr, hcs.mem, hcs.ml⟩, hcs.ch⟩
              rw [hcs.pr a (List.mem_of_mem_erase ha)]
              exact HF.out.sm a (List.mem_of_mem_erase ha)
end Go.Proofs.Ytbfcnimebdoagaa
