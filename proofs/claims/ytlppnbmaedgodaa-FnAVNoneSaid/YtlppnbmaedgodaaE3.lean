/- WALKS: a new entry comes into a tree. -/
import Derived.Test.YtlppnbmaedgodaaE6
namespace Go.Proofs.Ytlppnbmaedgodaa
open Go.RowKit
set_option linter.unusedVariables false
set_option linter.unusedSimpArgs false

set_option maxHeartbeats 4000000 in
set_option maxRecDepth 100000 in
theorem insert_nil (cp : Nat) (key val : Int) (w : World) (h : Imm w cp .nil) :
    Calls Try.prog 28 #[.pointer (some ⟨cp, 0, none⟩), en key val] w fun r w' => InsR w cp .nil key val r w' := by
  have hb := h.blk
  simp only [T.adr, T.toL, ad, Option.map_none, List.length_nil] at hb
  have c0 := hb.cell 0
  have c1 := hb.cell 1
  simp only [List.getElem?_toArray, List.getElem?_cons_zero, List.getElem?_cons_succ] at c0 c1
  have HB := Lib.hid hb
  clear h hb
  go_enter Try.func28, Try.ntmps28
  go_wp2_with (go_at_call 33; refine (new_any key val _).mono ?_; rintro r w1 ⟨rfl, hn, hC⟩; have hb1 := HB.out.keep hC (fun h => h); have d0 := hb1.cell 0; have f0 := hb1.free 0; have hb2 := hb1.set 0 (.pointer (some ⟨w.heap.size, 0, none⟩)); have d1 := hb2.cell 1; have f1 := hb2.free 1; have hb3 := Lib.hid (hb2.set 1 (.int .u64 1)); have HN := Lib.hid hn; have HC := Lib.hid hC; simp only [List.getElem?_toArray, List.getElem?_cons_zero, List.getElem?_cons_succ, List.setIfInBounds_toArray, List.set_cons_zero, List.set_cons_succ] at d0 d1; clear hb1 hb2 hn hC)
  go_ret
  have hlt := HB.out.lt
  have hne : cp ≠ w.heap.size := by omega
  have hCf : Ch (S1 cp) w ((w1.setCell ⟨cp, 0, none⟩ (.pointer (some ⟨w.heap.size, 0, none⟩))).setCell ⟨cp, 1, none⟩ (.int .u64 1)) := Ch.setCell (S := S1 cp) (Ch.setCell (S := S1 cp) (HC.out.mono (fun _ _ h => h.elim)) ⟨cp, 0, none⟩ (fun _ => rfl) _) ⟨cp, 1, none⟩ (fun _ => rfl) _
  have hNf := (HN.out.setOther (p := ⟨cp, 0, none⟩) hne (.pointer (some ⟨w.heap.size, 0, none⟩))).setOther (p := ⟨cp, 1, none⟩) hne (.int .u64 1)
  refine ⟨leaf w.heap.size key val, rfl, ⟨?_, ⟨hNf, trivial, trivial⟩, by simp [leaf, T.bl], by simp [leaf, T.Avl, T.ht], by simp [leaf, T.toL, Ord], by simp [leaf, T.bl]; exact hne, by simp [leaf, T.toL]⟩, rfl, hCf.mono (fun k _ e => Or.inl e), fun a e => Or.inr (by cases e; exact Nat.le_refl _), fun x hx => Or.inr (by simp [leaf, T.bl] at hx; omega)⟩
  have := hb3.out
  simpa [leaf, T.adr, T.toL, ad] using this
set_option maxHeartbeats 40000000 in
set_option maxRecDepth 100000 in
theorem insert_node (cp : Nat) (r0 : Nat) (b0 : Int) (tl tr : T) (k0 v0 : Int) (key val : Int) (w : World) (h : Imm w cp (.node r0 b0 tl tr k0 v0)) (hf : (T.node r0 b0 tl tr k0 v0).toL.length < 100000) :
    Calls Try.prog 28 #[.pointer (some ⟨cp, 0, none⟩), en key val] w fun r w' => InsR w cp (.node r0 b0 tl tr k0 v0) key val r w' := by
  obtain ⟨n, hn⟩ : ∃ n, (T.node r0 b0 tl tr k0 v0).toL.length = n := ⟨_, rfl⟩
  have hb := h.blk
  rw [hn] at hb hf
  simp only [T.adr, ad, Option.map_some] at hb
  have c0 := hb.cell 0
  simp only [List.getElem?_toArray, List.getElem?_cons_zero, List.getElem?_cons_succ] at c0
  have HI := Lib.hid h
  have HN := Lib.hid hn
  have HB := Lib.hid hb
  clear h hb hn
  unfold en
  go_enter Try.func28, Try.ntmps28
  go_wp2_with (go_at_call 34; refine (reset_any cp _ _ _ HB.out).mono ?_; rintro r w1 ⟨rfl, hb1, hC⟩; have c0 := hb1.cell 0; have c1 := hb1.cell 1; have c2 := hb1.cell 2; have c3 := hb1.cell 3; have c4 := hb1.cell 4; have c5 := hb1.cell 5; simp only [List.getElem?_toArray, List.getElem?_cons_zero, List.getElem?_cons_succ] at c0 c1 c2 c3 c4 c5; have HB1 := Lib.hid hb1; have HC1 := Lib.hid hC; clear hb1 hC)
  have HD := Lib.hid (dn_start HI.out HB1.out HC1.out)
  have hnz : w1.heap.size ≠ cp := by have := HB1.out.lt; omega
  have hd2 := Blk.new w1 #[.int .i8 0, .pointer none, .pointer none, .nilIface] 68
  have e2 := hd2.cell 2
  have g2 := hd2.free 2
  have e0 := (HB1.out.alloc (.cells #[.int .i8 0, .pointer none, .pointer none, .nilIface] 68)).cell 0
  simp only [List.getElem?_toArray, List.getElem?_cons_zero, List.getElem?_cons_succ] at e2 e0
  obtain ⟨D, hDd⟩ : ∃ D, w1.heap.size = D := ⟨_, rfl⟩
  obtain ⟨W2, hW2⟩ : ∃ W, W = w1.alloc (.cells #[.int .i8 0, .pointer none, .pointer none, .nilIface] 68) := ⟨_, rfl⟩
  rw [hDd, ← hW2] at HD
  rw [← hW2, hDd] at e2 g2
  rw [← hW2] at e0
  rw [hDd] at hnz
  rw [← hW2, hDd]
  have HDd := Lib.hid hDd
  clear hW2 hd2 c0 c1 c2 c3 c4 c5 hDd
  go_region
  obtain ⟨W3, hW3⟩ : ∃ W, W = (W2.setCell ⟨D, 2, none⟩ (.pointer (some ⟨r0, 0, none⟩))).drew := ⟨_, rfl⟩
  rw [← hW3] at HD ⊢
  have e3 := HD.out.dm.cell 2
  simp only [List.getElem?_toArray, List.getElem?_cons_zero, List.getElem?_cons_succ] at e3
  clear hW3 e2 g2 e0
  go_step
  go_wp2_with fail
  go_quiet (fail)
  obtain ⟨W4, hW4⟩ : ∃ W, W = W3.drewN nq := ⟨_, rfl⟩
  have HD4 : Hid (Dn w cp D r0 n [] (.node r0 b0 tl tr k0 v0) W4) := Lib.hid (by rw [hW4]; exact ⟨HD.out.ow, HD.out.dm, HD.out.rep.keep ((Ch.refl S0 W3).drewN nq) (fun _ _ h => h), HD.out.nd, HD.out.cpo, HD.out.dmo, HD.out.cpd, HD.out.tp, HD.out.new, HD.out.newP, HD.out.newD, HD.out.old, HD.out.ch.drewN nq⟩)
  rw [← hW4]
  clear hW4 HD e3
  go_step
  go_wp2_with fail
  go_loopg [6, 7, 11] (T.node r0 b0 tl tr k0 v0).size (fun kx v6 v7 v11 wr => L1 w cp D r0 n (.node r0 b0 tl tr k0 v0) key kx v6 v7 v11 wr)
  case atStart => exact ⟨[], [], r0, b0, tl, tr, k0, v0, rfl, rfl, rfl, rfl, HD4.out, ⟨rfl, HI.out.avl, fun f hf => (by cases hf)⟩, Or.inr rfl⟩
  case round =>
    obtain ⟨fs1, fs2, a, b, l, r, kk, vv, rfl, rfl, rfl, hk, hD, hP, hZ⟩ := hrel
    have HD := Lib.hid hD
    have HP := Lib.hid hP
    have HZ := Lib.hid hZ
    have HK := Lib.hid hk
    clear hD hP hZ hk HD4
    obtain ⟨z0, z1, z2, z3⟩ := HD.out.frs
    have c0 := z1.cell 0
    have c3 := z1.cell 3
    have f3 := z1.free 3
    clear z0 z1 z2 z3
    simp only [ncell, en, List.getElem?_toArray, List.getElem?_cons_zero, List.getElem?_cons_succ] at c0 c3
    rcases Int.lt_trichotomy kk key with hlt | heq | hgt
    · have HO : Hid (ord kk key = -1) := Lib.hid (ord_lt hlt)
      have HLt := Lib.hid hlt
      clear hlt
      cases r with
      | node ac bc lc rc kc vc =>
        have HSz : Hid ((T.node ac bc lc rc kc vc).size < (T.node a b l (T.node ac bc lc rc kc vc) kk vv).size) := Lib.hid (by simp only [T.size]; omega)
        by_cases hb0 : bc = 0
        · subst hb0
          go_wp2_with (first | (change Calls Try.prog 61 #[.agg #[.int .i64 kk, .int .i64 vv], en key val] _ _; refine (compare_to kk vv key val (-1) HO.out _).mono ?_; rintro r5 w5 ⟨rfl, hC⟩; have HD5 := Lib.hid (HD.out.keep0 hC); have z1 := HD5.out.frs.2.1; have q1 := z1.cell 1; have q2 := z1.cell 2; simp only [ncell, en, T.adr, ad, Option.map_none, Option.map_some, List.getElem?_toArray, List.getElem?_cons_zero, List.getElem?_cons_succ] at q1 q2; have HZ1 := Lib.hid z1; have HC5 := Lib.hid hC; clear hC z1) | (go_at_call 35; refine (norm_m _).mono ?_; rintro rz wz ⟨rfl, e⟩; rw [e]; clear e) | (go_at_call 32; refine (copy_any ac _ lc.adr rc.adr kc vc _ HD5.out.frs.2.2.2.1).mono ?_; rintro r6 w6 ⟨rfl, hn, hC⟩; obtain ⟨Q, hQ⟩ : ∃ Q, w5.heap.size = Q := ⟨_, rfl⟩; have h7 := HD5.out.goR hn hC; have hz := HZ1.out.keep hC (fun h => h); have q3 := hz.cell 2; have g3 := hz.free 2; have hnz := q_ne (Blk.lt HZ1.out) hQ; have hn2 := hn; rw [hQ] at h7 hn2 ⊢; have hn3 := hn2.setOther (p := ⟨a, 2, none⟩) hnz (.pointer (some ⟨Q, 0, none⟩)); have q4 := hn3.cell 0; simp only [ncell, en, T.adr, ad, Option.map_none, Option.map_some, List.getElem?_toArray, List.getElem?_cons_zero, List.getElem?_cons_succ] at q3 q4; have HD7 := Lib.hid h7; have HQ := Lib.hid hQ; clear h7 hz hnz hn hn2 hn3 hC hQ))
          go_roundg (T.node Q 0 lc rc kc vc).size
          case rel => exact ⟨fs1, fs2 ++ [(⟨a, b, true, l, kk, vv⟩ : Fr)], Q, 0, lc, rc, kc, vc, rfl, by rw [hdA_snoc], rfl, rfl, by rw [← List.append_assoc]; exact HD7.out, pl_goR HP.out HLt.out (List.append_assoc _ _ _), zr_zero HZ.out⟩
          case measure => have := HSz.out; have := HK.out; simp only [T.size] at *; omega
        · have hb1 : ¬ (bc : Int) = 0 := hb0
          go_wp2_with (first | (change Calls Try.prog 61 #[.agg #[.int .i64 kk, .int .i64 vv], en key val] _ _; refine (compare_to kk vv key val (-1) HO.out _).mono ?_; rintro r5 w5 ⟨rfl, hC⟩; have HD5 := Lib.hid (HD.out.keep0 hC); have z1 := HD5.out.frs.2.1; have q1 := z1.cell 1; have q2 := z1.cell 2; simp only [ncell, en, T.adr, ad, Option.map_none, Option.map_some, List.getElem?_toArray, List.getElem?_cons_zero, List.getElem?_cons_succ] at q1 q2; have HZ1 := Lib.hid z1; have HC5 := Lib.hid hC; clear hC z1) | (go_at_call 35; refine (norm_m _).mono ?_; rintro rz wz ⟨rfl, e⟩; rw [e]; clear e) | (go_at_call 32; refine (copy_any ac _ lc.adr rc.adr kc vc _ HD5.out.frs.2.2.2.1).mono ?_; rintro r6 w6 ⟨rfl, hn, hC⟩; obtain ⟨Q, hQ⟩ : ∃ Q, w5.heap.size = Q := ⟨_, rfl⟩; have h7 := HD5.out.goR hn hC; have hz := HZ1.out.keep hC (fun h => h); have q3 := hz.cell 2; have g3 := hz.free 2; have hnz := q_ne (Blk.lt HZ1.out) hQ; have hn2 := hn; rw [hQ] at h7 hn2 ⊢; have hn3 := hn2.setOther (p := ⟨a, 2, none⟩) hnz (.pointer (some ⟨Q, 0, none⟩)); have q4 := hn3.cell 0; simp only [ncell, en, T.adr, ad, Option.map_none, Option.map_some, List.getElem?_toArray, List.getElem?_cons_zero, List.getElem?_cons_succ] at q3 q4; have HD7 := Lib.hid h7; have HQ := Lib.hid hQ; clear h7 hz hnz hn hn2 hn3 hC hQ))
          go_roundg (T.node Q bc lc rc kc vc).size
          case rel => exact ⟨(fs1 ++ fs2) ++ [(⟨a, b, true, l, kk, vv⟩ : Fr)], [], Q, bc, lc, rc, kc, vc, rfl, rfl, by rw [lastA_snoc], rfl, by rw [List.append_nil]; exact HD7.out, by rw [List.append_nil]; exact pl_goR HP.out HLt.out rfl, Or.inl hb0⟩
          case measure => have := HSz.out; have := HK.out; simp only [T.size] at *; omega
      | nil =>
        obtain ⟨s, gs, hsg, hsa, hs1, hs2⟩ := zr_path HZ.out a true l kk vv
        have HSg := Lib.hid hsg
        have HS1 := Lib.hid hs1
        have HS2 := Lib.hid hs2
        rw [hsa]
        clear hsg hs1 hs2
        have hn1 : (n : Int) + 1 ≤ 100000 := by omega
        have hn0 : (0 : Int) ≤ (n : Nat) := by omega
        go_wp2_with (first | (change Calls Try.prog 61 #[.agg #[.int .i64 kk, .int .i64 vv], en key val] _ _; refine (compare_to kk vv key val (-1) HO.out _).mono ?_; rintro r5 w5 ⟨rfl, hC⟩; have h5 := HD.out.keep0 hC; have z1 := h5.frs.2.1; have q1 := z1.cell 1; have q2 := z1.cell 2; have q3 := h5.ow.cell 1; have g3 := h5.ow.free 1; simp only [ncell, en, T.adr, ad, Option.map_none, Option.map_some, List.getElem?_toArray, List.getElem?_cons_zero, List.getElem?_cons_succ] at q1 q2 q3; have HD6 := Lib.hid (h5.openR rfl).more; clear hC h5 z1) | (go_at_call 35; refine (norm_m _).mono ?_; rintro rz wz ⟨rfl, e⟩; rw [e]; clear e) | (go_at_call 33; refine (new_any key val _).mono ?_; rintro r6 w6 ⟨rfl, hn, hC⟩; obtain ⟨Q, hQ⟩ : ∃ Q, (w5.setCell ⟨cp, 1, none⟩ (.int .u64 ((n : Int) + 1))).heap.size = Q := ⟨_, rfl⟩; have h7 := HD6.out.leaf hn hC; have hz := (HD6.out.keep0 hC).last; rw [hQ] at h7 ⊢; have q4 := hz.cell 2; have g4 := hz.free 2; simp only [Fr.cells, if_true, if_false, Bool.false_eq_true] at h7 q4; rw [List.append_assoc, HSg.out] at h7; have q5 := h7.dm.cell 2; have q6 := h7.ow.cell 0; have g6 := h7.ow.free 0; simp only [ncell, en, T.adr, ad, Option.map_none, Option.map_some, List.getElem?_toArray, List.getElem?_cons_zero, List.getElem?_cons_succ] at q4 q5 q6; have HD8 := Lib.hid h7.root; have HQ := Lib.hid hQ; clear h7 hz hn hC hQ HD6))
        obtain ⟨W8, hW8⟩ : ∃ W, W = (w6.setCell ⟨a, 2, none⟩ (.pointer (some ⟨Q, 0, none⟩))).setCell ⟨cp, 0, none⟩ (.pointer (some ⟨r0, 0, none⟩)) := ⟨_, rfl⟩
        rw [← hW8] at HD8
        rw [← hW8]
        have HP8 : Hid (Pl (.node r0 b0 tl tr k0 v0) key (fs1 ++ s :: gs) .nil) := Lib.hid (by rw [← HSg.out, ← List.append_assoc]; exact pl_openR HP.out HLt.out)
        clear hW8 q1 q2 q3 q4 q5 q6 g3 g4 g6 c0 c3 f3 HD HP HZ
        go_loopg [6] (s :: gs).length (fun ky v6 wr => L2 w cp D r0 (n + 1) Q key val fs1 (s :: gs) ky v6 wr)
        case atStart => exact ⟨[], s :: gs, rfl, rfl, rfl, HD8.out⟩
        case round =>
          obtain ⟨done, todo, hpath, rfl, hkx, hD⟩ := hrel
          have HD9 := Lib.hid hD
          have HPath := Lib.hid hpath
          have HKx := Lib.hid hkx
          clear hpath hkx hD HD8 HK
          cases todo with
          | cons g todo =>
            obtain ⟨ga, gb, gd, gsb, gk, gv⟩ := g
            have hgm : (⟨ga, gb, gd, gsb, gk, gv⟩ : Fr) ∈ fs1 ++ s :: gs := by rw [HPath.out]; simp
            obtain ⟨hw1, hw2⟩ := HP8.out.way _ hgm
            obtain ⟨hg1, hg2⟩ : -1 ≤ gb ∧ gb ≤ 1 := avl_mem HP8.out.avl hgm
            have hgb := HD9.out.mid
            have hqb := HD9.out.leafB
            have hne : ga ≠ Q := HD9.out.neQ
            have hpn := ptr_ne hgb hqb
            simp only [hne, decide_false, Bool.not_false] at hpn
            have k3 := hgb.cell 3
            simp only [topA]
            cases gd with
            | true =>
              have hlt : gk < key := by have h0 : true = decide (gk < key) := hw2; have h1 : gk ≠ key := hw1; simp at h0; omega
              have HO := Lib.hid (ord_lt hlt)
              have hwr := i8_up hg1 hg2
              simp only [Fr.cells, ncell, en, if_true, if_false, Bool.false_eq_true, List.getElem?_toArray, List.getElem?_cons_zero, List.getElem?_cons_succ] at k3
              clear hw1 hw2 hgm hgb hqb hne hg1 hg2 hlt
              go_wp2_with (first | (change Calls Try.prog 61 #[.agg #[.int .i64 gk, .int .i64 gv], en key val] _ _; refine (compare_to gk gv key val (-1) HO.out _).mono ?_; rintro r9 w9 ⟨rfl, hC⟩; have h9 := HD9.out.keep0 hC; have z9 := h9.mid; have n0 := z9.cell 0; have m0 := z9.free 0; have hU : Dn w cp D r0 (n + 1) (fs1 ++ (ups (done ++ [⟨ga, gb, true, gsb, gk, gv⟩]) ++ todo)) (leaf Q key val) (w9.setCell ⟨ga, 0, none⟩ (.int .i8 (gb + 1))) := h9.up2; have n2 := hU.nextR; simp only [Fr.cells, ncell, en, ad, if_true, if_false, Bool.false_eq_true, List.getElem?_toArray, List.getElem?_cons_zero, List.getElem?_cons_succ] at n0; have HU := Lib.hid hU; clear hU h9 z9 hC) | (go_at_call 35; refine (norm_m _).mono ?_; rintro rz wz ⟨rfl, e⟩; rw [e]; clear e))
              go_roundg todo.length
              case rel => exact ⟨done ++ [⟨ga, gb, true, gsb, gk, gv⟩], todo, by rw [HPath.out]; simp, rfl, rfl, HU.out⟩
              case measure => have := HKx.out; simp only [List.length_cons] at this; omega
            | false =>
              have hlt : key < gk := by have h0 : false = decide (gk < key) := hw2; have h1 : gk ≠ key := hw1; simp at h0; omega
              have HO := Lib.hid (ord_gt hlt)
              have hwr := i8_dn hg1 hg2
              simp only [Fr.cells, ncell, en, if_true, if_false, Bool.false_eq_true, List.getElem?_toArray, List.getElem?_cons_zero, List.getElem?_cons_succ] at k3
              clear hw1 hw2 hgm hgb hqb hne hg1 hg2 hlt
              go_wp2_with (first | (change Calls Try.prog 61 #[.agg #[.int .i64 gk, .int .i64 gv], en key val] _ _; refine (compare_to gk gv key val (1) HO.out _).mono ?_; rintro r9 w9 ⟨rfl, hC⟩; have h9 := HD9.out.keep0 hC; have z9 := h9.mid; have n0 := z9.cell 0; have m0 := z9.free 0; have hU : Dn w cp D r0 (n + 1) (fs1 ++ (ups (done ++ [⟨ga, gb, false, gsb, gk, gv⟩]) ++ todo)) (leaf Q key val) (w9.setCell ⟨ga, 0, none⟩ (.int .i8 (gb - 1))) := h9.up2; have n2 := hU.nextL; simp only [Fr.cells, ncell, en, ad, if_true, if_false, Bool.false_eq_true, List.getElem?_toArray, List.getElem?_cons_zero, List.getElem?_cons_succ] at n0; have HU := Lib.hid hU; clear hU h9 z9 hC) | (go_at_call 35; refine (norm_p _).mono ?_; rintro rz wz ⟨rfl, e⟩; rw [e]; clear e))
              go_roundg todo.length
              case rel => exact ⟨done ++ [⟨ga, gb, false, gsb, gk, gv⟩], todo, by rw [HPath.out]; simp, rfl, rfl, HU.out⟩
              case measure => have := HKx.out; simp only [List.length_cons] at this; omega
          | nil =>
            have hpath := HPath.out
            rw [List.append_nil] at hpath
            subst hpath
            have hqb := HD9.out.leafB
            have hpn := ptr_ne hqb hqb
            simp only [decide_true, Bool.not_true] at hpn
            simp only [topA]
            have HHA : Hid ((s.fill (zip gs .nil)).Avl) := Lib.hid (zip_sub (by have := HP8.out.avl; rw [zip_app] at this; exact this))
            obtain ⟨hsb1, hsb2⟩ : -1 ≤ s.b ∧ s.b ≤ 1 := avl_mem HP8.out.avl (by simp)
            obtain ⟨hb0, hb3⟩ := HD9.out.balS
            have hfar := far_heavy hsb1 hsb2
            obtain ⟨dd, hdd⟩ : ∃ dd, s.up.b = dd := ⟨_, rfl⟩
            obtain ⟨hv, hhv⟩ : ∃ hv, heavy s = hv := ⟨_, rfl⟩
            rw [hdd, hhv] at hfar
            rw [hdd] at hb0
            have HHv := Lib.hid hhv
            have hsm : s ∈ fs1 ++ s :: gs := by simp
            have HWs := Lib.hid (HP8.out.way s hsm)
            obtain ⟨f1, f2, f3, f4, f5⟩ := fin_facts (val := val) Q HP8.out HI.out.ord HS1.out HS2.out HN.out
            have F1 := Lib.hid f1
            have F2 := Lib.hid f2
            have F3 := Lib.hid f3
            have F4 := Lib.hid f4
            have F5 := Lib.hid f5
            simp only [en] at hb3
            clear hsm hsb1 hsb2 hdd hhv hqb f1 f2 f3 f4 f5
            go_upto_if 180 with (go_at_call 36; refine (abs_any _ _).mono ?_; rintro rz wz ⟨rfl, e⟩; rw [e]; clear e)
            go_cut [7] from 181 to 190 (fun v7 wx => ∃ x, v7 = .pointer (some ⟨x, 0, none⟩) ∧ (fixed s gs Q key val).adr = some x ∧ Md w cp D r0 (n + 1) s.a fs1 (fixed s gs Q key val) wx)
            case first =>
              cases hv with
              | false =>
                go_wp2_with fail
                go_meet
                exact ⟨s.a, rfl, no_turn HD9.out HHv.out⟩
              | true =>
                cases hsd : s.d with
                | true =>
                  have hlt : s.k < key := by have h0 := HWs.out.2; have h1 := HWs.out.1; rw [hsd] at h0; simp at h0; omega
                  have HOs := Lib.hid (ord_lt hlt)
                  have HTt : Hid (∀ wz, Dn w cp D r0 (n + 1) (fs1 ++ (ups (s :: gs) ++ [])) (leaf Q key val) wz → Calls Try.prog 37 #[.pointer (some ⟨s.a, 0, none⟩), .int .i64 1] wz fun r w' => ∃ x, r = .returned (.pointer (some ⟨x, 0, none⟩)) ∧ (fixed s gs Q key val).adr = some x ∧ Md w cp D r0 (n + 1) s.a fs1 (fixed s gs Q key val) w') := Lib.hid (fun wz hz => by
                    have := turn_to hz HHA.out HS2.out HHv.out
                    rw [hsd] at this
                    exact this)
                  clear hlt hsd
                  go_wp2_with (first | (change Calls Try.prog 61 #[.agg #[.int .i64 s.k, .int .i64 s.v], en key val] _ _; refine (compare_to s.k s.v key val (-1) HOs.out _).mono ?_; rintro r9 w9 ⟨rfl, hC⟩; have HD10 := Lib.hid (HD9.out.keep0 hC); clear hC) | (go_at_call 35; refine (norm_m _).mono ?_; rintro rz wz ⟨rfl, e⟩; rw [e]; clear e) | (go_at_call 37; refine (HTt.out _ HD10.out).mono ?_; rintro rq wq ⟨x, rfl, hx, hM⟩; have HX := Lib.hid hx; have HM := Lib.hid hM; clear hx hM))
                  go_meet
                  exact ⟨x, rfl, HX.out, HM.out⟩
                | false =>
                  have hlt : key < s.k := by have h0 := HWs.out.2; have h1 := HWs.out.1; rw [hsd] at h0; simp at h0; omega
                  have HOs := Lib.hid (ord_gt hlt)
                  have HTt : Hid (∀ wz, Dn w cp D r0 (n + 1) (fs1 ++ (ups (s :: gs) ++ [])) (leaf Q key val) wz → Calls Try.prog 37 #[.pointer (some ⟨s.a, 0, none⟩), .int .i64 0] wz fun r w' => ∃ x, r = .returned (.pointer (some ⟨x, 0, none⟩)) ∧ (fixed s gs Q key val).adr = some x ∧ Md w cp D r0 (n + 1) s.a fs1 (fixed s gs Q key val) w') := Lib.hid (fun wz hz => by
                    have := turn_to hz HHA.out HS2.out HHv.out
                    rw [hsd] at this
                    exact this)
                  clear hlt hsd
                  go_wp2_with (first | (change Calls Try.prog 61 #[.agg #[.int .i64 s.k, .int .i64 s.v], en key val] _ _; refine (compare_to s.k s.v key val (1) HOs.out _).mono ?_; rintro r9 w9 ⟨rfl, hC⟩; have HD10 := Lib.hid (HD9.out.keep0 hC); clear hC) | (go_at_call 35; refine (norm_p _).mono ?_; rintro rz wz ⟨rfl, e⟩; rw [e]; clear e) | (go_at_call 37; refine (HTt.out _ HD10.out).mono ?_; rintro rq wq ⟨x, rfl, hx, hM⟩; have HX := Lib.hid hx; have HM := Lib.hid hM; clear hx hM))
                  go_meet
                  exact ⟨x, rfl, HX.out, HM.out⟩
            obtain ⟨x, rfl, hx, hM⟩ := hcut
            have HX := Lib.hid hx
            have HM := Lib.hid hM
            clear hx hM hb0 hb3 hfar hpn HHA
            rcases snoc_cases fs1 with rfl | ⟨F, h, rfl⟩
            · obtain ⟨hsr, cc, hcb⟩ := HM.out.atRoot
              subst hsr
              have hpe := ptr_eq hcb hcb
              simp only [decide_true] at hpe
              have e2 := HM.out.dm.cell 2
              have e0 := HM.out.ow.cell 0
              have g0 := HM.out.ow.free 0
              simp only [List.getElem?_toArray, List.getElem?_cons_zero, List.getElem?_cons_succ] at e2 e0
              clear hcb
              go_wp2_with fail
              go_ret
              exact end_root HI.out rfl HM.out HX.out F1.out F2.out F3.out F4.out F5.out hf
            · rw [lastA_snoc]
              obtain ⟨m1, ⟨c1, m2⟩, ⟨c2, m3⟩, m4, m5⟩ := HM.out.mid
              have hpe := ptr_eq m2 m3
              simp only [m4, decide_false] at hpe
              have e2 := HM.out.dm.cell 2
              simp only [List.getElem?_toArray, List.getElem?_cons_zero, List.getElem?_cons_succ] at e2
              have HM2 := Lib.hid (HM.out.keep0 ((Ch.refl S0 wc).drew))
              have d2 : Blk wc.drew s.a c1 := m2
              obtain ⟨ha, hb, hd, hs, hk, hv9⟩ := h
              have m0 := m1.free 2
              have m9 := m1.free 1
              have n1 := m1.cell 1
              have n2 := m1.cell 2
              cases hd with
              | true =>
                have hpe2 := ptr_eq d2 d2
                simp only [decide_true] at hpe2
                simp only [Fr.cells, ncell, ad, Option.map_some, if_true, List.getElem?_toArray, List.getElem?_cons_zero, List.getElem?_cons_succ] at n1 n2
                clear m1 m2 m3 m4 m5 d2 m9
                go_wp2_with fail
                go_region_law (go_simp; go_at_call 38; (with_reducible refine (ifb1 _).mono ?_); rintro rz wz ⟨rfl, e⟩; rw [e]; clear e)
                all_goals go_step
                all_goals go_wp2_with fail
                all_goals go_ret
                all_goals exact end_at HI.out rfl HM2.out HX.out F1.out F2.out F3.out F4.out F5.out hf
              | false =>
                have hpe2 := sib_eq d2 m5
                obtain ⟨p9, hp9⟩ : ∃ p, ad hs.adr = p := ⟨_, rfl⟩
                rw [show (Fr.mk ha hb false hs hk hv9).sib = hs from rfl, hp9] at hpe2
                simp only [Fr.cells, ncell, Bool.false_eq_true, if_false, List.getElem?_toArray, List.getElem?_cons_zero, List.getElem?_cons_succ] at n1 n2
                rw [hp9] at n2
                simp only [ad, Option.map_some] at n1
                clear m1 m2 m3 m4 m5 d2 m0 hp9
                go_wp2_with fail
                go_region_law (go_simp; go_at_call 38; (with_reducible refine (ifb0 _).mono ?_); rintro rz wz ⟨rfl, e⟩; rw [e]; clear e)
                all_goals go_step
                all_goals go_wp2_with fail
                all_goals go_ret
                all_goals exact end_at HI.out rfl HM2.out HX.out F1.out F2.out F3.out F4.out F5.out hf
    · subst heq
      have HO : Hid (ord kk kk = 0) := Lib.hid (ord_eq rfl)
      go_wp2_with (first | (change Calls Try.prog 61 #[.agg #[.int .i64 kk, .int .i64 vv], en kk val] _ _; refine (compare_to kk vv kk val (0) HO.out _).mono ?_; rintro r5 w5 ⟨rfl, hC⟩; have h5 := HD.out.keep0 hC; have z1 := h5.frs.2.1; have q3 := z1.cell 3; have g3 := z1.free 3; simp only [ncell, en, T.adr, ad, Option.map_none, Option.map_some, List.getElem?_toArray, List.getElem?_cons_zero, List.getElem?_cons_succ] at q3; have HD5 := Lib.hid h5; clear hC h5 z1) | (go_at_call 35; refine (norm_z _).mono ?_; rintro rz wz ⟨rfl, e⟩; rw [e]; clear e))
      go_ret
      exact over_end HI.out HN.out HP.out HD5.out rfl
    · have HO : Hid (ord kk key = 1) := Lib.hid (ord_gt hgt)
      have HLt := Lib.hid hgt
      clear hgt
      cases l with
      | node ac bc lc rc kc vc =>
        have HSz : Hid ((T.node ac bc lc rc kc vc).size < (T.node a b (T.node ac bc lc rc kc vc) r kk vv).size) := Lib.hid (by simp only [T.size]; omega)
        by_cases hb0 : bc = 0
        · subst hb0
          go_wp2_with (first | (change Calls Try.prog 61 #[.agg #[.int .i64 kk, .int .i64 vv], en key val] _ _; refine (compare_to kk vv key val (1) HO.out _).mono ?_; rintro r5 w5 ⟨rfl, hC⟩; have HD5 := Lib.hid (HD.out.keep0 hC); have z1 := HD5.out.frs.2.1; have q1 := z1.cell 1; have q2 := z1.cell 2; simp only [ncell, en, T.adr, ad, Option.map_none, Option.map_some, List.getElem?_toArray, List.getElem?_cons_zero, List.getElem?_cons_succ] at q1 q2; have HZ1 := Lib.hid z1; have HC5 := Lib.hid hC; clear hC z1) | (go_at_call 35; refine (norm_p _).mono ?_; rintro rz wz ⟨rfl, e⟩; rw [e]; clear e) | (go_at_call 32; refine (copy_any ac _ lc.adr rc.adr kc vc _ HD5.out.frs.2.2.1.1).mono ?_; rintro r6 w6 ⟨rfl, hn, hC⟩; obtain ⟨Q, hQ⟩ : ∃ Q, w5.heap.size = Q := ⟨_, rfl⟩; have h7 := HD5.out.goL hn hC; have hz := HZ1.out.keep hC (fun h => h); have q3 := hz.cell 1; have g3 := hz.free 1; have hnz := q_ne (Blk.lt HZ1.out) hQ; have hn2 := hn; rw [hQ] at h7 hn2 ⊢; have hn3 := hn2.setOther (p := ⟨a, 1, none⟩) hnz (.pointer (some ⟨Q, 0, none⟩)); have q4 := hn3.cell 0; simp only [ncell, en, T.adr, ad, Option.map_none, Option.map_some, List.getElem?_toArray, List.getElem?_cons_zero, List.getElem?_cons_succ] at q3 q4; have HD7 := Lib.hid h7; have HQ := Lib.hid hQ; clear h7 hz hnz hn hn2 hn3 hC hQ))
          go_roundg (T.node Q 0 lc rc kc vc).size
          case rel => exact ⟨fs1, fs2 ++ [(⟨a, b, false, r, kk, vv⟩ : Fr)], Q, 0, lc, rc, kc, vc, rfl, by rw [hdA_snoc], rfl, rfl, by rw [← List.append_assoc]; exact HD7.out, pl_goL HP.out HLt.out (List.append_assoc _ _ _), zr_zero HZ.out⟩
          case measure => have := HSz.out; have := HK.out; simp only [T.size] at *; omega
        · have hb1 : ¬ (bc : Int) = 0 := hb0
          go_wp2_with (first | (change Calls Try.prog 61 #[.agg #[.int .i64 kk, .int .i64 vv], en key val] _ _; refine (compare_to kk vv key val (1) HO.out _).mono ?_; rintro r5 w5 ⟨rfl, hC⟩; have HD5 := Lib.hid (HD.out.keep0 hC); have z1 := HD5.out.frs.2.1; have q1 := z1.cell 1; have q2 := z1.cell 2; simp only [ncell, en, T.adr, ad, Option.map_none, Option.map_some, List.getElem?_toArray, List.getElem?_cons_zero, List.getElem?_cons_succ] at q1 q2; have HZ1 := Lib.hid z1; have HC5 := Lib.hid hC; clear hC z1) | (go_at_call 35; refine (norm_p _).mono ?_; rintro rz wz ⟨rfl, e⟩; rw [e]; clear e) | (go_at_call 32; refine (copy_any ac _ lc.adr rc.adr kc vc _ HD5.out.frs.2.2.1.1).mono ?_; rintro r6 w6 ⟨rfl, hn, hC⟩; obtain ⟨Q, hQ⟩ : ∃ Q, w5.heap.size = Q := ⟨_, rfl⟩; have h7 := HD5.out.goL hn hC; have hz := HZ1.out.keep hC (fun h => h); have q3 := hz.cell 1; have g3 := hz.free 1; have hnz := q_ne (Blk.lt HZ1.out) hQ; have hn2 := hn; rw [hQ] at h7 hn2 ⊢; have hn3 := hn2.setOther (p := ⟨a, 1, none⟩) hnz (.pointer (some ⟨Q, 0, none⟩)); have q4 := hn3.cell 0; simp only [ncell, en, T.adr, ad, Option.map_none, Option.map_some, List.getElem?_toArray, List.getElem?_cons_zero, List.getElem?_cons_succ] at q3 q4; have HD7 := Lib.hid h7; have HQ := Lib.hid hQ; clear h7 hz hnz hn hn2 hn3 hC hQ))
          go_roundg (T.node Q bc lc rc kc vc).size
          case rel => exact ⟨(fs1 ++ fs2) ++ [(⟨a, b, false, r, kk, vv⟩ : Fr)], [], Q, bc, lc, rc, kc, vc, rfl, rfl, by rw [lastA_snoc], rfl, by rw [List.append_nil]; exact HD7.out, by rw [List.append_nil]; exact pl_goL HP.out HLt.out rfl, Or.inl hb0⟩
          case measure => have := HSz.out; have := HK.out; simp only [T.size] at *; omega
      | nil =>
        obtain ⟨s, gs, hsg, hsa, hs1, hs2⟩ := zr_path HZ.out a false r kk vv
        have HSg := Lib.hid hsg
        have HS1 := Lib.hid hs1
        have HS2 := Lib.hid hs2
        rw [hsa]
        clear hsg hs1 hs2
        have hn1 : (n : Int) + 1 ≤ 100000 := by omega
        have hn0 : (0 : Int) ≤ (n : Nat) := by omega
        go_wp2_with (first | (change Calls Try.prog 61 #[.agg #[.int .i64 kk, .int .i64 vv], en key val] _ _; refine (compare_to kk vv key val (1) HO.out _).mono ?_; rintro r5 w5 ⟨rfl, hC⟩; have h5 := HD.out.keep0 hC; have z1 := h5.frs.2.1; have q1 := z1.cell 1; have q2 := z1.cell 2; have q3 := h5.ow.cell 1; have g3 := h5.ow.free 1; simp only [ncell, en, T.adr, ad, Option.map_none, Option.map_some, List.getElem?_toArray, List.getElem?_cons_zero, List.getElem?_cons_succ] at q1 q2 q3; have HD6 := Lib.hid (h5.openL rfl).more; clear hC h5 z1) | (go_at_call 35; refine (norm_p _).mono ?_; rintro rz wz ⟨rfl, e⟩; rw [e]; clear e) | (go_at_call 33; refine (new_any key val _).mono ?_; rintro r6 w6 ⟨rfl, hn, hC⟩; obtain ⟨Q, hQ⟩ : ∃ Q, (w5.setCell ⟨cp, 1, none⟩ (.int .u64 ((n : Int) + 1))).heap.size = Q := ⟨_, rfl⟩; have h7 := HD6.out.leaf hn hC; have hz := (HD6.out.keep0 hC).last; rw [hQ] at h7 ⊢; have q4 := hz.cell 1; have g4 := hz.free 1; simp only [Fr.cells, if_true, if_false, Bool.false_eq_true] at h7 q4; rw [List.append_assoc, HSg.out] at h7; have q5 := h7.dm.cell 2; have q6 := h7.ow.cell 0; have g6 := h7.ow.free 0; simp only [ncell, en, T.adr, ad, Option.map_none, Option.map_some, List.getElem?_toArray, List.getElem?_cons_zero, List.getElem?_cons_succ] at q4 q5 q6; have HD8 := Lib.hid h7.root; have HQ := Lib.hid hQ; clear h7 hz hn hC hQ HD6))
        obtain ⟨W8, hW8⟩ : ∃ W, W = (w6.setCell ⟨a, 1, none⟩ (.pointer (some ⟨Q, 0, none⟩))).setCell ⟨cp, 0, none⟩ (.pointer (some ⟨r0, 0, none⟩)) := ⟨_, rfl⟩
        rw [← hW8] at HD8
        rw [← hW8]
        have HP8 : Hid (Pl (.node r0 b0 tl tr k0 v0) key (fs1 ++ s :: gs) .nil) := Lib.hid (by rw [← HSg.out, ← List.append_assoc]; exact pl_openL HP.out HLt.out)
        clear hW8 q1 q2 q3 q4 q5 q6 g3 g4 g6 c0 c3 f3 HD HP HZ
        go_loopg [6] (s :: gs).length (fun ky v6 wr => L2 w cp D r0 (n + 1) Q key val fs1 (s :: gs) ky v6 wr)
        case atStart => exact ⟨[], s :: gs, rfl, rfl, rfl, HD8.out⟩
        case round =>
          obtain ⟨done, todo, hpath, rfl, hkx, hD⟩ := hrel
          have HD9 := Lib.hid hD
          have HPath := Lib.hid hpath
          have HKx := Lib.hid hkx
          clear hpath hkx hD HD8 HK
          cases todo with
          | cons g todo =>
            obtain ⟨ga, gb, gd, gsb, gk, gv⟩ := g
            have hgm : (⟨ga, gb, gd, gsb, gk, gv⟩ : Fr) ∈ fs1 ++ s :: gs := by rw [HPath.out]; simp
            obtain ⟨hw1, hw2⟩ := HP8.out.way _ hgm
            obtain ⟨hg1, hg2⟩ : -1 ≤ gb ∧ gb ≤ 1 := avl_mem HP8.out.avl hgm
            have hgb := HD9.out.mid
            have hqb := HD9.out.leafB
            have hne : ga ≠ Q := HD9.out.neQ
            have hpn := ptr_ne hgb hqb
            simp only [hne, decide_false, Bool.not_false] at hpn
            have k3 := hgb.cell 3
            simp only [topA]
            cases gd with
            | true =>
              have hlt : gk < key := by have h0 : true = decide (gk < key) := hw2; have h1 : gk ≠ key := hw1; simp at h0; omega
              have HO := Lib.hid (ord_lt hlt)
              have hwr := i8_up hg1 hg2
              simp only [Fr.cells, ncell, en, if_true, if_false, Bool.false_eq_true, List.getElem?_toArray, List.getElem?_cons_zero, List.getElem?_cons_succ] at k3
              clear hw1 hw2 hgm hgb hqb hne hg1 hg2 hlt
              go_wp2_with (first | (change Calls Try.prog 61 #[.agg #[.int .i64 gk, .int .i64 gv], en key val] _ _; refine (compare_to gk gv key val (-1) HO.out _).mono ?_; rintro r9 w9 ⟨rfl, hC⟩; have h9 := HD9.out.keep0 hC; have z9 := h9.mid; have n0 := z9.cell 0; have m0 := z9.free 0; have hU : Dn w cp D r0 (n + 1) (fs1 ++ (ups (done ++ [⟨ga, gb, true, gsb, gk, gv⟩]) ++ todo)) (leaf Q key val) (w9.setCell ⟨ga, 0, none⟩ (.int .i8 (gb + 1))) := h9.up2; have n2 := hU.nextR; simp only [Fr.cells, ncell, en, ad, if_true, if_false, Bool.false_eq_true, List.getElem?_toArray, List.getElem?_cons_zero, List.getElem?_cons_succ] at n0; have HU := Lib.hid hU; clear hU h9 z9 hC) | (go_at_call 35; refine (norm_m _).mono ?_; rintro rz wz ⟨rfl, e⟩; rw [e]; clear e))
              go_roundg todo.length
              case rel => exact ⟨done ++ [⟨ga, gb, true, gsb, gk, gv⟩], todo, by rw [HPath.out]; simp, rfl, rfl, HU.out⟩
              case measure => have := HKx.out; simp only [List.length_cons] at this; omega
            | false =>
              have hlt : key < gk := by have h0 : false = decide (gk < key) := hw2; have h1 : gk ≠ key := hw1; simp at h0; omega
              have HO := Lib.hid (ord_gt hlt)
              have hwr := i8_dn hg1 hg2
              simp only [Fr.cells, ncell, en, if_true, if_false, Bool.false_eq_true, List.getElem?_toArray, List.getElem?_cons_zero, List.getElem?_cons_succ] at k3
              clear hw1 hw2 hgm hgb hqb hne hg1 hg2 hlt
              go_wp2_with (first | (change Calls Try.prog 61 #[.agg #[.int .i64 gk, .int .i64 gv], en key val] _ _; refine (compare_to gk gv key val (1) HO.out _).mono ?_; rintro r9 w9 ⟨rfl, hC⟩; have h9 := HD9.out.keep0 hC; have z9 := h9.mid; have n0 := z9.cell 0; have m0 := z9.free 0; have hU : Dn w cp D r0 (n + 1) (fs1 ++ (ups (done ++ [⟨ga, gb, false, gsb, gk, gv⟩]) ++ todo)) (leaf Q key val) (w9.setCell ⟨ga, 0, none⟩ (.int .i8 (gb - 1))) := h9.up2; have n2 := hU.nextL; simp only [Fr.cells, ncell, en, ad, if_true, if_false, Bool.false_eq_true, List.getElem?_toArray, List.getElem?_cons_zero, List.getElem?_cons_succ] at n0; have HU := Lib.hid hU; clear hU h9 z9 hC) | (go_at_call 35; refine (norm_p _).mono ?_; rintro rz wz ⟨rfl, e⟩; rw [e]; clear e))
              go_roundg todo.length
              case rel => exact ⟨done ++ [⟨ga, gb, false, gsb, gk, gv⟩], todo, by rw [HPath.out]; simp, rfl, rfl, HU.out⟩
              case measure => have := HKx.out; simp only [List.length_cons] at this; omega
          | nil =>
            have hpath := HPath.out
            rw [List.append_nil] at hpath
            subst hpath
            have hqb := HD9.out.leafB
            have hpn := ptr_ne hqb hqb
            simp only [decide_true, Bool.not_true] at hpn
            simp only [topA]
            have HHA : Hid ((s.fill (zip gs .nil)).Avl) := Lib.hid (zip_sub (by have := HP8.out.avl; rw [zip_app] at this; exact this))
            obtain ⟨hsb1, hsb2⟩ : -1 ≤ s.b ∧ s.b ≤ 1 := avl_mem HP8.out.avl (by simp)
            obtain ⟨hb0, hb3⟩ := HD9.out.balS
            have hfar := far_heavy hsb1 hsb2
            obtain ⟨dd, hdd⟩ : ∃ dd, s.up.b = dd := ⟨_, rfl⟩
            obtain ⟨hv, hhv⟩ : ∃ hv, heavy s = hv := ⟨_, rfl⟩
            rw [hdd, hhv] at hfar
            rw [hdd] at hb0
            have HHv := Lib.hid hhv
            have hsm : s ∈ fs1 ++ s :: gs := by simp
            have HWs := Lib.hid (HP8.out.way s hsm)
            obtain ⟨f1, f2, f3, f4, f5⟩ := fin_facts (val := val) Q HP8.out HI.out.ord HS1.out HS2.out HN.out
            have F1 := Lib.hid f1
            have F2 := Lib.hid f2
            have F3 := Lib.hid f3
            have F4 := Lib.hid f4
            have F5 := Lib.hid f5
            simp only [en] at hb3
            clear hsm hsb1 hsb2 hdd hhv hqb f1 f2 f3 f4 f5
            go_upto_if 180 with (go_at_call 36; refine (abs_any _ _).mono ?_; rintro rz wz ⟨rfl, e⟩; rw [e]; clear e)
            go_cut [7] from 181 to 190 (fun v7 wx => ∃ x, v7 = .pointer (some ⟨x, 0, none⟩) ∧ (fixed s gs Q key val).adr = some x ∧ Md w cp D r0 (n + 1) s.a fs1 (fixed s gs Q key val) wx)
            case first =>
              cases hv with
              | false =>
                go_wp2_with fail
                go_meet
                exact ⟨s.a, rfl, no_turn HD9.out HHv.out⟩
              | true =>
                cases hsd : s.d with
                | true =>
                  have hlt : s.k < key := by have h0 := HWs.out.2; have h1 := HWs.out.1; rw [hsd] at h0; simp at h0; omega
                  have HOs := Lib.hid (ord_lt hlt)
                  have HTt : Hid (∀ wz, Dn w cp D r0 (n + 1) (fs1 ++ (ups (s :: gs) ++ [])) (leaf Q key val) wz → Calls Try.prog 37 #[.pointer (some ⟨s.a, 0, none⟩), .int .i64 1] wz fun r w' => ∃ x, r = .returned (.pointer (some ⟨x, 0, none⟩)) ∧ (fixed s gs Q key val).adr = some x ∧ Md w cp D r0 (n + 1) s.a fs1 (fixed s gs Q key val) w') := Lib.hid (fun wz hz => by
                    have := turn_to hz HHA.out HS2.out HHv.out
                    rw [hsd] at this
                    exact this)
                  clear hlt hsd
                  go_wp2_with (first | (change Calls Try.prog 61 #[.agg #[.int .i64 s.k, .int .i64 s.v], en key val] _ _; refine (compare_to s.k s.v key val (-1) HOs.out _).mono ?_; rintro r9 w9 ⟨rfl, hC⟩; have HD10 := Lib.hid (HD9.out.keep0 hC); clear hC) | (go_at_call 35; refine (norm_m _).mono ?_; rintro rz wz ⟨rfl, e⟩; rw [e]; clear e) | (go_at_call 37; refine (HTt.out _ HD10.out).mono ?_; rintro rq wq ⟨x, rfl, hx, hM⟩; have HX := Lib.hid hx; have HM := Lib.hid hM; clear hx hM))
                  go_meet
                  exact ⟨x, rfl, HX.out, HM.out⟩
                | false =>
                  have hlt : key < s.k := by have h0 := HWs.out.2; have h1 := HWs.out.1; rw [hsd] at h0; simp at h0; omega
                  have HOs := Lib.hid (ord_gt hlt)
                  have HTt : Hid (∀ wz, Dn w cp D r0 (n + 1) (fs1 ++ (ups (s :: gs) ++ [])) (leaf Q key val) wz → Calls Try.prog 37 #[.pointer (some ⟨s.a, 0, none⟩), .int .i64 0] wz fun r w' => ∃ x, r = .returned (.pointer (some ⟨x, 0, none⟩)) ∧ (fixed s gs Q key val).adr = some x ∧ Md w cp D r0 (n + 1) s.a fs1 (fixed s gs Q key val) w') := Lib.hid (fun wz hz => by
                    have := turn_to hz HHA.out HS2.out HHv.out
                    rw [hsd] at this
                    exact this)
                  clear hlt hsd
                  go_wp2_with (first | (change Calls Try.prog 61 #[.agg #[.int .i64 s.k, .int .i64 s.v], en key val] _ _; refine (compare_to s.k s.v key val (1) HOs.out _).mono ?_; rintro r9 w9 ⟨rfl, hC⟩; have HD10 := Lib.hid (HD9.out.keep0 hC); clear hC) | (go_at_call 35; refine (norm_p _).mono ?_; rintro rz wz ⟨rfl, e⟩; rw [e]; clear e) | (go_at_call 37; refine (HTt.out _ HD10.out).mono ?_; rintro rq wq ⟨x, rfl, hx, hM⟩; have HX := Lib.hid hx; have HM := Lib.hid hM; clear hx hM))
                  go_meet
                  exact ⟨x, rfl, HX.out, HM.out⟩
            obtain ⟨x, rfl, hx, hM⟩ := hcut
            have HX := Lib.hid hx
            have HM := Lib.hid hM
            clear hx hM hb0 hb3 hfar hpn HHA
            rcases snoc_cases fs1 with rfl | ⟨F, h, rfl⟩
            · obtain ⟨hsr, cc, hcb⟩ := HM.out.atRoot
              subst hsr
              have hpe := ptr_eq hcb hcb
              simp only [decide_true] at hpe
              have e2 := HM.out.dm.cell 2
              have e0 := HM.out.ow.cell 0
              have g0 := HM.out.ow.free 0
              simp only [List.getElem?_toArray, List.getElem?_cons_zero, List.getElem?_cons_succ] at e2 e0
              clear hcb
              go_wp2_with fail
              go_ret
              exact end_root HI.out rfl HM.out HX.out F1.out F2.out F3.out F4.out F5.out hf
            · rw [lastA_snoc]
              obtain ⟨m1, ⟨c1, m2⟩, ⟨c2, m3⟩, m4, m5⟩ := HM.out.mid
              have hpe := ptr_eq m2 m3
              simp only [m4, decide_false] at hpe
              have e2 := HM.out.dm.cell 2
              simp only [List.getElem?_toArray, List.getElem?_cons_zero, List.getElem?_cons_succ] at e2
              have HM2 := Lib.hid (HM.out.keep0 ((Ch.refl S0 wc).drew))
              have d2 : Blk wc.drew s.a c1 := m2
              obtain ⟨ha, hb, hd, hs, hk, hv9⟩ := h
              have m0 := m1.free 2
              have m9 := m1.free 1
              have n1 := m1.cell 1
              have n2 := m1.cell 2
              cases hd with
              | true =>
                have hpe2 := ptr_eq d2 d2
                simp only [decide_true] at hpe2
                simp only [Fr.cells, ncell, ad, Option.map_some, if_true, List.getElem?_toArray, List.getElem?_cons_zero, List.getElem?_cons_succ] at n1 n2
                clear m1 m2 m3 m4 m5 d2 m9
                go_wp2_with fail
                go_region_law (go_simp; go_at_call 38; (with_reducible refine (ifb1 _).mono ?_); rintro rz wz ⟨rfl, e⟩; rw [e]; clear e)
                all_goals go_step
                all_goals go_wp2_with fail
                all_goals go_ret
                all_goals exact end_at HI.out rfl HM2.out HX.out F1.out F2.out F3.out F4.out F5.out hf
              | false =>
                have hpe2 := sib_eq d2 m5
                obtain ⟨p9, hp9⟩ : ∃ p, ad hs.adr = p := ⟨_, rfl⟩
                rw [show (Fr.mk ha hb false hs hk hv9).sib = hs from rfl, hp9] at hpe2
                simp only [Fr.cells, ncell, Bool.false_eq_true, if_false, List.getElem?_toArray, List.getElem?_cons_zero, List.getElem?_cons_succ] at n1 n2
                rw [hp9] at n2
                simp only [ad, Option.map_some] at n1
                clear m1 m2 m3 m4 m5 d2 m0 hp9
                go_wp2_with fail
                go_region_law (go_simp; go_at_call 38; (with_reducible refine (ifb0 _).mono ?_); rintro rz wz ⟨rfl, e⟩; rw [e]; clear e)
                all_goals go_step
                all_goals go_wp2_with fail
                all_goals go_ret
                all_goals exact end_at HI.out rfl HM2.out HX.out F1.out F2.out F3.out F4.out F5.out hf
end Go.Proofs.Ytlppnbmaedgodaa
