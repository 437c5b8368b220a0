/- WALKS: a priority is decreased: a child comes among the roots. -/
import Derived.Test.YtbfcnimebdoagaaFE
namespace Go.Proofs.Ytbfcnimebdoagaa
open Go.RowKit
set_option linter.unusedVariables false
set_option linter.unusedSimpArgs false

/-- The world while one node is cut. -/
structure HM (w : World) (hb n : Nat) (N : List Nat) (s : FS) (mn : Nat) (wr : World) : Prop where
  mem : Mem wr N s
  blk : Blk wr hb #[op (some mn), .int .u64 n]
  ch : Ch (SH hb N) w wr
  nohb : ∀ a ∈ N, ¬ a = hb
theorem HM.drew {w : World} {hb n : Nat} {N : List Nat} {s : FS} {mn : Nat} {wr : World} (c : HM w hb n N s mn wr) : HM w hb n N s mn wr.drew := ⟨c.mem, c.blk, c.ch.drew, c.nohb⟩
theorem HM.drewN {w : World} {hb n : Nat} {N : List Nat} {s : FS} {mn : Nat} {wr : World} (c : HM w hb n N s mn wr) (k : Nat) : HM w hb n N s mn (wr.drewN k) := ⟨c.mem, c.blk, c.ch.drewN k, c.nohb⟩
theorem HM.step {w : World} {hb n : Nat} {N : List Nat} {s s2 : FS} {mn mn2 : Nat} {wr w2 : World} (c : HM w hb n N s mn wr) (hc : Ch (SH hb N) wr w2) (hM : Mem w2 N s2) (hB : Blk w2 hb #[op (some mn2), .int .u64 n]) : HM w hb n N s2 mn2 w2 := ⟨hM, hB, c.ch.trans hc, c.nohb⟩
theorem HM.n0 {w : World} {hb n : Nat} {N : List Nat} {s : FS} {mn : Nat} {wr : World} (c : HM w hb n N s mn wr) {x : Nat} (hx : x ∈ N) (v : Nat) : HM w hb n N { s with deg := upd s.deg x v } mn (wr.setCell ⟨x, 0, none⟩ (.int .i64 v)) :=
  c.step (Ch.setCell (p := ⟨x, 0, none⟩) (Ch.refl _ _) (fun _ => Or.inr hx) _) (c.mem.set0 x v) (c.blk.setOther (p := ⟨x, 0, none⟩) (c.nohb x hx) _)
theorem HM.n1 {w : World} {hb n : Nat} {N : List Nat} {s : FS} {mn : Nat} {wr : World} (c : HM w hb n N s mn wr) {x : Nat} (hx : x ∈ N) (v : Bool) : HM w hb n N { s with mr := upd s.mr x v } mn (wr.setCell ⟨x, 1, none⟩ (.bool v)) :=
  c.step (Ch.setCell (p := ⟨x, 1, none⟩) (Ch.refl _ _) (fun _ => Or.inr hx) _) (c.mem.set1 x v) (c.blk.setOther (p := ⟨x, 1, none⟩) (c.nohb x hx) _)
theorem HM.n2 {w : World} {hb n : Nat} {N : List Nat} {s : FS} {mn : Nat} {wr : World} (c : HM w hb n N s mn wr) {x : Nat} (hx : x ∈ N) (v : Nat) : HM w hb n N { s with nx := upd s.nx x v } mn (wr.setCell ⟨x, 2, none⟩ (.pointer (some ⟨v, 0, none⟩))) :=
  c.step (Ch.setCell (p := ⟨x, 2, none⟩) (Ch.refl _ _) (fun _ => Or.inr hx) _) (c.mem.set2 x v) (c.blk.setOther (p := ⟨x, 2, none⟩) (c.nohb x hx) _)
theorem HM.n3 {w : World} {hb n : Nat} {N : List Nat} {s : FS} {mn : Nat} {wr : World} (c : HM w hb n N s mn wr) {x : Nat} (hx : x ∈ N) (v : Nat) : HM w hb n N { s with pv := upd s.pv x v } mn (wr.setCell ⟨x, 3, none⟩ (.pointer (some ⟨v, 0, none⟩))) :=
  c.step (Ch.setCell (p := ⟨x, 3, none⟩) (Ch.refl _ _) (fun _ => Or.inr hx) _) (c.mem.set3 x v) (c.blk.setOther (p := ⟨x, 3, none⟩) (c.nohb x hx) _)
theorem HM.n4 {w : World} {hb n : Nat} {N : List Nat} {s : FS} {mn : Nat} {wr : World} (c : HM w hb n N s mn wr) {x : Nat} (hx : x ∈ N) (v : Option Nat) : HM w hb n N { s with ch := upd s.ch x v } mn (wr.setCell ⟨x, 4, none⟩ (op v)) :=
  c.step (Ch.setCell (p := ⟨x, 4, none⟩) (Ch.refl _ _) (fun _ => Or.inr hx) _) (c.mem.set4 x v) (c.blk.setOther (p := ⟨x, 4, none⟩) (c.nohb x hx) _)
theorem HM.n5 {w : World} {hb n : Nat} {N : List Nat} {s : FS} {mn : Nat} {wr : World} (c : HM w hb n N s mn wr) {x : Nat} (hx : x ∈ N) (v : Option Nat) : HM w hb n N { s with par := upd s.par x v } mn (wr.setCell ⟨x, 5, none⟩ (op v)) :=
  c.step (Ch.setCell (p := ⟨x, 5, none⟩) (Ch.refl _ _) (fun _ => Or.inr hx) _) (c.mem.set5 x v) (c.blk.setOther (p := ⟨x, 5, none⟩) (c.nohb x hx) _)
theorem HM.n6 {w : World} {hb n : Nat} {N : List Nat} {s : FS} {mn : Nat} {wr : World} (c : HM w hb n N s mn wr) {x : Nat} (hx : x ∈ N) (v : Int) : HM w hb n N { s with pr := upd s.pr x v } mn (wr.setCell ⟨x, 6, none⟩ (.float .f64 (floatOfInt .f64 v))) :=
  c.step (Ch.setCell (p := ⟨x, 6, none⟩) (Ch.refl _ _) (fun _ => Or.inr hx) _) (c.mem.set6 x v) (c.blk.setOther (p := ⟨x, 6, none⟩) (c.nohb x hx) _)
theorem HM.min {w : World} {hb n : Nat} {N : List Nat} {s : FS} {mn : Nat} {wr : World} (c : HM w hb n N s mn wr) (x : Nat) : HM w hb n N s x (wr.setCell ⟨hb, 0, none⟩ (.pointer (some ⟨x, 0, none⟩))) := by
  have b := c.blk.set 0 (.pointer (some ⟨x, 0, none⟩))
  simp only [List.setIfInBounds_toArray, List.set_cons_zero] at b
  exact c.step (Ch.setCell (p := ⟨hb, 0, none⟩) (Ch.refl _ _) (fun _ => Or.inl rfl) _) (c.mem.keep ((Ch.refl (S1 hb) wr).setCell ⟨hb, 0, none⟩ (fun _ => rfl) _) (fun a ha e => c.nohb a ha e)) b
/-- Up to the two rings' merge: x's mark, x out of its ring, y's child. -/
def cu1 (s : FS) (x : Nat) : FS := { s with mr := upd s.mr x false }
def cu2 (s : FS) (x : Nat) : FS := ust (cu1 s x) x
def cuch (s : FS) (x y : Nat) : Option Nat := if s.ch y = some x then (if s.nx x = x then none else some (s.nx x)) else s.ch y
def cu3 (s : FS) (x y : Nat) : FS := { cu2 s x with ch := upd s.ch y (cuch s x y) }
def cu4 (s : FS) (x y : Nat) : FS := { cu3 s x y with deg := upd s.deg y (s.deg y - 1) }
def cu5 (s : FS) (x y : Nat) : FS := { cu4 s x y with pv := upd (cu4 s x y).pv x x }
def cu6 (s : FS) (x y : Nat) : FS := { cu5 s x y with nx := upd (cu5 s x y).nx x x }
theorem cut_eq (s : FS) (x y m : Nat) : ({ ({ mst (cu6 s x y) (some m) (some x) with mr := upd (mst (cu6 s x y) (some m) (some x)).mr y true } : FS) with par := upd (mst (cu6 s x y) (some m) (some x)).par x none } : FS) = cutSt s x y (some m) := rfl
/-- The stores behind the merge of the rings. -/
def CAft (w : World) (hb n : Nat) (N : List Nat) (sl : FS) (x y q : Nat) (wy : World) : Prop :=
  (∃ o0, wy.cell? ⟨hb, 0, none⟩ = some (op o0)) ∧ wy.frozen? ⟨hb, 0, none⟩ = false ∧
  (wy.setCell ⟨hb, 0, none⟩ (.pointer (some ⟨q, 0, none⟩))).cell? ⟨x, 5, none⟩ = some (.pointer (some ⟨y, 0, none⟩)) ∧
  (wy.setCell ⟨hb, 0, none⟩ (.pointer (some ⟨q, 0, none⟩))).cell? ⟨y, 1, none⟩ = some (.bool false) ∧ (wy.setCell ⟨hb, 0, none⟩ (.pointer (some ⟨q, 0, none⟩))).frozen? ⟨y, 1, none⟩ = false ∧
  ((wy.setCell ⟨hb, 0, none⟩ (.pointer (some ⟨q, 0, none⟩))).setCell ⟨y, 1, none⟩ (.bool true)).cell? ⟨x, 5, none⟩ = some (.pointer (some ⟨y, 0, none⟩)) ∧ ((wy.setCell ⟨hb, 0, none⟩ (.pointer (some ⟨q, 0, none⟩))).setCell ⟨y, 1, none⟩ (.bool true)).frozen? ⟨x, 5, none⟩ = false ∧
  HM w hb n N sl q (((wy.setCell ⟨hb, 0, none⟩ (.pointer (some ⟨q, 0, none⟩))).setCell ⟨y, 1, none⟩ (.bool true)).setCell ⟨x, 5, none⟩ (.pointer none))
theorem HM.aft {w : World} {hb n : Nat} {N : List Nat} {s : FS} {x y m q : Nat} {wx wy : World} (c : HM w hb n N (cu6 s x y) m wx) (hx : x ∈ N) (hy : y ∈ N) (hxy : x ≠ y) (hpar : s.par x = some y) (hmy : s.mr y = false) (hM : Mem wy N (mst (cu6 s x y) (some m) (some x))) (hC : Ch (SN N) wx wy) : CAft w hb n N (cutSt s x y (some m)) x y q wy := by
  have P7 : HM w hb n N (mst (cu6 s x y) (some m) (some x)) m wy := c.step (hC.mono (fun _ _ h => Or.inr h)) hM (c.blk.keep hC (fun h => c.nohb hb h rfl))
  have P8 := P7.min q
  have P9 := P8.n1 hy true
  have P10 := P9.n5 hx none
  have e5 : ({ mst (cu6 s x y) (some m) (some x) with mr := upd (mst (cu6 s x y) (some m) (some x)).mr y true } : FS).par x = some y := by
    show (mst (cu6 s x y) (some m) (some x)).par x = some y
    rw [mst_par]; exact hpar
  have e1 : (mst (cu6 s x y) (some m) (some x)).mr y = false := by
    rw [mst_mr]
    show upd s.mr x false y = false
    rw [upd_ne _ _ (Ne.symm hxy)]; exact hmy
  refine ⟨⟨some m, P7.blk.cell 0⟩, P7.blk.free 0, ?_, ?_, P8.mem.free hy 1, ?_, P9.mem.free hx 5, ?_⟩
  · have := P8.mem.c5 hx
    rw [show (mst (cu6 s x y) (some m) (some x)).par x = some y from e5] at this
    exact this
  · have := P8.mem.c1 hy
    rw [e1] at this
    exact this
  · have := P9.mem.c5 hx
    rw [e5] at this
    exact this
  · rw [← cut_eq]; exact P10
theorem cu6_nx {N : List Nat} {s : FS} {x y c : Nat} (hx : x ∈ N) (hnx : s.nx x ∈ N) (hc : s.nx c ∈ N) : (cu6 s x y).nx c ∈ N := by
  show upd (upd s.nx (s.pv x) (s.nx x)) x x c ∈ N
  by_cases e : c = x
  · subst e; rw [upd_at]; exact hx
  · rw [upd_ne _ _ e]
    by_cases e2 : c = s.pv x
    · subst e2; rw [upd_at]; exact hnx
    · rw [upd_ne _ _ e2]; exact hc
set_option maxHeartbeats 4000000 in
set_option maxRecDepth 100000 in
theorem cut_any (hb n : Nat) (N : List Nat) (s : FS) (x y m q : Nat) (w : World) (f : HM w hb n N s m w) (hS : Sm N s) (hx : x ∈ N) (hy : y ∈ N) (hxy : x ≠ y) (hm : m ∈ N) (hmx : m ≠ x) (hpar : s.par x = some y) (hmy : s.mr y = false)
    (hnx : s.nx x ∈ N) (hpv : s.pv x ∈ N) (hinv : s.nx x = x → s.pv x = x) (hnm : s.nx m ∈ N) (hch : ∀ c, s.ch y = some c → c ∈ N) (hcy : s.ch y ≠ none) (hd : 0 < s.deg y ∧ s.deg y < 100000) (hq : mres s (some m) (some x) = some q) :
    Calls Try.prog 62 #[.pointer (some ⟨hb, 0, none⟩), .pointer (some ⟨x, 0, none⟩)] w fun r w' => r = .returned (.tuple #[]) ∧ HM w hb n N (cutSt s x y (some m)) q w' := by
  obtain ⟨c, hc⟩ := Option.ne_none_iff_exists'.1 hcy
  have hcN := hch c hc
  have H1 : HM w hb n N (cu1 s x) m (w.setCell ⟨x, 1, none⟩ (.bool false)) := f.n1 hx false
  have e1 := f.mem.c1 hx
  have e1f := f.mem.free hx 1
  have e5 := H1.mem.c5 hx
  have e2 := H1.mem.c2 hx
  rw [show (cu1 s x).par x = some y from hpar] at e5
  dsimp only [op] at e5
  obtain ⟨a, ha⟩ : ∃ a, a = s.nx x := ⟨_, rfl⟩
  obtain ⟨b, hb'⟩ : ∃ a, a = s.pv x := ⟨_, rfl⟩
  rw [show (cu1 s x).nx x = a from ha.symm] at e2
  have haN : a ∈ N := ha ▸ hnx
  have hbN : b ∈ N := hb' ▸ hpv
  have pn := ptr_ne (H1.mem a haN) (H1.mem x hx)
  obtain ⟨bb, hbb⟩ : ∃ q, q = decide (a = x) := ⟨_, rfl⟩
  rw [← hbb] at pn
  have HBB := Lib.hid hbb
  have HA := Lib.hid ha
  have HB := Lib.hid hb'
  have HI := Lib.hid hinv
  have HH1 := Lib.hid H1
  have HC := Lib.hid hc
  have HS := Lib.hid hS
  have HQ := Lib.hid hq
  have HD := Lib.hid hd
  have HMy := Lib.hid hmy
  have HPar := Lib.hid hpar
  have HNm := Lib.hid hnm
  have HNx := Lib.hid hnx
  have HHb := Lib.hid f.nohb
  have HXY := Lib.hid hxy
  have HMX := Lib.hid hmx
  clear f hbb ha hb' hinv H1 hc hS hq hd hmy hpar hnm hch hcy hnx hpv hxy hmx
  go_enter Try.func62, Try.ntmps62
  go_upto_if 17 with fail
  go_cut [] from 18 to 37 (fun wx => HM w hb n N (cu2 s x) m wx)
  case first =>
    cases bb with
    | true =>
      have hax : a = x := by simpa using HBB.out
      go_wp2_with fail
      go_meet
      have hu : cu2 s x = cu1 s x := by
        have h1 : s.nx x = x := HA.out.symm.trans hax
        have h2 : s.pv x = x := HI.out h1
        show ust (cu1 s x) x = cu1 s x
        unfold ust
        rw [upd_eq (show (cu1 s x).nx ((cu1 s x).pv x) = (cu1 s x).nx x by show s.nx (s.pv x) = s.nx x; rw [h2]), upd_eq (show (cu1 s x).pv ((cu1 s x).nx x) = (cu1 s x).pv x by show s.pv (s.nx x) = s.pv x; rw [h1])]
      rw [hu]
      exact HH1.out
    | false =>
      have e3 := HH1.out.mem.c3 hx
      have e4 := HH1.out.mem.c3 haN
      have e4f := HH1.out.mem.free haN 3
      rw [show (cu1 s x).pv x = b from HB.out.symm] at e3
      obtain ⟨W1, hW1⟩ : ∃ W, W = w.setCell ⟨x, 1, none⟩ (.bool false) := ⟨_, rfl⟩
      rw [← hW1] at HH1 pn e2 e3 e4 e4f e5 ⊢
      clear hW1 e1 e1f
      go_wp2_with fail
      go_region
      have P2 := (HH1.out.n3 haN b).drew
      obtain ⟨W2, hW2⟩ : ∃ W, W = (W1.setCell ⟨a, 3, none⟩ (.pointer (some ⟨b, 0, none⟩))).drew := ⟨_, rfl⟩
      rw [← hW2] at P2 ⊢
      have i3 := P2.mem.c3 hx
      have i2 := P2.mem.c2 hx
      have i4 := P2.mem.c2 hbN
      have i4f := P2.mem.free hbN 2
      simp only at i3 i2 i4
      rw [show (cu1 s x).nx x = a from HA.out.symm] at i2
      rw [show upd (cu1 s x).pv a b x = b by unfold upd; split; rfl; exact HB.out.symm] at i3
      have HP2 := Lib.hid P2
      clear hW2 P2 e2 e3 e4 e4f e5 pn
      go_wp2_with fail
      go_region
      have P3 := (HP2.out.n2 hbN a).drew
      have e : ({ ({ cu1 s x with pv := upd (cu1 s x).pv a b } : FS) with nx := upd (cu1 s x).nx b a } : FS) = cu2 s x := by
        show _ = ust (cu1 s x) x
        unfold ust
        rw [show (cu1 s x).nx x = a from HA.out.symm, show (cu1 s x).pv x = b from HB.out.symm]
      have HP3 : Hid (HM w hb n N (cu2 s x) m (W2.setCell ⟨b, 2, none⟩ (.pointer (some ⟨a, 0, none⟩))).drew) := Lib.hid (e ▸ P3)
      clear P3 e
      go_wp2_with fail
      go_meet
      exact HP3.out
  have k5 := hcut.mem.c5 hx
  rw [show (cu2 s x).par x = some y from HPar.out] at k5
  have k4 := hcut.mem.c4 hy
  rw [show (cu2 s x).ch y = some c from HC.out] at k4
  dsimp only [op] at k4 k5
  have k2 := hcut.mem.c2 hx
  rw [show (cu2 s x).nx x = a by show upd s.nx (s.pv x) (s.nx x) x = a; rw [HA.out]; unfold upd; split <;> rfl] at k2
  have k4f := hcut.mem.free hy 4
  have pq := ptr_eq (hcut.mem c hcN) (hcut.mem x hx)
  have pn2 := ptr_ne (hcut.mem a haN) (hcut.mem x hx)
  rw [← HBB.out] at pn2
  obtain ⟨cb, hcb⟩ : ∃ q, q = decide (c = x) := ⟨_, rfl⟩
  rw [← hcb] at pq
  have HCB := Lib.hid hcb
  have HCut := Lib.hid hcut
  clear hcb hcut e1 e1f e2 e5 pn HH1
  go_upto_if 46 with fail
  go_cut [] from 47 to 68 (fun wx => HM w hb n N (cu3 s x y) m wx)
  case first =>
    cases cb with
    | false =>
      go_wp2_with fail
      go_meet
      have h1 : cuch s x y = s.ch y := by unfold cuch; rw [HC.out, if_neg (fun e => by have := HCB.out; cases e; simp at this)]
      have h2 : cu3 s x y = cu2 s x := by unfold cu3; rw [h1, upd_self]; rfl
      rw [h2]; exact HCut.out
    | true =>
      have hcx : c = x := by simpa using HCB.out
      have hcx2 : s.ch y = some x := by rw [HC.out, hcx]
      cases bb with
      | true =>
        have hax : a = x := by simpa using HBB.out
        have h1 : cuch s x y = none := by unfold cuch; rw [if_pos hcx2, if_pos (by rw [← HA.out]; exact hax)]
        have HP : Hid (HM w hb n N (cu3 s x y) m (wc.setCell ⟨y, 4, none⟩ (.pointer none))) := Lib.hid (by
          have := HCut.out.n4 hy none
          unfold cu3
          rw [h1]
          exact this)
        clear hcx hcx2 h1 hax
        go_wp2_with fail
        go_meet
        exact HP.out
      | false =>
        have hax : ¬ a = x := by simpa using HBB.out
        have h1 : cuch s x y = some a := by unfold cuch; rw [if_pos hcx2, if_neg (by rw [← HA.out]; exact hax), HA.out]
        have HP : Hid (HM w hb n N (cu3 s x y) m (wc.setCell ⟨y, 4, none⟩ (.pointer (some ⟨a, 0, none⟩))).drew) := Lib.hid (by
          have := (HCut.out.n4 hy (some a)).drew
          unfold cu3
          rw [h1]
          exact this)
        clear hcx hcx2 h1 hax
        go_wp2_with fail
        go_region
        go_wp2_with fail
        go_meet
        exact HP.out
  clear k5 k4 k2 k4f pq pn2 HCut HCB HBB
  have P3 := hcut
  clear hcut
  obtain ⟨dz, hdz⟩ : ∃ dz, s.deg y = dz + 1 := ⟨s.deg y - 1, by have := HD.out; omega⟩
  have hdz9 : (dz : Int) ≤ 99999 := by have := HD.out; omega
  have hdz0 : (0 : Int) ≤ (dz : Int) := by omega
  have P4 : HM w hb n N (cu4 s x y) m (wc.setCell ⟨y, 0, none⟩ (.int .i64 (dz : Nat))) := by
    have := P3.n0 hy dz
    unfold cu4
    rw [hdz]
    exact this
  have P5 : HM w hb n N (cu5 s x y) m _ := P4.n3 hx x
  have P6 : HM w hb n N (cu6 s x y) m _ := P5.n2 hx x
  have k5 := P3.mem.c5 hx
  rw [show (cu3 s x y).par x = some y from HPar.out] at k5
  dsimp only [op] at k5
  have k0 := P3.mem.c0 hy
  rw [show (cu3 s x y).deg y = dz + 1 from hdz] at k0
  rw [show ((dz + 1 : Nat) : Int) = (dz : Int) + 1 from rfl] at k0
  have k0f := P3.mem.free hy 0
  have k3 := P4.mem.c3 hx
  have k3f := P4.mem.free hx 3
  have k2 := P5.mem.c2 hx
  have k2f := P5.mem.free hx 2
  have kb := P6.blk.cell 0
  simp only [List.getElem?_toArray, List.getElem?_cons_zero, op] at kb
  have hmg := merge_to N (cu6 s x y) (some m) x q HQ.out _ P6.mem HS.out (fun a e => by cases e; exact ⟨hm, cu6_nx hx HNx.out HNm.out⟩) ⟨hx, cu6_nx hx HNx.out HNx.out⟩ (fun a e => by cases e; exact HMX.out)
  dsimp only [op] at hmg
  have HMg := Lib.hid hmg
  have HP6 := Lib.hid P6
  clear P3 P4 P5 P6 hmg hdz
  go_wp2_with (go_at_call 50; refine HMg.out.mono ?_; rintro r wy ⟨rfl, hM8, hC8⟩; obtain ⟨⟨o0, i0⟩, g0, i5, i1, g1, i5', g5, hfin⟩ := HM.aft (q := q) HP6.out hx hy HXY.out HPar.out HMy.out hM8 hC8; have HFin := Lib.hid hfin; clear hfin hM8 hC8)
  go_end0
  exact ⟨rfl, HFin.out⟩
end Go.Proofs.Ytbfcnimebdoagaa
