/- WALKS: a priority is decreased. -/
import Derived.Test.YtbfcnimebdoagaaFG
namespace Go.Proofs.Ytbfcnimebdoagaa
open Go.RowKit
set_option linter.unusedVariables false
set_option linter.unusedSimpArgs false

theorem fl_ge (a b : Int) (ha : a.natAbs < 2 ^ 53) (hb : b.natAbs < 2 ^ 53) : (FloatKind.f64.format.order (floatOfInt .f64 a) (floatOfInt .f64 b) == some .gt || FloatKind.f64.format.order (floatOfInt .f64 a) (floatOfInt .f64 b) == some .eq) = decide (b ≤ a) := by
  rw [fl_gt a b ha hb, fl_eq a b ha hb, Bool.eq_iff_iff]
  simp; omega
/-- What a decrease leaves. -/
def DecR (w : World) (hb : Nat) (N : List Nat) (s : FS) (x : Nat) (p : Int) (w' : World) : Prop := ∃ s' G' h' mn', FHp w' hb N s' G' h' mn' ∧ (∀ a ∈ N, s'.pr a = (prSt s x p).pr a) ∧ Ch (SH hb N) w w'
theorem HM.decR {w wr : World} {hb n x : Nat} {p : Int} {N : List Nat} {s s1 : FS} {G1 : Option Nat → List Nat} {h : Nat → Nat} {mn : Nat} (c : HM w hb n N s1 mn wr) (hp : HP N s1 G1 h (some mn)) (hn : n = N.length) (hs : Sm N (prSt s x p)) (hl : N.length < 100000) (he : ∀ a ∈ N, s1.pr a = (prSt s x p).pr a) : DecR w hb N s x p wr := by
  subst hn
  exact ⟨s1, G1, h, some mn, ⟨c.blk, c.mem, fun a ha => (he a ha).symm ▸ hs a ha, hp, fun h => c.nohb hb h rfl, hl⟩, he, c.ch⟩
theorem Sm.prSt {N : List Nat} {s : FS} {x : Nat} {p : Int} (h : Sm N s) (hp : p.natAbs < 2 ^ 53) : Sm N (prSt s x p) := fun a ha => by
  show (upd s.pr x p a).natAbs < _
  by_cases e : a = x
  · subst e; rw [upd_at]; exact hp
  · rw [upd_ne _ _ e]; exact h a ha
theorem cut_pr (s : FS) (x y : Nat) (o : Option Nat) : (cutSt s x y o).pr = s.pr := by unfold cutSt; exact mst_pr _ _ _
theorem cut_dec (hb n : Nat) (N : List Nat) (s : FS) (G : Option Nat → List Nat) (h : Nat → Nat) (x y m m1 : Nat) (p : Int) (w w2 : World) (f : HM w hb n N (prSt s x p) m w2) (hp : HP N s G h (some m)) (hS : Sm N (prSt s x p)) (hx : x ∈ N) (hpar : s.par x = some y) (hmk : ∀ a ∈ N, s.mr a = false) (hfew : N.length < 100000) (hq : mres (prSt s x p) (some m) (some x) = some m1) :
    Calls Try.prog 62 #[.pointer (some ⟨hb, 0, none⟩), .pointer (some ⟨x, 0, none⟩)] w2 fun r w' => r = .returned (.tuple #[]) ∧ HM w hb n N (cutSt (prSt s x p) x y (some m)) m1 w' := by
  obtain ⟨hyN, hxy⟩ := hp.wf.noself hx hpar
  have hm := hp.all.1
  have hmG := (hp.least m rfl).1
  have hmx : m ≠ x := fun e => by
    have := ((hp.wf.rings.g _ _).1 hmG).2
    rw [e, hpar] at this; cases this
  have hxG := (hp.wf.rings.g _ _).2 ⟨hx, hpar⟩
  have hcy : s.ch y ≠ none := fun e => by rw [hp.wf.ch0 y hyN e] at hxG; cases hxG
  have hinv : s.nx x = x → s.pv x = x := fun e => by have := hp.wf.rings.inv x hx; rwa [e] at this
  have hdeg : 0 < s.deg y ∧ s.deg y < 100000 := by
    have h1 := hp.wf.deg y hyN
    have h2 := List.length_pos_of_mem hxG
    have h3 := hp.wf.deg_lt hyN
    omega
  have f2 : HM w2 hb n N (prSt s x p) m w2 := ⟨f.mem, f.blk, Ch.refl _ _, f.nohb⟩
  refine (cut_any hb n N (prSt s x p) x y m m1 w2 f2 hS hx hyN hxy hm hmx hpar (hmk y hyN) (hp.wf.rings.nextN hx) (hp.wf.rings.prevN hx) hinv (hp.wf.rings.nextN hm) (fun c e => hp.wf.rings.mem (hp.wf.ch1 y hyN c e)) hcy hdeg hq).mono ?_
  rintro r w' ⟨h1, h2⟩
  exact ⟨h1, h2.mem, h2.blk, f.ch.trans h2.ch, h2.nohb⟩
set_option maxHeartbeats 4000000 in
set_option maxRecDepth 100000 in
theorem dec_any (hb : Nat) (N : List Nat) (s : FS) (G : Option Nat → List Nat) (h : Nat → Nat) (m x : Nat) (p : Int) (w : World) (f : FHp w hb N s G h (some m)) (hx : x ∈ N) (hp : p ≤ s.pr x) (hp2 : p.natAbs < 2 ^ 53) (hmk : ∀ a ∈ N, s.mr a = false) :
    Calls Try.prog 52 #[.pointer (some ⟨hb, 0, none⟩), .pointer (some ⟨x, 0, none⟩), .float .f64 (floatOfInt .f64 p)] w fun r w' => r = .returned (.tuple #[]) ∧ DecR w hb N s x p w' := by
  obtain ⟨n, hn⟩ : ∃ n, n = N.length := ⟨_, rfl⟩
  have h0 : HM w hb n N s m w := ⟨f.mem, by rw [hn]; exact f.blk, Ch.refl _ _, fun a ha e => f.out (e ▸ ha)⟩
  have hS := f.sm.prSt (x := x) hp2
  have hm := f.hp.all.1
  have hmG := (f.hp.least m rfl).1
  have hfew := f.few
  have hHP := f.hp
  have H1 : HM w hb n N (prSt s x p) m (w.setCell ⟨x, 6, none⟩ (.float .f64 (floatOfInt .f64 p))) := h0.n6 hx p
  have hst : ∀ (a : Addr) (x : Nat) (m : Mode) (w : World), (store a (.float .f64 x) m).run Try.prog w = stored Try.prog w a (.float .f64 x) m := fun a x m w => run_store _ w a _ m rfl
  have e6 := f.mem.c6 hx
  have e6f := f.mem.free hx 6
  have k5 := H1.mem.c5 hx
  have k6 := H1.mem.c6 hx
  have hpx : (prSt s x p).pr x = p := upd_at _ _ _
  rw [hpx] at k6
  obtain ⟨W1, hW1⟩ : ∃ W, W = w.setCell ⟨x, 6, none⟩ (.float .f64 (floatOfInt .f64 p)) := ⟨_, rfl⟩
  obtain ⟨fp, hfp⟩ : ∃ q, q = floatOfInt .f64 p := ⟨_, rfl⟩
  have HFP := Lib.hid hfp
  have HH0 := Lib.hid h0
  have HS := Lib.hid hS
  have HMG := Lib.hid hmG
  have HN := Lib.hid hn
  have HFew := Lib.hid hfew
  have HHP := Lib.hid hHP
  have HH1 := Lib.hid H1
  have HP := Lib.hid hp
  have HMK := Lib.hid hmk
  have HPX := Lib.hid hpx
  have HW := Lib.hid hW1
  clear f h0 hS hmG hn hfew hHP H1 hp hp2 hmk hpx
  rw [← hW1] at k5 k6 HH1
  rw [← hfp] at k6 hW1 ⊢
  clear hfp
  cases hpar : s.par x with
  | none =>
    have hdec := HHP.out.decRoot hx HP.out hpar
    rw [show (prSt s x p).par x = none from hpar] at k5
    dsimp only [op] at k5
    have hm6 := HH1.out.mem.c6 hm
    have hmb := HH1.out.blk.cell 0
    have hmf := HH1.out.blk.free 0
    simp only [List.getElem?_toArray, List.getElem?_cons_zero, op] at hmb
    have hfl := fl_le p ((prSt s x p).pr m) (HPX.out ▸ HS.out x hx) (HS.out m hm)
    have hle : decMn (prSt s x p) x m = if p ≤ (prSt s x p).pr m then x else m := by unfold decMn; rw [HPX.out]
    obtain ⟨pm, hpm⟩ : ∃ q, q = (prSt s x p).pr m := ⟨_, rfl⟩
    rw [← hpm] at hm6 hfl hle
    rw [← HFP.out] at hfl
    have HPM := Lib.hid hpm
    have HDec := Lib.hid hdec
    have HLe := Lib.hid hle
    clear hpar hpm hdec hle
    go_enter Try.func52, Try.ntmps52
    go_wp2_with fail
    rw [← hW1]
    clear hW1
    go_quiet (fail)
    have P2 := HH1.out.drewN nq
    obtain ⟨W2, hW2⟩ : ∃ W, W = W1.drewN nq := ⟨_, rfl⟩
    rw [← hW2] at P2 ⊢
    have HR := Lib.hid P2
    clear hW2 P2
    clear k5 k6 hm6 hmb hmf
    go_step
    go_wp2_with fail
    have k6 := HR.out.mem.c6 hx
    rw [show (prSt s x p).pr x = p from HPX.out, ← HFP.out] at k6
    have hm6 := HR.out.mem.c6 hm
    have hmb := HR.out.blk.cell 0
    have hmf := HR.out.blk.free 0
    simp only [List.getElem?_toArray, List.getElem?_cons_zero, op] at hmb
    rw [show (prSt s x p).pr m = pm from HPM.out.symm] at hm6
    by_cases hle : p ≤ pm
    · rw [decide_eq_true hle] at hfl
      have HLE := Lib.hid hle
      clear hle
      go_wp2_with fail
      go_quiet (fail)
      clear k6 hm6 hmb hmf hfl
      have P3 := HR.out.drewN nq
      obtain ⟨W3, hW3⟩ : ∃ W, W = W2.drewN nq := ⟨_, rfl⟩
      rw [← hW3] at P3 ⊢
      clear hW3
      have hmb := P3.blk.cell 0
      have hmf := P3.blk.free 0
      simp only [List.getElem?_toArray, List.getElem?_cons_zero, op] at hmb
      have P4 := P3.min x
      have HP4 := Lib.hid P4
      clear P3 P4
      go_step
      go_wp2_with fail
      go_end0
      have hd := HDec.out
      rw [HLe.out, if_pos HLE.out] at hd
      exact ⟨rfl, HP4.out.decR hd HN.out HS.out HFew.out (fun _ _ => rfl)⟩
    · rw [decide_eq_false hle] at hfl
      have HLE := Lib.hid hle
      clear hle
      go_wp2_with fail
      go_quiet (fail)
      clear k6 hm6 hmb hmf hfl
      have P3 := HR.out.drewN nq
      obtain ⟨W3, hW3⟩ : ∃ W, W = W2.drewN nq := ⟨_, rfl⟩
      rw [← hW3] at P3 ⊢
      clear hW3
      have HP4 := Lib.hid P3
      clear P3
      go_step
      go_wp2_with fail
      go_end0
      have hd := HDec.out
      rw [HLe.out, if_neg (by have := HLE.out; omega)] at hd
      exact ⟨rfl, HP4.out.decR hd HN.out HS.out HFew.out (fun _ _ => rfl)⟩
  | some y =>
    rw [show (prSt s x p).par x = some y from hpar] at k5
    dsimp only [op] at k5
    obtain ⟨hyN, hxy⟩ := HHP.out.wf.noself hx hpar
    have k6y := HH1.out.mem.c6 hyN
    rw [show (prSt s x p).pr y = s.pr y from upd_ne _ _ (Ne.symm hxy)] at k6y
    have hSy : (s.pr y).natAbs < 2 ^ 53 := by have := HS.out y hyN; rwa [show (prSt s x p).pr y = s.pr y from upd_ne _ _ (Ne.symm hxy)] at this
    have hfy := fl_le p (s.pr y) (HPX.out ▸ HS.out x hx) hSy
    rw [← HFP.out] at hfy
    have HXY := Lib.hid hxy
    have HPar := Lib.hid hpar
    obtain ⟨py, hpy⟩ : ∃ q, q = s.pr y := ⟨_, rfl⟩
    rw [← hpy] at hfy k6y
    have HPY := Lib.hid hpy
    clear hxy hpar hSy hpy
    by_cases hle : p ≤ py
    · rw [decide_eq_true hle] at hfy
      clear hle
      obtain ⟨m1, hmr, hdec, hmm⟩ := HHP.out.decCut hx HP.out HPar.out
      have hm1 : m1 ∈ N := by rcases hmm with e | e <;> (rw [e]; assumption)
      have hfl := fl_le p ((prSt s x p).pr m1) (HPX.out ▸ HS.out x hx) (HS.out m1 hm1)
      have hle : decMn (prSt s x p) x m1 = if p ≤ (prSt s x p).pr m1 then x else m1 := by unfold decMn; rw [HPX.out]
      obtain ⟨pm, hpm⟩ : ∃ q, q = (prSt s x p).pr m1 := ⟨_, rfl⟩
      rw [← hpm] at hfl hle
      rw [← HFP.out] at hfl
      have HPM := Lib.hid hpm
      have HDec := Lib.hid hdec
      have HLe := Lib.hid hle
      have HMr := Lib.hid hmr
      have HE : Hid (∀ a ∈ N, (cutSt (prSt s x p) x y (some m)).pr a = (prSt s x p).pr a) := Lib.hid (fun a _ => congrFun (cut_pr _ _ _ _) a)
      clear hpm hdec hle hmr hmm
      go_enter Try.func52, Try.ntmps52
      go_wp2_with fail
      rw [← hW1]
      clear hW1
      go_quiet (fail)
      have P2 := HH1.out.drewN nq
      obtain ⟨W2, hW2⟩ : ∃ W, W = W1.drewN nq := ⟨_, rfl⟩
      rw [← hW2] at P2 ⊢
      have hcut := Lib.hid (cut_dec hb n N s G h x y m m1 p w W2 P2 HHP.out HS.out hx HPar.out HMK.out HFew.out HMr.out)
      clear hW2 P2 k5 k6 k6y hfy
      go_step
      go_wp2_with (go_at_call 62; refine hcut.out.mono ?_; rintro r W5 ⟨rfl, hM⟩; have HR := Lib.hid hM; clear hM)
      have k6 := HR.out.mem.c6 hx
      rw [show (cutSt (prSt s x p) x y (some m)).pr x = p from by rw [cut_pr]; exact HPX.out, ← HFP.out] at k6
      have hm6 := HR.out.mem.c6 hm1
      have hmb := HR.out.blk.cell 0
      have hmf := HR.out.blk.free 0
      simp only [List.getElem?_toArray, List.getElem?_cons_zero, op] at hmb
      rw [show (cutSt (prSt s x p) x y (some m)).pr m1 = pm from (by rw [cut_pr]; exact HPM.out.symm)] at hm6
      by_cases hle : p ≤ pm
      · rw [decide_eq_true hle] at hfl
        have HLE := Lib.hid hle
        clear hle
        go_wp2_with fail
        go_quiet (fail)
        clear k6 hm6 hmb hmf hfl
        have P3 := HR.out.drewN nq
        obtain ⟨W3, hW3⟩ : ∃ W, W = W5.drewN nq := ⟨_, rfl⟩
        rw [← hW3] at P3 ⊢
        clear hW3
        have hmb := P3.blk.cell 0
        have hmf := P3.blk.free 0
        simp only [List.getElem?_toArray, List.getElem?_cons_zero, op] at hmb
        have P4 := P3.min x
        have HP4 := Lib.hid P4
        clear P3 P4
        go_step
        go_wp2_with fail
        go_end0
        have hd := HDec.out
        rw [HLe.out, if_pos HLE.out] at hd
        exact ⟨rfl, HP4.out.decR hd HN.out HS.out HFew.out HE.out⟩
      · rw [decide_eq_false hle] at hfl
        have HLE := Lib.hid hle
        clear hle
        go_wp2_with fail
        go_quiet (fail)
        clear k6 hm6 hmb hmf hfl
        have P3 := HR.out.drewN nq
        obtain ⟨W3, hW3⟩ : ∃ W, W = W5.drewN nq := ⟨_, rfl⟩
        rw [← hW3] at P3 ⊢
        clear hW3
        have HP4 := Lib.hid P3
        clear P3
        go_step
        go_wp2_with fail
        go_end0
        have hd := HDec.out
        rw [HLe.out, if_neg (by have := HLE.out; omega)] at hd
        exact ⟨rfl, HP4.out.decR hd HN.out HS.out HFew.out HE.out⟩
    · have hlt : s.pr y < p := by rw [← HPY.out]; omega
      have hdec := HHP.out.decStay hx HP.out HPar.out hlt
      rw [decide_eq_false hle] at hfy
      clear hle hlt
      have hfl := fl_le p ((prSt s x p).pr m) (HPX.out ▸ HS.out x hx) (HS.out m hm)
      have hle : decMn (prSt s x p) x m = if p ≤ (prSt s x p).pr m then x else m := by unfold decMn; rw [HPX.out]
      obtain ⟨pm, hpm⟩ : ∃ q, q = (prSt s x p).pr m := ⟨_, rfl⟩
      rw [← hpm] at hfl hle
      rw [← HFP.out] at hfl
      have HPM := Lib.hid hpm
      have HDec := Lib.hid hdec
      have HLe := Lib.hid hle
      clear hpm hdec hle
      go_enter Try.func52, Try.ntmps52
      go_wp2_with fail
      rw [← hW1]
      clear hW1
      go_quiet (fail)
      have P2 := HH1.out.drewN nq
      obtain ⟨W2, hW2⟩ : ∃ W, W = W1.drewN nq := ⟨_, rfl⟩
      rw [← hW2] at P2 ⊢
      have HR := Lib.hid P2
      clear hW2 P2
      clear k5 k6 k6y hfy
      go_step
      go_wp2_with fail
      have k6 := HR.out.mem.c6 hx
      rw [show (prSt s x p).pr x = p from HPX.out, ← HFP.out] at k6
      have hm6 := HR.out.mem.c6 hm
      have hmb := HR.out.blk.cell 0
      have hmf := HR.out.blk.free 0
      simp only [List.getElem?_toArray, List.getElem?_cons_zero, op] at hmb
      rw [show (prSt s x p).pr m = pm from HPM.out.symm] at hm6
      by_cases hle : p ≤ pm
      · rw [decide_eq_true hle] at hfl
        have HLE := Lib.hid hle
        clear hle
        go_wp2_with fail
        go_quiet (fail)
        clear k6 hm6 hmb hmf hfl
        have P3 := HR.out.drewN nq
        obtain ⟨W3, hW3⟩ : ∃ W, W = W2.drewN nq := ⟨_, rfl⟩
        rw [← hW3] at P3 ⊢
        clear hW3
        have hmb := P3.blk.cell 0
        have hmf := P3.blk.free 0
        simp only [List.getElem?_toArray, List.getElem?_cons_zero, op] at hmb
        have P4 := P3.min x
        have HP4 := Lib.hid P4
        clear P3 P4
        go_step
        go_wp2_with fail
        go_end0
        have hd := HDec.out
        rw [HLe.out, if_pos HLE.out] at hd
        exact ⟨rfl, HP4.out.decR hd HN.out HS.out HFew.out (fun _ _ => rfl)⟩
      · rw [decide_eq_false hle] at hfl
        have HLE := Lib.hid hle
        clear hle
        go_wp2_with fail
        go_quiet (fail)
        clear k6 hm6 hmb hmf hfl
        have P3 := HR.out.drewN nq
        obtain ⟨W3, hW3⟩ : ∃ W, W = W2.drewN nq := ⟨_, rfl⟩
        rw [← hW3] at P3 ⊢
        clear hW3
        have HP4 := Lib.hid P3
        clear P3
        go_step
        go_wp2_with fail
        go_end0
        have hd := HDec.out
        rw [HLe.out, if_neg (by have := HLE.out; omega)] at hd
        exact ⟨rfl, HP4.out.decR hd HN.out HS.out HFew.out (fun _ _ => rfl)⟩
set_option maxRecDepth 100000 in
theorem dkey_any (hb : Nat) (N : List Nat) (s : FS) (G : Option Nat → List Nat) (h : Nat → Nat) (m x : Nat) (p : Int) (w : World) (f : FHp w hb N s G h (some m)) (hx : x ∈ N) (hp : p < s.pr x) (hp2 : p.natAbs < 2 ^ 53) (hmk : ∀ a ∈ N, s.mr a = false) :
    Calls Try.prog 40 #[.pointer (some ⟨hb, 0, none⟩), .pointer (some ⟨x, 0, none⟩), .float .f64 (floatOfInt .f64 p)] w fun r w' => r = .returned (.tuple #[.pointer (some ⟨x, 0, none⟩), .nilIface]) ∧ DecR w hb N s x p w' := by
  have hl := f.min.2.2.2.2.2
  have hE := empty_any hb N.length _ w f.blk
  rw [decide_eq_false (by omega)] at hE
  have hd := dec_any hb N s G h m x p w f hx (by omega) hp2 hmk
  have e6 := f.mem.c6 hx
  have hfg := fl_ge p (s.pr x) hp2 (f.sm x hx)
  rw [decide_eq_false (by omega)] at hfg
  obtain ⟨px, hpx⟩ : ∃ q, q = floatOfInt .f64 (s.pr x) := ⟨_, rfl⟩
  obtain ⟨fp, hfp⟩ : ∃ q, q = floatOfInt .f64 p := ⟨_, rfl⟩
  rw [← hpx] at e6 hfg
  rw [← hfp] at hfg hd ⊢
  have HE := Lib.hid hE
  have HD := Lib.hid hd
  clear f hx hp hp2 hmk hl hE hd hpx hfp
  go_enter Try.func40, Try.ntmps40
  go_wp2_with (first | (go_at_call 26; refine HE.out.mono ?_; rintro r wx ⟨rfl, e⟩; rw [e]; clear e) | (go_at_call 52; refine HD.out.mono ?_; rintro r wx ⟨rfl, hr⟩; have HR := Lib.hid hr; clear hr))
  go_ret2
  exact ⟨rfl, HR.out⟩
end Go.Proofs.Ytbfcnimebdoagaa
