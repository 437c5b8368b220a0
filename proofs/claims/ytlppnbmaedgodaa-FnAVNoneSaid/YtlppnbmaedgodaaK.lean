/- WALKS: keys that are not there are deleted. -/
import Derived.Test.YtlppnbmaedgodaaJ
namespace Go.Proofs.Ytlppnbmaedgodaa
open Go.RowKit
set_option linter.unusedVariables false
set_option linter.unusedSimpArgs false

def D1 (w0 : World) (key : Int) (N bc bd : Nat) (kx : Nat) (v6 v9 : Value) (wr : World) : Prop :=
  ∃ (P : T) (d : Nat) (cc cd : Array Value), v6 = .pointer (ad P.adr) ∧ v9 = .int .i64 d ∧ P.size = kx ∧ d + P.size ≤ N ∧ Rep wr P ∧ lget key P.toL = none ∧ Ord P.toL ∧ Blk wr bc cc ∧ cc.size = 64 ∧ Blk wr bd cd ∧ cd.size = 64 ∧ (∀ x ∈ P.bl, x ≠ bc ∧ x ≠ bd) ∧ Ch S0 w0 wr
theorem d1_step {w0 wr w5 : World} {key kk vv : Int} {N bc bd a d : Nat} {b : Int} {l r P : T} {cc cd : Array Value} {p q : Value} (h0 : w0.heap.size ≤ bc) (h1 : w0.heap.size ≤ bd) (hne : bc ≠ bd) (hP : P = l ∨ P = r) (hd : d + (T.node a b l r kk vv).size ≤ N) (hR : Rep wr (.node a b l r kk vv)) (hg : lget key P.toL = none) (hO : Ord P.toL) (hc : Blk wr bc cc) (sc : cc.size = 64) (hd2 : Blk wr bd cd) (sd : cd.size = 64) (hb : ∀ x ∈ (T.node a b l r kk vv).bl, x ≠ bc ∧ x ≠ bd) (hC : Ch S0 w0 wr) (hC5 : Ch S0 wr w5) :
    D1 w0 key N bc bd P.size (.pointer (ad P.adr)) (.int .i64 ((d + 1 : Nat) : Int)) ((w5.setCell ⟨bd, d, none⟩ p).setCell ⟨bc, d, none⟩ q) := by
  have hC6 : Ch (S2 bc bd) wr ((w5.setCell ⟨bd, d, none⟩ p).setCell ⟨bc, d, none⟩ q) := Ch.setCell (S := S2 bc bd) (Ch.setCell (S := S2 bc bd) (hC5.mono (fun _ _ h => h.elim)) ⟨bd, d, none⟩ (fun _ => Or.inr rfl) _) ⟨bc, d, none⟩ (fun _ => Or.inl rfl) _
  have hsub : ∀ x ∈ P.bl, x ∈ (T.node a b l r kk vv).bl := fun x hx => by
    rcases hP with rfl | rfl <;> simp [T.bl, hx]
  have hRP : Rep wr P := by
    rcases hP with rfl | rfl
    · exact hR.2.1
    · exact hR.2.2
  have hsz : P.size + 1 ≤ (T.node a b l r kk vv).size := by rcases hP with rfl | rfl <;> simp only [T.size] <;> omega
  refine ⟨P, d + 1, cc.setIfInBounds d q, cd.setIfInBounds d p, rfl, rfl, rfl, by omega, hRP.keep hC6 (fun x hx e => ?_), hg, hO, ?_, by simp [sc], ?_, by simp [sd], fun x hx => hb x (hsub x hx), ?_⟩
  · obtain ⟨e1, e2⟩ := hb x (hsub x hx)
    rcases e with e | e
    · exact e1 e
    · exact e2 e
  · exact ((hc.keep hC5 (fun h => h)).setOther (p := ⟨bd, d, none⟩) (Ne.symm hne) p).set d q
  · exact ((hd2.keep hC5 (fun h => h)).set d p).setOther (p := ⟨bc, d, none⟩) hne q
  · refine hC.trans' hC6 ?_
    rintro i hi (e | e) <;> omega
set_option maxRecDepth 100000 in
set_option maxHeartbeats 8000000 in
theorem del_nil (cp : Nat) (key val : Int) (w : World) (h : Imm w cp .nil) : Calls Try.prog 29 #[.pointer (some ⟨cp, 0, none⟩), en key val] w fun r w' => r = .returned .nilIface ∧ Ch S0 w w' := by
  have c0 := h.blk.cell 0
  simp only [T.adr, ad, Option.map_none, List.getElem?_toArray, List.getElem?_cons_zero, List.getElem?_cons_succ] at c0
  clear h
  go_enter Try.func29, Try.ntmps29
  go_wp2_with fail
  go_ret
  exact ⟨rfl, Ch.refl _ _⟩
set_option maxRecDepth 100000 in
set_option maxHeartbeats 8000000 in
theorem del_miss (cp : Nat) (r0 : Nat) (b0 : Int) (tl tr : T) (k0 v0 : Int) (key val : Int) (w : World) (h : Imm w cp (.node r0 b0 tl tr k0 v0)) (hg : lget key (T.node r0 b0 tl tr k0 v0).toL = none) (hf : (T.node r0 b0 tl tr k0 v0).toL.length ≤ 60) : Calls Try.prog 29 #[.pointer (some ⟨cp, 0, none⟩), en key val] w fun r w' => r = .returned .nilIface ∧ Ch S0 w w' := by
  have hmk1 : ∀ w, (Instr.makeSlice 85 (.int .i64 64) (.int .i64 64)).run Try.prog w = .ok (.slice (some ⟨w.heap.size, 0, none⟩) 64 64) (w.alloc (.cells (Array.replicate 64 (.pointer none)) 61)) := fun w => make_one (bytes := 8) (z := .pointer none) Try.underlying85 (by kernel_rfl) rfl .i64 .i64 64 64 (by omega) (by omega) (by omega) w
  have hmk2 : ∀ w, (Instr.makeSlice 86 (.int .i64 64) (.int .i64 64)).run Try.prog w = .ok (.slice (some ⟨w.heap.size, 0, none⟩) 64 64) (w.alloc (.cells (Array.replicate 64 (.int .i64 0)) 3)) := fun w => make_one (bytes := 8) (z := .int .i64 0) Try.underlying86 (by kernel_rfl) rfl .i64 .i64 64 64 (by omega) (by omega) (by omega) w
  have c0 := h.blk.cell 0
  simp only [T.adr, ad, Option.map_some, List.getElem?_toArray, List.getElem?_cons_zero, List.getElem?_cons_succ] at c0
  rw [T.len_size] at hf
  have HI := Lib.hid h
  have HG := Lib.hid hg
  have HF := Lib.hid hf
  clear h hg hf
  unfold en
  have h3 := ((HI.out.blk.alloc (.cells (Array.replicate 64 (.pointer none)) 61)).alloc (.cells #[.int .i64 0] 3)).alloc (.cells (Array.replicate 64 (.int .i64 0)) 3)
  have c3 := h3.cell 0
  simp only [T.adr, ad, Option.map_some, List.getElem?_toArray, List.getElem?_cons_zero, List.getElem?_cons_succ] at c3
  clear h3
  go_enter Try.func29, Try.ntmps29
  go_wp2_with fail
  clear hmk1 hmk2 c0 c3
  have hlt := HI.out.rep.lt
  have hb1 := ((Blk.new w (Array.replicate 64 (.pointer none)) 61).alloc (.cells #[.int .i64 0] 3)).alloc (.cells (Array.replicate 64 (.int .i64 0)) 3)
  have hb2 := Blk.new ((w.alloc (.cells (Array.replicate 64 (.pointer none)) 61)).alloc (.cells #[.int .i64 0] 3)) (Array.replicate 64 (.int .i64 0)) 3
  rw [World.size_alloc, World.size_alloc] at hb2
  obtain ⟨W3, hW3⟩ : ∃ W, W = ((w.alloc (.cells (Array.replicate 64 (.pointer none)) 61)).alloc (.cells #[.int .i64 0] 3)).alloc (.cells (Array.replicate 64 (.int .i64 0)) 3) := ⟨_, rfl⟩
  have hC3 : Ch S0 w W3 := by rw [hW3]; exact (((Ch.refl S0 w).alloc _).alloc _).alloc _
  rw [← hW3] at hb1 hb2 ⊢
  obtain ⟨bc, hbc⟩ : ∃ bc, w.heap.size = bc := ⟨_, rfl⟩
  obtain ⟨bd, hbd⟩ : ∃ bd, bc + 1 + 1 = bd := ⟨_, rfl⟩
  rw [hbc, hbd] at hb2
  rw [hbc] at hb1
  rw [hbc, hbd]
  have HB0 : Hid (w.heap.size ≤ bc) := Lib.hid (by omega)
  have HB1 : Hid (w.heap.size ≤ bd) := Lib.hid (by omega)
  have HBB : Hid (bc ≠ bd) := Lib.hid (by omega)
  have HS : Hid (D1 w key (T.node r0 b0 tl tr k0 v0).size bc bd (T.node r0 b0 tl tr k0 v0).size (.pointer (some ⟨r0, 0, none⟩)) (.int .i64 0) W3) := Lib.hid ⟨_, 0, _, _, rfl, rfl, rfl, by omega, HI.out.rep.keep hC3 (fun _ _ h => h), HG.out, HI.out.ord, hb1, by simp, hb2, by simp, fun x hx => by have := hlt x hx; omega, hC3⟩
  obtain ⟨N, hN⟩ : ∃ N, (T.node r0 b0 tl tr k0 v0).size = N := ⟨_, rfl⟩
  rw [hN] at HS HF
  clear hW3 hC3 hb1 hb2 hbc hbd hlt
  go_loopg [6, 9] N (fun kx v6 v9 wr => D1 w key N bc bd kx v6 v9 wr)
  case atStart => exact HS.out
  case round =>
    obtain ⟨P, d, cc, cd, rfl, rfl, hk, hd, hR, hg, hO, hc, sc, hd2, sd, hbb, hC⟩ := hrel
    have HK := Lib.hid hk
    have HD := Lib.hid hd
    have HR1 := Lib.hid hR
    have HG1 := Lib.hid hg
    have HO1 := Lib.hid hO
    have HBc := Lib.hid hc
    have HSc := Lib.hid sc
    have HBd := Lib.hid hd2
    have HSd := Lib.hid sd
    have HBb := Lib.hid hbb
    have HC1 := Lib.hid hC
    clear hk hd hR hg hO hc sc hd2 sd hbb hC HS
    cases P with
    | nil =>
      simp only [T.adr, ad, Option.map_none]
      go_wp2_with fail
      go_ret
      exact ⟨rfl, HC1.out⟩
    | node a b l r kk vv =>
      have hd9 : d < 60 := by have h1 := HD.out; simp only [T.size] at h1; have := HF.out; omega
      have hd1 : (d : Int) < 64 := by omega
      have hd0 : (0 : Int) ≤ (d : Nat) := by omega
      obtain ⟨xd, hxd⟩ : ∃ x, cd[d]? = some x := ⟨cd[d]'(by rw [HSd.out]; omega), Array.getElem?_eq_getElem _⟩
      obtain ⟨xc, hxc⟩ : ∃ x, cc[d]? = some x := ⟨cc[d]'(by rw [HSc.out]; omega), Array.getElem?_eq_getElem _⟩
      have HXd := Lib.hid hxd
      have HXc := Lib.hid hxc
      have HNe : Hid (bc ≠ a ∧ bd ≠ a) := Lib.hid (by have := HBb.out a (by simp [T.bl]); exact ⟨Ne.symm this.1, Ne.symm this.2⟩)
      have c3 := HR1.out.1.cell 3
      simp only [ncell, en, List.getElem?_toArray, List.getElem?_cons_zero, List.getElem?_cons_succ] at c3
      simp only [T.adr, ad, Option.map_some]
      clear hxd hxc hd9
      have hto : (T.node a b l r kk vv).toL = l.toL ++ (kk, vv) :: r.toL := rfl
      rcases Int.lt_trichotomy kk key with hlt | heq | hgt
      · have HOo := Lib.hid (ord_lt hlt)
        have HGr : Hid (lget key r.toL = none) := Lib.hid (by rw [← lget_gt HO1.out hlt]; exact HG1.out)
        clear hlt hto
        go_wp2_with (first | (change Calls Try.prog 61 #[.agg #[.int .i64 kk, .int .i64 vv], en key val] _ _; refine (compare_to kk vv key val (-1) HOo.out _).mono ?_; rintro r5 w5 ⟨rfl, hC⟩; have HZ := Lib.hid (HR1.out.keep hC (fun _ _ h => h)); have z1 := HZ.out.1; have hbd5 := HBd.out.keep hC (fun h => h); have hbc5 := HBc.out.keep hC (fun h => h); have p0 := hbd5.cell d; have pf := hbd5.free d; have hb6 := hbc5.setOther (p := ⟨bd, d, none⟩) (Ne.symm HBB.out) (.int .i64 1); have e0 := hb6.cell d; have ef := hb6.free d; have z3 := ((z1.setOther (p := ⟨bd, d, none⟩) HNe.out.2 (.int .i64 1)).setOther (p := ⟨bc, d, none⟩) HNe.out.1 (.pointer (some ⟨a, 0, none⟩))); have q1 := z3.cell 1; have q2 := z3.cell 2; simp only [ncell, List.getElem?_toArray, List.getElem?_cons_zero, List.getElem?_cons_succ] at q1 q2; rw [HXd.out] at p0; rw [HXc.out] at e0; have HC5 := Lib.hid hC; clear hC z1 z3 hbd5 hbc5 hb6) | (go_at_call 35; refine (norm_m _).mono ?_; rintro rz wz ⟨rfl, e⟩; rw [e]; clear e))
        go_roundg r.size
        case rel => exact d1_step HB0.out HB1.out HBB.out (Or.inr rfl) HD.out HR1.out HGr.out (ord_r HO1.out) HBc.out HSc.out HBd.out HSd.out HBb.out HC1.out HC5.out
        case measure => have := HK.out; simp only [T.size] at this; omega
      · exfalso
        subst heq
        have := HG1.out
        rw [hto, lget_at HO1.out] at this
        cases this
      · have HOo := Lib.hid (ord_gt hgt)
        have HGr : Hid (lget key l.toL = none) := Lib.hid (by rw [← lget_lt HO1.out hgt]; exact HG1.out)
        clear hgt hto
        go_wp2_with (first | (change Calls Try.prog 61 #[.agg #[.int .i64 kk, .int .i64 vv], en key val] _ _; refine (compare_to kk vv key val (1) HOo.out _).mono ?_; rintro r5 w5 ⟨rfl, hC⟩; have HZ := Lib.hid (HR1.out.keep hC (fun _ _ h => h)); have z1 := HZ.out.1; have hbd5 := HBd.out.keep hC (fun h => h); have hbc5 := HBc.out.keep hC (fun h => h); have p0 := hbd5.cell d; have pf := hbd5.free d; have hb6 := hbc5.setOther (p := ⟨bd, d, none⟩) (Ne.symm HBB.out) (.int .i64 0); have e0 := hb6.cell d; have ef := hb6.free d; have z3 := ((z1.setOther (p := ⟨bd, d, none⟩) HNe.out.2 (.int .i64 0)).setOther (p := ⟨bc, d, none⟩) HNe.out.1 (.pointer (some ⟨a, 0, none⟩))); have q1 := z3.cell 1; have q2 := z3.cell 2; simp only [ncell, List.getElem?_toArray, List.getElem?_cons_zero, List.getElem?_cons_succ] at q1 q2; rw [HXd.out] at p0; rw [HXc.out] at e0; have HC5 := Lib.hid hC; clear hC z1 z3 hbd5 hbc5 hb6) | (go_at_call 35; refine (norm_p _).mono ?_; rintro rz wz ⟨rfl, e⟩; rw [e]; clear e))
        go_roundg l.size
        case rel => exact d1_step HB0.out HB1.out HBB.out (Or.inl rfl) HD.out HR1.out HGr.out (ord_l HO1.out) HBc.out HSc.out HBd.out HSd.out HBb.out HC1.out HC5.out
        case measure => have := HK.out; simp only [T.size] at this; omega
theorem del_any (cp : Nat) (t : T) (key val : Int) (w : World) (h : Imm w cp t) (hg : lget key t.toL = none) (hf : t.toL.length ≤ 60) : Calls Try.prog 29 #[.pointer (some ⟨cp, 0, none⟩), en key val] w fun r w' => r = .returned .nilIface ∧ Ch S0 w w' := by
  cases t with
  | nil => exact del_nil cp key val w h
  | node r0 b0 tl tr k0 v0 => exact del_miss cp r0 b0 tl tr k0 v0 key val w h hg hf
/-- What a Delete of keys that are not there hands back. -/
def DelAll (w : World) (t : T) (n : Nat) (es : List (Int × Int)) (r : Ending) (w' : World) : Prop :=
  ∃ cp' t' v, r = .returned (.tuple #[.pointer (some ⟨cp', 0, none⟩), v]) ∧ Imm w' cp' t' ∧ w.heap.size ≤ cp' ∧ t'.toL = t.toL ∧ w'.ownsRow w.heap.size 66 1 v n (av (ansG t.toL es)) ∧ (∀ x ∈ t'.bl, x ∈ t.bl ∨ w.heap.size ≤ x)
set_option maxRecDepth 100000 in
set_option maxHeartbeats 8000000 in
theorem Delete_any (cp : Nat) (t : T) (A : Option Addr) (n c : Nat) (es : List (Int × Int)) (w : World) (h : Imm w cp t) (hl : es.length = n) (hn0 : 0 < n) (hn : n ≤ 1000) (hf : t.toL.length ≤ 60) (hm : ∀ e ∈ es, lget e.1 t.toL = none) (hA : Rd w A (pv es)) :
    Calls Try.prog 23 #[.pointer (some ⟨cp, 0, none⟩), .slice A n c] w fun r w' => DelAll w t n es r w' ∧ Ch S0 w w' := by
  have hmk : (Instr.makeSlice 55 (.int .i64 0) (.int .i64 (n : Int))).run Try.prog w = .ok (.slice (some ⟨w.heap.size, 0, none⟩) 0 n) (w.alloc (.cells (Array.replicate n .nilIface) 66)) := make_one (bytes := 16) (z := .nilIface) Try.underlying55 (by kernel_rfl) rfl .i64 .i64 0 n (Nat.zero_le _) (by omega) (by omega) w
  obtain ⟨w2, hw2⟩ : ∃ w2, w2 = w.alloc (.cells (Array.replicate n .nilIface) 66) := ⟨_, rfl⟩
  have hO2 : w2.ownsRow w.heap.size 66 1 (.slice (some ⟨w.heap.size, 0, none⟩) 0 n) 0 [] := by
    have h1 := World.ownsRow_made w (e := 66) (size := 1) (base := w.heap.size) (Array.replicate n .nilIface) n (by omega) (by unfold maxLen; omega) (by simp)
    rw [hw2]
    exact h1
  have hC2 : Ch S0 w w2 := by rw [hw2]; exact (Ch.refl _ _).alloc _
  have hlen : ¬ (n : Int) = 0 := by omega
  have hlt2 : w.heap.size < w2.heap.size := by rw [hw2, World.size_alloc]; omega
  have HLt2 := Lib.hid hlt2
  have HO2 := Lib.hid hO2
  have HC2 := Lib.hid hC2
  have HW2 := Lib.hid hw2
  have HL := Lib.hid hl
  have HA := Lib.hid hA
  have HI := Lib.hid h
  have HF := Lib.hid hf
  have HM := Lib.hid hm
  clear hO2 hC2 hw2 hl hA h hf hm hlt2
  go_enter Try.func23, Try.ntmps23
  go_wp2_with (go_at_call 27; rw [← HW2.out]; refine (copyI_any cp t w2 (HI.out.keep HC2.out (fun h => h) (fun _ _ h => h))).mono ?_; rintro r w3 ⟨cp', t', rfl, hcp, hI3, hl3, hC3, ha3, hb3⟩; have HI3 := Lib.hid hI3; have HL3 := Lib.hid hl3; have HC3 := Lib.hid hC3; have HB3 := Lib.hid hb3; have HCp := Lib.hid hcp; clear hI3 hl3 hC3 ha3 hb3 hcp)
  have hs2 := HC2.out.size
  have HBl : Hid (∀ x ∈ t'.bl, x ∈ t.bl ∨ w.heap.size ≤ x) := Lib.hid (fun x hx => (HB3.out x hx).imp id (fun h => by omega))
  have HNo : Hid (cp' ≠ w.heap.size ∧ w.heap.size ∉ t'.bl) := Lib.hid (by
    have h1 := HCp.out
    have h2 := HLt2.out
    refine ⟨by omega, fun hx => ?_⟩
    rcases HB3.out _ hx with h | h
    · have := HI.out.rep.lt _ h; omega
    · omega)
  have HOs := Lib.hid (own_keep0 HO2.out HC3.out)
  have HCs := Lib.hid (HC2.out.trans HC3.out)
  have HCp := Lib.hid (Nat.le_trans hs2 HCp.out)
  clear hmk hs2
  go_loopw [6, 22] (fun v6 v22 wr => ∃ i : Nat, i ≤ n ∧ v22 = .int .i64 i ∧ Imm wr cp' t' ∧ wr.ownsRow w.heap.size 66 1 v6 i (av (ansG t.toL (es.take i))) ∧ (∀ g, v6.ownBlock = some g → g ≠ cp' ∧ g ∉ t'.bl) ∧ Ch S0 w wr) (fun _ vi _ => n - (intOf vi).toNat)
  case atStart => exact ⟨0, by omega, rfl, HI3.out, HOs.out, fun g hg => by cases hg; exact ⟨Ne.symm HNo.out.1, HNo.out.2⟩, HCs.out⟩
  case round =>
    obtain ⟨i, hi, rfl, hI, hO, hN, hC⟩ := hrel
    have HI1 := Lib.hid hI
    have HO1 := Lib.hid hO
    have HN1 := Lib.hid hN
    have HC1 := Lib.hid hC
    clear hI hO hN hC
    by_cases hlt : i < n
    · have hlti : (i : Int) < (n : Nat) := by omega
      have hi0 : (0 : Int) ≤ (i : Nat) := by omega
      obtain ⟨⟨k, v⟩, hx⟩ : ∃ x, es[i]? = some x := ⟨es[i]'(by have := HL.out; omega), by simp [HL.out, hlt]⟩
      obtain ⟨q, o, e, c0⟩ := (HA.out.keep0 HC1.out).at (pv_at hx)
      subst e
      have hgk : lget k t.toL = none := HM.out (k, v) (List.mem_of_getElem? hx)
      have HGk : Hid (lget k t'.toL = none) := Lib.hid (by rw [HL3.out]; exact hgk)
      have HF3 : Hid (t'.toL.length ≤ 60) := Lib.hid (by rw [HL3.out]; exact HF.out)
      have HT : Hid (av (ansG t.toL (es.take (i + 1))) = av (ansG t.toL (es.take i)) ++ [.nilIface]) := Lib.hid (by rw [take_one hx, ansG_snoc, av_snoc]; simp only [hgk, oldE])
      simp only [en] at c0
      clear hx hgk
      go_wp2_with (first | (change Calls Try.prog 29 #[.pointer (some ⟨cp', 0, none⟩), en k v] _ _; refine (del_any cp' t' k v _ HI1.out HGk.out HF3.out).mono ?_; rintro r wi ⟨rfl, hC⟩; have HOi := Lib.hid (own_keep0 HO1.out hC); have hsz := Nat.le_trans HC1.out.size hC.size; have HCi := Lib.hid (HC1.out.trans hC); have HIi := Lib.hid (HI1.out.keep hC (fun h => h) (fun _ _ h => h)); clear hC) | (at_builtin; go_loud (refine app_own elE rfl (.tmp 26) (.tmp 30) rfl w.heap.size i u6 (av (ansG t.toL (es.take i))) rfl HOi.out [.nilIface] rfl (by simp [Value.oneCell']) wi.heap.size rfl rfl (by unfold maxLen; omega) (by omega) hsz ?_); intro v' w4 hown4 hc4 hb4; have HOw := Lib.hid hown4; have HC4 := Lib.hid hc4; have HB4 := Lib.hid hb4; clear hown4 hc4 hb4))
      go_roundw
      case rel =>
        have hI4 : Imm w4 cp' t' := HIi.out.keep HC4.out (fun e => (HN1.out _ e).1 rfl) (fun x hx e => (HN1.out x e).2 hx)
        have hO4 : w4.ownsRow w.heap.size 66 1 v' (i + 1) (av (ansG t.toL (es.take (i + 1)))) := by rw [HT.out]; exact HOw.out
        exact ⟨i + 1, by omega, by go_num, hI4, hO4, fun g hg => apart1 hI4 (notN_row hO4 (av_not _)) hg, HCi.out.trans' HC4.out (fun j hj e => absurd (own_lt HO1.out j e).1 (by omega))⟩
      case measure => simp [intOf]; omega
    · have hin : ¬ (i : Int) < (n : Nat) := by omega
      have hie : i = n := by omega
      go_wp2_with fail
      go_ret2
      have hT : es.take i = es := by rw [hie, ← HL.out, List.take_length]
      have hO := HO1.out
      rw [hT, hie] at hO
      refine ⟨⟨cp', t', _, rfl, HI1.out, HCp.out, HL3.out, hO, HBl.out⟩, HC1.out⟩
end Go.Proofs.Ytlppnbmaedgodaa
