/- WALKS: a step that takes elements out. -/
import Derived.Test.YtpkeiankocimaaaDoorG
namespace Go.Proofs.YtpkeiankocimaaaDoor
open Go.RowKit
set_option linter.unusedVariables false
set_option linter.unusedSimpArgs false

set_option maxHeartbeats 8000000 in
set_option maxRecDepth 100000 in
theorem step_get (base q n cap g mb : Nat) (dup : Bool) (a : List El) (m : Nat) (A : Option Addr) (len cp : Nat) (its : List El) (w : World) (h : QS w base q n cap g mb dup a) (hb : base ≤ w.heap.size) (h0 : 0 < a.length) (hl : a.length ≤ 2000) (hm0 : 1 ≤ m) (hm : m ≤ 1000) :
    Calls Tryd.prog 15 #[.pointer (some ⟨q, 0, none⟩), stepV ⟨2, m, A, len, cp, its⟩] w fun r w' => StepX w base q g mb dup a ⟨2, m, A, len, cp, its⟩ r w' := by
  have hgl : g < w.heap.size := (own_lt h.qm.row g rfl).2
  have hql := h.qm.blk.lt
  have hal := h.qm.len
  have hml : mb < w.heap.size := by
    obtain ⟨f, nn, hm, _⟩ := h.map
    exact hm.lt
  obtain ⟨W1, hW1⟩ : ∃ W1, W1 = (w.alloc (.cells #[.int .i64 2, .int .i64 m, .slice A len cp] 32)).alloc (.cells #[.slice none 0 0, .int .i64 0, .bool false, .int .i64 0] 36) := ⟨_, rfl⟩
  have hC1 : Ch S0 w W1 := by rw [hW1]; exact ((Ch.refl _ _).alloc _).alloc _
  have hs1 : W1.heap.size = w.heap.size + 1 + 1 := by rw [hW1, World.size_alloc, World.size_alloc]
  have hB1 : Blk W1 (w.heap.size + 1) #[.slice none 0 0, .int .i64 0, .bool false, .int .i64 0] := by
    have := Blk.new (w.alloc (.cells #[.int .i64 2, .int .i64 m, .slice A len cp] 32)) #[.slice none 0 0, .int .i64 0, .bool false, .int .i64 0] 36
    rw [World.size_alloc] at this
    rw [hW1]
    exact this
  have hB0 : Blk W1 w.heap.size #[.int .i64 2, .int .i64 m, .slice A len cp] := by
    have := (Blk.new w #[.int .i64 2, .int .i64 m, .slice A len cp] 32).alloc (.cells #[.slice none 0 0, .int .i64 0, .bool false, .int .i64 0] 36)
    rw [hW1]
    exact this
  have s1 := hB0.cell 1
  simp only [List.getElem?_toArray, List.getElem?_cons_zero, List.getElem?_cons_succ] at s1
  have HQ1 := Lib.hid (h.keep hC1 (fun h => h) (fun h => h) (fun h => h))
  have hmi : (1 : Int) ≤ (m : Nat) := by omega
  have hde : decide (a.length = 0) = false := by rw [decide_eq_false_iff_not]; omega
  have HH := Lib.hid h
  have HW1 := Lib.hid hW1
  have HC1 := Lib.hid hC1
  have HB1 := Lib.hid hB1
  clear h hW1 hC1 hB1 hB0
  unfold stepV
  go_enter Tryd.func15, Tryd.ntmps15
  go_upto_region 11 with fail
  rw [← HW1.out]
  go_wp2_with (go_at_call 19; refine (empty_any base q n cap g mb dup a _ HQ1.out).mono ?_; rintro r _ ⟨rfl, rfl⟩; rw [hde])
  refine (Get_any base q n cap g mb m dup a _ HQ1.out (by omega) hm0 hm).mono ?_
  rintro r w2 ⟨⟨Ag, k, c, out, b, n', rfl, hol, hR, hA, hQ2, hU⟩, hC2⟩
  have HOl := Lib.hid hol
  have HR := Lib.hid hR
  have HA := Lib.hid hA
  have HQ2 := Lib.hid hQ2
  have HU := Lib.hid hU
  have HC2 := Lib.hid hC2
  clear hol hR hA hQ2 hU hC2
  go_wp2_with fail
  refine (pqError_nil _).mono ?_
  rintro r w3 ⟨rfl, e3⟩
  rw [e3]
  clear e3
  go_upto_region 16 with fail
  obtain ⟨w4, hw4⟩ : ∃ w4, w4 = w2.alloc (.cells #[.slice none 0 0, .int .i64 0, .bool false, .int .i64 0] 36) := ⟨_, rfl⟩
  have hB4 : Blk w4 w2.heap.size #[.slice none 0 0, .int .i64 0, .bool false, .int .i64 0] := by rw [hw4]; exact Blk.new w2 _ _
  have hC4 : Ch S0 w2 w4 := by rw [hw4]; exact (Ch.refl _ _).alloc _
  have hs4 : w4.heap.size = w2.heap.size + 1 := by rw [hw4, World.size_alloc]
  rw [← hw4]
  have HB4 := Lib.hid hB4
  have HC4 := Lib.hid hC4
  have hs2 := HC2.out.size
  clear hw4 hB4 hC4
  obtain ⟨z, hz⟩ : ∃ z, z = w2.heap.size := ⟨_, rfl⟩
  rw [← hz] at HB4 hs4 ⊢
  have HZq := Lib.hid hz
  have HS4 := Lib.hid hs4
  have HAl := Lib.hid hal
  have hk2 : k ≤ 2000 := by
    have h1 := HU.out.perm.length_eq
    have h2 := HOl.out
    simp at h1
    omega
  have hz1 : w.heap.size + 2 ≤ z := by omega
  clear hz hs4 hal hs1
  go_loopw [65] (fun vi wr => ∃ (i : Nat) (v : Value), i ≤ k ∧ vi = .int .i64 i ∧ Blk wr z #[v, .int .i64 0, .bool false, .int .i64 0] ∧ wr.ownsRow w4.heap.size 38 2 v i (pv (out.take i)) ∧ Ch (S1 z) w4 wr) (fun vi _ => k - (intOf vi).toNat)
  case atStart => exact ⟨0, _, by omega, rfl, HB4.out, World.ownsRow_nil _ _ _ _, Ch.refl _ _⟩
  case round =>
    obtain ⟨i, v, hi, rfl, hB, hO, hC⟩ := hrel
    have hzl := hB.lt
    have hsz := hC.size
    have HB := Lib.hid hB
    have HO := Lib.hid hO
    have HC := Lib.hid hC
    clear hB hO hC
    by_cases hlt : i < k
    · have hlti : (i : Int) < (k : Nat) := by omega
      have hi0 : (0 : Int) ≤ (i : Nat) := by omega
      obtain ⟨x, hx⟩ : ∃ x, out[i]? = some x := ⟨out[i]'(by have := HOl.out; omega), by simp [HOl.out, hlt]⟩
      obtain ⟨qa, o, e, c0⟩ := ((HR.out.keep0 HC4.out).keep HC.out (fun b o h e => by
        have e : b = z := e
        have := (HR.out.lt (by simp [HOl.out]; omega))
        obtain ⟨b', o', e', h'⟩ := this
        rw [e'] at h
        cases h
        have := HZq.out
        omega)).at (ev_get hx)
      subst e
      have HT : Hid (pv (out.take (i + 1)) = pv (out.take i) ++ [.int .i64 x.1, .int .i64 x.2]) := Lib.hid (by rw [List.take_add_one, hx]; exact pv_snoc _ _)
      clear hx
      obtain ⟨x1, x2⟩ := x
      have hkV : kV (x1, x2) = .iface 54 (.agg #[.int .i64 x1, .int .i64 x2]) := rfl
      rw [hkV] at c0
      have hty : ∀ w, (Instr.typeAssert (.iface 54 (.agg #[.int .i64 x1, .int .i64 x2])) 63 54 false).run Tryd.prog w = .ok (.agg #[.int .i64 x1, .int .i64 x2]) w := fun _ => by kernel_rfl
      have hf1 : ∀ w, (Instr.field 54 (.agg #[.int .i64 x1, .int .i64 x2]) 0).run Tryd.prog w = .ok (.agg #[.int .i64 x1, .int .i64 x2]) w := fun _ => by kernel_rfl
      have z0 := HB.out.cell 0
      have y0 := HB.out.free 0
      simp only [List.getElem?_toArray, List.getElem?_cons_zero] at z0
      have hC5 : Ch S0 wr (wr.alloc (.cells #[.int .i64 x1, .int .i64 x2] 38)).drew := ((Ch.refl S0 wr).alloc _).drew
      have HOn : Hid ((wr.alloc (.cells #[.int .i64 x1, .int .i64 x2] 38)).drew.ownsRow w4.heap.size 38 2 v i (pv (out.take i))) := Lib.hid (own_keep0 HO.out hC5)
      have HRn : Hid (Rd (wr.alloc (.cells #[.int .i64 x1, .int .i64 x2] 38)).drew (some ⟨wr.heap.size, 0, none⟩) [.int .i64 x1, .int .i64 x2]) := Lib.hid (Rd.keep0 (Rd.new wr [.int .i64 x1, .int .i64 x2] 38) (Ch.refl S0 _).drew)
      have HBn := Lib.hid (HB.out.keep hC5 (fun h => h))
      have HM1 : Hid (i + 1 ≤ maxLen) := Lib.hid (by unfold maxLen; omega)
      have HM2 : Hid ((i + 1) * 16 ≤ 140737488355328) := Lib.hid (by omega)
      have HOne : Hid (∀ u ∈ [Value.int .i64 x1, Value.int .i64 x2], u.oneCell' = true) := Lib.hid (by simp [Value.oneCell'])
      have HSz : Hid (w4.heap.size ≤ (wr.alloc (.cells #[.int .i64 x1, .int .i64 x2] 38)).drew.heap.size) := Lib.hid (Nat.le_trans hsz hC5.size)
      have hvz : ∀ gg, v.ownBlock = some gg → w4.heap.size ≤ gg := fun gg hg => (own_lt HO.out gg hg).1
      have HVz := Lib.hid hvz
      have HC5 := Lib.hid hC5
      have HZ4 : Hid (z < w4.heap.size) := Lib.hid (by have := HS4.out; omega)
      clear hkV hC5 hvz
      go_wp2_with fail
      go_region_law (refine step_all elEl rfl (.tmp 70) (.tmp 74) rfl w4.heap.size i v (pv (out.take i)) (by rfl) HOn.out wr.heap.size 0 1 1 [.int .i64 x1, .int .i64 x2] (by rfl) HOne.out (by rfl) HRn.out HM1.out HM2.out HSz.out ?_; intro v8 w8 hO8 hC8 hb8 _; obtain ⟨A8, cap8, rfl, _⟩ := own_rd hO8; have HO8 := Lib.hid hO8; have HC8 := Lib.hid hC8; have hz8 := HBn.out.keep hC8 (fun e => absurd (HVz.out z e) (Nat.not_le.2 HZ4.out)); have p1 := hz8.cell 0; have r1 := hz8.free 0; simp only [List.getElem?_toArray, List.getElem?_cons_zero] at p1; have HZ8 := Lib.hid hz8; clear hO8 hC8 hb8 hz8)
      all_goals
        go_wp2_with fail
        go_roundw
        case rel =>
          have hst : Ch (S1 z) w8 (w8.setCell ⟨z, 0, none⟩ (.slice A8 (i + 1) cap8)) := (Ch.refl (S1 z) w8).setCell ⟨z, 0, none⟩ (fun _ => rfl) _
          have hb8 := own_lt HO8.out
          refine ⟨i + 1, _, by omega, by go_num, by simpa using HZ8.out.set 0 (.slice A8 (i + 1) cap8), ?_, ?_⟩
          · rw [HT.out]
            exact own_keepS HO8.out hst (fun gg hg e => by have h1 := (hb8 gg hg).1; have h2 := HZ4.out; have e : gg = z := e; omega)
          · exact ((HC.out.trans (HC5.out.mono (fun _ _ h => h.elim))).trans' HC8.out (fun i hi e => absurd (HVz.out i e) (by omega))).trans hst
        case measure => simp [intOf]; omega
    · have hin : ¬ (i : Int) < (k : Nat) := by omega
      have hie : i = k := by omega
      subst hie
      obtain ⟨Av, cv, rfl, hRv, _, hAv, _, _⟩ := own_rd HO.out
      have htk : out.take i = out := by rw [← HOl.out, List.take_length]
      rw [htk] at hRv
      have b0 := HB.out.cell 0
      have b1 := HB.out.cell 1
      have b2 := HB.out.cell 2
      have b3 := HB.out.cell 3
      have hC4r : Ch (SQ q mb g) w wr := ((HC1.out.mono (fun _ _ h => h.elim)).trans HC2.out).trans' ((HC4.out.mono (fun _ _ h => h.elim)).trans' HC.out (fun j hj e => by have e : j = z := e; have := HZq.out; omega)) (fun j hj (e : S0 j) => e.elim)
      have hBr := ((HB1.out.keep HC2.out (fun e => by rcases e with e | e | e <;> omega)).keep HC4.out (fun h => h)).keep HC.out (fun e => by have e : _ = z := e; omega)
      have z0 := hBr.cell 0
      have z1 := hBr.cell 1
      have z2 := hBr.cell 2
      have z3 := hBr.cell 3
      have y0 := hBr.free 0
      have y1 := hBr.free 1
      have y2 := hBr.free 2
      have y3 := hBr.free 3
      simp only [List.getElem?_toArray, List.getElem?_cons_zero, List.getElem?_cons_succ] at b0 b1 b2 b3 z0 z1 z2 z3
      have hl5 := hBr.lt
      have hQr := (HQ2.out.keep HC4.out (fun h => h) (fun h => h) (fun h => h)).keep HC.out (fun e => by have e : q = z := e; omega) (fun e => by have e : mb = z := e; omega) (fun e => by have e : g = z := e; omega)
      have hRz := hRv.keep (ch4 wr (w.heap.size + 1) (.slice Av i cv) (.int .i64 0) (.bool false) (.int .i64 0)) (fun b o h e => by
        have h1 := (hAv b o none h).2.1
        have e : b = w.heap.size + 1 := e
        have := HS4.out
        omega)
      have HRz := Lib.hid hRz
      have HAv : Hid (∀ b o, Av = some ⟨b, o, none⟩ → z < b ∧ b < wr.heap.size) := Lib.hid (fun b o h => by have h1 := (hAv b o none h).2; have := HS4.out; omega)
      have HQr := Lib.hid hQr
      have HCr := Lib.hid hC4r
      clear htk hRv hAv hBr hQr hRz hC4r
      go_wp2_with fail
      refine bodyPost_ret (v := .agg #[.slice Av i cv, .int .i64 0, .bool false, .int .i64 0]) (by simp [results, Tryd.results15, go_sem, z0, z1, z2, z3, hl5]) rfl ?_
      refine step_end (z := w.heap.size + 1) (d := ⟨Av, i, cv, out, 0, false⟩) (by omega) hl5 HCr.out HQr.out (Or.inl rfl) (by omega) hql hml (ch4 _ _ _ _ _ _) HOl.out HRz.out (fun b o e => ?_) ?_
      · have := HAv.out b o e
        refine ⟨by omega, this.2, fun h => ?_⟩
        rcases h with h | h | h <;> omega
      · exact does2 rfl HU.out
end Go.Proofs.YtpkeiankocimaaaDoor
