/- WALKS: the least element taken out of a queue's heap. -/
import Derived.Test.YtpkeiankocimaaaDoorB
import Derived.Deep.RegionHeld3
namespace Go.Proofs.YtpkeiankocimaaaDoor
open Go.RowKit
set_option linter.unusedVariables false
set_option linter.unusedSimpArgs false

theorem own_shrink {w : World} {base E g n cap : Nat} {xs : List Value} (h : w.ownsRow base E 1 (.slice (some ⟨g, 0, none⟩) (n + 1) cap) (n + 1) xs) : w.ownsRow base E 1 (.slice (some ⟨g, 0, none⟩) n cap) n (xs.take n) := by
  obtain ⟨h1, h2⟩ := h
  refine ⟨by simp; omega, ?_⟩
  rcases h2 with ⟨e, _⟩ | ⟨g', cap', cur, e, hb, hh, hnc, h4, h5, h6⟩
  · cases e
  · cases e
    refine Or.inr ⟨g, cap, cur, rfl, hb, hh, by omega, h4, h5, ?_⟩
    rw [← h6, List.take_take]
    congr 1
    omega
/-- What stands when the last element has gone. -/
theorem pop_mid {w : World} {base qb n cap g : Nat} {vm vd vp : Value} {a : List El} (h : QM w base qb (n + 1) cap g vm vd vp a) :
    QM ((w.setCell ⟨g, n, none⟩ .nilIface).setCell ⟨qb, 0, none⟩ (.slice (some ⟨g, 0, none⟩) n cap)) base qb n cap g vm vd vp (a.take n) := by
  have h1 := (h.row.stored n .nilIface).1
  have hb1 := h.blk.setOther (p := ⟨g, n, none⟩) h.ne .nilIface
  refine ⟨by simpa using hb1.set 0 (.slice (some ⟨g, 0, none⟩) n cap), ?_, h.ne⟩
  have h2 := own_shrink h1
  have e : ((ev a).set n .nilIface).take n = ev (a.take n) := by
    rw [List.take_set_of_le (Nat.le_refl _)]
    simp [ev, List.map_take]
  rw [e] at h2
  exact own_keepS (S := fun k => k = qb) h2 ((Ch.refl (fun k => k = qb) _).setCell ⟨qb, 0, none⟩ (fun _ => rfl) _) (fun k hk e => h.ne (by simp [Value.ownBlock] at hk; omega))
def Low (a b : List El) (x : El) (n idx : Nat) : Prop := a.Perm (x :: b) ∧ DownInv (keyAt b) n idx
theorem take_key {a : List El} {n i : Nat} (hi : i < n) : keyAt (a.take n) i = keyAt a i := by
  unfold keyAt
  rw [List.getD_eq_getElem?_getD, List.getD_eq_getElem?_getD, List.getElem?_take_of_lt hi]
theorem low_start {a : List El} {n : Nat} (hl : a.length = n + 1) (hh : Heap (keyAt a) (n + 1)) : Low a ((swapL a n 0).take n) (a.getD 0 (0, 0)) n 0 := by
  have hs : (swapL a n 0).length = n + 1 := by simp [hl]
  refine ⟨?_, down_start fun i i1 i2 i3 => ?_⟩
  · have e : swapL a n 0 = (swapL a n 0).take n ++ [a.getD 0 (0, 0)] := by
      have e1 : (swapL a n 0).drop n = [(swapL a n 0).getD n (0, 0)] := by
        rw [List.drop_eq_getElem_cons (by omega), List.drop_eq_nil_of_le (by omega)]
        simp [List.getD, hs]
      have e2 : (swapL a n 0).getD n (0, 0) = a.getD 0 (0, 0) := by
        rw [swapL_get a n 0 n (by omega) (by omega) (by omega)]
        by_cases h0 : n = 0
        · simp [h0]
        · simp [h0]
      rw [← e2, ← e1, List.take_append_drop]
    have hp := swapL_perm a n 0 (by omega) (by omega)
    rw [e] at hp
    exact hp.symm.trans (List.perm_append_comm.trans (by simp))
  · have hpi := par_lt i1
    rw [take_key i2, take_key (by omega), keyAt_swap a n 0 (by omega) (by omega) i (by omega), keyAt_swap a n 0 (by omega) (by omega) (par i) (by omega)]
    unfold swp
    simp only [show par i ≠ n from by omega, i3, show i ≠ n from by omega, show i ≠ 0 from by omega, if_false]
    exact hh i i1 (by omega)

theorem low_last {a : List El} {n : Nat} (hl : a.length = n + 1) : (swapL a n 0).getD n (0, 0) = a.getD 0 (0, 0) := by
  rw [swapL_get a n 0 n (by omega) (by omega) (by omega)]
  by_cases h0 : n = 0
  · simp [h0]
  · simp [h0]
theorem kids {i idx : Nat} (h : par i = idx) (h0 : 0 < i) : i = 2 * idx + 1 ∨ i = 2 * idx + 2 := by
  unfold par at h
  omega

theorem cell_keep {w w' : World} {p : Addr} {v : Value} (hc : Ch S0 w w') (h : w.cell? p = some v) : w'.cell? p = some v := by
  rw [World.cell?_of_block (w := w) (hc.block _ (World.block_lt_of_cell? w _ h) (fun h => h))]
  exact h
theorem low_step {a b : List El} {x : El} {n idx c : Nat} (h : Low a b x n idx) (hl : b.length = n) (h0 : c = 2 * idx + 1 ∨ c = 2 * idx + 2) (hc : c < n) (hlt : keyAt b c < keyAt b idx) (hmin : ∀ i, 0 < i → i < n → par i = idx → keyAt b c ≤ keyAt b i) : Low a (swapL b idx c) x n c := by
  have hp : par c = idx := by unfold par; omega
  have hci : idx < c := by omega
  refine ⟨h.1.trans (List.Perm.cons x (swapL_perm b idx c (by omega) (by omega)).symm), (down_step h.2 (by omega) hc hp hlt hmin).congr hc fun i hi => ?_⟩
  exact keyAt_swap b idx c (by omega) (by omega) i (by omega)
/-- What is told by pop. -/
def PopR (base qb n cap g : Nat) (vm vd vp : Value) (a : List El) (r : Ending) (w' : World) : Prop := ∃ x b, r = .returned (en x) ∧ QM w' base qb n cap g vm vd vp b ∧ a.Perm (x :: b) ∧ Heap (keyAt b) n ∧ x = a.getD 0 (0, 0)

set_option maxHeartbeats 8000000 in
set_option maxRecDepth 100000 in
theorem pop_any (base qb n cap g : Nat) (vm vd vp : Value) (a : List El) (w : World) (h : QM w base qb (n + 1) cap g vm vd vp a) (hh : Heap (keyAt a) (n + 1)) (hn : n < 100000) :
    Calls Tryd.prog 29 #[.pointer (some ⟨qb, 0, none⟩)] w fun r w' => PopR base qb n cap g vm vd vp a r w' ∧ Ch (fun k => k = qb ∨ k = g) w w' := by
  have hl := h.len
  have q0 := h.blk.cell 0
  simp only [List.getElem?_toArray, List.getElem?_cons_zero] at q0
  have hs : Calls Tryd.prog 28 #[.pointer (some ⟨qb, 0, none⟩), .int .i64 n, .int .i64 0] w _ := swap_any base qb (n + 1) cap g n 0 vm vd vp a w h (by omega) (by omega)
  have hncap : n + 1 ≤ cap := by
    obtain ⟨_, _, e, _, hc, _⟩ := own_rd h.row
    cases e
    exact hc
  have HS := Lib.hid hs
  have HL := Lib.hid hl
  have HLow := Lib.hid (low_start hl hh)
  have hnc : (n : Int) ≤ (cap : Nat) := by omega
  have hn0 : (0 : Int) ≤ (n : Nat) := by omega
  have hnn : (n : Int) < (n : Nat) + 1 := by omega
  have HNe := Lib.hid h.ne
  obtain ⟨x0, hx0⟩ : ∃ x, x = a.getD 0 (0, 0) := ⟨_, rfl⟩
  have HLast : Hid (some (en ((swapL a n 0).getD n (0, 0))) = some (en x0)) := Lib.hid (by rw [low_last hl, hx0])
  rw [← hx0] at HLow
  have HX0 := Lib.hid hx0
  clear h hh hs hl hx0
  go_enter Tryd.func29, Tryd.ntmps29
  go_wp2_with (go_at_call 28; refine HS.out.mono ?_; rintro r w1 ⟨rfl, hQ1, hC1⟩; have q1 := hQ1.blk.cell 0; have f1 := hQ1.blk.free 0; have k1 := (hQ1.row.cellAt n (by omega)).trans ((ev_at (by rw [swapL_length, HL.out]; omega)).trans HLast.out); have g1 := hQ1.row.frozenAt n; have q2 := (hQ1.blk.setOther (p := ⟨g, n, none⟩) hQ1.ne .nilIface).cell 0; have f2 := (hQ1.blk.setOther (p := ⟨g, n, none⟩) hQ1.ne .nilIface).free 0; simp only [List.getElem?_toArray, List.getElem?_cons_zero] at q1 q2; have HQ1 := Lib.hid hQ1; have HC1 := Lib.hid hC1; clear hQ1 hC1)
  go_region
  go_wp2
  have hQ5 : QM _ base qb n cap g vm vd vp ((swapL a n 0).take n) := (pop_mid HQ1.out).drew
  have hCa : Ch (fun k => k = qb ∨ k = g) w w1 := HC1.out.mono (fun k _ hk => Or.inr hk)
  have hCb := Ch.setCell (S := fun k => k = qb ∨ k = g) (p := ⟨g, n, none⟩) hCa (fun _ => Or.inr rfl) Value.nilIface
  have hCc := Ch.setCell (S := fun k => k = qb ∨ k = g) (p := ⟨qb, 0, none⟩) hCb (fun _ => Or.inl rfl) (Value.slice (some ⟨g, 0, none⟩) n cap)
  have hC5 := hCc.drew
  clear hCa hCb hCc
  obtain ⟨w5, hw5⟩ : ∃ w5, w5 = ((w1.setCell ⟨g, n, none⟩ .nilIface).setCell ⟨qb, 0, none⟩ (.slice (some ⟨g, 0, none⟩) n cap)).drew := ⟨_, rfl⟩
  rw [← hw5] at hQ5 hC5 ⊢
  have HQ5 := Lib.hid hQ5
  have HC5 := Lib.hid hC5
  clear hw5 hQ5 hC5 q0 q1 q2 f1 f2 k1 g1
  go_loopw [5, 6, 7] (fun vi vl vr wr => ∃ (idx : Nat) (b : List El), vi = .int .i64 idx ∧ vl = .int .i64 ((2 * idx + 1 : Nat) : Int) ∧ vr = .int .i64 ((2 * idx + 2 : Nat) : Int) ∧ idx ≤ n ∧ QM wr base qb n cap g vm vd vp b ∧ Low a b x0 n idx ∧ Ch (fun k => k = qb ∨ k = g) w wr) (fun vi _ _ _ => n - (intOf vi).toNat)
  case atStart => exact ⟨0, _, rfl, rfl, rfl, by omega, HQ5.out, HLow.out, HC5.out⟩
  case round =>
    obtain ⟨idx, b, rfl, rfl, rfl, hi, hQ, hU, hC⟩ := hrel
    have hlb := hQ.len
    have q0 := hQ.blk.cell 0
    simp only [List.getElem?_toArray, List.getElem?_cons_zero] at q0
    obtain ⟨L, hL⟩ : ∃ L, L = 2 * idx + 1 := ⟨_, rfl⟩
    obtain ⟨R, hR⟩ : ∃ R, R = 2 * idx + 2 := ⟨_, rfl⟩
    rw [← hL, ← hR]
    have HQ := Lib.hid hQ
    have HU := Lib.hid hU
    have HC := Lib.hid hC
    have HLb := Lib.hid hlb
    have HLq := Lib.hid hL
    have HRq := Lib.hid hR
    clear hQ hU hC hlb hL hR
    by_cases hLn : L < n
    · have hLi : (L : Int) < (n : Nat) := by omega
      have hL0 : (0 : Int) ≤ (L : Nat) := by omega
      have hx0 : (0 : Int) ≤ (idx : Nat) := by omega
      have hxn : idx < n := by have := HLq.out; omega
      have hxi : (idx : Int) < (n : Nat) := by omega
      obtain ⟨kl, tl, hl⟩ : ∃ k t, b.getD L (0, 0) = (k, t) := ⟨_, _, rfl⟩
      obtain ⟨ki, ti, hki⟩ : ∃ k t, b.getD idx (0, 0) = (k, t) := ⟨_, _, rfl⟩
      have cL := (HQ.out.row.cellAt L (by omega)).trans (ev_at (by rw [HLb.out]; exact hLn))
      have cI := (HQ.out.row.cellAt idx (by omega)).trans (ev_at (by rw [HLb.out]; exact hxn))
      rw [hl] at cL
      rw [hki] at cI
      unfold en at cL cI
      simp only at cL cI
      have KL : Hid (keyAt b L = kl) := Lib.hid (by unfold keyAt; rw [hl])
      have KI : Hid (keyAt b idx = ki) := Lib.hid (by unfold keyAt; rw [hki])
      clear hl hki
      by_cases hRn : R < n
      · have hRi : (R : Int) < (n : Nat) := by omega
        have hR0 : (0 : Int) ≤ (R : Nat) := by omega
        obtain ⟨kr, tr, hr⟩ : ∃ k t, b.getD R (0, 0) = (k, t) := ⟨_, _, rfl⟩
        have cR := (HQ.out.row.cellAt R (by omega)).trans (ev_at (by rw [HLb.out]; exact hRn))
        rw [hr] at cR
        unfold en at cR
        simp only at cR
        have KR : Hid (keyAt b R = kr) := Lib.hid (by unfold keyAt; rw [hr])
        clear hr
        have hmeth : ∀ (x y : Int) (w : World), (method 157 54 (.agg #[.int .i64 x, .int .i64 y]) "Compare").run Tryd.prog w = .ok (45, .agg #[.int .i64 x, .int .i64 y]) w := fun _ _ _ => by kernel_rfl
        have hnil : ∀ (x y : Int) (w : World), (nilAhead 157 54 (.agg #[.int .i64 x, .int .i64 y]) "Compare").run Tryd.prog w = .ok (some false) w := fun _ _ _ => by kernel_rfl
        by_cases hRL : kr < kl
        · have hor : ord kr kl < 0 := ord_neg.2 hRL
          go_wp2_with fail
          go_region_held3 (fun w' => w'.cell? ⟨qb, 0, none⟩ = some (.slice (some ⟨g, 0, none⟩) n cap) ∧ w'.cell? ⟨g, R, none⟩ = some (.iface 54 (.agg #[.int .i64 kr, .int .i64 tr])) ∧ w'.cell? ⟨g, L, none⟩ = some (.iface 54 (.agg #[.int .i64 kl, .int .i64 tl])))
            (first | ((try dsimp only); (repeat' apply And.intro) <;> assumption) | (go_keep; done))
            (first | (go_simp; change Calls Tryd.prog 45 #[.agg #[.int .i64 kr, .int .i64 tr], .iface 54 (.agg #[.int .i64 kl, .int .i64 tl])] _ _; refine (compare_any (kr, tr) (kl, tl) _).mono ?_; rintro r w6 ⟨rfl, hC6⟩; have hk := (Ch.refl S0 wr).drew.trans hC6; have p0 := cell_keep hk q0; have p1 := cell_keep hk cR; have p2 := cell_keep hk cL; have p3 := cell_keep hk cI; have HQ6 := Lib.hid (HQ.out.keep hk (fun h => h) (fun h => h)); have HC6 := Lib.hid hk; clear hC6 hk))
          go_wp2_with fail
          by_cases hci : kr < ki
          · have hoc : ord kr ki < 0 := ord_neg.2 hci
            go_region_held3 (fun w' => w'.cell? ⟨qb, 0, none⟩ = some (.slice (some ⟨g, 0, none⟩) n cap) ∧ w'.cell? ⟨g, R, none⟩ = some (.iface 54 (.agg #[.int .i64 kr, .int .i64 tr])) ∧ w'.cell? ⟨g, idx, none⟩ = some (.iface 54 (.agg #[.int .i64 ki, .int .i64 ti])))
              (first | ((try dsimp only); (repeat' apply And.intro) <;> assumption) | (go_keep; done))
              (first | (go_simp; change Calls Tryd.prog 45 #[.agg #[.int .i64 kr, .int .i64 tr], .iface 54 (.agg #[.int .i64 ki, .int .i64 ti])] _ _; refine (compare_any (kr, tr) (ki, ti) _).mono ?_; rintro r w7 ⟨rfl, hC7⟩; have hk := (Ch.refl S0 w6).drew.trans hC7; have r0 := cell_keep hk p0; have r1 := cell_keep hk p1; have r3 := cell_keep hk p3; have HQ7 := Lib.hid (HQ6.out.keep hk (fun h => h) (fun h => h)); have HC7 := Lib.hid hk; clear hC7 hk))
            go_wp2_with (go_at_call 28; refine (swap_any base qb n cap g idx R vm vd vp b _ HQ7.out hxn hRn).mono ?_; rintro r w8 ⟨rfl, hQ8, hC8⟩; have HQ8 := Lib.hid hQ8; have HC8 := Lib.hid hC8; clear hQ8 hC8)
            go_roundw
            case rel =>
              refine ⟨R, swapL b idx R, rfl, by rw [show ((2 * R + 1 : Nat) : Int) = 2 * (R : Int) + 1 by omega], by rw [show ((2 * R + 2 : Nat) : Int) = 2 * (R : Int) + 2 by omega], by omega, HQ8.out, low_step HU.out HLb.out (by have := HLq.out; have := HRq.out; omega) hRn ?_ (fun i i1 i2 i3 => ?_), HC.out.trans ((HC6.out.mono (fun _ _ h => h.elim)).trans ((HC7.out.mono (fun _ _ h => h.elim)).trans (HC8.out.mono (fun _ _ hk => Or.inr hk))))⟩
              · rw [KR.out, KI.out]; exact hci
              · rcases kids i3 i1 with e | e
                · rw [e, ← HLq.out, KR.out, KL.out]; omega
                · rw [e, ← HRq.out]; exact Int.le_refl _
            case measure =>
              have := HLq.out
              have := HRq.out
              simp [intOf]; omega
          · have hoc : ¬ ord kr ki < 0 := fun h => hci (ord_neg.1 h)
            go_region_held3 (fun w' => w'.cell? ⟨qb, 0, none⟩ = some (.slice (some ⟨g, 0, none⟩) n cap) ∧ w'.cell? ⟨g, R, none⟩ = some (.iface 54 (.agg #[.int .i64 kr, .int .i64 tr])) ∧ w'.cell? ⟨g, idx, none⟩ = some (.iface 54 (.agg #[.int .i64 ki, .int .i64 ti])))
              (first | ((try dsimp only); (repeat' apply And.intro) <;> assumption) | (go_keep; done))
              (first | (go_simp; change Calls Tryd.prog 45 #[.agg #[.int .i64 kr, .int .i64 tr], .iface 54 (.agg #[.int .i64 ki, .int .i64 ti])] _ _; refine (compare_any (kr, tr) (ki, ti) _).mono ?_; rintro r w7 ⟨rfl, hC7⟩; have hk := (Ch.refl S0 w6).drew.trans hC7; have r0 := cell_keep hk p0; have r1 := cell_keep hk p1; have r3 := cell_keep hk p3; have HQ7 := Lib.hid (HQ6.out.keep hk (fun h => h) (fun h => h)); have HC7 := Lib.hid hk; clear hC7 hk))
            go_wp2_with fail
            go_ret
            refine ⟨⟨x0, b, rfl, HQ7.out, HU.out.1, down_exit HU.out.2 (fun i i1 i2 i3 => ?_), HX0.out⟩, HC.out.trans ((HC6.out.mono (fun _ _ h => h.elim)).trans (HC7.out.mono (fun _ _ h => h.elim)))⟩
            have hm : keyAt b R ≤ keyAt b i := by
                rcases kids i3 i1 with e | e
                · rw [e, ← HLq.out, KR.out, KL.out]; omega
                · rw [e, ← HRq.out]; exact Int.le_refl _
            rw [KI.out]
            rw [KR.out] at hm
            omega
        · have hor : ¬ ord kr kl < 0 := fun h => hRL (ord_neg.1 h)
          go_wp2_with fail
          go_region_held3 (fun w' => w'.cell? ⟨qb, 0, none⟩ = some (.slice (some ⟨g, 0, none⟩) n cap) ∧ w'.cell? ⟨g, R, none⟩ = some (.iface 54 (.agg #[.int .i64 kr, .int .i64 tr])) ∧ w'.cell? ⟨g, L, none⟩ = some (.iface 54 (.agg #[.int .i64 kl, .int .i64 tl])))
            (first | ((try dsimp only); (repeat' apply And.intro) <;> assumption) | (go_keep; done))
            (first | (go_simp; change Calls Tryd.prog 45 #[.agg #[.int .i64 kr, .int .i64 tr], .iface 54 (.agg #[.int .i64 kl, .int .i64 tl])] _ _; refine (compare_any (kr, tr) (kl, tl) _).mono ?_; rintro r w6 ⟨rfl, hC6⟩; have hk := (Ch.refl S0 wr).drew.trans hC6; have p0 := cell_keep hk q0; have p1 := cell_keep hk cR; have p2 := cell_keep hk cL; have p3 := cell_keep hk cI; have HQ6 := Lib.hid (HQ.out.keep hk (fun h => h) (fun h => h)); have HC6 := Lib.hid hk; clear hC6 hk))
          go_wp2_with fail
          by_cases hci : kl < ki
          · have hoc : ord kl ki < 0 := ord_neg.2 hci
            go_region_held3 (fun w' => w'.cell? ⟨qb, 0, none⟩ = some (.slice (some ⟨g, 0, none⟩) n cap) ∧ w'.cell? ⟨g, L, none⟩ = some (.iface 54 (.agg #[.int .i64 kl, .int .i64 tl])) ∧ w'.cell? ⟨g, idx, none⟩ = some (.iface 54 (.agg #[.int .i64 ki, .int .i64 ti])))
              (first | ((try dsimp only); (repeat' apply And.intro) <;> assumption) | (go_keep; done))
              (first | (go_simp; change Calls Tryd.prog 45 #[.agg #[.int .i64 kl, .int .i64 tl], .iface 54 (.agg #[.int .i64 ki, .int .i64 ti])] _ _; refine (compare_any (kl, tl) (ki, ti) _).mono ?_; rintro r w7 ⟨rfl, hC7⟩; have hk := (Ch.refl S0 w6).drew.trans hC7; have r0 := cell_keep hk p0; have r1 := cell_keep hk p2; have r3 := cell_keep hk p3; have HQ7 := Lib.hid (HQ6.out.keep hk (fun h => h) (fun h => h)); have HC7 := Lib.hid hk; clear hC7 hk))
            go_wp2_with (go_at_call 28; refine (swap_any base qb n cap g idx L vm vd vp b _ HQ7.out hxn hLn).mono ?_; rintro r w8 ⟨rfl, hQ8, hC8⟩; have HQ8 := Lib.hid hQ8; have HC8 := Lib.hid hC8; clear hQ8 hC8)
            go_roundw
            case rel =>
              refine ⟨L, swapL b idx L, rfl, by rw [show ((2 * L + 1 : Nat) : Int) = 2 * (L : Int) + 1 by omega], by rw [show ((2 * L + 2 : Nat) : Int) = 2 * (L : Int) + 2 by omega], by omega, HQ8.out, low_step HU.out HLb.out (by have := HLq.out; have := HRq.out; omega) hLn ?_ (fun i i1 i2 i3 => ?_), HC.out.trans ((HC6.out.mono (fun _ _ h => h.elim)).trans ((HC7.out.mono (fun _ _ h => h.elim)).trans (HC8.out.mono (fun _ _ hk => Or.inr hk))))⟩
              · rw [KL.out, KI.out]; exact hci
              · rcases kids i3 i1 with e | e
                · rw [e, ← HLq.out]; exact Int.le_refl _
                · rw [e, ← HRq.out, KR.out, KL.out]; omega
            case measure =>
              have := HLq.out
              have := HRq.out
              simp [intOf]; omega
          · have hoc : ¬ ord kl ki < 0 := fun h => hci (ord_neg.1 h)
            go_region_held3 (fun w' => w'.cell? ⟨qb, 0, none⟩ = some (.slice (some ⟨g, 0, none⟩) n cap) ∧ w'.cell? ⟨g, L, none⟩ = some (.iface 54 (.agg #[.int .i64 kl, .int .i64 tl])) ∧ w'.cell? ⟨g, idx, none⟩ = some (.iface 54 (.agg #[.int .i64 ki, .int .i64 ti])))
              (first | ((try dsimp only); (repeat' apply And.intro) <;> assumption) | (go_keep; done))
              (first | (go_simp; change Calls Tryd.prog 45 #[.agg #[.int .i64 kl, .int .i64 tl], .iface 54 (.agg #[.int .i64 ki, .int .i64 ti])] _ _; refine (compare_any (kl, tl) (ki, ti) _).mono ?_; rintro r w7 ⟨rfl, hC7⟩; have hk := (Ch.refl S0 w6).drew.trans hC7; have r0 := cell_keep hk p0; have r1 := cell_keep hk p2; have r3 := cell_keep hk p3; have HQ7 := Lib.hid (HQ6.out.keep hk (fun h => h) (fun h => h)); have HC7 := Lib.hid hk; clear hC7 hk))
            go_wp2_with fail
            go_ret
            refine ⟨⟨x0, b, rfl, HQ7.out, HU.out.1, down_exit HU.out.2 (fun i i1 i2 i3 => ?_), HX0.out⟩, HC.out.trans ((HC6.out.mono (fun _ _ h => h.elim)).trans (HC7.out.mono (fun _ _ h => h.elim)))⟩
            have hm : keyAt b L ≤ keyAt b i := by
                rcases kids i3 i1 with e | e
                · rw [e, ← HLq.out]; exact Int.le_refl _
                · rw [e, ← HRq.out, KR.out, KL.out]; omega
            rw [KI.out]
            rw [KL.out] at hm
            omega
      · have hRi : decide ((R : Int) < (n : Nat)) = false := by simp; omega
        have hRi2 : ¬ (R : Int) < (n : Nat) := by omega
        have hmeth : ∀ (x y : Int) (w : World), (method 157 54 (.agg #[.int .i64 x, .int .i64 y]) "Compare").run Tryd.prog w = .ok (45, .agg #[.int .i64 x, .int .i64 y]) w := fun _ _ _ => by kernel_rfl
        have hnil : ∀ (x y : Int) (w : World), (nilAhead 157 54 (.agg #[.int .i64 x, .int .i64 y]) "Compare").run Tryd.prog w = .ok (some false) w := fun _ _ _ => by kernel_rfl
        go_wp2_with fail
        go_quiet (fail)
        go_wp2_with fail
        generalize hw6 : wr.drewN _ = w6
        have hk : Ch S0 wr w6 := by rw [← hw6]; exact ⟨rfl, rfl, rfl, Nat.le_refl _, fun _ _ _ => rfl⟩
        have p0 := cell_keep hk q0
        have p2 := cell_keep hk cL
        have p3 := cell_keep hk cI
        have HQ6 := Lib.hid (HQ.out.keep hk (fun h => h) (fun h => h))
        have HC6 := Lib.hid hk
        clear hk hw6
        by_cases hci : kl < ki
        · have hoc : ord kl ki < 0 := ord_neg.2 hci
          go_region_held3 (fun w' => w'.cell? ⟨qb, 0, none⟩ = some (.slice (some ⟨g, 0, none⟩) n cap) ∧ w'.cell? ⟨g, L, none⟩ = some (.iface 54 (.agg #[.int .i64 kl, .int .i64 tl])) ∧ w'.cell? ⟨g, idx, none⟩ = some (.iface 54 (.agg #[.int .i64 ki, .int .i64 ti])))
            (first | ((try dsimp only); (repeat' apply And.intro) <;> assumption) | (go_keep; done))
            (first | (go_simp; change Calls Tryd.prog 45 #[.agg #[.int .i64 kl, .int .i64 tl], .iface 54 (.agg #[.int .i64 ki, .int .i64 ti])] _ _; refine (compare_any (kl, tl) (ki, ti) _).mono ?_; rintro r w7 ⟨rfl, hC7⟩; have hk := (Ch.refl S0 w6).drew.trans hC7; have r0 := cell_keep hk p0; have r1 := cell_keep hk p2; have r3 := cell_keep hk p3; have HQ7 := Lib.hid (HQ6.out.keep hk (fun h => h) (fun h => h)); have HC7 := Lib.hid hk; clear hC7 hk))
          go_wp2_with (go_at_call 28; refine (swap_any base qb n cap g idx L vm vd vp b _ HQ7.out hxn hLn).mono ?_; rintro r w8 ⟨rfl, hQ8, hC8⟩; have HQ8 := Lib.hid hQ8; have HC8 := Lib.hid hC8; clear hQ8 hC8)
          go_roundw
          case rel =>
            refine ⟨L, swapL b idx L, rfl, by rw [show ((2 * L + 1 : Nat) : Int) = 2 * (L : Int) + 1 by omega], by rw [show ((2 * L + 2 : Nat) : Int) = 2 * (L : Int) + 2 by omega], by omega, HQ8.out, low_step HU.out HLb.out (by have := HLq.out; have := HRq.out; omega) hLn ?_ (fun i i1 i2 i3 => ?_), HC.out.trans ((HC6.out.mono (fun _ _ h => h.elim)).trans ((HC7.out.mono (fun _ _ h => h.elim)).trans (HC8.out.mono (fun _ _ hk => Or.inr hk))))⟩
            · rw [KL.out, KI.out]; exact hci
            · rcases kids i3 i1 with e | e
              · rw [e, ← HLq.out]; exact Int.le_refl _
              · exfalso; have := HRq.out; omega
          case measure =>
            have := HLq.out
            have := HRq.out
            simp [intOf]; omega
        · have hoc : ¬ ord kl ki < 0 := fun h => hci (ord_neg.1 h)
          go_region_held3 (fun w' => w'.cell? ⟨qb, 0, none⟩ = some (.slice (some ⟨g, 0, none⟩) n cap) ∧ w'.cell? ⟨g, L, none⟩ = some (.iface 54 (.agg #[.int .i64 kl, .int .i64 tl])) ∧ w'.cell? ⟨g, idx, none⟩ = some (.iface 54 (.agg #[.int .i64 ki, .int .i64 ti])))
            (first | ((try dsimp only); (repeat' apply And.intro) <;> assumption) | (go_keep; done))
            (first | (go_simp; change Calls Tryd.prog 45 #[.agg #[.int .i64 kl, .int .i64 tl], .iface 54 (.agg #[.int .i64 ki, .int .i64 ti])] _ _; refine (compare_any (kl, tl) (ki, ti) _).mono ?_; rintro r w7 ⟨rfl, hC7⟩; have hk := (Ch.refl S0 w6).drew.trans hC7; have r0 := cell_keep hk p0; have r1 := cell_keep hk p2; have r3 := cell_keep hk p3; have HQ7 := Lib.hid (HQ6.out.keep hk (fun h => h) (fun h => h)); have HC7 := Lib.hid hk; clear hC7 hk))
          go_wp2_with fail
          go_ret
          refine ⟨⟨x0, b, rfl, HQ7.out, HU.out.1, down_exit HU.out.2 (fun i i1 i2 i3 => ?_), HX0.out⟩, HC.out.trans ((HC6.out.mono (fun _ _ h => h.elim)).trans (HC7.out.mono (fun _ _ h => h.elim)))⟩
          have hm : keyAt b L ≤ keyAt b i := by
              rcases kids i3 i1 with e | e
              · rw [e, ← HLq.out]; exact Int.le_refl _
              · exfalso; have := HRq.out; omega
          rw [KI.out]
          rw [KL.out] at hm
          omega
    · have hLi : ¬ (L : Int) < (n : Nat) := by omega
      go_wp2_with fail
      go_ret
      refine ⟨⟨x0, b, rfl, HQ.out, HU.out.1, down_exit HU.out.2 (fun i i1 i2 i3 => ?_), HX0.out⟩, HC.out⟩
      have := kids i3 i1
      have := HLq.out
      omega
end Go.Proofs.YtpkeiankocimaaaDoor
