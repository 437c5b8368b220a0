/- WALKS: an element put into a queue's heap. -/
import Derived.Test.YtpkeiankocimaaaDoorA
namespace Go.Proofs.YtpkeiankocimaaaDoor
open Go.RowKit
set_option linter.unusedVariables false
set_option linter.unusedSimpArgs false

theorem elI : EL Tryd.prog 49 63 1 16 := EL.of (z := .nilIface) Tryd.underlying49 (by kernel_rfl) rfl (by decide)
theorem perm_swap_app {a b : List El} {p : El} {i j : Nat} (h : b.Perm (a ++ [p])) (hi : i < b.length) (hj : j < b.length) : (swapL b i j).Perm (a ++ [p]) := (swapL_perm b i j hi hj).trans h
theorem par0 (i : Nat) : par i ≤ i := by unfold par; omega
theorem par_int (i : Nat) : ((i : Int) - 1).tdiv 2 = (par i : Nat) := by
  unfold par
  by_cases h : i = 0
  · subst h; decide
  · rw [Int.tdiv_eq_ediv_of_nonneg (by omega)]
    omega
theorem QM.keep {S : Nat → Prop} {w w' : World} {base qb n cap g : Nat} {vm vd vp : Value} {a : List El} (h : QM w base qb n cap g vm vd vp a) (hc : Ch S w w') (h1 : ¬ S qb) (h2 : ¬ S g) : QM w' base qb n cap g vm vd vp a :=
  ⟨h.blk.keep hc h1, own_keepS h.row hc (fun k hk => by simp [Value.ownBlock] at hk; rw [← hk]; exact h2), h.ne⟩
theorem keyAt_snoc {a : List El} {p : El} {i : Nat} (h : i < a.length) : keyAt (a ++ [p]) i = keyAt a i := by
  unfold keyAt
  rw [List.getD_eq_getElem?_getD, List.getD_eq_getElem?_getD, List.getElem?_append_left h]
def UpR (b : List El) (a : List El) (p : El) (n idx : Nat) : Prop := b.Perm (a ++ [p]) ∧ b.getD idx (0, 0) = p ∧ UpInv (keyAt b) (n + 1) idx

theorem push_mid {w w4 : World} {base qb n cap g : Nat} {vm vd vp v' : Value} {a : List El} {p : El} (h : QM w base qb n cap g vm vd vp a) (hql : qb < w.heap.size) (hown : w4.ownsRow base 63 1 v' (n + 1) (ev a ++ [.iface 54 (.agg #[.int .i64 p.1, .int .i64 p.2])])) (hc : Ch (fun k => (Value.slice (some ⟨g, 0, none⟩) n cap).ownBlock = some k) w w4)
    (hb : v'.ownBlock = (Value.slice (some ⟨g, 0, none⟩) n cap).ownBlock ∨ v'.ownBlock = some (w.heap.size + 1)) :
    ∃ g2 cap2, v' = .slice (some ⟨g2, 0, none⟩) (n + 1) cap2 ∧ w4.cell? ⟨qb, 0, none⟩ = some (.slice (some ⟨g, 0, none⟩) n cap) ∧ w4.frozen? ⟨qb, 0, none⟩ = false ∧ QM (w4.setCell ⟨qb, 0, none⟩ v') base qb (n + 1) cap2 g2 vm vd vp (a ++ [p]) ∧ (g2 = g ∨ w.heap.size ≤ g2) ∧ Ch (fun k => k = qb ∨ k = g) w (w4.setCell ⟨qb, 0, none⟩ v') := by
  have hB4 : Blk w4 qb _ := h.blk.keep hc (fun e => h.ne (by simpa [Value.ownBlock] using e))
  obtain ⟨A, cap2, rfl, _, _, hA, hA2, _⟩ := own_rd hown
  obtain ⟨g2, rfl⟩ := hA2.resolve_left (by omega)
  have hg2 : g2 = g ∨ g2 = w.heap.size + 1 := by simpa [Value.ownBlock] using hb
  have hne : g2 ≠ qb := by
    have := h.ne
    rcases hg2 with e | e <;> omega
  refine ⟨g2, cap2, rfl, by simpa using hB4.cell 0, hB4.free 0, ⟨by simpa using hB4.set 0 (.slice (some ⟨g2, 0, none⟩) (n + 1) cap2), ?_, hne⟩, by omega, ?_⟩
  · have e : ev (a ++ [p]) = ev a ++ [.iface 54 (.agg #[.int .i64 p.1, .int .i64 p.2])] := by simp [ev, en]
    rw [e]
    exact own_keepS (S := fun k => k = qb) hown ((Ch.refl (fun k => k = qb) w4).setCell ⟨qb, 0, none⟩ (fun _ => rfl) _) (fun k hk e => hne (by simp [Value.ownBlock] at hk; omega))
  · have hc2 : Ch (fun k => k = qb ∨ k = g) w w4 := hc.mono (fun k _ hk => Or.inr (by simp [Value.ownBlock] at hk; exact hk.symm))
    exact Ch.setCell (p := ⟨qb, 0, none⟩) hc2 (fun _ => Or.inl rfl) _

set_option maxHeartbeats 8000000 in
set_option maxRecDepth 100000 in
theorem push_any (base qb n cap g : Nat) (vm vd vp : Value) (a : List El) (p : El) (w : World) (h : QM w base qb n cap g vm vd vp a) (hh : Heap (keyAt a) n) (hn : n < 100000) (hb : base ≤ w.heap.size) :
    Calls Tryd.prog 25 #[.pointer (some ⟨qb, 0, none⟩), en p] w fun r w' => r = .returned (.tuple #[]) ∧ (∃ cap' g' a', QM w' base qb (n + 1) cap' g' vm vd vp a' ∧ a'.Perm (a ++ [p]) ∧ Heap (keyAt a') (n + 1) ∧ (g' = g ∨ w.heap.size ≤ g')) ∧ Ch (fun k => k = qb ∨ k = g) w w' := by
  have hl := h.len
  have q0 := h.blk.cell 0
  simp only [List.getElem?_toArray, List.getElem?_cons_zero] at q0
  have HQ := Lib.hid h
  have HH := Lib.hid hh
  have hql := h.blk.lt
  have HL := Lib.hid hl
  have HNe := Lib.hid h.ne
  clear h hh hl
  unfold en
  have hone : ∀ u ∈ [Value.iface 54 (.agg #[.int .i64 p.1, .int .i64 p.2])], u.oneCell' = true := by intro u hu; simp only [List.mem_singleton] at hu; subst hu; rfl
  go_enter Tryd.func25, Tryd.ntmps25
  have hmeth : ∀ (x y : Int) (w : World), (method 157 54 (.agg #[.int .i64 x, .int .i64 y]) "Compare").run Tryd.prog w = .ok (45, .agg #[.int .i64 x, .int .i64 y]) w := fun _ _ _ => by kernel_rfl
  go_wp2_with (at_builtin; go_loud (refine app_own elI rfl (.tmp 9) (.tmp 11) rfl base n (.slice (some ⟨g, 0, none⟩) n cap) (ev a) rfl HQ.out.row [.iface 54 (.agg #[.int .i64 p.1, .int .i64 p.2])] rfl hone _ rfl rfl (by unfold maxLen; omega) (by omega) hb ?_); intro v' w4 hown4 hc4 hb4; obtain ⟨g2, cap2, rfl, q4, f4, hQ5, hg5, hC5⟩ := push_mid HQ.out hql hown4 hc4 hb4; have q5 := hQ5.blk.cell 0; simp only [List.getElem?_toArray, List.getElem?_cons_zero] at q5; have HQ5 := Lib.hid hQ5; have HG5 := Lib.hid hg5; have HC5 := Lib.hid hC5; clear hown4 hc4 hb4 hQ5 hg5 hC5)
  obtain ⟨w5, hw5⟩ : ∃ w5, w5 = w4.setCell ⟨qb, 0, none⟩ (.slice (some ⟨g2, 0, none⟩) (n + 1) cap2) := ⟨_, rfl⟩
  rw [← hw5] at HQ5 HC5 ⊢
  clear hw5 q5 q4 f4 q0
  go_loopw [4, 5] (fun vi vj wr => ∃ (idx : Nat) (b : List El), vi = .int .i64 idx ∧ vj = .int .i64 (par idx : Nat) ∧ idx < n + 1 ∧ QM wr base qb (n + 1) cap2 g2 vm vd vp b ∧ UpR b a p n idx ∧ Ch (fun k => k = qb ∨ k = g ∨ k = g2) w wr) (fun vi _ _ => (intOf vi).toNat)
  case atStart => 
    refine ⟨n, a ++ [p], by go_num, by rw [par_int], by omega, HQ5.out, ⟨List.Perm.refl _, by simp [List.getD, HL.out], up_start (HH.out.congr fun i hi => keyAt_snoc (by rw [HL.out]; exact hi))⟩, HC5.out.mono (fun k _ hk => hk.elim Or.inl (fun h => Or.inr (Or.inl h)))⟩
  case round =>
    obtain ⟨idx, b, rfl, rfl, hi, hQ, hU, hC⟩ := hrel
    have hlb := hQ.len
    have hpl : par idx < n + 1 := Nat.lt_of_le_of_lt (par0 idx) hi
    obtain ⟨hperm, hgp, hup⟩ := hU
    obtain ⟨kx, tx, hx⟩ : ∃ kx tx, b.getD (par idx) (0, 0) = (kx, tx) := ⟨_, _, rfl⟩
    have cx := (hQ.row.cellAt (par idx) (by omega)).trans (ev_at (by omega))
    rw [hx] at cx
    have q0 := hQ.blk.cell 0
    simp only [List.getElem?_toArray, List.getElem?_cons_zero] at q0
    have hp0 : (0 : Int) ≤ (par idx : Nat) := by omega
    have hpn : (par idx : Int) < (n : Nat) + 1 := by omega
    have kp : keyAt b (par idx) = kx := by unfold keyAt; rw [hx]
    have ki : keyAt b idx = p.1 := by unfold keyAt; rw [hgp]
    unfold en at cx
    simp only at cx
    have HQ := Lib.hid hQ
    have HU := Lib.hid hup
    have HP := Lib.hid hperm
    have HGp := Lib.hid hgp
    have HC := Lib.hid hC
    have HKp := Lib.hid kp
    have HKi := Lib.hid ki
    have HLb := Lib.hid hlb
    clear hQ hup hperm hgp hC kp ki hlb hx
    by_cases hlt : p.1 < kx
    · have hor : (0 : Int) < ord kx p.1 := ord_pos.2 hlt
      have hix : 0 < idx := by
        rcases Nat.eq_zero_or_pos idx with e | e
        · exfalso
          subst e
          have h1 := HKp.out
          have h2 := HKi.out
          have e2 : par 0 = 0 := rfl
          rw [e2] at h1
          omega
        · exact e
      have HLt := Lib.hid hlt
      clear hlt
      go_wp2_with (first | (change Calls Tryd.prog 45 #[.agg #[.int .i64 kx, .int .i64 tx], .iface 54 (.agg #[.int .i64 p.1, .int .i64 p.2])] _ _; refine (compare_any (kx, tx) p _).mono ?_; rintro r w6 ⟨rfl, hC6⟩; have HC6 := Lib.hid hC6; clear hC6) | (go_at_call 28; refine (swap_any base qb (n + 1) cap2 g2 idx (par idx) vm vd vp b _ (HQ.out.keep HC6.out (fun h => h) (fun h => h)) hi hpl).mono ?_; rintro r w7 ⟨rfl, hQ7, hC7⟩; have HQ7 := Lib.hid hQ7; have HC7 := Lib.hid hC7; clear hQ7 hC7))
      go_roundw
      case rel =>
        refine ⟨par idx, swapL b idx (par idx), rfl, by rw [par_int], hpl, HQ7.out, ⟨perm_swap_app HP.out (by rw [HLb.out]; exact hi) (by rw [HLb.out]; exact hpl), ?_, ?_⟩, HC.out.trans ((HC6.out.mono (fun _ _ h => h.elim)).trans (HC7.out.mono (fun k _ hk => Or.inr (Or.inr hk))))⟩
        · rw [swapL_get b idx (par idx) (par idx) (by rw [HLb.out]; exact hi) (by rw [HLb.out]; exact hpl) (by rw [HLb.out]; exact hpl), if_pos rfl]
          exact HGp.out
        · refine (up_step HU.out hix hi (by rw [HKp.out, HKi.out]; exact HLt.out)).congr hpl fun x hx => ?_
          exact keyAt_swap b idx (par idx) (by rw [HLb.out]; exact hi) (by rw [HLb.out]; exact hpl) x (by rw [HLb.out]; exact hx)
      case measure =>
        have := par_lt hix
        simp [intOf]; omega
    · have hor : ¬ (0 : Int) < ord kx p.1 := fun h => hlt (ord_pos.1 h)
      have HLt := Lib.hid hlt
      clear hlt
      go_wp2_with (change Calls Tryd.prog 45 #[.agg #[.int .i64 kx, .int .i64 tx], .iface 54 (.agg #[.int .i64 p.1, .int .i64 p.2])] _ _; refine (compare_any (kx, tx) p _).mono ?_; rintro r w6 ⟨rfl, hC6⟩; have HC6 := Lib.hid hC6; clear hC6)
      refine bodyPost_end (results_none rfl _ _ _) rfl ?_
      have hQ6 := HQ.out.keep HC6.out (fun h => h) (fun h => h)
      have hhp : Heap (keyAt b) (n + 1) := up_exit HU.out (Or.inr (by rw [HKp.out, HKi.out]; have := HLt.out; omega))
      refine ⟨rfl, ⟨cap2, g2, b, hQ6, HP.out, hhp, HG5.out⟩, ?_⟩
      have hCa := HC.out.trans (HC6.out.mono (fun _ _ h => h.elim))
      refine hCa.mono fun k hk h => ?_
      rcases h with h | h | h
      · exact Or.inl h
      · exact Or.inr h
      · rcases HG5.out with e | e
        · exact Or.inr (h.trans e)
        · omega
end Go.Proofs.YtpkeiankocimaaaDoor
