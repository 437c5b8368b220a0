/- WALKS: MGMerge of two sorted lists. -/
import Derived.Test.YtbfcnimebdoagaaMI
namespace Go.Proofs.Ytbfcnimebdoagaa
open Go.RowKit
set_option linter.unusedVariables false
set_option linter.unusedSimpArgs false

theorem sym_any (base gu gv n m cu cv : Nat) (fu fv : Nat → El) (w : World) (hu : RW w base gu n cu fu) (hv : RW w base gv m cv fv) (h0 : 0 < n) (h1 : 0 < m) (hn : n ≤ 40) (hm : m ≤ 40) (hne : gu ≠ gv) (hb : base ≤ w.heap.size) (ha : Asc fu 0 n) (hb2 : Asc fv 0 m) :
    Calls Try.prog 31 #[.slice (some ⟨gu, 0, none⟩) n cu, .slice (some ⟨gv, 0, none⟩) m cv] w fun r w' => SymR base (n + m) (lst n fu ++ lst m fv) r w' ∧ Ch (S1 gu) w w' := by
  by_cases c1 : n + 2 ≤ m
  · exact (sym_up base gu gv n m cu cv fu fv w hu hv h0 c1 hm hb ha hb2).mono fun r w' ⟨h, hc⟩ => ⟨h, hc.mono fun _ _ h => h.elim⟩
  · by_cases c2 : m + 2 ≤ n
    · refine (sym_down base gv gu m n cv cu fv fu w hv hu h1 c2 hn hb hb2 ha).mono fun r w' ⟨⟨v, rs, e, ho, hf⟩, hc⟩ => ⟨⟨v, rs, e, ?_, hf.1.trans List.perm_append_comm, hf.2⟩, hc.mono fun _ _ h => h.elim⟩
      rwa [Nat.add_comm]
    · exact sym_near base gu gv n m cu cv fu fv w hu hv h0 h1 hn hm hne hb ha hb2 (by omega)

/-- By their Keys ascending. -/
def Srt (us : List El) : Prop := (us.map Prod.fst).Pairwise (· ≤ ·)
theorem asc_of {us : List El} (h : Srt us) : Asc (fun i => us.getD i (0, 0)) 0 us.length := by
  intro x y _ hxy hy
  rcases Nat.eq_or_lt_of_le hxy with e | e
  · subst e; exact Int.le_refl _
  · unfold Srt at h
    rw [List.pairwise_map, List.pairwise_iff_getElem] at h
    have := h x y (by omega) hy e
    simpa [List.getD, hy, show x < us.length by omega] using this

def MgR (w : World) (k : Nat) (us : List El) (r : Ending) (w' : World) : Prop := ∃ v rs, r = .returned v ∧ w'.ownsRow w.heap.size 48 2 v k (pv rs) ∧ rs.length = k ∧ Final us rs

set_option maxRecDepth 100000 in
set_option maxHeartbeats 8000000 in
theorem mgm_any (A B : Option Addr) (n m c1 c2 : Nat) (us ws : List El) (w : World) (hl : us.length = n) (hl2 : ws.length = m) (h0 : 0 < n) (h1 : 0 < m) (hn : n ≤ 40) (hm : m ≤ 40) (hA : Rd w A (pv us)) (hB : Rd w B (pv ws)) (hs : Srt us) (hs2 : Srt ws) :
    Calls Try.prog 17 #[.slice A n c1, .slice B m c2] w fun r w' => MgR w (n + m) (us ++ ws) r w' ∧ Ch S0 w w' := by
  have HL := Lib.hid hl
  have HL2 := Lib.hid hl2
  have HA := Lib.hid hA
  have HB := Lib.hid hB
  have HS := Lib.hid hs
  have HS2 := Lib.hid hs2
  clear hl hl2 hA hB hs hs2
  go_enter Try.func17, Try.ntmps17
  go_wp2_with fail
  refine (mgItems_any A n c1 us _ HL.out (by omega) HA.out).mono ?_
  rintro r w1 ⟨⟨v1, rfl, hO1⟩, hC1⟩
  obtain ⟨g1, k1, rfl, _, _, hg1a, hg1b⟩ := row_rd hO1 h0
  have HO1 := Lib.hid hO1
  have HC1 := Lib.hid hC1
  have hsz1 := hC1.size
  clear hO1 hC1
  go_wp2_with fail
  refine (mgItems_any B m c2 ws _ HL2.out (by omega) (HB.out.keep0 HC1.out)).mono ?_
  rintro r w2 ⟨⟨v2, rfl, hO2⟩, hC2⟩
  obtain ⟨g2, k2, rfl, _, _, hg2a, hg2b⟩ := row_rd hO2 h1
  have HO2 := Lib.hid hO2
  have HO1' := Lib.hid (own_keep0 HO1.out hC2)
  have HC2 := Lib.hid (HC1.out.trans hC2)
  have hsz2 := hC2.size
  clear hO2 hC2
  have hru : RW w2 w.heap.size g1 n k1 (fun i => us.getD i (0, 0)) := by
    unfold RW
    have := lst_of us
    rw [HL.out] at this
    rw [this]
    exact HO1'.out
  have hrv : RW w2 w.heap.size g2 m k2 (fun i => ws.getD i (0, 0)) := by
    unfold RW
    have := lst_of ws
    rw [HL2.out] at this
    rw [this]
    exact own_base HO2.out hsz1
  have hsy := sym_any w.heap.size g1 g2 n m k1 k2 _ _ w2 hru hrv h0 h1 hn hm (by omega) (by omega) (by have := asc_of HS.out; rwa [HL.out] at this) (by have := asc_of HS2.out; rwa [HL2.out] at this)
  have e1 : lst n (fun i => us.getD i (0, 0)) = us := by have := lst_of us; rwa [HL.out] at this
  have e2 : lst m (fun i => ws.getD i (0, 0)) = ws := by have := lst_of ws; rwa [HL2.out] at this
  rw [e1, e2] at hsy
  have HSy := Lib.hid hsy
  clear hru hrv hsy e1 e2
  go_wp2_with fail
  refine HSy.out.mono ?_
  rintro r w3 ⟨⟨v3, rs, rfl, hO3, hF⟩, hC3⟩
  obtain ⟨g3, k3, rfl, hR3, _, hg3a, hg3b⟩ := row_rd hO3 (by omega)
  obtain ⟨k, hk⟩ : ∃ k, k = n + m := ⟨_, rfl⟩
  have hrl : rs.length = k := by have := hO3.1; simp at this; omega
  have HRl := Lib.hid hrl
  have HF := Lib.hid hF
  have HR3 := Lib.hid hR3
  have HC3 := Lib.hid (HC2.out.trans' hC3 (fun j hj e => by have e : j = g1 := e; omega))
  rw [← hk]
  have hk80 : k ≤ 80 := by omega
  have HK := Lib.hid hk
  clear hO3 hF hR3 hC3 hrl hk
  go_wp2_with fail
  go_loopw [5, 14] (fun vo vi wr => ∃ i : Nat, i ≤ k ∧ vi = .int .i64 i ∧ wr.ownsRow w3.heap.size 48 2 vo i (pv (rs.take i)) ∧ Ch S0 w3 wr) (fun _ vi _ => k - (intOf vi).toNat)
  case atStart => exact ⟨0, by omega, rfl, World.ownsRow_nil _ _ _ _, Ch.refl _ _⟩
  case round =>
    obtain ⟨i, hi, rfl, hO, hC⟩ := hrel
    have HO := Lib.hid hO
    have HC := Lib.hid hC
    have hsz := hC.size
    clear hO hC
    by_cases hlt : i < k
    · have hlti : (i : Int) < (k : Nat) := by omega
      have hi0 : (0 : Int) ≤ (i : Nat) := by omega
      obtain ⟨x, hx⟩ : ∃ x, rs[i]? = some x := ⟨rs[i]'(by have := HRl.out; omega), by simp [HRl.out, hlt]⟩
      obtain ⟨q, o, e, c0⟩ := (HR3.out.keep0 HC.out).at (ev_get hx)
      cases e
      rw [Nat.zero_add] at c0
      have HT := Lib.hid (take_one hx)
      clear hx
      obtain ⟨x1, x2⟩ := x
      unfold en at c0
      have hty : ∀ w, (Instr.typeAssert (.iface 74 (.agg #[.int .i64 x1, .int .i64 x2])) 72 74 false).run Try.prog w = .ok (.agg #[.int .i64 x1, .int .i64 x2]) w := fun _ => by kernel_rfl
      have hf1 : ∀ w, (Instr.field 74 (.agg #[.int .i64 x1, .int .i64 x2]) 0).run Try.prog w = .ok (.agg #[.int .i64 x1, .int .i64 x2]) w := fun _ => by kernel_rfl
      go_wp2_with (at_builtin; go_loud (refine app_own elIt rfl (.tmp 18) (.tmp 22) rfl w3.heap.size i u5 (pv (rs.take i)) rfl HO.out [.int .i64 x1, .int .i64 x2] rfl (by simp [Value.oneCell']) _ rfl rfl (by unfold maxLen; omega) (by omega) hsz ?_); intro v' w4 hown4 hc4 hb4; have HOw := Lib.hid hown4; have HC4 := Lib.hid hc4; clear hown4 hc4 hb4)
      go_roundw
      case rel => exact ⟨i + 1, by omega, by go_num, by rw [HT.out, pv_snoc]; exact HOw.out, HC.out.trans' HC4.out (fun j hj e => absurd (own_lt HO.out j e).1 (by omega))⟩
      case measure => simp [intOf]; omega
    · have hin : ¬ (i : Int) < (k : Nat) := by omega
      have hie : i = k := by omega
      go_wp2_with fail
      go_ret
      have h1 := HO.out
      rw [hie, ← HRl.out, List.take_length, HRl.out] at h1
      refine ⟨⟨_, rs, rfl, own_base (by rw [← HK.out]; exact h1) (by have := HC3.out.size; omega), by rw [HRl.out, HK.out], HF.out⟩, HC3.out.trans HC.out⟩

theorem srt2 {xs : List Int} (h1 : xs.Perm [4, 2]) (h2 : xs.Pairwise (· ≤ ·)) : xs = [2, 4] := by
  have hl := h1.length_eq
  match xs, hl with
  | [a, b], _ =>
    have ha : a ∈ ([4, 2] : List Int) := h1.subset (by simp)
    have hb : b ∈ ([4, 2] : List Int) := h1.subset (by simp)
    have h4 : (4 : Int) ∈ [a, b] := h1.symm.subset (by simp)
    have h22 : (2 : Int) ∈ [a, b] := h1.symm.subset (by simp)
    have hab : a ≤ b := by simpa using h2
    simp at ha hb h4 h22
    have : a = 2 ∧ b = 4 := by omega
    rw [this.1, this.2]
set_option maxRecDepth 100000 in
set_option maxHeartbeats 4000000 in
theorem awake_any (w : World) : Calls Try.prog 18 #[] w fun r w' => r = .returned (.bool true) ∧ Ch S0 w w' := by
  obtain ⟨W1, hW1⟩ : ∃ W1, W1 = (w.alloc (.cells #[.int .i64 4, .int .i64 0] 48)).alloc (.cells #[.int .i64 2, .int .i64 1] 48) := ⟨_, rfl⟩
  have hC1 : Ch S0 w W1 := by rw [hW1]; exact ((Ch.refl _ _).alloc _).alloc _
  have hR0 : Rd W1 (some ⟨w.heap.size, 0, none⟩) (pv [(4, 0)]) := by rw [hW1]; exact (Rd.new w (pv [(4, 0)]) 48).keep0 ((Ch.refl S0 _).alloc _)
  have hR1 : Rd W1 (some ⟨w.heap.size + 1, 0, none⟩) (pv [(2, 1)]) := by
    rw [hW1]
    have := Rd.new (w.alloc (.cells #[.int .i64 4, .int .i64 0] 48)) (pv [(2, 1)]) 48
    rw [World.size_alloc] at this
    exact this
  have hm := mgm_any _ _ 1 1 1 1 [(4, 0)] [(2, 1)] W1 rfl rfl (by omega) (by omega) (by omega) (by omega) hR0 hR1 (by simp [Srt]) (by simp [Srt])
  have HM := Lib.hid hm
  have HW1 := Lib.hid hW1
  have HC1 := Lib.hid hC1
  clear hW1 hC1 hR0 hR1 hm
  go_enter Try.func18, Try.ntmps18
  go_wp2_with fail
  rw [← HW1.out]
  refine HM.out.mono ?_
  rintro r w2 ⟨⟨v, rs, rfl, hO, hl, hF⟩, hC2⟩
  obtain ⟨g, k, rfl, hR, _⟩ := row_rd hO (by omega)
  have hk : rs.map Prod.fst = [2, 4] := by
    have h1 := hF.1.map Prod.fst
    have h2 := hF.2
    exact srt2 h1 h2
  have HR := Lib.hid hR
  have HK := Lib.hid hk
  have HL := Lib.hid hl
  have HC2 := Lib.hid (HC1.out.trans hC2)
  clear hO hF hR hC2 hk hl
  go_wp2_with fail
  refine (dmKeys_any _ 2 k rs _ HL.out (by omega) HR.out).mono ?_
  rintro r w3 ⟨⟨v, rfl, hO3⟩, hC3⟩
  rw [HK.out] at hO3
  obtain ⟨g3, k3, rfl, hR3, _⟩ := row_rd hO3 (by omega)
  have HR3 := Lib.hid hR3
  have HC3 := Lib.hid (HC2.out.trans hC3)
  clear hO3 hR3 hC3
  go_wp2_with fail
  refine (equal_int (some ⟨g3, 0, none⟩) _ 2 2 k3 _ [2, 4] [2, 4] _ rfl rfl (by omega) (by omega) (HR3.out.keep0 ((Ch.refl S0 _).alloc _)) (Rd.new w3 (iv [2, 4]) 3)).mono ?_
  rintro r w4 ⟨rfl, hC4⟩
  have e : decide (([2, 4] : List Int) = [2, 4]) = true := by decide
  rw [e]
  have HC4 := Lib.hid (HC3.out.trans (((Ch.refl S0 w3).alloc (.cells #[.int .i64 2, .int .i64 4] 3)).trans hC4))
  clear e hC4
  go_wp2_with fail
  go_ret
  exact ⟨rfl, HC4.out⟩
end Go.Proofs.Ytbfcnimebdoagaa
