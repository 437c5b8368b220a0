/- WALKS: two sorted rows merged. (Printed by mkMH.py.) -/
import Derived.Test.YtbfcnimebdoagaaMF
import Derived.Test.YtbfcnimebdoagaaME0
import Derived.Test.YtbfcnimebdoagaaMG
namespace Go.Proofs.Ytbfcnimebdoagaa
open Go.RowKit
set_option linter.unusedVariables false
set_option linter.unusedSimpArgs false

theorem row_rd {w : World} {base : Nat} {v : Value} {N : Nat} {e size : Nat} {xs : List Value} (h : w.ownsRow base e size v N xs) (h0 : 0 < N) : ∃ b c, v = .slice (some ⟨b, 0, none⟩) N c ∧ Rd w (some ⟨b, 0, none⟩) xs ∧ N ≤ c ∧ base ≤ b ∧ b < w.heap.size := by
  obtain ⟨A, c, rfl, hR, hc, hA, hA2, _⟩ := own_rd h
  obtain ⟨b, rfl⟩ := hA2.resolve_left (by omega)
  exact ⟨b, c, rfl, hR, hc, (hA b 0 none rfl).2⟩
theorem ev_append (a b : List El) : ev (a ++ b) = ev a ++ ev b := by simp [ev]
/-- What is told by SymMerge. -/
def SymR (base k : Nat) (us : List El) (r : Ending) (w' : World) : Prop := ∃ v rs, r = .returned v ∧ w'.ownsRow base 72 1 v k (ev rs) ∧ Final us rs

set_option maxRecDepth 100000 in
set_option maxHeartbeats 8000000 in
theorem sym_near (base gu gv n m cu cv : Nat) (fu fv : Nat → El) (w : World) (hu : RW w base gu n cu fu) (hv : RW w base gv m cv fv) (h0 : 0 < n) (h1 : 0 < m) (hn : n ≤ 40) (hm : m ≤ 40) (hne : gu ≠ gv) (hb : base ≤ w.heap.size) (ha : Asc fu 0 n) (hb2 : Asc fv 0 m) (hd : n ≤ m + 1 ∧ m ≤ n + 1) :
    Calls Try.prog 31 #[.slice (some ⟨gu, 0, none⟩) n cu, .slice (some ⟨gv, 0, none⟩) m cv] w fun r w' => SymR base (n + m) (lst n fu ++ lst m fv) r w' ∧ Ch (S1 gu) w w' := by
  have HU := Lib.hid hu
  have HV := Lib.hid hv
  have HA := Lib.hid ha
  have HB := Lib.hid hb2
  have hn1 : ((n : Int) == 0) = false := by simp; omega
  have hn2 : ¬ ((n : Int) = 0) := by omega
  have hm1 : ((m : Int) == 0) = false := by simp; omega
  have hm2 : ¬ ((m : Int) = 0) := by omega
  have hn3 : ¬ n = 0 := by omega
  have hm3 : ¬ m = 0 := by omega
  obtain ⟨d, hdd⟩ : ∃ d : Int, d = (n : Int) - (m : Int) := ⟨_, rfl⟩
  have hdi : (n : Int) - (m : Int) = d := hdd.symm
  have hfar := far_cmp d (by omega) (by omega)
  have hdl : (decide (1 < d) || decide (d < -1)) = false := by simp; omega
  rw [hdl] at hfar
  have HDd := Lib.hid hdd
  clear hu hv ha hb2 hdl hdd hd
  go_enter Try.func31, Try.ntmps31
  go_wp2_with fail
  refine (abs_any _ _).mono ?_
  rintro r w1 ⟨rfl, e1⟩
  rw [e1]
  clear e1
  have HOa := Lib.hid (ev_append (lst n fu) (lst m fv))
  go_wp2_with (at_builtin; go_loud (refine app_all elC rfl (.tmp 63) (.tmp 64) rfl base n (.slice (some ⟨gu, 0, none⟩) n cu) (ev (lst n fu)) rfl HU.out gv 0 m cv (ev (lst m fv)) (by simp) (ev_one _) rfl (by have := HV.out.part 0 m (by omega); simpa using this) (by unfold maxLen; omega) (by omega) hb ?_); intro v' w4 hown4 hc4 hb4 _; rw [← HOa.out, ← lst_cat] at hown4; obtain ⟨g4, c4, rfl, _, hnc4, _, _⟩ := row_rd hown4 (by omega); have HOw := Lib.hid hown4; have HC4 := Lib.hid hc4; have HB4 := Lib.hid hb4; clear hown4 hc4 hb4)
  have hcat := asc_cat HA.out HB.out
  have hsm := symMerge_any (n + m) base g4 (n + m) c4 0 n (n + m) _ _ (by omega) HOw.out (by omega) (by omega) (Nat.le_refl _) (by omega) hcat.1 hcat.2
  rw [show ((n + m : Nat) : Int) = (n : Int) + (m : Int) from by omega] at hsm
  have HSm := Lib.hid hsm
  clear hcat hsm
  refine HSm.out.mono ?_
  rintro r w5 ⟨rfl, ⟨f5, hR5, hM5⟩, hC5⟩
  have HR5 := Lib.hid hR5
  have HM5 := Lib.hid hM5
  have HC5 := Lib.hid hC5
  clear hR5 hM5 hC5
  go_wp2_with fail
  go_ret
  have hgl : gu < w.heap.size := (own_lt HU.out gu rfl).2
  refine ⟨⟨_, lst (n + m) f5, rfl, HR5.out, near HM5.out⟩, ?_⟩
  refine (HC4.out.mono (fun k _ hk => by simpa [Value.ownBlock, S1, eq_comm] using hk)).trans' HC5.out (fun j hj e => ?_)
  have e : j = g4 := e
  rcases HB4.out with h | h
  · simp [Value.ownBlock] at h
    show j = gu
    omega
  · simp [Value.ownBlock] at h
    omega

set_option maxRecDepth 100000 in
set_option maxHeartbeats 8000000 in
theorem sym_up (base gs gl L M cs cl : Nat) (fs fl : Nat → El) (w : World) (hs : RW w base gs L cs fs) (hl : RW w base gl M cl fl) (h0 : 0 < L) (hLM : L + 2 ≤ M) (hM : M ≤ 40) (hb : base ≤ w.heap.size) (ha : Asc fs 0 L) (hb2 : Asc fl 0 M) :
    Calls Try.prog 31 #[.slice (some ⟨gs, 0, none⟩) L cs, .slice (some ⟨gl, 0, none⟩) M cl] w fun r w' => SymR base (L + M) (lst L fs ++ lst M fl) r w' ∧ Ch S0 w w' := by
  have HA := Lib.hid ha
  have HB := Lib.hid hb2
  obtain ⟨_, _, e, _, hcs, _⟩ := own_rd hs
  cases e
  obtain ⟨_, _, e, _, hcl, _⟩ := own_rd hl
  cases e
  have HP := Lib.hid (prep_up base gs gl L M cs cl fs fl w hs hl h0 hLM (by omega) hcs hcl ha hb2)
  have HL := Lib.hid hl
  have hn1 : ((L : Int) == 0) = false := by simp; omega
  have hn2 : ¬ ((L : Int) = 0) := by omega
  have hm1 : ((M : Int) == 0) = false := by simp; omega
  have hm2 : ¬ ((M : Int) = 0) := by omega
  have hn3 : ¬ L = 0 := by omega
  have hm3 : ¬ M = 0 := by omega
  obtain ⟨d, hdd⟩ : ∃ d : Int, d = (L : Int) - (M : Int) := ⟨_, rfl⟩
  have hdi : (L : Int) - (M : Int) = d := hdd.symm
  have hfar := far_cmp d (by omega) (by omega)
  have hdl : (decide (1 < d) || decide (d < -1)) = true := by simp; omega
  rw [hdl] at hfar
  have HDd := Lib.hid hdd
  clear hs hl ha hb2 hdl hdd
  go_enter Try.func31, Try.ntmps31
  go_wp2_with fail
  refine (abs_any _ _).mono ?_
  rintro r w1 ⟨rfl, e1⟩
  rw [e1]
  clear e1
  go_wp2_with fail
  refine HP.out.mono ?_
  rintro r w2 ⟨i, J, p, g1, g2, hI⟩
  obtain rfl := hI.res
  have hsum := hI.sum
  have hpl := hI.pl
  have hp0 := hI.p0
  have HI := Lib.hid hI
  have hsz2 := hI.ch.size
  have HL2 := Lib.hid (HL.out.keep hI.ch (fun h => h))
  obtain ⟨q, hq⟩ : ∃ q, q = i + (M - (p + L)) := ⟨_, rfl⟩
  have hqM : q = M - (p + J) := by omega
  rw [← hq]
  have HQ := Lib.hid hq
  have HA1 := Lib.hid (ev_append (lst i fs) (lst (p + J) fl))
  have HA2 := Lib.hid (ev_append (lst J (fun x => fs (i + x))) (lst q (fun x => fl (p + J + x))))
  have HR1 : Hid (Rd w2 (some ⟨gl, 0, none⟩) (ev (lst (p + J) fl))) := Lib.hid (by have := HL2.out.part 0 (p + J) (by omega); simpa using this)
  have HR2 := Lib.hid (HL2.out.part (p + J) q (by omega))
  have hg1l := (own_lt hI.own1 g1 rfl)
  have hg2l := (own_lt hI.own2 g2 rfl)
  have hgll : gl < w2.heap.size := (own_lt HL2.out gl rfl).2
  have hgl0 : gl < w.heap.size := (own_lt HL.out gl rfl).2
  have HQM := Lib.hid hqM
  have hq40 : q ≤ 40 := by omega
  have hq0 : 0 < q := by omega
  clear hI hq hqM
  go_wp2_with (first | (at_builtin; go_loud (refine app_all elC rfl (.tmp 43) (.tmp 44) rfl w.heap.size i (.slice (some ⟨g1, 0, none⟩) i i) (ev (lst i fs)) rfl HI.out.own1 gl 0 (p + J) cl (ev (lst (p + J) fl)) (by simp) (ev_one _) rfl HR1.out (by unfold maxLen; omega) (by omega) hsz2 ?_); intro v' w4 hown4 hc4 hb4 _; rw [← HA1.out, ← lst_cat] at hown4; obtain ⟨g4, c4, rfl, _, hnc4, _, _⟩ := row_rd hown4 (by omega); have HOw := Lib.hid hown4; have HC4 := Lib.hid hc4; have HB4 := Lib.hid hb4; have hsz4 := hc4.size; have HO2 : Hid (w4.ownsRow w.heap.size 72 1 (.slice (some ⟨g2, 0, none⟩) J J) J (ev (lst J (fun x => fs (i + x))))) := Lib.hid (own_keepS HI.out.own2 hc4 (fun k hk e => HI.out.ne (by simp [Value.ownBlock] at hk e; omega))); have HR24 := Lib.hid (HR2.out.keep hc4 (fun b o h e => by cases h; simp [Value.ownBlock] at e; omega)); clear hown4 hc4 hb4) | (at_builtin; go_loud (refine app_all elC rfl (.tmp 46) (.tmp 47) rfl w.heap.size J (.slice (some ⟨g2, 0, none⟩) J J) (ev (lst J (fun x => fs (i + x)))) rfl HO2.out gl (p + J) q (cl - p - J) (ev (lst q (fun x => fl (p + J + x)))) (by simp) (ev_one _) rfl HR24.out (by unfold maxLen; omega) (by omega) (by omega) ?_); intro v' w5 hown5 hc5 hb5 _; rw [← HA2.out, ← lst_cat] at hown5; obtain ⟨g5, c5, rfl, _, hnc5, _, _⟩ := row_rd hown5 (by omega); have HOw5 := Lib.hid hown5; have HC5 := Lib.hid hc5; have HB5 := Lib.hid hb5; have hsz5 := hc5.size; clear hown5 hc5 hb5))
  have k4 : g4 = g1 ∨ g4 = w2.heap.size := by simpa [Value.ownBlock] using HB4.out
  have k5 : g5 = g2 ∨ g5 = w4.heap.size := by simpa [Value.ownBlock] using HB5.out
  have l4 := own_lt HOw.out g4 rfl
  have l5 := own_lt HOw5.out g5 rfl
  have hn12 := HI.out.ne
  have hn42 : g4 ≠ g2 := by omega
  have hn45 : g4 ≠ g5 := by omega
  have HN45 := Lib.hid hn45
  have hA := asc_cat (n := i) (m := p + J) (f := fs) (g := fl) (fun x y x1 x2 x3 => HA.out x y x1 x2 (by omega)) (fun x y x1 x2 x3 => HB.out x y x1 x2 (by omega))
  have hB := asc_cat (n := J) (m := q) (f := fun x => fs (i + x)) (g := fun x => fl (p + J + x)) (fun x y x1 x2 x3 => HA.out _ _ (by omega) (by omega) (by omega)) (fun x y x1 x2 x3 => HB.out _ _ (by omega) (by omega) (by have := HQM.out; omega))
  have HOw4 : Hid (RW w5 w.heap.size g4 (i + (p + J)) c4 (cat i fs fl)) := Lib.hid (own_keepS HOw.out HC5.out (fun k hk e => by simp [Value.ownBlock] at hk e; omega))
  have HOw5' : Hid (RW w5 w.heap.size g5 (J + q) c5 (cat J (fun x => fs (i + x)) (fun x => fl (p + J + x)))) := HOw5
  have hs1 := symMerge_any (i + (p + J)) w.heap.size g4 (i + (p + J)) c4 0 i (i + (p + J)) _ w5 (by omega) HOw4.out (by omega) (by omega) (Nat.le_refl _) (by omega) hA.1 hA.2
  rw [show ((i + (p + J) : Nat) : Int) = (i : Int) + ((p : Int) + (J : Int)) from by omega] at hs1
  have HS1 := Lib.hid hs1
  have HBc := Lib.hid hB
  clear hs1 hA hB hn12 hn42 hn45 k4 k5 l4 l5
  refine HS1.out.mono ?_
  rintro r w6 ⟨rfl, ⟨f6, hR6, hM6⟩, hC6⟩
  have HR6 := Lib.hid hR6
  have HM6 := Lib.hid hM6
  have HC6 := Lib.hid hC6
  have HOw6 := Lib.hid (HOw5'.out.keep hC6 (fun e => HN45.out (Eq.symm e)))
  clear hR6 hM6 hC6
  have hs2 := symMerge_any (J + q) w.heap.size g5 (J + q) c5 0 J (J + q) _ w6 (by omega) HOw6.out (by omega) (by omega) (Nat.le_refl _) (by omega) HBc.out.1 HBc.out.2
  rw [show ((J + q : Nat) : Int) = (J : Int) + (q : Int) from by omega] at hs2
  have HS2 := Lib.hid hs2
  clear hs2
  go_wp2_with fail
  refine HS2.out.mono ?_
  rintro r w7 ⟨rfl, ⟨f7, hR7, hM7⟩, hC7⟩
  have HR7 := Lib.hid hR7
  have HM7 := Lib.hid hM7
  have HC7 := Lib.hid hC7
  have HU7 := Lib.hid (HR6.out.keep hC7 (fun e => HN45.out e))
  have hsz6 := HC6.out.size
  have hsz7 := hC7.size
  clear hR7 hM7 hC7
  have HA3 := Lib.hid (ev_append (lst (i + (p + J)) f6) (lst (J + q) f7))
  go_wp2_with (at_builtin; go_loud (refine app_all elC rfl (.tmp 59) (.tmp 60) rfl w.heap.size (i + (p + J)) (.slice (some ⟨g4, 0, none⟩) (i + (p + J)) c4) (ev (lst (i + (p + J)) f6)) rfl HU7.out g5 0 (J + q) c5 (ev (lst (J + q) f7)) (by simp) (ev_one _) rfl (by have := HR7.out.part 0 (J + q) (by omega); simpa using this) (by unfold maxLen; omega) (by omega) (by omega) ?_); intro v' w8 hown8 hc8 hb8 _; rw [← HA3.out] at hown8; have HOw8 := Lib.hid hown8; have HC8 := Lib.hid hc8; clear hown8 hc8 hb8)
  go_ret
  have l4 := own_lt HOw.out g4 rfl
  have l5 := own_lt HOw5.out g5 rfl
  have hI := HI.out
  have hQ := HQ.out
  refine ⟨⟨_, lst (i + (p + J)) f6 ++ lst (J + q) f7, rfl, ?_, ?_⟩, ?_⟩
  · have := own_base HOw8.out hb
    have e : i + (p + J) + (J + q) = L + M := by omega
    rwa [e] at this
  · have hM6 := HM6.out
    have hM7 := HM7.out
    rw [hQ] at hM7 ⊢
    exact far hI.sum hI.pl HA.out HB.out hI.low hI.high hM6 hM7
  · refine ((((hI.ch.trans' HC4.out (fun j hj e => ?_)).trans' HC5.out (fun j hj e => ?_)).trans' HC6.out (fun j hj e => ?_)).trans' HC7.out (fun j hj e => ?_)).trans' HC8.out (fun j hj e => ?_)
    · simp [Value.ownBlock] at e; omega
    · simp [Value.ownBlock] at e; omega
    · have e : j = g4 := e; omega
    · have e : j = g5 := e; omega
    · simp [Value.ownBlock] at e; omega

set_option maxRecDepth 100000 in
set_option maxHeartbeats 8000000 in
theorem sym_down (base gs gl L M cs cl : Nat) (fs fl : Nat → El) (w : World) (hs : RW w base gs L cs fs) (hl : RW w base gl M cl fl) (h0 : 0 < L) (hLM : L + 2 ≤ M) (hM : M ≤ 40) (hb : base ≤ w.heap.size) (ha : Asc fs 0 L) (hb2 : Asc fl 0 M) :
    Calls Try.prog 31 #[.slice (some ⟨gl, 0, none⟩) M cl, .slice (some ⟨gs, 0, none⟩) L cs] w fun r w' => SymR base (L + M) (lst L fs ++ lst M fl) r w' ∧ Ch S0 w w' := by
  have HA := Lib.hid ha
  have HB := Lib.hid hb2
  obtain ⟨_, _, e, _, hcs, _⟩ := own_rd hs
  cases e
  obtain ⟨_, _, e, _, hcl, _⟩ := own_rd hl
  cases e
  have HP := Lib.hid (prep_down base gs gl L M cs cl fs fl w hs hl h0 hLM (by omega) hcs hcl ha hb2)
  have HL := Lib.hid hl
  have hn1 : ((M : Int) == 0) = false := by simp; omega
  have hn2 : ¬ ((M : Int) = 0) := by omega
  have hm1 : ((L : Int) == 0) = false := by simp; omega
  have hm2 : ¬ ((L : Int) = 0) := by omega
  have hn3 : ¬ M = 0 := by omega
  have hm3 : ¬ L = 0 := by omega
  obtain ⟨d, hdd⟩ : ∃ d : Int, d = (M : Int) - (L : Int) := ⟨_, rfl⟩
  have hdi : (M : Int) - (L : Int) = d := hdd.symm
  have hfar := far_cmp d (by omega) (by omega)
  have hdl : (decide (1 < d) || decide (d < -1)) = true := by simp; omega
  rw [hdl] at hfar
  have HDd := Lib.hid hdd
  clear hs hl ha hb2 hdl hdd
  go_enter Try.func31, Try.ntmps31
  go_wp2_with fail
  refine (abs_any _ _).mono ?_
  rintro r w1 ⟨rfl, e1⟩
  rw [e1]
  clear e1
  go_wp2_with fail
  refine HP.out.mono ?_
  rintro r w2 ⟨i, J, p, g1, g2, hI⟩
  obtain rfl := hI.res
  have hsum := hI.sum
  have hpl := hI.pl
  have hp0 := hI.p0
  have HI := Lib.hid hI
  have hsz2 := hI.ch.size
  have HL2 := Lib.hid (HL.out.keep hI.ch (fun h => h))
  obtain ⟨q, hq⟩ : ∃ q, q = i + (M - (p + L)) := ⟨_, rfl⟩
  have hqM : q = M - (p + J) := by omega
  rw [← hq]
  have HQ := Lib.hid hq
  have HA1 := Lib.hid (ev_append (lst i fs) (lst (p + J) fl))
  have HA2 := Lib.hid (ev_append (lst J (fun x => fs (i + x))) (lst q (fun x => fl (p + J + x))))
  have HR1 : Hid (Rd w2 (some ⟨gl, 0, none⟩) (ev (lst (p + J) fl))) := Lib.hid (by have := HL2.out.part 0 (p + J) (by omega); simpa using this)
  have HR2 := Lib.hid (HL2.out.part (p + J) q (by omega))
  have hg1l := (own_lt hI.own1 g1 rfl)
  have hg2l := (own_lt hI.own2 g2 rfl)
  have hgll : gl < w2.heap.size := (own_lt HL2.out gl rfl).2
  have hgl0 : gl < w.heap.size := (own_lt HL.out gl rfl).2
  have HQM := Lib.hid hqM
  have hq40 : q ≤ 40 := by omega
  have hq0 : 0 < q := by omega
  clear hI hq hqM
  go_wp2_with (first | (at_builtin; go_loud (refine app_all elC rfl (.tmp 43) (.tmp 44) rfl w.heap.size i (.slice (some ⟨g1, 0, none⟩) i i) (ev (lst i fs)) rfl HI.out.own1 gl 0 (p + J) cl (ev (lst (p + J) fl)) (by simp) (ev_one _) rfl HR1.out (by unfold maxLen; omega) (by omega) hsz2 ?_); intro v' w4 hown4 hc4 hb4 _; rw [← HA1.out, ← lst_cat] at hown4; obtain ⟨g4, c4, rfl, _, hnc4, _, _⟩ := row_rd hown4 (by omega); have HOw := Lib.hid hown4; have HC4 := Lib.hid hc4; have HB4 := Lib.hid hb4; have hsz4 := hc4.size; have HO2 : Hid (w4.ownsRow w.heap.size 72 1 (.slice (some ⟨g2, 0, none⟩) J J) J (ev (lst J (fun x => fs (i + x))))) := Lib.hid (own_keepS HI.out.own2 hc4 (fun k hk e => HI.out.ne (by simp [Value.ownBlock] at hk e; omega))); have HR24 := Lib.hid (HR2.out.keep hc4 (fun b o h e => by cases h; simp [Value.ownBlock] at e; omega)); clear hown4 hc4 hb4) | (at_builtin; go_loud (refine app_all elC rfl (.tmp 46) (.tmp 47) rfl w.heap.size J (.slice (some ⟨g2, 0, none⟩) J J) (ev (lst J (fun x => fs (i + x)))) rfl HO2.out gl (p + J) q (cl - p - J) (ev (lst q (fun x => fl (p + J + x)))) (by simp) (ev_one _) rfl HR24.out (by unfold maxLen; omega) (by omega) (by omega) ?_); intro v' w5 hown5 hc5 hb5 _; rw [← HA2.out, ← lst_cat] at hown5; obtain ⟨g5, c5, rfl, _, hnc5, _, _⟩ := row_rd hown5 (by omega); have HOw5 := Lib.hid hown5; have HC5 := Lib.hid hc5; have HB5 := Lib.hid hb5; have hsz5 := hc5.size; clear hown5 hc5 hb5))
  have k4 : g4 = g1 ∨ g4 = w2.heap.size := by simpa [Value.ownBlock] using HB4.out
  have k5 : g5 = g2 ∨ g5 = w4.heap.size := by simpa [Value.ownBlock] using HB5.out
  have l4 := own_lt HOw.out g4 rfl
  have l5 := own_lt HOw5.out g5 rfl
  have hn12 := HI.out.ne
  have hn42 : g4 ≠ g2 := by omega
  have hn45 : g4 ≠ g5 := by omega
  have HN45 := Lib.hid hn45
  have hA := asc_cat (n := i) (m := p + J) (f := fs) (g := fl) (fun x y x1 x2 x3 => HA.out x y x1 x2 (by omega)) (fun x y x1 x2 x3 => HB.out x y x1 x2 (by omega))
  have hB := asc_cat (n := J) (m := q) (f := fun x => fs (i + x)) (g := fun x => fl (p + J + x)) (fun x y x1 x2 x3 => HA.out _ _ (by omega) (by omega) (by omega)) (fun x y x1 x2 x3 => HB.out _ _ (by omega) (by omega) (by have := HQM.out; omega))
  have HOw4 : Hid (RW w5 w.heap.size g4 (i + (p + J)) c4 (cat i fs fl)) := Lib.hid (own_keepS HOw.out HC5.out (fun k hk e => by simp [Value.ownBlock] at hk e; omega))
  have HOw5' : Hid (RW w5 w.heap.size g5 (J + q) c5 (cat J (fun x => fs (i + x)) (fun x => fl (p + J + x)))) := HOw5
  have hs1 := symMerge_any (i + (p + J)) w.heap.size g4 (i + (p + J)) c4 0 i (i + (p + J)) _ w5 (by omega) HOw4.out (by omega) (by omega) (Nat.le_refl _) (by omega) hA.1 hA.2
  rw [show ((i + (p + J) : Nat) : Int) = (i : Int) + ((p : Int) + (J : Int)) from by omega] at hs1
  have HS1 := Lib.hid hs1
  have HBc := Lib.hid hB
  clear hs1 hA hB hn12 hn42 hn45 k4 k5 l4 l5
  refine HS1.out.mono ?_
  rintro r w6 ⟨rfl, ⟨f6, hR6, hM6⟩, hC6⟩
  have HR6 := Lib.hid hR6
  have HM6 := Lib.hid hM6
  have HC6 := Lib.hid hC6
  have HOw6 := Lib.hid (HOw5'.out.keep hC6 (fun e => HN45.out (Eq.symm e)))
  clear hR6 hM6 hC6
  have hs2 := symMerge_any (J + q) w.heap.size g5 (J + q) c5 0 J (J + q) _ w6 (by omega) HOw6.out (by omega) (by omega) (Nat.le_refl _) (by omega) HBc.out.1 HBc.out.2
  rw [show ((J + q : Nat) : Int) = (J : Int) + (q : Int) from by omega] at hs2
  have HS2 := Lib.hid hs2
  clear hs2
  go_wp2_with fail
  refine HS2.out.mono ?_
  rintro r w7 ⟨rfl, ⟨f7, hR7, hM7⟩, hC7⟩
  have HR7 := Lib.hid hR7
  have HM7 := Lib.hid hM7
  have HC7 := Lib.hid hC7
  have HU7 := Lib.hid (HR6.out.keep hC7 (fun e => HN45.out e))
  have hsz6 := HC6.out.size
  have hsz7 := hC7.size
  clear hR7 hM7 hC7
  have HA3 := Lib.hid (ev_append (lst (i + (p + J)) f6) (lst (J + q) f7))
  go_wp2_with (at_builtin; go_loud (refine app_all elC rfl (.tmp 59) (.tmp 60) rfl w.heap.size (i + (p + J)) (.slice (some ⟨g4, 0, none⟩) (i + (p + J)) c4) (ev (lst (i + (p + J)) f6)) rfl HU7.out g5 0 (J + q) c5 (ev (lst (J + q) f7)) (by simp) (ev_one _) rfl (by have := HR7.out.part 0 (J + q) (by omega); simpa using this) (by unfold maxLen; omega) (by omega) (by omega) ?_); intro v' w8 hown8 hc8 hb8 _; rw [← HA3.out] at hown8; have HOw8 := Lib.hid hown8; have HC8 := Lib.hid hc8; clear hown8 hc8 hb8)
  go_ret
  have l4 := own_lt HOw.out g4 rfl
  have l5 := own_lt HOw5.out g5 rfl
  have hI := HI.out
  have hQ := HQ.out
  refine ⟨⟨_, lst (i + (p + J)) f6 ++ lst (J + q) f7, rfl, ?_, ?_⟩, ?_⟩
  · have := own_base HOw8.out hb
    have e : i + (p + J) + (J + q) = L + M := by omega
    rwa [e] at this
  · have hM6 := HM6.out
    have hM7 := HM7.out
    rw [hQ] at hM7 ⊢
    exact far hI.sum hI.pl HA.out HB.out hI.low hI.high hM6 hM7
  · refine ((((hI.ch.trans' HC4.out (fun j hj e => ?_)).trans' HC5.out (fun j hj e => ?_)).trans' HC6.out (fun j hj e => ?_)).trans' HC7.out (fun j hj e => ?_)).trans' HC8.out (fun j hj e => ?_)
    · simp [Value.ownBlock] at e; omega
    · simp [Value.ownBlock] at e; omega
    · have e : j = g4 := e; omega
    · have e : j = g5 := e; omega
    · simp [Value.ownBlock] at e; omega
end Go.Proofs.Ytbfcnimebdoagaa
