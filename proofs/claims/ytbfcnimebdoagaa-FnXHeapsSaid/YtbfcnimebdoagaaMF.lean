/- WALKS: two rows cut for the merge. (Printed by mkMF.py.) -/
import Derived.Test.YtbfcnimebdoagaaME
namespace Go.Proofs.Ytbfcnimebdoagaa
open Go.RowKit
set_option linter.unusedVariables false
set_option linter.unusedSimpArgs false

theorem elC : EL Try.prog 68 72 1 16 := EL.of (z := .nilIface) Try.underlying68 (by kernel_rfl) rfl (by decide)
theorem infoC : (Try.prog.info? 72).map (fun i => (i.zero, i.size, i.bytes)) = some (some (.nilIface), 1, 16) := by kernel_rfl
theorem szC : (Try.prog.info? 72).map (·.size) = some 1 := by kernel_rfl
theorem mkC (n : Nat) (hn : n ≤ 1000000) (w : World) : (Instr.makeSlice 68 (.int .i64 n) (.int .i64 n)).run Try.prog w = .ok (.slice (some ⟨w.heap.size, 0, none⟩) n n) (w.alloc (.cells (Array.replicate n .nilIface) 72)) :=
  make_one Try.underlying68 infoC rfl .i64 .i64 n n (Nat.le_refl _) (by omega) (by omega) w
theorem lst_drop (n i : Nat) (f : Nat → El) (h : i ≤ n) : (lst n f).drop i = lst (n - i) (fun x => f (i + x)) := by
  have e : lst n f = lst i f ++ lst (n - i) (fun x => f (i + x)) := by rw [← lst_add]; congr 1; omega
  rw [e, List.drop_left' (by simp)]
theorem lst_take (n i : Nat) (f : Nat → El) (h : i ≤ n) : (lst n f).take i = lst i f := by
  have e : lst n f = lst i f ++ lst (n - i) (fun x => f (i + x)) := by rw [← lst_add]; congr 1; omega
  rw [e, List.take_left' (by simp)]
theorem ev_drop (a : List El) (i : Nat) : ev (a.drop i) = (ev a).drop i := by simp [ev, List.map_drop]
theorem ev_take (a : List El) (i : Nat) : ev (a.take i) = (ev a).take i := by simp [ev, List.map_take]
/-- A part of a row reads. -/
theorem RW.part {w : World} {base g n cap : Nat} {f : Nat → El} (h : RW w base g n cap f) (o k : Nat) (hk : o + k ≤ n) : Rd w (some ⟨g, o, none⟩) (ev (lst k (fun x => f (o + x)))) := fun j x hj => by
  have hjl := (List.getElem?_eq_some_iff.1 hj).1
  rw [ev_length, lst_len] at hjl
  rw [ev_get (lst_at _ hjl)] at hj
  cases hj
  exact ⟨g, o, rfl, h.cell (by omega)⟩
/-- A new block that took cells over is a row of one's own. -/
theorem copied {w2 : World} {base g n : Nat} {cs : List Value} (hb : base ≤ g) (hl : cs.length = n) (hn : n ≤ 1000000) (h : w2.heap[g]? = some (.cells (splice (Array.replicate n Value.nilIface).toList 0 cs).toArray 72 (0, 0))) :
    w2.ownsRow base 72 1 (.slice (some ⟨g, 0, none⟩) n n) n cs := by
  have e : splice (Array.replicate n Value.nilIface).toList 0 cs = cs := by simp [splice, hl]
  rw [e] at h
  exact ⟨by omega, Or.inr ⟨g, n, cs.toArray, rfl, hb, h, Nat.le_refl _, by unfold maxLen; omega, by simp; omega, by simp; rw [← hl, List.take_length]⟩⟩

/-- copy(make(n), src). -/
theorem run_copy_new (n c : Nat) (A : Option Addr) (cs : List Value) (w : World) (hl : cs.length = n) (hn : n ≤ 1000000) (h1 : ∀ u ∈ cs, u.oneCell' = true) (hA : 0 < n → Rd w A cs) (base : Nat) (hb : base ≤ w.heap.size) :
    ∃ w3, (Builtin.copy_ #[68, 68] 3 #[.slice (some ⟨w.heap.size, 0, none⟩) n n, .slice A n c]).run Try.prog (w.alloc (.cells (Array.replicate n .nilIface) 72)) = .ok (.int .i64 n) w3 ∧ w3.ownsRow base 72 1 (.slice (some ⟨w.heap.size, 0, none⟩) n n) n cs ∧ Ch S0 w w3 ∧ w3.heap.size = w.heap.size + 1 := by
  have hN : (w.alloc (.cells (Array.replicate n Value.nilIface) 72)).heap[w.heap.size]? = some (.cells (Array.replicate n Value.nilIface) 72 (0, 0)) := (MapKept.heap_alloc w (.cells (Array.replicate n Value.nilIface) 72)).1
  have hC : Ch S0 w (w.alloc (.cells (Array.replicate n Value.nilIface) 72)) := (Ch.refl S0 w).alloc _
  rcases Nat.eq_zero_or_pos n with h0 | h0
  · subst h0
    have hc : cs = [] := List.eq_nil_of_length_eq_zero hl
    subst hc
    refine ⟨_, run_copy_none (P := Try.prog) _ 68 68 3 72 _ _ _ _ _ _ Try.underlying68 szC rfl, ⟨rfl, Or.inr ⟨w.heap.size, 0, #[], rfl, hb, by simpa using hN, Nat.le_refl _, by unfold maxLen; omega, rfl, rfl⟩⟩, hC, World.size_alloc _ _⟩
  · obtain ⟨b, o, rfl, _⟩ := (hA h0).lt (by omega)
    have hR := (hA h0).keep0 hC
    have hadd : ∀ (j : Nat), (⟨b, o, none⟩ : Addr).add j = ⟨b, o + j, none⟩ := fun j => by
      unfold Addr.add
      by_cases hx : j = 0
      · simp [hx]
      · simp [hx]
    have hrun := run_copy_row (P := Try.prog) (w.alloc (.cells (Array.replicate n Value.nilIface) 72)) 68 68 3 72 w.heap.size 0 n n ⟨b, o, none⟩ n c (Array.replicate n Value.nilIface) 72 cs Try.underlying68 szC hN (by rw [hl]; exact (Nat.min_self n).symm) (fun j u hj => by
      obtain ⟨b', o', e, hh⟩ := hR.at hj
      cases e
      rw [hadd]
      exact hh) (by simp; omega) h1
    have hcl : goInt cs.length = .int .i64 n := by rw [hl]; rfl
    rw [hcl] at hrun
    refine ⟨_, hrun, copied hb hl hn (by simpa [splice] using setRow_heap _ w.heap.size _ _ 72 _ hN), ?_, by simp [World.size_alloc]⟩
    exact hC.setRow w.heap.size (fun h => absurd h (Nat.lt_irrefl _)) _
/-- What is told by prepareForSymMerge. -/
structure PrepI (w w' : World) (gl L M cl : Nat) (fs fl : Nat → El) (r : Ending) (i J p g1 g2 : Nat) : Prop where
  sum : i + J = L
  pl : p + L < M
  p0 : 0 < p
  res : r = .returned (.tuple #[.slice (some ⟨g1, 0, none⟩) i i, .slice (some ⟨gl, 0, none⟩) (p + J) cl, .slice (some ⟨g2, 0, none⟩) J J, .slice (some ⟨gl, p + J, none⟩) (i + (M - (p + L))) (cl - p - J)])
  own1 : w'.ownsRow w.heap.size 72 1 (.slice (some ⟨g1, 0, none⟩) i i) i (ev (lst i fs))
  own2 : w'.ownsRow w.heap.size 72 1 (.slice (some ⟨g2, 0, none⟩) J J) J (ev (lst J (fun x => fs (i + x))))
  ne : g1 ≠ g2
  low : ∀ x, x < i → (fs x).1 ≤ (fl (p + (L - 1 - x))).1
  high : ∀ x, i ≤ x → x < L → (fl (p + (L - 1 - x))).1 < (fs x).1
  ch : Ch S0 w w'
def PrepR (w : World) (gl L M cl : Nat) (fs fl : Nat → El) (r : Ending) (w' : World) : Prop := ∃ i J p g1 g2, PrepI w w' gl L M cl fs fl r i J p g1 g2

set_option maxRecDepth 100000 in
set_option maxHeartbeats 8000000 in
theorem prep_up (base gs gl L M cs cl : Nat) (fs fl : Nat → El) (w : World) (hs : RW w base gs L cs fs) (hl : RW w base gl M cl fl) (h0 : 0 < L) (hLM : L + 2 ≤ M) (hM : M ≤ 100000) (hcs : L ≤ cs) (hcl : M ≤ cl) (ha : Asc fs 0 L) (hb : Asc fl 0 M) :
    Calls Try.prog 46 #[.slice (some ⟨gs, 0, none⟩) L cs, .slice (some ⟨gl, 0, none⟩) M cl] w fun r w' => PrepR w gl L M cl fs fl r w' := by
  have HS := Lib.hid hs
  have HL := Lib.hid hl
  have HAs := Lib.hid ha
  have HBs := Lib.hid hb
  clear hs hl ha hb
  obtain ⟨p, hp⟩ : ∃ p, p = (M - L) / 2 := ⟨_, rfl⟩
  have hD := decomp_any gl L M cl w (by omega) hcl (by omega)
  rw [← hp] at hD
  have hp0 : 0 < p := by omega
  have hpL : p + L < M := by omega
  have HD := Lib.hid hD
  clear hD hp
  have hord : ¬ (M : Int) < (L : Nat) := by omega
  have hMLi : (L : Int) < (M : Nat) := by omega
  go_enter Try.func46, Try.ntmps46
  go_wp2_with (first | (go_at_call 57; refine (len_any _ _ _ _).mono ?_; rintro r wx ⟨rfl, ex⟩; rw [ex]; clear ex))
  refine HD.out.mono ?_
  rintro r w1 ⟨rfl, e1⟩
  rw [e1]
  clear e1
  have HSe := Lib.hid (symSearch_any (some ⟨gs, 0, none⟩) (some ⟨gl, p, none⟩) L cs (cl - p) fs (fun x => fl (p + x)) w (by have := HS.out.part 0 L (by omega); simpa using this) (HL.out.part p L (by omega)) h0 (by omega) HAs.out (fun x y x1 x2 x3 => HBs.out _ _ (by omega) (by omega) (by omega)))
  go_wp2_with fail
  refine HSe.out.mono ?_
  rintro r w2 ⟨⟨i, rfl, hi, hlow, hhigh⟩, hC2⟩
  have HLow := Lib.hid hlow
  have HHigh := Lib.hid hhigh
  have HC2 := Lib.hid hC2
  obtain ⟨J, hJ⟩ : ∃ J, J = L - i := ⟨_, rfl⟩
  have hJi : (L : Int) - (i : Int) = (J : Nat) := by omega
  have hmk1 := mkC i (by omega)
  have hmk2 := mkC J (by omega)
  have hsum : i + J = L := by omega
  have hic : (i : Int) ≤ (cs : Nat) := by omega
  have hi0 : (0 : Int) ≤ (i : Nat) := by omega
  have hiL : (i : Int) ≤ (L : Nat) := by omega
  have hJc : (J : Int) ≤ ((cl - p : Nat) : Int) := by omega
  have hJ0 : (0 : Int) ≤ (J : Nat) := by omega
  have hJL : (J : Int) ≤ (L : Nat) := by omega
  have hne1 : ¬ cl - p = J := by omega
  have hLi : L - i = J := by omega
  have hLJ : L - J = i := by omega
  have hHS2 := HS.out.keep hC2 (fun h => h)
  have hHL2 := HL.out.keep hC2 (fun h => h)
  have hgs : gs < w2.heap.size := (own_lt hHS2 gs rfl).2
  have hgl : gl < w2.heap.size := (own_lt hHL2 gl rfl).2
  have hw2 := hC2.size
  have HS2 := Lib.hid hHS2
  have HL2 := Lib.hid hHL2
  clear hlow hhigh hC2 hJ hHS2 hHL2
  obtain ⟨c1, hc1⟩ : ∃ c1, c1 = ev (lst i fs) := ⟨_, rfl⟩
  obtain ⟨c2, hc2⟩ : ∃ c2, c2 = ev (lst J (fun x => fs (i + x))) := ⟨_, rfl⟩
  have HCl1 : Hid (c1.length = i) := Lib.hid (by rw [hc1]; simp)
  have HCl2 : Hid (c2.length = J) := Lib.hid (by rw [hc2]; simp)
  have hr1 := run_copy_new i cs (some ⟨gs, 0, none⟩) c1 w2 HCl1.out (by omega) (by rw [hc1]; exact ev_one _) (fun _ => by rw [hc1]; have := HS2.out.part 0 i (by omega); simpa using this) w.heap.size hw2
  obtain ⟨w3, hrun1, hO3, hC3, hs3⟩ := hr1
  have HO3 := Lib.hid hO3
  have HC3 := Lib.hid hC3
  have HS3 := Lib.hid (HS2.out.keep hC3 (fun h => h))
  have HL3 := Lib.hid (HL2.out.keep hC3 (fun h => h))
  have hw3 : w.heap.size ≤ w3.heap.size := by omega
  have hr2 := fun A (hA : 0 < J → A = some ⟨gs, i, none⟩) => run_copy_new J (cs - i) A c2 w3 HCl2.out (by omega) (by rw [hc2]; exact ev_one _) (fun h => by rw [hA h, hc2]; exact HS3.out.part i J (by omega)) w.heap.size hw3
  have HR2 := Lib.hid hr2
  have HE1 := Lib.hid hc1
  have HE2 := Lib.hid hc2
  have HG3 := Lib.hid (fun j => World.ownsRow.frozenAt HL3.out j : ∀ j, w3.frozen? ⟨gl, j, none⟩ = false)
  have HRd1 := Lib.hid (HL3.out.part p J (by omega))
  have HQ3 := Lib.hid hs3
  clear hO3 hC3 hr2 hc1 hc2 hs3
  by_cases hci : cs = i
  · obtain ⟨w4, hrun2, hO4, hC4, hs4⟩ := HR2.out (some ⟨gs, 0, none⟩) (by intro h; omega)
    rw [hci, Nat.sub_self] at hrun2
    rw [hci] at hrun1
    have HO4 := Lib.hid hO4
    have HC4 := Lib.hid hC4
    have HL4 := Lib.hid (HL3.out.keep hC4 (fun h => h))
    have HG4 := Lib.hid (fun j => World.ownsRow.frozenAt HL4.out j : ∀ j, w4.frozen? ⟨gl, j, none⟩ = false)
    have HRd2 := Lib.hid (HL4.out.part (p + L) (M - (p + L)) (by omega))
    have HQ4 := Lib.hid hs4
    clear hO4 hC4 hs4
    go_wp2_with (first | (at_builtin; go_loud (refine app_same elC rfl (.tmp 36) (.tmp 42) rfl gl 0 p cl J (cl - p) (some ⟨gl, p, none⟩) (ev (lst J (fun x => fl (p + x)))) rfl rfl (fun _ => by rw [Nat.zero_add]) (by simp) (by rw [Nat.zero_add]; exact HRd1.out) (by simp) (ev_one _) (by omega) HG3.out ?_)) | (at_builtin; go_loud (refine app_same elC rfl (.tmp 59) (.tmp 60) rfl gl (p + J) i (cl - p - J) (M - (p + L)) (cl - (p + L)) (some ⟨gl, p + L, none⟩) (ev (lst (M - (p + L)) (fun x => fl (p + L + x)))) rfl rfl (fun _ => by rw [show p + J + i = p + L by omega]) (by simp) (by rw [show p + J + i = p + L by omega]; exact HRd2.out) (by simp) (ev_one _) (by omega) HG4.out ?_)))
    refine bodyPost_ret (v := .tuple #[.slice (some ⟨w2.heap.size, 0, none⟩) i i, .slice (some ⟨gl, 0, none⟩) (p + J) cl, .slice (some ⟨w3.heap.size, 0, none⟩) J J, .slice (some ⟨gl, p + J, none⟩) (i + (M - (p + L))) (cl - p - J)]) (by simp [results, Try.results46, go_sem]) rfl ?_
    exact ⟨i, J, p, w2.heap.size, w3.heap.size, ⟨hsum, hpL, hp0, rfl, by rw [← HE1.out]; exact own_keep0 HO3.out HC4.out, by rw [← HE2.out]; exact HO4.out, by have := HQ3.out; omega, HLow.out, HHigh.out, (HC2.out.trans HC3.out).trans HC4.out⟩⟩
  · obtain ⟨w4, hrun2, hO4, hC4, hs4⟩ := HR2.out (some ⟨gs, i, none⟩) (by intro h; rfl)
    have HO4 := Lib.hid hO4
    have HC4 := Lib.hid hC4
    have HL4 := Lib.hid (HL3.out.keep hC4 (fun h => h))
    have HG4 := Lib.hid (fun j => World.ownsRow.frozenAt HL4.out j : ∀ j, w4.frozen? ⟨gl, j, none⟩ = false)
    have HRd2 := Lib.hid (HL4.out.part (p + L) (M - (p + L)) (by omega))
    have HQ4 := Lib.hid hs4
    clear hO4 hC4 hs4
    go_wp2_with (first | (at_builtin; go_loud (refine app_same elC rfl (.tmp 36) (.tmp 42) rfl gl 0 p cl J (cl - p) (some ⟨gl, p, none⟩) (ev (lst J (fun x => fl (p + x)))) rfl rfl (fun _ => by rw [Nat.zero_add]) (by simp) (by rw [Nat.zero_add]; exact HRd1.out) (by simp) (ev_one _) (by omega) HG3.out ?_)) | (at_builtin; go_loud (refine app_same elC rfl (.tmp 59) (.tmp 60) rfl gl (p + J) i (cl - p - J) (M - (p + L)) (cl - (p + L)) (some ⟨gl, p + L, none⟩) (ev (lst (M - (p + L)) (fun x => fl (p + L + x)))) rfl rfl (fun _ => by rw [show p + J + i = p + L by omega]) (by simp) (by rw [show p + J + i = p + L by omega]; exact HRd2.out) (by simp) (ev_one _) (by omega) HG4.out ?_)))
    refine bodyPost_ret (v := .tuple #[.slice (some ⟨w2.heap.size, 0, none⟩) i i, .slice (some ⟨gl, 0, none⟩) (p + J) cl, .slice (some ⟨w3.heap.size, 0, none⟩) J J, .slice (some ⟨gl, p + J, none⟩) (i + (M - (p + L))) (cl - p - J)]) (by simp [results, Try.results46, go_sem]) rfl ?_
    exact ⟨i, J, p, w2.heap.size, w3.heap.size, ⟨hsum, hpL, hp0, rfl, by rw [← HE1.out]; exact own_keep0 HO3.out HC4.out, by rw [← HE2.out]; exact HO4.out, by have := HQ3.out; omega, HLow.out, HHigh.out, (HC2.out.trans HC3.out).trans HC4.out⟩⟩

set_option maxRecDepth 100000 in
set_option maxHeartbeats 8000000 in
theorem prep_down (base gs gl L M cs cl : Nat) (fs fl : Nat → El) (w : World) (hs : RW w base gs L cs fs) (hl : RW w base gl M cl fl) (h0 : 0 < L) (hLM : L + 2 ≤ M) (hM : M ≤ 100000) (hcs : L ≤ cs) (hcl : M ≤ cl) (ha : Asc fs 0 L) (hb : Asc fl 0 M) :
    Calls Try.prog 46 #[.slice (some ⟨gl, 0, none⟩) M cl, .slice (some ⟨gs, 0, none⟩) L cs] w fun r w' => PrepR w gl L M cl fs fl r w' := by
  have HS := Lib.hid hs
  have HL := Lib.hid hl
  have HAs := Lib.hid ha
  have HBs := Lib.hid hb
  clear hs hl ha hb
  obtain ⟨p, hp⟩ : ∃ p, p = (M - L) / 2 := ⟨_, rfl⟩
  have hD := decomp_any gl L M cl w (by omega) hcl (by omega)
  rw [← hp] at hD
  have hp0 : 0 < p := by omega
  have hpL : p + L < M := by omega
  have HD := Lib.hid hD
  clear hD hp
  have hord : (L : Int) < (M : Nat) := by omega
  have hMLi : (L : Int) < (M : Nat) := by omega
  go_enter Try.func46, Try.ntmps46
  go_wp2_with (first | (go_at_call 57; refine (len_any _ _ _ _).mono ?_; rintro r wx ⟨rfl, ex⟩; rw [ex]; clear ex))
  refine HD.out.mono ?_
  rintro r w1 ⟨rfl, e1⟩
  rw [e1]
  clear e1
  have HSe := Lib.hid (symSearch_any (some ⟨gs, 0, none⟩) (some ⟨gl, p, none⟩) L cs (cl - p) fs (fun x => fl (p + x)) w (by have := HS.out.part 0 L (by omega); simpa using this) (HL.out.part p L (by omega)) h0 (by omega) HAs.out (fun x y x1 x2 x3 => HBs.out _ _ (by omega) (by omega) (by omega)))
  go_wp2_with fail
  refine HSe.out.mono ?_
  rintro r w2 ⟨⟨i, rfl, hi, hlow, hhigh⟩, hC2⟩
  have HLow := Lib.hid hlow
  have HHigh := Lib.hid hhigh
  have HC2 := Lib.hid hC2
  obtain ⟨J, hJ⟩ : ∃ J, J = L - i := ⟨_, rfl⟩
  have hJi : (L : Int) - (i : Int) = (J : Nat) := by omega
  have hmk1 := mkC i (by omega)
  have hmk2 := mkC J (by omega)
  have hsum : i + J = L := by omega
  have hic : (i : Int) ≤ (cs : Nat) := by omega
  have hi0 : (0 : Int) ≤ (i : Nat) := by omega
  have hiL : (i : Int) ≤ (L : Nat) := by omega
  have hJc : (J : Int) ≤ ((cl - p : Nat) : Int) := by omega
  have hJ0 : (0 : Int) ≤ (J : Nat) := by omega
  have hJL : (J : Int) ≤ (L : Nat) := by omega
  have hne1 : ¬ cl - p = J := by omega
  have hLi : L - i = J := by omega
  have hLJ : L - J = i := by omega
  have hHS2 := HS.out.keep hC2 (fun h => h)
  have hHL2 := HL.out.keep hC2 (fun h => h)
  have hgs : gs < w2.heap.size := (own_lt hHS2 gs rfl).2
  have hgl : gl < w2.heap.size := (own_lt hHL2 gl rfl).2
  have hw2 := hC2.size
  have HS2 := Lib.hid hHS2
  have HL2 := Lib.hid hHL2
  clear hlow hhigh hC2 hJ hHS2 hHL2
  obtain ⟨c1, hc1⟩ : ∃ c1, c1 = ev (lst i fs) := ⟨_, rfl⟩
  obtain ⟨c2, hc2⟩ : ∃ c2, c2 = ev (lst J (fun x => fs (i + x))) := ⟨_, rfl⟩
  have HCl1 : Hid (c1.length = i) := Lib.hid (by rw [hc1]; simp)
  have HCl2 : Hid (c2.length = J) := Lib.hid (by rw [hc2]; simp)
  have hr1 := run_copy_new i cs (some ⟨gs, 0, none⟩) c1 w2 HCl1.out (by omega) (by rw [hc1]; exact ev_one _) (fun _ => by rw [hc1]; have := HS2.out.part 0 i (by omega); simpa using this) w.heap.size hw2
  obtain ⟨w3, hrun1, hO3, hC3, hs3⟩ := hr1
  have HO3 := Lib.hid hO3
  have HC3 := Lib.hid hC3
  have HS3 := Lib.hid (HS2.out.keep hC3 (fun h => h))
  have HL3 := Lib.hid (HL2.out.keep hC3 (fun h => h))
  have hw3 : w.heap.size ≤ w3.heap.size := by omega
  have hr2 := fun A (hA : 0 < J → A = some ⟨gs, i, none⟩) => run_copy_new J (cs - i) A c2 w3 HCl2.out (by omega) (by rw [hc2]; exact ev_one _) (fun h => by rw [hA h, hc2]; exact HS3.out.part i J (by omega)) w.heap.size hw3
  have HR2 := Lib.hid hr2
  have HE1 := Lib.hid hc1
  have HE2 := Lib.hid hc2
  have HG3 := Lib.hid (fun j => World.ownsRow.frozenAt HL3.out j : ∀ j, w3.frozen? ⟨gl, j, none⟩ = false)
  have HRd1 := Lib.hid (HL3.out.part p J (by omega))
  have HQ3 := Lib.hid hs3
  clear hO3 hC3 hr2 hc1 hc2 hs3
  by_cases hci : cs = i
  · obtain ⟨w4, hrun2, hO4, hC4, hs4⟩ := HR2.out (some ⟨gs, 0, none⟩) (by intro h; omega)
    rw [hci, Nat.sub_self] at hrun2
    rw [hci] at hrun1
    have HO4 := Lib.hid hO4
    have HC4 := Lib.hid hC4
    have HL4 := Lib.hid (HL3.out.keep hC4 (fun h => h))
    have HG4 := Lib.hid (fun j => World.ownsRow.frozenAt HL4.out j : ∀ j, w4.frozen? ⟨gl, j, none⟩ = false)
    have HRd2 := Lib.hid (HL4.out.part (p + L) (M - (p + L)) (by omega))
    have HQ4 := Lib.hid hs4
    clear hO4 hC4 hs4
    go_wp2_with (first | (at_builtin; go_loud (refine app_same elC rfl (.tmp 36) (.tmp 42) rfl gl 0 p cl J (cl - p) (some ⟨gl, p, none⟩) (ev (lst J (fun x => fl (p + x)))) rfl rfl (fun _ => by rw [Nat.zero_add]) (by simp) (by rw [Nat.zero_add]; exact HRd1.out) (by simp) (ev_one _) (by omega) HG3.out ?_)) | (at_builtin; go_loud (refine app_same elC rfl (.tmp 59) (.tmp 60) rfl gl (p + J) i (cl - p - J) (M - (p + L)) (cl - (p + L)) (some ⟨gl, p + L, none⟩) (ev (lst (M - (p + L)) (fun x => fl (p + L + x)))) rfl rfl (fun _ => by rw [show p + J + i = p + L by omega]) (by simp) (by rw [show p + J + i = p + L by omega]; exact HRd2.out) (by simp) (ev_one _) (by omega) HG4.out ?_)))
    refine bodyPost_ret (v := .tuple #[.slice (some ⟨w2.heap.size, 0, none⟩) i i, .slice (some ⟨gl, 0, none⟩) (p + J) cl, .slice (some ⟨w3.heap.size, 0, none⟩) J J, .slice (some ⟨gl, p + J, none⟩) (i + (M - (p + L))) (cl - p - J)]) (by simp [results, Try.results46, go_sem]) rfl ?_
    exact ⟨i, J, p, w2.heap.size, w3.heap.size, ⟨hsum, hpL, hp0, rfl, by rw [← HE1.out]; exact own_keep0 HO3.out HC4.out, by rw [← HE2.out]; exact HO4.out, by have := HQ3.out; omega, HLow.out, HHigh.out, (HC2.out.trans HC3.out).trans HC4.out⟩⟩
  · obtain ⟨w4, hrun2, hO4, hC4, hs4⟩ := HR2.out (some ⟨gs, i, none⟩) (by intro h; rfl)
    have HO4 := Lib.hid hO4
    have HC4 := Lib.hid hC4
    have HL4 := Lib.hid (HL3.out.keep hC4 (fun h => h))
    have HG4 := Lib.hid (fun j => World.ownsRow.frozenAt HL4.out j : ∀ j, w4.frozen? ⟨gl, j, none⟩ = false)
    have HRd2 := Lib.hid (HL4.out.part (p + L) (M - (p + L)) (by omega))
    have HQ4 := Lib.hid hs4
    clear hO4 hC4 hs4
    go_wp2_with (first | (at_builtin; go_loud (refine app_same elC rfl (.tmp 36) (.tmp 42) rfl gl 0 p cl J (cl - p) (some ⟨gl, p, none⟩) (ev (lst J (fun x => fl (p + x)))) rfl rfl (fun _ => by rw [Nat.zero_add]) (by simp) (by rw [Nat.zero_add]; exact HRd1.out) (by simp) (ev_one _) (by omega) HG3.out ?_)) | (at_builtin; go_loud (refine app_same elC rfl (.tmp 59) (.tmp 60) rfl gl (p + J) i (cl - p - J) (M - (p + L)) (cl - (p + L)) (some ⟨gl, p + L, none⟩) (ev (lst (M - (p + L)) (fun x => fl (p + L + x)))) rfl rfl (fun _ => by rw [show p + J + i = p + L by omega]) (by simp) (by rw [show p + J + i = p + L by omega]; exact HRd2.out) (by simp) (ev_one _) (by omega) HG4.out ?_)))
    refine bodyPost_ret (v := .tuple #[.slice (some ⟨w2.heap.size, 0, none⟩) i i, .slice (some ⟨gl, 0, none⟩) (p + J) cl, .slice (some ⟨w3.heap.size, 0, none⟩) J J, .slice (some ⟨gl, p + J, none⟩) (i + (M - (p + L))) (cl - p - J)]) (by simp [results, Try.results46, go_sem]) rfl ?_
    exact ⟨i, J, p, w2.heap.size, w3.heap.size, ⟨hsum, hpL, hp0, rfl, by rw [← HE1.out]; exact own_keep0 HO3.out HC4.out, by rw [← HE2.out]; exact HO4.out, by have := HQ3.out; omega, HLow.out, HHigh.out, (HC2.out.trans HC3.out).trans HC4.out⟩⟩
end Go.Proofs.Ytbfcnimebdoagaa
