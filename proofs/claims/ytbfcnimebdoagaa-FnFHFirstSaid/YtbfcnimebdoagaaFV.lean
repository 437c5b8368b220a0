/- WALKS: a step that takes the least entry out; one that decreases a priority. -/
import Derived.Test.YtbfcnimebdoagaaFU
import Derived.Deep.RegionHeld3
import Derived.Deep.RegionLaw
namespace Go.Proofs.Ytbfcnimebdoagaa
open Go.RowKit
set_option linter.unusedVariables false
set_option linter.unusedSimpArgs false

set_option maxRecDepth 100000 in
theorem gone_any (base hh i g n c : Nat) (v0 : Value) (E : List (Option Nat)) (w : World) (hB : Blk w hh #[v0, .slice (some ⟨g, 0, none⟩) n c]) (hO : w.ownsRow base 52 1 (.slice (some ⟨g, 0, none⟩) n c) n (ovs E)) (hi : i < n) (hn : n ≤ 100000) :
    Calls Try.prog 39 #[.pointer (some ⟨hh, 0, none⟩), .int .i64 i] w fun r w' => r = .returned (.tuple #[]) ∧ w' = w.setCell ⟨g, i, none⟩ (.pointer none) := by
  have k1 := hB.cell 1
  simp only [List.getElem?_toArray, List.getElem?_cons_zero, List.getElem?_cons_succ] at k1
  have hl : (ovs E).length = n := by have := hO.1; omega
  have c0 := hO.cellAt i (by omega)
  obtain ⟨u, hu⟩ : ∃ u, (ovs E)[i]? = some u := ⟨_, List.getElem?_eq_getElem (by omega)⟩
  rw [hu] at c0
  have f0 := hO.frozenAt i
  have h1 : (i : Int) < n := by omega
  have h0 : (0 : Int) ≤ i := by omega
  have hd0 : decide ((0 : Int) ≤ i) = true := by rw [decide_eq_true_iff]; exact h0
  have hd1 : decide ((i : Int) < n) = true := by rw [decide_eq_true_iff]; exact h1
  clear hB hO hu hl
  go_enter Try.func39, Try.ntmps39
  go_wp2_with fail
  go_end0
  exact ⟨rfl, rfl⟩
theorem SesF.deq {w w5 : World} {base hh hb i m : Nat} {ve : Value} {E : List (Option Nat)} {N : List Nat} {s s' : FS} {G G' : Option Nat → List Nat} {h h' : Nat → Nat} {mn mn' : Option Nat} {A : List (Option Int)} {cl : Bool} (f : SesF w base hh hb ve E N s G h mn A cl) (hi : E[i]? = some (some m))
    (hf : FHp w5 hb (N.erase m) s' G' h' mn') (hB : Blk w5 hh #[.pointer (some ⟨hb, 0, none⟩), ve]) (ho : w5.ownsRow base 52 1 ve E.length (ovs (E.set i none))) (hp : ∀ a ∈ N, s'.pr a = s.pr a) (hk : ∀ a ∈ N, s.mr a = false → s'.mr a = false) :
    SesF w5 base hh hb ve (E.set i none) (N.erase m) s' G' h' mn' (A.set i none) cl := by
  have hm : m ∈ N := f.perm.mem_iff.2 (fm_mem.2 (List.mem_of_getElem? hi))
  refine ⟨hB, by rw [List.length_set]; exact ho, hf, ?_, ?_, fun hc a ha => hk a (List.mem_of_mem_erase ha) (f.cln hc a (List.mem_of_mem_erase ha)), fun h => f.nhh (List.mem_of_mem_erase h), f.hne, fun k e => ⟨(f.vout k e).1, (f.vout k e).2.1, fun h => (f.vout k e).2.2 (List.mem_of_mem_erase h)⟩, ⟨f.lo.1, f.lo.2.1, fun a ha => f.lo.2.2 a (List.mem_of_mem_erase ha)⟩, by rw [List.length_set]; exact f.len⟩
  · have h1 := (f.perm.trans (fm_set hi).symm).erase m
    rwa [List.erase_cons_head] at h1
  · have e : (E.map (Option.map s.pr)).set i none = (E.set i none).map (Option.map s.pr) := by rw [List.map_set]; rfl
    rw [f.pri, e]
    refine map_pr fun a ha => ?_
    rcases List.mem_or_eq_of_mem_set ha with h1 | h1
    · exact (hp a (f.perm.mem_iff.2 (fm_mem.2 h1))).symm
    · cases h1
theorem SesF.min {w : World} {base hh hb : Nat} {ve : Value} {E : List (Option Nat)} {N : List Nat} {s : FS} {G : Option Nat → List Nat} {h : Nat → Nat} {mn : Option Nat} {A : List (Option Int)} {cl : Bool} (f : SesF w base hh hb ve E N s G h mn A cl) (ha : 0 < alive A) :
    ∃ (m i : Nat), mn = some m ∧ m ∈ N ∧ E[i]? = some (some m) ∧ A[i]? = some (some (s.pr m)) ∧ ∀ r, some r ∈ A → s.pr m ≤ r := by
  have hl : 0 < N.length := by
    rw [f.perm.length_eq, ← fm_len s.pr, ← f.pri]; exact ha
  obtain ⟨m, rfl⟩ := f.heap.hp.nonempty (fun e => by rw [e] at hl; simp at hl)
  obtain ⟨hm, hle⟩ := f.heap.hp.all
  obtain ⟨i, hi, e⟩ := List.getElem_of_mem (fm_mem.1 (f.perm.mem_iff.1 hm))
  have hi2 : E[i]? = some (some m) := by rw [List.getElem?_eq_getElem hi, e]
  refine ⟨m, i, rfl, hm, hi2, by rw [f.pri, List.getElem?_map, hi2]; rfl, fun r hr => ?_⟩
  rw [f.pri] at hr
  obtain ⟨o, ho, e2⟩ := List.mem_map.1 hr
  cases o with
  | none => cases e2
  | some a =>
    cases e2
    exact hle a (f.perm.mem_iff.2 (fm_mem.2 ho))
set_option maxHeartbeats 8000000 in
set_option maxRecDepth 100000 in
theorem step3 (base hh : Nat) (A : List (Option Int)) (cl : Bool) (S : Nat → Prop) (n p : Int) (Ax : Option Addr) (len cp : Nat) (xs : List Int) (w : World) (hs : Ses w base hh A cl S) (hl : 0 < alive A) :
    Calls Try.prog 24 #[.pointer (some ⟨hh, 0, none⟩), hpV ⟨3, n, p, Ax, len, cp, xs⟩] w fun r w' => HStepX w base hh A cl S ⟨3, n, p, Ax, len, cp, xs⟩ r w' := by
  obtain ⟨hb, ve, E, N, s, G, h, mn, f, rfl⟩ := hs
  obtain ⟨m, i, rfl, hm, hi, hAi, hmin⟩ := f.min hl
  have T := two w ⟨3, n, p, Ax, len, cp, xs⟩
  obtain ⟨W1, hW1⟩ : ∃ W, W = (w.alloc (.cells #[.int .i64 3, .int .i64 n, .int .i64 p, .slice Ax len cp] 28)).alloc (.cells #[.bool false, .int .i64 0, .int .i64 0, .int .i64 0, .bool false] 32) := ⟨_, rfl⟩
  have T1 : Two w W1 ⟨3, n, p, Ax, len, cp, xs⟩ := by rw [hW1]; exact T
  have f1 := f.keep T1.ch (fun _ _ h => h)
  have k0 := f1.hblk.cell 0
  simp only [List.getElem?_toArray, List.getElem?_cons_zero, List.getElem?_cons_succ] at k0
  have hdeq := deq_some_any hb N s G h m W1 f1.heap
  obtain ⟨Ae, ce, rfl, _, _, _, hg, _⟩ := own_rd f.own
  have hil : i < E.length := (List.getElem?_eq_some_iff.1 hi).1
  obtain ⟨g, rfl⟩ := hg.resolve_left (by omega)
  have hnSH : ∀ k, (k = hh ∨ k = g) → ¬ SH hb N k := fun k e h => by
    have h1 := f.vout g rfl
    rcases e with e | e <;> rcases h with h | h <;> subst e
    · exact f.hne h
    · exact f.nhh h
    · exact h1.2.1 h
    · exact h1.2.2 h
  have HF := Lib.hid f
  have HF1 := Lib.hid f1
  have HT := Lib.hid T1
  have HW := Lib.hid hW1
  have HDq := Lib.hid hdeq
  have HI := Lib.hid hi
  have HAi := Lib.hid hAi
  have HMin := Lib.hid hmin
  have HIL := Lib.hid hil
  have HNS := Lib.hid hnSH
  clear T T1 f f1 hW1 hdeq hi hAi hmin hl hg hil hnSH
  unfold hpV
  go_enter Try.func24, Try.ntmps24
  go_upto_region 9 with fail
  rw [← HW.out]
  go_wp2_with fail
  refine HDq.out.mono ?_
  rintro r w2 ⟨rfl, ⟨s', G', h', mn', hf2, hp2, hM2, hk2⟩, hC2⟩
  have hB2 := HF1.out.hblk.keep hC2 (HNS.out hh (Or.inl rfl))
  have hO2 := own_keepS HF1.out.own hC2 (fun k e => by cases e; exact HNS.out g (Or.inr rfl))
  have hsd := said_of hB2 hO2 HF.out.perm HF.out.heap.hp.wf.nd hM2 (fun a ha => by rw [hp2 a ha]; exact HF.out.heap.sm a ha) HI.out HF.out.len
  rw [hp2 m hm] at hsd
  have HSd := Lib.hid hsd
  have HF2 := Lib.hid hf2
  have HP2 := Lib.hid hp2
  have HK2 := Lib.hid hk2
  have HB2 := Lib.hid hB2
  have HO2 := Lib.hid hO2
  have HC2 := Lib.hid hC2
  clear hsd hf2 hp2 hk2 hB2 hO2 hC2 hM2 k0
  go_wp2_with fail
  refine HSd.out.mono ?_
  rintro r w3 ⟨rfl, hC3⟩
  have HC3 := Lib.hid hC3
  clear hC3
  go_upto_region 10 with fail
  obtain ⟨W4, hW4⟩ : ∃ W, W = w3.alloc (.cells #[.bool true, .int .i64 (i : Nat), .int .i64 (s.pr m), .int .i64 0, .bool false] 32) := ⟨_, rfl⟩
  have hC4 : Ch S0 w3 W4 := by rw [hW4]; exact (Ch.refl _ _).alloc _
  have hob : Blk W4 w3.heap.size #[.bool true, .int .i64 (i : Nat), .int .i64 (s.pr m), .int .i64 0, .bool false] := by rw [hW4]; exact Blk.new _ _ _
  rw [← hW4]
  obtain ⟨ob, hobe⟩ : ∃ o, o = w3.heap.size := ⟨_, rfl⟩
  rw [← hobe] at hob ⊢
  have k1 := hob.cell 1
  simp only [List.getElem?_toArray, List.getElem?_cons_zero, List.getElem?_cons_succ] at k1
  have hC24 := HC3.out.trans hC4
  have hgn := gone_any base hh i g E.length ce _ E W4 (HB2.out.keep hC24 (fun h => h)) (own_keepS HO2.out hC24 (fun _ _ h => h)) HIL.out (by have := HF.out.len; omega)
  have HGn := Lib.hid hgn
  have HC24 := Lib.hid hC24
  have HOb := Lib.hid hob
  have HObe := Lib.hid hobe
  clear hgn hC24 hob hobe hC4 hW4
  go_wp2_with fail
  refine HGn.out.mono ?_
  rintro r w5 ⟨rfl, e5⟩
  have hSt := (own_keepS HO2.out HC24.out (fun _ _ h => h)).stored i (.pointer none)
  rw [show (ovs E).set i (.pointer none) = ovs (E.set i none) from ovs_set E i none, ← e5] at hSt
  have hC5 : Ch (S1 g) W4 w5 := Ch.ofGrown hSt.2 (fun k e => by cases e; rfl)
  have hsz1 := HT.out.size
  have hsz2 := HC2.out.size
  have hsz3 := HC3.out.size
  have hgl : g < w.heap.size := (own_lt HF.out.own g rfl).2
  have hhl := HF.out.hblk.lt
  have hob5 := HOb.out.keep hC5 (fun e => by have e : ob = g := e; have := HObe.out; omega)
  have hans : Blk w5 (w.heap.size + 1) #[.bool false, .int .i64 0, .int .i64 0, .int .i64 0, .bool false] := by
    refine ((HT.out.ans.keep HC2.out (fun h => ?_)).keep HC24.out (fun h => h)).keep hC5 (fun e => by have e : w.heap.size + 1 = g := e; omega)
    have := HF.out.lt (show SetS hh hb (.slice (some ⟨g, 0, none⟩) E.length ce) N (w.heap.size + 1) by
      rcases h with h | h
      · exact Or.inr (Or.inl h)
      · exact Or.inr (Or.inr (Or.inl h)))
    omega
  have hv := HF.out.vout g rfl
  have f5 := HF.out.deq HI.out ((HF2.out.keep HC24.out (fun h => h) (fun _ _ h => h)).keep hC5 (fun e => hv.2.1 (Eq.symm e)) (fun a ha e => hv.2.2 (by have e : a = g := e; rw [← e]; exact List.mem_of_mem_erase ha))) ((HB2.out.keep HC24.out (fun h => h)).keep hC5 (fun e => hv.1 (Eq.symm e))) hSt.1 HP2.out HK2.out
  have hcc : Ch (SetS hh hb (.slice (some ⟨g, 0, none⟩) E.length ce) N) w w5 := by
    have h1 : Ch (SetS hh hb (.slice (some ⟨g, 0, none⟩) E.length ce) N) w W1 := HT.out.ch.mono (fun _ _ h => h.elim)
    have h2 := h1.trans (HC2.out.mono (fun k _ h => by
      rcases h with h | h
      · exact Or.inr (Or.inl h)
      · exact Or.inr (Or.inr (Or.inl h))))
    have h3 := h2.trans (HC24.out.mono (fun _ _ h => h.elim))
    exact h3.trans (hC5.mono (fun k _ h => by have h : k = g := h; subst h; exact Or.inr (Or.inr (Or.inr rfl))))
  have z0 := hans.cell 0
  have z1 := hans.cell 1
  have z2 := hans.cell 2
  have z3 := hans.cell 3
  have z4 := hans.cell 4
  have y0 := hans.free 0
  have y1 := hans.free 1
  have y2 := hans.free 2
  have y3 := hans.free 3
  have y4 := hans.free 4
  have x0 := hob5.cell 0
  have x1 := hob5.cell 1
  have x2 := hob5.cell 2
  have x3 := hob5.cell 3
  have x4 := hob5.cell 4
  simp only [List.getElem?_toArray, List.getElem?_cons_zero, List.getElem?_cons_succ] at z0 z1 z2 z3 z4 x0 x1 x2 x3 x4
  have hl5 := hans.lt
  have HF5 := Lib.hid f5
  have HCC := Lib.hid hcc
  clear hans hob5 f5 hcc hSt hC5 e5 hsz1 hsz2 hsz3 hgl hhl hv k1
  go_wp2_with fail
  refine bodyPost_ret (v := .agg #[.bool true, .int .i64 (i : Nat), .int .i64 (s.pr m), .int .i64 0, .bool false]) (by simp [results, Try.results24, go_sem, z0, z1, z2, z3, z4, hl5]) rfl ?_
  refine hstep_end rfl ⟨hb, _, _, _, _, _, _, _, HF5.out, rfl⟩ (fun k hk => ?_) (fun k hk => (HF.out.lt hk).2) HCC.out (ch5 _ _ _ _ _ _ _) ?_
  · left
    rcases hk with h | h | h | h
    · exact Or.inl h
    · exact Or.inr (Or.inl h)
    · exact Or.inr (Or.inr (Or.inl (List.mem_of_mem_erase h)))
    · exact Or.inr (Or.inr (Or.inr h))
  · exact ⟨rfl, fun e => absurd e (by show ¬ (3 : Int) = 1; decide), fun _ => ⟨i, s.pr m, HAi.out, HMin.out, rfl, rfl, rfl, rfl⟩, fun e => absurd e (by show ¬ (3 : Int) = 4; decide), fun e => absurd e (by show ¬ (3 : Int) = 6; decide)⟩
theorem SesF.dec {w w5 : World} {base hh hb i x : Nat} {ve : Value} {E : List (Option Nat)} {N : List Nat} {s s' : FS} {G G' : Option Nat → List Nat} {h h' : Nat → Nat} {mn mn' : Option Nat} {A : List (Option Int)} {cl : Bool} {p : Int} (f : SesF w base hh hb ve E N s G h mn A cl) (hi : E[i]? = some (some x))
    (hf : FHp w5 hb N s' G' h' mn') (hp : ∀ a ∈ N, s'.pr a = (prSt s x p).pr a) (hc : Ch (SH hb N) w w5) :
    SesF w5 base hh hb ve E N s' G' h' mn' (A.set i (some p)) false := by
  have hn : ∀ k, SH hb N k → k = hh ∨ ve.ownBlock = some k → False := fun k h1 h2 => by
    rcases h2 with e | e
    · subst e
      rcases h1 with h | h
      · exact f.hne h
      · exact f.nhh h
    · rcases h1 with h | h
      · exact (f.vout k e).2.1 h
      · exact (f.vout k e).2.2 h
  refine ⟨f.hblk.keep hc (fun h => hn hh h (Or.inl rfl)), own_keepS f.own hc (fun g e h => hn g h (Or.inr e)), hf, f.perm, ?_, fun e => (by cases e), f.nhh, f.hne, f.vout, f.lo, f.len⟩
  rw [f.pri]
  apply List.ext_getElem?
  intro j
  have hnd := f.perm.nodup_iff.1 f.heap.hp.wf.nd
  by_cases e : j = i
  · subst e
    have hlt := (List.getElem?_eq_some_iff.1 hi).1
    rw [List.getElem?_set_self (by simpa using hlt), List.getElem?_map, hi]
    have hxN : x ∈ N := f.perm.mem_iff.2 (fm_mem.2 (List.mem_of_getElem? hi))
    simp [hp x hxN, prSt]
  · rw [List.getElem?_set_ne (Ne.symm e), List.getElem?_map, List.getElem?_map]
    cases hj : E[j]? with
    | none => rfl
    | some o => cases o with
      | none => rfl
      | some a =>
        have haN : a ∈ N := f.perm.mem_iff.2 (fm_mem.2 (List.mem_of_getElem? hj))
        have hax : a ≠ x := fun e2 => e (fm_uni hnd (e2 ▸ hj) hi)
        simp [hp a haN, prSt, upd_ne _ _ hax]
set_option maxHeartbeats 8000000 in
set_option maxRecDepth 100000 in
theorem step4 (base hh : Nat) (A : List (Option Int)) (S : Nat → Prop) (i : Nat) (q p : Int) (Ax : Option Addr) (len cp : Nat) (xs : List Int) (w : World) (hs : Ses w base hh A true S) (hi : A[i]? = some (some q)) (hpq : p < q) (hp2 : p.natAbs < 2 ^ 53) :
    Calls Try.prog 24 #[.pointer (some ⟨hh, 0, none⟩), hpV ⟨4, i, p, Ax, len, cp, xs⟩] w fun r w' => HStepX w base hh A true S ⟨4, i, p, Ax, len, cp, xs⟩ r w' := by
  obtain ⟨hb, ve, E, N, s, G, h, mn, f, rfl⟩ := hs
  obtain ⟨x, hx, hxp⟩ : ∃ x, E[i]? = some (some x) ∧ s.pr x = q := by
    rw [f.pri, List.getElem?_map] at hi
    cases e : E[i]? with
    | none => rw [e] at hi; cases hi
    | some o => cases o with
      | none => rw [e] at hi; cases hi
      | some x => rw [e] at hi; exact ⟨x, rfl, by simpa using hi⟩
  have hxN : x ∈ N := f.perm.mem_iff.2 (fm_mem.2 (List.mem_of_getElem? hx))
  obtain ⟨m, rfl⟩ := f.heap.hp.nonempty (fun e => by rw [e] at hxN; cases hxN)
  have T := two w ⟨4, i, p, Ax, len, cp, xs⟩
  obtain ⟨W1, hW1⟩ : ∃ W, W = (w.alloc (.cells #[.int .i64 4, .int .i64 (i : Nat), .int .i64 p, .slice Ax len cp] 28)).alloc (.cells #[.bool false, .int .i64 0, .int .i64 0, .int .i64 0, .bool false] 32) := ⟨_, rfl⟩
  have T1 : Two w W1 ⟨4, i, p, Ax, len, cp, xs⟩ := by rw [hW1]; exact T
  have f1 := f.keep T1.ch (fun _ _ h => h)
  obtain ⟨Ae, ce, rfl, _, _, _, hg, _⟩ := own_rd f.own
  have hil : i < E.length := (List.getElem?_eq_some_iff.1 hx).1
  obtain ⟨g, rfl⟩ := hg.resolve_left (by omega)
  have k0 := f1.hblk.cell 0
  have k1 := f1.hblk.cell 1
  have s0 := T1.own.cell 0
  have s1 := T1.own.cell 1
  have s2 := T1.own.cell 2
  simp only [List.getElem?_toArray, List.getElem?_cons_zero, List.getElem?_cons_succ] at k0 k1 s0 s1 s2
  have c0 := f1.own.cellAt i (by omega)
  rw [ovs_at hx] at c0
  dsimp only [op] at c0
  have hle := f.len
  have hi0 : (0 : Int) ≤ i := by omega
  have hi1 : (i : Int) < E.length := by omega
  have hd0 : decide ((i : Int) < 0) = false := by rw [decide_eq_false_iff_not]; omega
  have hd1 : decide ((E.length : Int) ≤ i) = false := by rw [decide_eq_false_iff_not]; omega
  have HF := Lib.hid f
  have HF1 := Lib.hid f1
  have HT := Lib.hid T1
  have HW := Lib.hid hW1
  have HX := Lib.hid hx
  have HXp := Lib.hid hxp
  have HXN := Lib.hid hxN
  have HIL := Lib.hid hil
  have HAi := Lib.hid hi
  have HPq := Lib.hid hpq
  have HP2 := Lib.hid hp2
  clear T T1 f f1 hW1 hx hxp hxN hi hg hpq hp2 hle hil
  obtain ⟨nE, hnE⟩ : ∃ n, n = E.length := ⟨_, rfl⟩
  rw [← hnE] at k1 hi1 hd1
  have HNE := Lib.hid hnE
  clear hnE
  have hd2 : decide (nE ≤ i) = false := by rw [decide_eq_false_iff_not]; omega
  have hd3 : i < nE := by omega
  unfold hpV
  go_enter Try.func24, Try.ntmps24
  go_upto_region 14 with fail
  rw [← HW.out]
  go_quiet (fail)
  have hC2 : Ch S0 W1 (W1.drewN nq) := (Ch.refl S0 W1).drewN nq
  obtain ⟨W2, hW2⟩ : ∃ W, W = W1.drewN nq := ⟨_, rfl⟩
  rw [← hW2] at hC2 ⊢
  have f2 := HF1.out.keep hC2 (fun _ _ h => h)
  have t2 := HT.out.own.keep hC2 (fun h => h)
  have a2 := HT.out.ans.keep hC2 (fun h => h)
  have k0 := f2.hblk.cell 0
  have k1 := f2.hblk.cell 1
  have s0 := t2.cell 0
  have s1 := t2.cell 1
  have s2 := t2.cell 2
  simp only [List.getElem?_toArray, List.getElem?_cons_zero, List.getElem?_cons_succ] at k0 k1 s0 s1 s2
  rw [← HNE.out] at k1
  have c0 := f2.own.cellAt i (by have := HNE.out; omega)
  rw [ovs_at HX.out] at c0
  dsimp only [op] at c0
  have hdk := dkey_any hb N s G h m x p W2.drew (f2.heap.keep (Ch.refl S0 W2).drew (fun h => h) (fun _ _ h => h)) HXN.out (by rw [HXp.out]; exact HPq.out) HP2.out (HF.out.cln rfl)
  have hC12 : Ch S0 w W2 := HT.out.ch.trans hC2
  have hans : ∀ w3 w4, Ch (SH hb N) W2.drew w3 → Ch S0 w3 w4 → Blk w4 (w.heap.size + 1) #[.bool false, .int .i64 0, .int .i64 0, .int .i64 0, .bool false] := fun w3 w4 h3 h4 => by
    refine ((a2.drew.keep h3 (fun h => ?_)).keep h4 (fun h => h))
    have := HF.out.lt (show SetS hh hb (.slice (some ⟨g, 0, none⟩) E.length ce) N (w.heap.size + 1) by
      rcases h with h | h
      · exact Or.inr (Or.inl h)
      · exact Or.inr (Or.inr (Or.inl h)))
    omega
  have HF2 := Lib.hid f2
  have HDk := Lib.hid hdk
  have HSb := Lib.hid t2
  have HAns := Lib.hid hans
  have HC12 := Lib.hid hC12
  clear hW2 hC2 f2 t2 a2 hdk hans hC12
  go_step
  go_upto_region 16 with fail
  have HSay : Hid (∀ w3, DecR W2.drew hb N s x p w3 → ∃ S', Ses w3 base hh (A.set i (some p)) false S' ∧ S' = SetS hh hb (.slice (some ⟨g, 0, none⟩) E.length ce) N ∧ Ch (SH hb N) W2.drew w3 ∧ Calls Try.prog 36 #[.pointer (some ⟨hh, 0, none⟩), .pointer (some ⟨x, 0, none⟩), .nilIface] w3 fun r w' => r = .returned (.agg #[.bool true, .int .i64 i, .int .i64 p, .int .i64 0, .bool false]) ∧ Ch S0 w3 w') := Lib.hid (fun w3 ⟨s', G', h', mn', hf3, hp3, hc3⟩ => by
    have f3 := (HF2.out.keep (Ch.refl S0 W2).drew (fun _ _ h => h)).dec HX.out hf3 hp3 hc3
    have hsd := said_of f3.hblk f3.own f3.perm f3.heap.hp.wf.nd f3.heap.mem f3.heap.sm HX.out f3.len
    rw [hp3 x HXN.out, show (prSt s x p).pr x = p from upd_at _ _ _] at hsd
    exact ⟨_, ⟨hb, _, E, N, s', G', h', mn', f3, rfl⟩, rfl, hc3, hsd⟩)
  have HKeep : Hid (∀ w3 w4' w4, Ch (SH hb N) W2.drew w3 → Ch S0 w3 w4' → Ch (S1 (w.heap.size + 1)) w4' w4 → (w4.cell? ⟨hh, 0, none⟩ = some (.pointer (some ⟨hb, 0, none⟩)) ∧ w4.cell? ⟨hh, 1, none⟩ = some (.slice (some ⟨g, 0, none⟩) nE ce) ∧ w4.cell? ⟨w.heap.size, 1, none⟩ = some (.int .i64 (i : Nat)) ∧ w4.cell? ⟨w.heap.size, 2, none⟩ = some (.int .i64 p) ∧ w4.cell? ⟨g, i, none⟩ = some (.pointer (some ⟨x, 0, none⟩)))) := Lib.hid (fun w3 w4' w4 h3 h4' h5 => by
    have hn : ∀ k, SH hb N k → k = hh ∨ k = g ∨ k = w.heap.size → False := fun k h1 h2 => by
      have hv := HF.out.vout g rfl
      have hb1 := HF.out.heap.blk.lt
      rcases h2 with rfl | rfl | rfl
      · rcases h1 with h | h
        · exact HF.out.hne h
        · exact HF.out.nhh h
      · rcases h1 with h | h
        · exact hv.2.1 h
        · exact hv.2.2 h
      · rcases h1 with h | h
        · omega
        · have := HF.out.heap.mem.lt h; omega
    have hz : ∀ k, k = hh ∨ k = g ∨ k = w.heap.size → ¬ S1 (w.heap.size + 1) k := fun k h e => by
      have e : k = w.heap.size + 1 := e
      have h1 := HF.out.hblk.lt
      have h2 := (own_lt HF.out.own g rfl).2
      omega
    have b1 := ((HF2.out.hblk.drew.keep h3 (fun h => hn hh h (Or.inl rfl))).keep h4' (fun h => h)).keep h5 (hz hh (Or.inl rfl))
    have b2 := (((HSb.out.drew).keep h3 (fun h => hn _ h (Or.inr (Or.inr rfl)))).keep h4' (fun h => h)).keep h5 (hz _ (Or.inr (Or.inr rfl)))
    have b3 := own_keepS (own_keepS (own_keepS (HF2.out.keep (Ch.refl S0 W2).drew (fun _ _ h => h)).own h3 (fun k e h => by cases e; exact hn g h (Or.inr (Or.inl rfl)))) h4' (fun _ _ h => h)) h5 (fun k e => by cases e; exact hz g (Or.inr (Or.inl rfl)))
    refine ⟨b1.cell 0, by rw [HNE.out]; exact b1.cell 1, b2.cell 1, b2.cell 2, ?_⟩
    have := b3.cellAt i (by have := HNE.out; omega)
    rw [ovs_at HX.out] at this
    exact this)
  have hsl : ∀ (w : World) (a : Addr) (u : Value), (w.setCell a u).heap.size = w.heap.size := fun w a u => by simp
  go_region_held3 (fun w' => w'.cell? ⟨hh, 0, none⟩ = some (.pointer (some ⟨hb, 0, none⟩)) ∧ w'.cell? ⟨hh, 1, none⟩ = some (.slice (some ⟨g, 0, none⟩) nE ce) ∧ w'.cell? ⟨w.heap.size, 1, none⟩ = some (.int .i64 (i : Nat)) ∧ w'.cell? ⟨w.heap.size, 2, none⟩ = some (.int .i64 p) ∧ w'.cell? ⟨g, i, none⟩ = some (.pointer (some ⟨x, 0, none⟩)))
    (first | (with_reducible exact HKp.out _ (ch5 w4 (w.heap.size + 1) (.bool true) (.int .i64 (i : Nat)) (.int .i64 p) (.int .i64 0) (.bool false))) | ((try dsimp only); (repeat' apply And.intro) <;> assumption))
    (first
      | (go_at_call 40
         (with_reducible refine HDk.out.mono ?_)
         rintro r w3 ⟨rfl, hD⟩
         obtain ⟨S', hS3, hSe, hc3, hsd⟩ := HSay.out w3 hD
         obtain ⟨k0, k1, s1, s2, c0⟩ := HKeep.out w3 w3 w3 hc3 (Ch.refl S0 w3) (Ch.refl _ w3)
         have HS3 := Lib.hid hS3
         have HSe := Lib.hid hSe
         have HC3 := Lib.hid hc3
         have HSd := Lib.hid hsd
         clear hD hS3 hSe hc3 hsd)
      | (go_at_call 36
         (with_reducible refine HSd.out.mono ?_)
         rintro r w4 ⟨rfl, hC4⟩
         obtain ⟨k0, k1, s1, s2, c0⟩ := HKeep.out w3 w4 w4 HC3.out hC4 (Ch.refl _ w4)
         have hans := HAns.out w3 w4 HC3.out hC4
         have z0 := hans.cell 0
         have z1 := hans.cell 1
         have z2 := hans.cell 2
         have z3 := hans.cell 3
         have z4 := hans.cell 4
         have y0 := hans.free 0
         have y1 := hans.free 1
         have y2 := hans.free 2
         have y3 := hans.free 3
         have y4 := hans.free 4
         have hl5 := hans.lt
         have HC4 := Lib.hid hC4
         have HKp := Lib.hid (fun (w5 : World) (h5 : Ch (S1 (w.heap.size + 1)) w4 w5) => HKeep.out w3 w4 w5 HC3.out hC4 h5)
         clear hans hC4
         simp only [List.getElem?_toArray, List.getElem?_cons_zero, List.getElem?_cons_succ] at z0 z1 z2 z3 z4))
  clear y0 y1 y2 y3 y4 k0 k1 s0 s1 s2 c0 hi0 hi1 hd0 hd1 hd2 hd3 hsl
  go_step
  go_wp2_with fail
  refine bodyPost_ret (v := .agg #[.bool true, .int .i64 (i : Nat), .int .i64 p, .int .i64 0, .bool false]) (by simp [results, Try.results24, go_sem, z0, z1, z2, z3, z4, hl5]) rfl ?_
  have hS3 := HS3.out
  rw [HSe.out] at hS3
  have hcc : Ch (SetS hh hb (.slice (some ⟨g, 0, none⟩) E.length ce) N) w w4 := by
    have h1 : Ch (SetS hh hb (.slice (some ⟨g, 0, none⟩) E.length ce) N) w W2.drew := (HC12.out.mono (fun _ _ h => h.elim)).drew
    have h2 := h1.trans (HC3.out.mono (fun k _ h => by
      rcases h with h | h
      · exact Or.inr (Or.inl h)
      · exact Or.inr (Or.inr (Or.inl h))))
    exact h2.trans (HC4.out.mono (fun _ _ h => h.elim))
  refine hstep_end rfl (hS3.keep HC4.out (fun _ _ h => h)) (fun k hk => Or.inl hk) (fun k hk => (HF.out.lt hk).2) hcc (ch5 _ _ _ _ _ _ _) ?_
  exact ⟨rfl, fun e => absurd e (by show ¬ (4 : Int) = 1; decide), fun e => absurd e (by show ¬ (4 : Int) = 3; decide), fun _ => ⟨i, rfl, rfl, rfl, rfl⟩, fun e => absurd e (by show ¬ (4 : Int) = 6; decide)⟩
end Go.Proofs.Ytbfcnimebdoagaa
