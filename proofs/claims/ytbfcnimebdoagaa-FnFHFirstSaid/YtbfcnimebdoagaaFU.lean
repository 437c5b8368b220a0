/- WALKS: a step that enqueues. -/
import Derived.Test.YtbfcnimebdoagaaFT
namespace Go.Proofs.Ytbfcnimebdoagaa
open Go.RowKit
set_option linter.unusedVariables false
set_option linter.unusedSimpArgs false

def HStepX (w : World) (base hh : Nat) (A : List (Option Int)) (cl : Bool) (S : Nat → Prop) (s : Hp) (r : Ending) (w' : World) : Prop :=
  ∃ is e p A' cl' S', r = .returned (.agg #[.bool is, .int .i64 e, .int .i64 p, .int .i64 0, .bool false]) ∧ HDo cl A s is e p A' cl' ∧ Ses w' base hh A' cl' S' ∧ (∀ k, S' k → S k ∨ w.heap.size ≤ k) ∧ Ch S w w'
def hpV (s : Hp) : Value := .agg #[.int .i64 s.op, .int .i64 s.n, .int .i64 s.p, .slice s.A s.len s.cap]
theorem hstep_end {w w5 w6 : World} {base hh z : Nat} {A A' : List (Option Int)} {cl cl' is : Bool} {S S' : Nat → Prop} {s : Hp} {e p : Int} (hz : z = w.heap.size + 1) (hs : Ses w5 base hh A' cl' S') (hsub : ∀ k, S' k → S k ∨ w.heap.size + 2 ≤ k) (hS : ∀ k, S k → k < w.heap.size) (hc : Ch S w w5) (h6 : Ch (S1 z) w5 w6) (hd : HDo cl A s is e p A' cl') :
    HStepX w base hh A cl S s (.returned (.agg #[.bool is, .int .i64 e, .int .i64 p, .int .i64 0, .bool false])) w6 := by
  refine ⟨is, e, p, A', cl', S', rfl, hd, hs.keep h6 (fun k hk e => ?_), fun k hk => (hsub k hk).imp id (fun h => by omega), hc.trans' h6 (fun i hi e => by have e : i = z := e; omega)⟩
  have e : k = z := e
  rcases hsub k hk with h | h
  · have := hS k h; omega
  · omega
theorem ch5 (w : World) (z : Nat) (a b c d e : Value) : Ch (S1 z) w (((((w.setCell ⟨z, 0, none⟩ a).setCell ⟨z, 1, none⟩ b).setCell ⟨z, 2, none⟩ c).setCell ⟨z, 3, none⟩ d).setCell ⟨z, 4, none⟩ e) :=
  (((((Ch.refl (S1 z) w).setCell ⟨z, 0, none⟩ (fun _ => rfl) _).setCell ⟨z, 1, none⟩ (fun _ => rfl) _).setCell ⟨z, 2, none⟩ (fun _ => rfl) _).setCell ⟨z, 3, none⟩ (fun _ => rfl) _).setCell ⟨z, 4, none⟩ (fun _ => rfl) _
/-- The two blocks of a step: its own copy, its answer. -/
structure Two (w W1 : World) (s : Hp) : Prop where
  ch : Ch S0 w W1
  size : W1.heap.size = w.heap.size + 2
  own : Blk W1 w.heap.size #[.int .i64 s.op, .int .i64 s.n, .int .i64 s.p, .slice s.A s.len s.cap]
  ans : Blk W1 (w.heap.size + 1) #[.bool false, .int .i64 0, .int .i64 0, .int .i64 0, .bool false]
theorem two (w : World) (s : Hp) : Two w ((w.alloc (.cells #[.int .i64 s.op, .int .i64 s.n, .int .i64 s.p, .slice s.A s.len s.cap] 28)).alloc (.cells #[.bool false, .int .i64 0, .int .i64 0, .int .i64 0, .bool false] 32)) s := by
  refine ⟨((Ch.refl _ _).alloc _).alloc _, by rw [World.size_alloc, World.size_alloc], (Blk.new w _ _).alloc _, ?_⟩
  have := Blk.new (w.alloc (.cells #[.int .i64 s.op, .int .i64 s.n, .int .i64 s.p, .slice s.A s.len s.cap] 28)) #[.bool false, .int .i64 0, .int .i64 0, .int .i64 0, .bool false] 32
  rw [World.size_alloc] at this
  exact this
/-- The heap and its entries behind an Enqueue and the append of the new entry. -/
theorem SesF.enq {w w2 w4 : World} {base hh hb : Nat} {ve v' : Value} {E : List (Option Nat)} {N : List Nat} {s : FS} {G : Option Nat → List Nat} {h : Nat → Nat} {mn : Option Nat} {A : List (Option Int)} {cl : Bool} {p : Int} (f : SesF w base hh hb ve E N s G h mn A cl)
    (he : EnqR w hb N s G h mn p w2) (hc : Ch (SH hb N) w w2) (ho : w4.ownsRow base 52 1 v' (E.length + 1) (ovs E ++ [.pointer (some ⟨w.heap.size, 0, none⟩)])) (hc4 : Ch (fun k => ve.ownBlock = some k) w2 w4) (hb4 : v'.ownBlock = ve.ownBlock ∨ ∃ k, v'.ownBlock = some k ∧ w2.heap.size ≤ k) (hl : E.length + 1 ≤ 10000) (hbw : base ≤ w.heap.size) (hx : w.heap.size < w2.heap.size) :
    ∃ s' G' mn', SesF (w4.setCell ⟨hh, 1, none⟩ v') base hh hb v' (E ++ [some w.heap.size]) (w.heap.size :: N) s' G' h mn' (A ++ [some p]) cl ∧ (∀ k, SetS hh hb v' (w.heap.size :: N) k → SetS hh hb ve N k ∨ w.heap.size ≤ k) ∧ s'.pr w.heap.size = p := by
  have hxN : w.heap.size ∉ N := fun e => by have := f.heap.mem.lt e; omega
  have hbl := f.heap.blk.lt
  have hhl := f.hblk.lt
  have hva : ∀ k, ve.ownBlock = some k → k < w.heap.size := fun k e => (own_lt f.own k e).2
  have hvo : ∀ k, v'.ownBlock = some k → k ≠ hh ∧ k ≠ hb ∧ k ∉ (w.heap.size :: N) := fun k e => by
    rcases hb4 with e4 | ⟨k2, e4, e5⟩
    · rw [e4] at e
      have h1 := f.vout k e
      refine ⟨h1.1, h1.2.1, fun e6 => ?_⟩
      rcases List.mem_cons.1 e6 with e6 | e6
      · have := hva k e; omega
      · exact h1.2.2 e6
    · rw [e4] at e
      cases e
      refine ⟨by omega, by omega, fun e6 => ?_⟩
      rcases List.mem_cons.1 e6 with e6 | e6
      · omega
      · have := f.heap.mem.lt e6; omega
  have hB2 := f.hblk.keep hc (fun e => by
    rcases e with e | e
    · exact f.hne e
    · exact f.nhh e)
  have hB4 := hB2.keep hc4 (fun e => (f.vout hh e).1 rfl)
  have hB5 := hB4.set 1 v'
  simp only [List.setIfInBounds_toArray, List.set_cons_zero, List.set_cons_succ] at hB5
  have hC5 : Ch (S1 hh) w4 (w4.setCell ⟨hh, 1, none⟩ v') := (Ch.refl (S1 hh) w4).setCell ⟨hh, 1, none⟩ (fun _ => rfl) v'
  have hN4 : ∀ a ∈ w.heap.size :: N, ¬ ve.ownBlock = some a := fun a ha e => by
    rcases List.mem_cons.1 ha with e6 | e6
    · have := hva a e; omega
    · exact (f.vout a e).2.2 e6
  have hHp := (FHp.keep he hc4 (fun e => (f.vout hb e).2.1 rfl) hN4).keep hC5 (fun e => f.hne e.symm) (fun a ha e => by
    have e : a = hh := e
    subst e
    rcases List.mem_cons.1 ha with e6 | e6
    · omega
    · exact f.nhh e6)
  have hpr : ∀ a, (mst (s.new w.heap.size p) mn (some w.heap.size)).pr a = upd s.pr w.heap.size p a := fun a => by rw [mst_pr]; rfl
  refine ⟨_, _, _, ⟨hB5, ?_, hHp, ?_, ?_, ?_, ?_, f.hne, hvo, ?_, by simpa using hl⟩, ?_, ?_⟩
  · rw [List.length_append, ovs_snoc]
    exact own_keepS ho hC5 (fun g e h => (hvo g e).1 h)
  · rw [List.filterMap_append]
    exact ((List.Perm.refl _).cons _ |>.trans (f.perm.cons _)).trans (by simpa using (List.perm_append_singleton w.heap.size (E.filterMap id)).symm)
  · rw [List.map_append, f.pri]
    congr 1
    · refine map_pr fun a ha => ?_
      have haN : a ∈ N := f.perm.mem_iff.2 (fm_mem.2 ha)
      rw [hpr, upd_ne _ _ (show a ≠ w.heap.size from fun e => hxN (e ▸ haN))]
    · simp [hpr]
  · intro hcl a ha
    rw [mst_mr]
    show upd s.mr w.heap.size false a = false
    by_cases e : a = w.heap.size
    · subst e; rw [upd_at]
    · rw [upd_ne _ _ e]; exact f.cln hcl a ((List.mem_cons.1 ha).resolve_left e)
  · intro e
    rcases List.mem_cons.1 e with e6 | e6
    · omega
    · exact f.nhh e6
  · refine ⟨f.lo.1, f.lo.2.1, fun a ha => ?_⟩
    rcases List.mem_cons.1 ha with e6 | e6
    · omega
    · exact f.lo.2.2 a e6
  · intro k hk
    rcases hk with e | e | e | e
    · exact Or.inl (Or.inl e)
    · exact Or.inl (Or.inr (Or.inl e))
    · rcases List.mem_cons.1 e with e6 | e6
      · right; omega
      · exact Or.inl (Or.inr (Or.inr (Or.inl e6)))
    · rcases hb4 with e4 | ⟨k2, e4, e5⟩
      · rw [e4] at e; exact Or.inl (Or.inr (Or.inr (Or.inr e)))
      · rw [e4] at e; cases e; right; omega
  · rw [hpr, upd_at]
set_option maxHeartbeats 8000000 in
set_option maxRecDepth 100000 in
theorem step1 (base hh : Nat) (A : List (Option Int)) (cl : Bool) (S : Nat → Prop) (n p : Int) (Ax : Option Addr) (len cp : Nat) (xs : List Int) (w : World) (hs : Ses w base hh A cl S) (hb0 : base ≤ w.heap.size) (hp : p.natAbs < 2 ^ 53) (hl : A.length + 1 ≤ 10000) :
    Calls Try.prog 24 #[.pointer (some ⟨hh, 0, none⟩), hpV ⟨1, n, p, Ax, len, cp, xs⟩] w fun r w' => HStepX w base hh A cl S ⟨1, n, p, Ax, len, cp, xs⟩ r w' := by
  obtain ⟨hb, ve, E, N, s, G, h, mn, f, rfl⟩ := hs
  have hAE : A.length = E.length := by rw [f.pri, List.length_map]
  have T := two w ⟨1, n, p, Ax, len, cp, xs⟩
  obtain ⟨W1, hW1⟩ : ∃ W, W = (w.alloc (.cells #[.int .i64 1, .int .i64 n, .int .i64 p, .slice Ax len cp] 28)).alloc (.cells #[.bool false, .int .i64 0, .int .i64 0, .int .i64 0, .bool false] 32) := ⟨_, rfl⟩
  have T1 : Two w W1 ⟨1, n, p, Ax, len, cp, xs⟩ := by rw [hW1]; exact T
  have f1 := f.keep T1.ch (fun _ _ h => h)
  have k0 := f1.hblk.cell 0
  have s2 := T1.own.cell 2
  simp only [List.getElem?_toArray, List.getElem?_cons_zero, List.getElem?_cons_succ] at k0 s2
  have henq := enq_any hb N s G h mn p W1.drew (f1.heap.keep (Ch.refl S0 W1).drew (fun h => h) (fun _ _ h => h)) hp (by
    have h1 := f.perm.length_eq
    have h2 := List.length_filterMap_le id E
    omega)
  obtain ⟨x, hx⟩ : ∃ x, x = W1.heap.size := ⟨_, rfl⟩
  rw [show W1.drew.heap.size = x from hx.symm] at henq
  have HF := Lib.hid f
  have HF1 := Lib.hid f1
  have HT := Lib.hid T1
  have HW := Lib.hid hW1
  have HEq := Lib.hid henq
  have HX := Lib.hid hx
  have HAE := Lib.hid hAE
  have HL := Lib.hid hl
  have HP := Lib.hid hp
  have HB0 := Lib.hid hb0
  clear T T1 f f1 hW1 henq hx hl hp hAE hb0
  unfold hpV
  go_enter Try.func24, Try.ntmps24
  go_upto_region 3 with fail
  rw [← HW.out]
  go_cut [5] from 18 to 25 (fun v5 wx => v5 = .pointer (some ⟨x, 0, none⟩) ∧ EnqR W1.drew hb N s G h mn p wx ∧ Ch (SH hb N) W1.drew wx)
  case first =>
    go_region_with (go_at_call 35; refine HEq.out.mono ?_; rintro r wy ⟨rfl, hM4, hC4⟩; have HM4 := Lib.hid hM4; have HC4 := Lib.hid hC4; clear hM4 hC4)
    all_goals go_wp2
    all_goals go_meet
    all_goals exact ⟨rfl, HM4.out, HC4.out⟩
  obtain ⟨rfl, he, hc⟩ := hcut
  have f2 := HF1.out.keep (Ch.refl S0 W1).drew (fun _ _ h => h)
  have hne : ∀ k, ve.ownBlock = some k → ¬ SH hb N k := fun k e h => by
    have h1 := HF.out.vout k e
    rcases h with h | h
    · exact h1.2.1 h
    · exact h1.2.2 h
  have hhn : ¬ SH hb N hh := fun h => by
    rcases h with h | h
    · exact HF.out.hne h
    · exact HF.out.nhh h
  have ho2 := own_keepS f2.own hc hne
  have hB2 := f2.hblk.keep hc hhn
  have k1 := hB2.cell 1
  simp only [List.getElem?_toArray, List.getElem?_cons_zero, List.getElem?_cons_succ] at k1
  have hxl : x < wc.heap.size := (he.mem x (by rw [show W1.drew.heap.size = x from HX.out.symm]; exact List.mem_cons_self)).lt
  have hT2 : Blk wc (w.heap.size + 1) #[.bool false, .int .i64 0, .int .i64 0, .int .i64 0, .bool false] := by
    refine HT.out.ans.drew.keep hc (fun h => ?_)
    have := HF.out.lt (show SetS hh hb ve N (w.heap.size + 1) by
      rcases h with h | h
      · exact Or.inr (Or.inl h)
      · exact Or.inr (Or.inr (Or.inl h)))
    omega
  have hbc : base ≤ wc.heap.size := by have := HB0.out; have := HT.out.size; have := HX.out; omega
  have hone : ∀ u ∈ [Value.pointer (some ⟨x, 0, none⟩)], u.oneCell' = true := by intro u hu; simp only [List.mem_singleton] at hu; subst hu; rfl
  have hnl : E.length + 1 ≤ 10000 := by have := HL.out; have := HAE.out; omega
  have hva : ∀ k, ve.ownBlock = some k → k < w.heap.size := fun k e => (own_lt HF.out.own k e).2
  have HO2 := Lib.hid ho2
  have HB2 := Lib.hid hB2
  have HE2 := Lib.hid he
  have HC2 := Lib.hid hc
  have HF2 := Lib.hid f2
  have HXL := Lib.hid hxl
  have HT2 := Lib.hid hT2
  have HVa := Lib.hid hva
  have HM9 : Hid (E.length + 1 ≤ maxLen) := Lib.hid (by unfold maxLen; omega)
  have HM8 : Hid ((E.length + 1) * 8 ≤ 140737488355328) := Lib.hid (by omega)
  have HNl := Lib.hid hnl
  have HBc := Lib.hid hbc
  clear ho2 hB2 he hc f2 hne hhn hxl hT2 hva k0 s2 hnl hbc HEq
  go_wp2_with (at_builtin; go_loud (refine app_own elP rfl (.tmp 30) (.tmp 32) rfl base E.length ve (ovs E) rfl HO2.out [.pointer (some ⟨x, 0, none⟩)] rfl hone _ rfl rfl HM9.out HM8.out HBc.out ?_); intro v' w4 hown4 hc4 hb4; have hE := SesF.enq HF2.out HE2.out HC2.out (show w4.ownsRow base 52 1 v' (E.length + 1) (ovs E ++ [.pointer (some ⟨W1.drew.heap.size, 0, none⟩)]) from (HX.out ▸ hown4 : _)) hc4 (hb4.imp id (fun e => ⟨_, e, Nat.le_succ _⟩)) HNl.out (Nat.le_trans HB0.out (by have := HT.out.size; show _ ≤ W1.heap.size; omega)) (show W1.heap.size < _ from HX.out ▸ HXL.out); have q1 := (HB2.out.keep hc4 (fun e => (HF.out.vout hh e).1 rfl)).cell 1; have q1f := (HB2.out.keep hc4 (fun e => (HF.out.vout hh e).1 rfl)).free 1; have hT4 := HT2.out.keep hc4 (fun e => by have := HVa.out _ e; omega); obtain ⟨A8, c8, rfl, _⟩ := own_rd hown4; have HE4 := Lib.hid hE; have HC4 := Lib.hid hc4; have HT4 := Lib.hid hT4; clear hown4 hc4 hb4 hE hT4; simp only [List.getElem?_toArray, List.getElem?_cons_zero, List.getElem?_cons_succ] at q1)
  obtain ⟨s', G', mn', f5, hsub, hpr⟩ := HE4.out
  have hT5 := HT4.out.setOther (p := ⟨hh, 1, none⟩) (fun e => by have := HF.out.hblk.lt; have e : hh = w.heap.size + 1 := e; omega) (.slice A8 (E.length + 1) c8)
  have hC5 : Ch (SetS hh hb ve N) w (w4.setCell ⟨hh, 1, none⟩ (.slice A8 (E.length + 1) c8)) := by
    have h1 : Ch (SetS hh hb ve N) w W1.drew := (HT.out.ch.mono (fun _ _ h => h.elim)).drew
    have h2 := h1.trans (HC2.out.mono (fun k _ h => by
      rcases h with h | h
      · exact Or.inr (Or.inl h)
      · exact Or.inr (Or.inr (Or.inl h))))
    have h3 := h2.trans (HC4.out.mono (fun k _ h => Or.inr (Or.inr (Or.inr h))))
    exact h3.setCell ⟨hh, 1, none⟩ (fun _ => Or.inl rfl) _
  obtain ⟨W5, hW5⟩ : ∃ W, W = w4.setCell ⟨hh, 1, none⟩ (.slice A8 (E.length + 1) c8) := ⟨_, rfl⟩
  rw [← hW5] at f5 hT5 hC5 ⊢
  rw [show W1.drew.heap.size = x from HX.out.symm] at f5 hsub hpr
  have hsd := said_of f5.hblk f5.own f5.perm f5.heap.hp.wf.nd f5.heap.mem f5.heap.sm (i := E.length) (a := x) (by simp) f5.len
  rw [hpr] at hsd
  have HSd := Lib.hid hsd
  have HF5 := Lib.hid f5
  have HSub := Lib.hid hsub
  have HC5 := Lib.hid hC5
  have HT5 := Lib.hid hT5
  clear hW5 f5 hsub hpr hT5 hC5 hsd q1 q1f k1 HE4 HC4 HT4 hone
  refine HSd.out.mono ?_
  rintro r w6 ⟨rfl, hC6⟩
  have hT6 := HT5.out.keep hC6 (fun h => h)
  have z0 := hT6.cell 0
  have z1 := hT6.cell 1
  have z2 := hT6.cell 2
  have z3 := hT6.cell 3
  have z4 := hT6.cell 4
  have y0 := hT6.free 0
  have y1 := hT6.free 1
  have y2 := hT6.free 2
  have y3 := hT6.free 3
  have y4 := hT6.free 4
  simp only [List.getElem?_toArray, List.getElem?_cons_zero, List.getElem?_cons_succ] at z0 z1 z2 z3 z4
  have hl5 := hT6.lt
  have HC6 := Lib.hid hC6
  clear hT6 hC6
  go_wp2_with fail
  refine bodyPost_ret (v := .agg #[.bool true, .int .i64 (E.length : Nat), .int .i64 p, .int .i64 0, .bool false]) (by simp [results, Try.results24, go_sem, z0, z1, z2, z3, z4, hl5]) rfl ?_
  have f6 := HF5.out.keep HC6.out (fun _ _ h => h)
  refine hstep_end rfl ⟨hb, _, _, _, _, _, _, _, f6, rfl⟩ (fun k hk => (HSub.out k hk).imp id (fun h => by have := HT.out.size; have := HX.out; have h : x ≤ k := h; omega)) (fun k hk => (HF.out.lt hk).2) (HC5.out.trans (HC6.out.mono (fun _ _ h => h.elim))) (ch5 _ _ _ _ _ _ _) ?_
  exact ⟨rfl, fun _ => ⟨rfl, by rw [HAE.out], rfl, rfl⟩, fun e => absurd e (by show ¬ (1 : Int) = 3; decide), fun e => absurd e (by show ¬ (1 : Int) = 4; decide), fun e => absurd e (by show ¬ (1 : Int) = 6; decide)⟩
end Go.Proofs.Ytbfcnimebdoagaa
