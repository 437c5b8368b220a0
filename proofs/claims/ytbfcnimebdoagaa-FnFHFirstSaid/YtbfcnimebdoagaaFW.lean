/- WALKS: a step that merges another heap in. -/
import Derived.Test.YtbfcnimebdoagaaFU
import Derived.Deep.RegionHeld3
namespace Go.Proofs.Ytbfcnimebdoagaa
open Go.RowKit
set_option linter.unusedVariables false
set_option linter.unusedSimpArgs false

structure C6 (w2 : World) (base hh hb ob : Nat) (ve : Value) (N : List Nat) : Prop where
  hhl : hh < w2.heap.size
  hbl : hb < w2.heap.size
  obl : ob < w2.heap.size
  nl : ∀ a ∈ N, a < w2.heap.size
  oh : ob ≠ hh
  ohb : ob ≠ hb
  oN : ob ∉ N
  v : ∀ k, ve.ownBlock = some k → k < w2.heap.size ∧ k ≠ hh ∧ k ≠ hb ∧ k ≠ ob ∧ k ∉ N
  hne : hh ≠ hb
  nhh : hh ∉ N
  bw : base ≤ w2.heap.size
structure M6 (w2 : World) (base hh hb ob : Nat) (ve : Value) (E : List (Option Nat)) (N : List Nat) (s : FS) (G : Option Nat → List Nat) (h : Nat → Nat) (mn : Option Nat) (xs : List Int) (j : Nat) (v' : Value) (news M : List Nat) (s2 : FS) (G2 : Option Nat → List Nat) (h2 : Nat → Nat) (mn2 : Option Nat) (wr : World) : Prop where
  hblk : Blk wr hh #[.pointer (some ⟨hb, 0, none⟩), v']
  own : wr.ownsRow base 52 1 v' (E.length + j) (ovs (E ++ news.map some))
  hp : FHp wr hb N s G h mn
  hp2 : FHp wr ob M s2 G2 h2 mn2
  perm : M.Perm news
  prs : news.map s2.pr = xs.take j
  nl : news.length = j
  fresh : ∀ a ∈ M, w2.heap.size ≤ a
  mr : ∀ a ∈ M, s2.mr a = false
  vb : v'.ownBlock = ve.ownBlock ∨ ∃ k, v'.ownBlock = some k ∧ w2.heap.size ≤ k ∧ k ∉ M
  ch : Ch (fun k => k = hh ∨ k = ob ∨ ve.ownBlock = some k) w2 wr
theorem M6.vk {w2 wr : World} {base hh hb ob j : Nat} {ve v' : Value} {E : List (Option Nat)} {N news M : List Nat} {s s2 : FS} {G G2 : Option Nat → List Nat} {h h2 : Nat → Nat} {mn mn2 : Option Nat} {xs : List Int} (m : M6 w2 base hh hb ob ve E N s G h mn xs j v' news M s2 G2 h2 mn2 wr) (c : C6 w2 base hh hb ob ve N) {k : Nat} (hk : v'.ownBlock = some k) : k ≠ hh ∧ k ≠ hb ∧ k ≠ ob ∧ k ∉ N ∧ k ∉ M := by
  rcases m.vb with e | ⟨k2, e, h1, h2⟩
  · rw [e] at hk
    obtain ⟨a, b, d, f, g⟩ := c.v k hk
    exact ⟨b, d, f, g, fun h => by have := m.fresh k h; omega⟩
  · rw [e] at hk
    cases hk
    have := c.hhl
    have := c.hbl
    have := c.obl
    exact ⟨by omega, by omega, by omega, fun h => by have := c.nl k h; omega, h2⟩
theorem M6.next {w2 wr wr2 w4 w5 w8 : World} {base hh hb ob j : Nat} {ve v' v8 : Value} {E : List (Option Nat)} {N news M : List Nat} {s s2 : FS} {G G2 : Option Nat → List Nat} {h h2 : Nat → Nat} {mn mn2 : Option Nat} {xs : List Int} {x : Int} (m : M6 w2 base hh hb ob ve E N s G h mn xs j v' news M s2 G2 h2 mn2 wr) (c : C6 w2 base hh hb ob ve N) (hx : xs[j]? = some x)
    (hr : Ch S0 wr wr2) (he : EnqR wr2 ob M s2 G2 h2 mn2 x w4) (hc : Ch (SH ob M) wr2 w4) (h5 : Ch S0 w4 w5) (ho : w8.ownsRow base 52 1 v8 (E.length + j + 1) (ovs (E ++ news.map some) ++ [.pointer (some ⟨wr2.heap.size, 0, none⟩)])) (hc8 : Ch (fun k => v'.ownBlock = some k) w5 w8) (hb8 : v8.ownBlock = v'.ownBlock ∨ v8.ownBlock = some w5.heap.size) :
    ∃ s3 G3 mn3, M6 w2 base hh hb ob ve E N s G h mn xs (j + 1) v8 (news ++ [wr2.heap.size]) (wr2.heap.size :: M) s3 G3 h2 mn3 (w8.setCell ⟨hh, 1, none⟩ v8) := by
  have hyM : wr2.heap.size ∉ M := fun e => by have := m.hp2.mem.lt e; have := hr.size; omega
  have hyl : wr2.heap.size < w4.heap.size := (he.mem _ List.mem_cons_self).lt
  have hs := m.ch.size
  have hs1 := hr.size
  have hs5 := h5.size
  have hs8 := hc8.size
  have hvk := fun k (hk : v'.ownBlock = some k) => m.vk c hk
  have hvl : ∀ k, v'.ownBlock = some k → k < wr.heap.size := fun k e => (own_lt m.own k e).2
  have hhM : hh ∉ M := fun e => by have := m.fresh _ e; have := c.hhl; omega
  have hbM : hb ∉ M := fun e => by have := m.fresh _ e; have := c.hbl; omega
  have nSH : ∀ k, SH ob M k → k = hh ∨ k = hb ∨ k ∈ N → False := fun k h1 h2 => by
    rcases h1 with e | e
    · subst e
      rcases h2 with e | e | e
      · exact c.oh e
      · exact c.ohb e
      · exact c.oN e
    · have := m.fresh k e
      rcases h2 with e | e | e
      · rw [e] at this; have := c.hhl; omega
      · rw [e] at this; have := c.hbl; omega
      · have := c.nl k e; omega
  have hC5 : Ch (S1 hh) w8 (w8.setCell ⟨hh, 1, none⟩ v8) := (Ch.refl (S1 hh) w8).setCell ⟨hh, 1, none⟩ (fun _ => rfl) v8
  have hv8 : ∀ k, v8.ownBlock = some k → k ≠ hh ∧ k ≠ hb ∧ k ≠ ob ∧ k ∉ N ∧ k ∉ (wr2.heap.size :: M) := fun k e => by
    rcases hb8 with e4 | e4
    · rw [e4] at e
      obtain ⟨a, b, d, f, g⟩ := hvk k e
      refine ⟨a, b, d, f, fun e6 => ?_⟩
      rcases List.mem_cons.1 e6 with e6 | e6
      · have := hvl k e; omega
      · exact g e6
    · rw [e4] at e
      cases e
      have := c.hhl
      have := c.hbl
      have := c.obl
      refine ⟨by omega, by omega, by omega, fun e => by have := c.nl _ e; omega, fun e6 => ?_⟩
      rcases List.mem_cons.1 e6 with e6 | e6
      · omega
      · have := m.hp2.mem.lt e6; omega
  have hB := ((((m.hblk.keep hr (fun h => h)).keep hc (fun e => nSH hh e (Or.inl rfl))).keep h5 (fun h => h)).keep hc8 (fun e => (hvk hh e).1 rfl)).set 1 v8
  simp only [List.setIfInBounds_toArray, List.set_cons_zero, List.set_cons_succ] at hB
  have hF := ((((m.hp.keep hr (fun h => h) (fun _ _ h => h)).keep hc (fun e => nSH hb e (Or.inr (Or.inl rfl))) (fun a ha e => nSH a e (Or.inr (Or.inr ha)))).keep h5 (fun h => h) (fun _ _ h => h)).keep hc8 (fun e => (hvk hb e).2.1 rfl) (fun a ha e => (hvk a e).2.2.2.1 ha)).keep hC5 (fun e => c.hne (Eq.symm e)) (fun a ha e => c.nhh (by have e : a = hh := e; rw [← e]; exact ha))
  have hF2 := ((FHp.keep he h5 (fun h => h) (fun _ _ h => h)).keep hc8 (fun e => (hvk ob e).2.2.1 rfl) (fun a ha e => by
    rcases List.mem_cons.1 ha with e6 | e6
    · have := hvl a e; omega
    · exact (hvk a e).2.2.2.2 e6)).keep hC5 (fun e => c.oh e) (fun a ha e => by
    have e : a = hh := e
    subst e
    rcases List.mem_cons.1 ha with e6 | e6
    · have := c.hhl; omega
    · exact hhM e6)
  have hpr : ∀ a, (mst (s2.new wr2.heap.size x) mn2 (some wr2.heap.size)).pr a = upd s2.pr wr2.heap.size x a := fun a => by rw [mst_pr]; rfl
  have hjl := (List.getElem?_eq_some_iff.1 hx).1
  refine ⟨_, _, _, ⟨hB, ?_, hF, hF2, ?_, ?_, by simp [m.nl], fun a ha => ?_, fun a ha => ?_, ?_, ?_⟩⟩
  · rw [List.map_append, ← List.append_assoc, List.map_cons, List.map_nil, ovs_snoc]
    exact own_keepS ho hC5 (fun g e h => (hv8 g e).1 h)
  · exact (m.perm.cons _).trans (List.perm_append_singleton wr2.heap.size news).symm
  · rw [List.map_append, List.take_add_one, hx, ← m.prs]
    congr 1
    · refine List.map_congr_left fun a ha => ?_
      rw [hpr, upd_ne _ _ (show a ≠ wr2.heap.size from fun e => hyM (e ▸ m.perm.mem_iff.2 ha))]
    · simp [hpr]
  · rcases List.mem_cons.1 ha with e | e
    · omega
    · exact m.fresh a e
  · rw [mst_mr]
    show upd s2.mr wr2.heap.size false a = false
    by_cases e : a = wr2.heap.size
    · subst e; rw [upd_at]
    · rw [upd_ne _ _ e]; exact m.mr a ((List.mem_cons.1 ha).resolve_left e)
  · rcases hb8 with e4 | e4
    · rcases m.vb with e | ⟨k, e, k1, k2⟩
      · exact Or.inl (e4.trans e)
      · exact Or.inr ⟨k, e4.trans e, k1, (hv8 k (e4.trans e)).2.2.2.2⟩
    · exact Or.inr ⟨_, e4, by omega, (hv8 _ e4).2.2.2.2⟩
  · have hcc := (((m.ch.trans (hr.mono (fun _ _ h => h.elim))).trans' hc (fun i hi e => by
      rcases e with e | e
      · exact Or.inr (Or.inl e)
      · have := m.fresh i e; omega)).trans (h5.mono (fun _ _ h => h.elim))).trans' hc8 (fun i hi e => by
      rcases m.vb with e2 | ⟨k, e2, k1, k2⟩
      · rw [e2] at e; exact Or.inr (Or.inr e)
      · rw [e2] at e; cases e; omega)
    exact hcc.setCell ⟨hh, 1, none⟩ (fun _ => Or.inl rfl) v8
theorem M6.done {w w2 wr w5 W6 : World} {base hh hb ob nb j : Nat} {ve v' : Value} {E : List (Option Nat)} {N news M : List Nat} {s s2 : FS} {G G2 : Option Nat → List Nat} {h h2 : Nat → Nat} {mn mn2 : Option Nat} {xs : List Int} {A : List (Option Int)} {cl : Bool} (m : M6 w2 base hh hb ob ve E N s G h mn xs j v' news M s2 G2 h2 mn2 wr) (c : C6 w2 base hh hb ob ve N) (f : SesF w base hh hb ve E N s G h mn A cl) (hj : xs.length = j)
    (hM5 : Mem w5 (N ++ M) (mst (uni N s s2) mn mn2)) (hC5 : Ch (fun k => SH hb N k ∨ SH ob M k) wr w5) (h6 : Ch S0 w5 W6) (hnb : Blk W6 nb #[op (mres (uni N s s2) mn mn2), .int .u64 ((N.length + M.length : Nat) : Int)]) (hnbe : nb = w5.heap.size) (hl : E.length + j ≤ 10000) :
    (∃ G3 h3, SesF (W6.setCell ⟨hh, 0, none⟩ (.pointer (some ⟨nb, 0, none⟩))) base hh nb v' (E ++ news.map some) (N ++ M) (mst (uni N s s2) mn mn2) G3 h3 (mres (uni N s s2) mn mn2) (A ++ xs.map some) cl) ∧ ∀ k, SetS hh nb v' (N ++ M) k → SetS hh hb ve N k ∨ w2.heap.size ≤ k := by
  have hs := m.ch.size
  have hs5 := hC5.size
  have hdis : ∀ x ∈ N, x ∉ M := fun x hx h => by have := c.nl x hx; have := m.fresh x h; omega
  have hd2 : ∀ x ∈ M, x ∉ N := fun x hx h => hdis x h hx
  have hvk := fun k (hk : v'.ownBlock = some k) => m.vk c hk
  have hvl : ∀ k, v'.ownBlock = some k → base ≤ k ∧ k < wr.heap.size := fun k e => own_lt m.own k e
  have hhn : ¬ (SH hb N hh ∨ SH ob M hh) := fun e => by
    rcases e with (e | e) | (e | e)
    · exact c.hne e
    · exact c.nhh e
    · exact c.oh e.symm
    · have := m.fresh _ e; have := c.hhl; omega
  have hvn : ∀ k, v'.ownBlock = some k → ¬ (SH hb N k ∨ SH ob M k) := fun k e h => by
    obtain ⟨h1, h2, h3, h4, h5⟩ := hvk k e
    rcases h with (e | e) | (e | e)
    · exact h2 e
    · exact h4 e
    · exact h3 e
    · exact h5 e
  have hB6 := ((m.hblk.keep hC5 hhn).keep h6 (fun h => h)).set 0 (.pointer (some ⟨nb, 0, none⟩))
  simp only [List.setIfInBounds_toArray, List.set_cons_zero] at hB6
  have hC7 : Ch (S1 hh) W6 (W6.setCell ⟨hh, 0, none⟩ (.pointer (some ⟨nb, 0, none⟩))) := (Ch.refl (S1 hh) W6).setCell ⟨hh, 0, none⟩ (fun _ => rfl) _
  have hO7 := own_keepS (own_keepS (own_keepS m.own hC5 hvn) h6 (fun _ _ h => h)) hC7 (fun k e h => (hvk k e).1 h)
  have hhl := c.hhl
  have hnh : nb ≠ hh := by omega
  have hnN : nb ∉ N ++ M := fun e => by have := hM5.lt e; omega
  have hhN : hh ∉ N ++ M := fun e => by
    rcases List.mem_append.1 e with e | e
    · exact c.nhh e
    · have := m.fresh _ e; omega
  obtain ⟨G3, hp3⟩ := m.hp.hp.merge m.hp2.hp hdis
  have hpr : ∀ a, (mst (uni N s s2) mn mn2).pr a = if a ∈ N then s.pr a else s2.pr a := fun a => by rw [mst_pr]; rfl
  have hnl := f.perm.length_eq
  have hml := m.perm.length_eq
  have hfl := List.length_filterMap_le id E
  refine ⟨⟨G3, _, ⟨hB6, ?_, ⟨?_, ?_, (uni_sm m.hp.sm m.hp2.sm).mst, hp3, hnN, ?_⟩, ?_, ?_, fun hc a ha => ?_, hhN, Ne.symm hnh, fun k e => ?_, ⟨f.lo.1, ?_, fun a ha => ?_⟩, ?_⟩⟩, fun k hk => ?_⟩
  · rw [List.length_append, List.length_map, m.nl]; exact hO7
  · rw [List.length_append]
    exact hnb.setOther (p := ⟨hh, 0, none⟩) (Ne.symm hnh) _
  · exact (hM5.keep h6 (fun _ _ h => h)).keep hC7 (fun a ha e => hhN (by have e : a = hh := e; rw [← e]; exact ha))
  · have := m.nl
    rw [List.length_append]; omega
  · rw [List.filterMap_append]
    refine f.perm.append ?_
    have : (news.map some).filterMap id = news := by
      rw [List.filterMap_map]
      simp [Function.comp_def]
    rw [this]
    exact m.perm
  · rw [List.map_append, f.pri]
    congr 1
    · refine map_pr fun a ha => ?_
      have haN : a ∈ N := f.perm.mem_iff.2 (fm_mem.2 ha)
      rw [hpr, if_pos haN]
    · have h1 := m.prs
      rw [← hj, List.take_length] at h1
      rw [← h1, List.map_map, List.map_map]
      refine List.map_congr_left fun a ha => ?_
      have haM : a ∈ M := m.perm.mem_iff.2 ha
      simp [hpr, hd2 a haM]
  · rw [mst_mr]
    show (if a ∈ N then s.mr a else s2.mr a) = false
    by_cases e : a ∈ N
    · rw [if_pos e]; exact f.cln hc a e
    · rw [if_neg e]; exact m.mr a ((List.mem_append.1 ha).resolve_left e)
  · obtain ⟨h1, h2, h3, h4, h5⟩ := hvk k e
    refine ⟨h1, ?_, fun h => ?_⟩
    · have := (hvl k e).2; omega
    · rcases List.mem_append.1 h with h | h
      · exact h4 h
      · exact h5 h
  · have := c.bw; omega
  · rcases List.mem_append.1 ha with h | h
    · exact f.lo.2.2 a h
    · have := m.fresh a h; have := c.bw; omega
  · rw [List.length_append, List.length_map, m.nl]; omega
  · rcases hk with e | e | e | e
    · exact Or.inl (Or.inl e)
    · right; omega
    · rcases List.mem_append.1 e with h | h
      · exact Or.inl (Or.inr (Or.inr (Or.inl h)))
      · exact Or.inr (m.fresh k h)
    · rcases m.vb with e2 | ⟨k2, e2, h1, h2⟩
      · rw [e2] at e; exact Or.inl (Or.inr (Or.inr (Or.inr e)))
      · rw [e2] at e; cases e; exact Or.inr h1
/-- What stands behind the Merge of a step. -/
def FPost (w wr : World) (base hh hb ob z : Nat) (v' ve : Value) (E : List (Option Nat)) (news N M : List Nat) (s s2 : FS) (A : List (Option Int)) (cl : Bool) (xs : List Int) (W2 : World) (p3 : Value) (q : Nat) (w5 : World) : Prop :=
  (w5.alloc (.cells #[p3, .int .u64 (q : Nat)] 55)).cell? ⟨hh, 0, none⟩ = some (.pointer (some ⟨hb, 0, none⟩)) ∧ (w5.alloc (.cells #[p3, .int .u64 (q : Nat)] 55)).frozen? ⟨hh, 0, none⟩ = false ∧
  Blk ((w5.alloc (.cells #[p3, .int .u64 (q : Nat)] 55)).setCell ⟨hh, 0, none⟩ (.pointer (some ⟨w5.heap.size, 0, none⟩))) hb #[.pointer none, .int .u64 ((0 : Nat) : Int)] ∧
  Blk ((w5.alloc (.cells #[p3, .int .u64 (q : Nat)] 55)).setCell ⟨hh, 0, none⟩ (.pointer (some ⟨w5.heap.size, 0, none⟩))) ob #[.pointer none, .int .u64 ((0 : Nat) : Int)] ∧
  ((w5.alloc (.cells #[p3, .int .u64 (q : Nat)] 55)).setCell ⟨hh, 0, none⟩ (.pointer (some ⟨w5.heap.size, 0, none⟩))).cell? ⟨z, 0, none⟩ = some (.bool false) ∧
  ((w5.alloc (.cells #[p3, .int .u64 (q : Nat)] 55)).setCell ⟨hh, 0, none⟩ (.pointer (some ⟨w5.heap.size, 0, none⟩))).cell? ⟨z, 1, none⟩ = some (.int .i64 0) ∧
  ((w5.alloc (.cells #[p3, .int .u64 (q : Nat)] 55)).setCell ⟨hh, 0, none⟩ (.pointer (some ⟨w5.heap.size, 0, none⟩))).cell? ⟨z, 2, none⟩ = some (.int .i64 0) ∧
  ((w5.alloc (.cells #[p3, .int .u64 (q : Nat)] 55)).setCell ⟨hh, 0, none⟩ (.pointer (some ⟨w5.heap.size, 0, none⟩))).cell? ⟨z, 3, none⟩ = some (.int .i64 0) ∧
  ((w5.alloc (.cells #[p3, .int .u64 (q : Nat)] 55)).setCell ⟨hh, 0, none⟩ (.pointer (some ⟨w5.heap.size, 0, none⟩))).cell? ⟨z, 4, none⟩ = some (.bool false) ∧
  ((w5.alloc (.cells #[p3, .int .u64 (q : Nat)] 55)).setCell ⟨hh, 0, none⟩ (.pointer (some ⟨w5.heap.size, 0, none⟩))).frozen? ⟨z, 0, none⟩ = false ∧
  ((w5.alloc (.cells #[p3, .int .u64 (q : Nat)] 55)).setCell ⟨hh, 0, none⟩ (.pointer (some ⟨w5.heap.size, 0, none⟩))).frozen? ⟨z, 1, none⟩ = false ∧
  ((w5.alloc (.cells #[p3, .int .u64 (q : Nat)] 55)).setCell ⟨hh, 0, none⟩ (.pointer (some ⟨w5.heap.size, 0, none⟩))).frozen? ⟨z, 2, none⟩ = false ∧
  ((w5.alloc (.cells #[p3, .int .u64 (q : Nat)] 55)).setCell ⟨hh, 0, none⟩ (.pointer (some ⟨w5.heap.size, 0, none⟩))).frozen? ⟨z, 3, none⟩ = false ∧
  ((w5.alloc (.cells #[p3, .int .u64 (q : Nat)] 55)).setCell ⟨hh, 0, none⟩ (.pointer (some ⟨w5.heap.size, 0, none⟩))).frozen? ⟨z, 4, none⟩ = false ∧
  z < ((w5.alloc (.cells #[p3, .int .u64 (q : Nat)] 55)).setCell ⟨hh, 0, none⟩ (.pointer (some ⟨w5.heap.size, 0, none⟩))).heap.size ∧
  ∃ S', Ses ((w5.alloc (.cells #[p3, .int .u64 (q : Nat)] 55)).setCell ⟨hh, 0, none⟩ (.pointer (some ⟨w5.heap.size, 0, none⟩))) base hh (A ++ xs.map some) cl S' ∧ (∀ k, S' k → SetS hh hb ve N k ∨ W2.heap.size ≤ k) ∧ Ch (SetS hh hb ve N) w ((w5.alloc (.cells #[p3, .int .u64 (q : Nat)] 55)).setCell ⟨hh, 0, none⟩ (.pointer (some ⟨w5.heap.size, 0, none⟩)))
theorem fpost {w w1 W1 w2 wr w5 : World} {base hh hb ob j q z : Nat} {o3 : Option Nat} {ve v' : Value} {E : List (Option Nat)} {N news M : List Nat} {s s2 : FS} {G G2 : Option Nat → List Nat} {h h2 : Nat → Nat} {mn mn2 : Option Nat} {xs : List Int} {A : List (Option Int)} {cl : Bool} (m : M6 w2 base hh hb ob ve E N s G h mn xs j v' news M s2 G2 h2 mn2 wr) (c : C6 w2 base hh hb ob ve N) (f : SesF w base hh hb ve E N s G h mn A cl) (hj : xs.length = j) (hz : z = w.heap.size + 1)
    (ha : Blk W1 z #[.bool false, .int .i64 0, .int .i64 0, .int .i64 0, .bool false]) (hC1 : Ch S0 W1 w1) (hsW : w2.heap.size = ob + 1) (hob : ob = w1.heap.size) (hs12 : W1.heap.size = w.heap.size + 2 ∧ W1.heap.size ≤ w1.heap.size) (hC2 : Ch S0 w w2) (hlt : ∀ k, SetS hh hb ve N k → k < w.heap.size) (hC2' : Blk w2 z #[.bool false, .int .i64 0, .int .i64 0, .int .i64 0, .bool false])
    (hM5 : Mem w5 (N ++ M) (mst (uni N s s2) mn mn2)) (hB5 : Blk w5 hb #[.pointer none, .int .u64 0]) (hO5 : Blk w5 ob #[.pointer none, .int .u64 0]) (hC5 : Ch (fun k => SH hb N k ∨ SH ob M k) wr w5) (ho3 : o3 = mres (uni N s s2) mn mn2) (hq : q = N.length + M.length) (hl : E.length + j ≤ 10000) :
    FPost w wr base hh hb ob z v' ve E news N M s s2 A cl xs w2 (op o3) q w5 := by
  obtain ⟨W6, hW6⟩ : ∃ W, W = w5.alloc (.cells #[op o3, .int .u64 (q : Nat)] 55) := ⟨_, rfl⟩
  have h6 : Ch S0 w5 W6 := by rw [hW6]; exact (Ch.refl _ _).alloc _
  have hnb : Blk W6 w5.heap.size #[op o3, .int .u64 (q : Nat)] := by rw [hW6]; exact Blk.new _ _ _
  unfold FPost
  rw [← hW6]
  have hs := m.ch.size
  have hs5 := hC5.size
  have l1 := hlt hh (Or.inl rfl)
  have l2 := hlt hb (Or.inr (Or.inl rfl))
  have l4 := fun k (hk : ve.ownBlock = some k) => hlt k (Or.inr (Or.inr (Or.inr hk)))
  have hhn : ¬ (SH hb N hh ∨ SH ob M hh) := fun e => by
    rcases e with (e | e) | (e | e)
    · exact c.hne e
    · exact c.nhh e
    · exact c.oh e.symm
    · have := m.fresh _ e; have := c.hhl; omega
  have hB6 := (m.hblk.keep hC5 hhn).keep h6 (fun h => h)
  have hd := m.done c f hj hM5 hC5 h6 (by rw [← ho3, ← hq]; exact hnb) rfl hl
  have hz6 : Blk (W6.setCell ⟨hh, 0, none⟩ (.pointer (some ⟨w5.heap.size, 0, none⟩))) z #[.bool false, .int .i64 0, .int .i64 0, .int .i64 0, .bool false] := by
    refine ((((hC2'.keep m.ch (fun h => ?_)).keep hC5 (fun h => ?_)).keep h6 (fun h => h))).setOther (p := ⟨hh, 0, none⟩) (fun e => by have e : hh = z := e; omega) _
    · rcases h with h | h | h
      · omega
      · omega
      · have := l4 _ h; omega
    · rcases h with (h | h) | (h | h)
      · omega
      · have := hlt z (Or.inr (Or.inr (Or.inl h))); omega
      · omega
      · have := m.fresh _ h; omega
  refine ⟨hB6.cell 0, hB6.free 0, ?_, ?_, hz6.cell 0, hz6.cell 1, hz6.cell 2, hz6.cell 3, hz6.cell 4, hz6.free 0, hz6.free 1, hz6.free 2, hz6.free 3, hz6.free 4, hz6.lt, ?_⟩
  · exact (hB5.keep h6 (fun h => h)).setOther (p := ⟨hh, 0, none⟩) c.hne _
  · exact (hO5.keep h6 (fun h => h)).setOther (p := ⟨hh, 0, none⟩) (Ne.symm c.oh) _
  · obtain ⟨⟨G3, h3, hd1⟩, hd2⟩ := hd
    refine ⟨_, ⟨_, _, _, _, _, _, _, _, hd1, rfl⟩, hd2, ?_⟩
    have hcc : Ch (SetS hh hb ve N) w wr := (hC2.mono (fun _ _ h => h.elim)).trans' m.ch (fun i hi h => by
      rcases h with h | h | h
      · exact Or.inl h
      · omega
      · exact Or.inr (Or.inr (Or.inr h)))
    have hcd := (hcc.trans' hC5 (fun i hi h => by
      rcases h with (h | h) | (h | h)
      · exact Or.inr (Or.inl h)
      · exact Or.inr (Or.inr (Or.inl h))
      · omega
      · have := m.fresh _ h; have := hC2.size; omega)).trans (h6.mono (fun _ _ h => h.elim))
    exact hcd.setCell ⟨hh, 0, none⟩ (fun _ => Or.inl rfl) _
def noG : Option Nat → List Nat := fun _ => []
theorem HP0 (s : FS) (h : Nat → Nat) : HP [] s noG h none := by
  refine ⟨⟨List.nodup_nil, ⟨fun o x => by simp [noG], fun _ => List.nodup_nil, fun _ => ring_nil _, fun a ha => (by cases ha)⟩, fun a ha => (by cases ha), fun a ha => (by cases ha), fun a ha => (by cases ha), fun a ha => (by cases ha)⟩, fun _ => rfl, fun m e => (by cases e)⟩
set_option maxHeartbeats 8000000 in
set_option maxRecDepth 100000 in
theorem step6 (base hh : Nat) (A : List (Option Int)) (cl : Bool) (S : Nat → Prop) (n p : Int) (Ax : Option Addr) (len cp : Nat) (xs : List Int) (w : World) (hs : Ses w base hh A cl S) (hb0 : base ≤ w.heap.size) (hxl : xs.length = len) (hR : Rd w Ax (iv xs)) (hx9 : ∀ x ∈ xs, x.natAbs < 2 ^ 53) (hAx : ∀ b o, Ax = some ⟨b, o, none⟩ → ¬ S b) (hl : A.length + len ≤ 10000) :
    Calls Try.prog 24 #[.pointer (some ⟨hh, 0, none⟩), hpV ⟨6, n, p, Ax, len, cp, xs⟩] w fun r w' => HStepX w base hh A cl S ⟨6, n, p, Ax, len, cp, xs⟩ r w' := by
  obtain ⟨hb, ve, E, N, s, G, h, mn, f, rfl⟩ := hs
  have hAE : A.length = E.length := by rw [f.pri, List.length_map]
  have T := two w ⟨6, n, p, Ax, len, cp, xs⟩
  obtain ⟨W1, hW1⟩ : ∃ W, W = (w.alloc (.cells #[.int .i64 6, .int .i64 n, .int .i64 p, .slice Ax len cp] 28)).alloc (.cells #[.bool false, .int .i64 0, .int .i64 0, .int .i64 0, .bool false] 32) := ⟨_, rfl⟩
  have T1 : Two w W1 ⟨6, n, p, Ax, len, cp, xs⟩ := by rw [hW1]; exact T
  have hlen : len ≤ 10000 := by omega
  have HF := Lib.hid f
  have HT := Lib.hid T1
  have HW := Lib.hid hW1
  have HXl := Lib.hid hxl
  have HR := Lib.hid hR
  have HX9 := Lib.hid hx9
  have HAx := Lib.hid hAx
  have HL := Lib.hid hl
  have HAE := Lib.hid hAE
  have HB0 := Lib.hid hb0
  clear f T T1 hW1 hxl hR hx9 hAx hl hAE hb0
  unfold hpV
  go_enter Try.func24, Try.ntmps24
  go_upto_region 21 with fail
  rw [← HW.out]
  go_wp2_with (go_at_call 23; refine (fresh_any _).mono ?_; rintro r w1 ⟨rfl, hC1⟩; have s3 := ((HT.out.own.keep hC1 (fun h => h)).alloc (.cells #[.pointer none, .int .u64 0] 55)).cell 3; simp only [List.getElem?_toArray, List.getElem?_cons_zero, List.getElem?_cons_succ] at s3; have HC1 := Lib.hid hC1; clear hC1)
  obtain ⟨W2, hW2⟩ : ∃ W, W = w1.alloc (.cells #[.pointer none, .int .u64 0] 55) := ⟨_, rfl⟩
  rw [← hW2]
  have hs1 := HT.out.size
  have hs2 := HC1.out.size
  have hsW : W2.heap.size = w1.heap.size + 1 := by rw [hW2]; exact World.size_alloc _ _
  have hC2 : Ch S0 w W2 := (HT.out.ch.trans HC1.out).trans (by rw [hW2]; exact (Ch.refl _ _).alloc _)
  have hB2 : Blk W2 w1.heap.size #[.pointer none, .int .u64 0] := by rw [hW2]; exact Blk.new _ _ _
  have HAns2 : Hid (Blk W2 (w.heap.size + 1) #[.bool false, .int .i64 0, .int .i64 0, .int .i64 0, .bool false]) := Lib.hid ((HT.out.ans.keep HC1.out (fun h => h)).keep (by rw [hW2]; exact (Ch.refl S0 w1).alloc _) (fun h => h))
  have f2 := HF.out.keep hC2 (fun _ _ h => h)
  obtain ⟨ob, hob⟩ : ∃ o, o = w1.heap.size := ⟨_, rfl⟩
  rw [← hob] at hB2 hsW ⊢
  have hlt := fun k (hk : SetS hh hb ve N k) => (HF.out.lt hk).2
  have c6 : C6 W2 base hh hb ob ve N := by
    have l1 := hlt hh (Or.inl rfl)
    have l2 := hlt hb (Or.inr (Or.inl rfl))
    have l3 := fun a (ha : a ∈ N) => hlt a (Or.inr (Or.inr (Or.inl ha)))
    have l4 := fun k (hk : ve.ownBlock = some k) => hlt k (Or.inr (Or.inr (Or.inr hk)))
    have hb0 := HB0.out
    refine ⟨by omega, by omega, by omega, fun a ha => by have := l3 a ha; omega, by omega, by omega, fun e => by have := l3 _ e; omega, fun k hk => ?_, HF.out.hne, HF.out.nhh, by omega⟩
    have h1 := l4 k hk
    have h2 := HF.out.vout k hk
    exact ⟨by omega, h2.1, h2.2.1, by omega, h2.2.2⟩
  have m0 : M6 W2 base hh hb ob ve E N s G h mn xs 0 ve [] [] s noG (fun _ => 0) none W2 :=
    ⟨f2.hblk, by simpa using f2.own, f2.heap, ⟨hB2, fun a ha => (by cases ha), fun a ha => (by cases ha), HP0 s _, fun e => (by cases e), by simp⟩, List.Perm.nil, rfl, rfl, fun a ha => (by cases ha), fun a ha => (by cases ha), Or.inl rfl, Ch.refl _ _⟩
  have HC6 := Lib.hid c6
  have HM0 := Lib.hid m0
  have HC2 := Lib.hid hC2
  have HOb := Lib.hid hob
  have HsW := Lib.hid hsW
  have HLt := Lib.hid hlt
  have hone : ∀ u : Nat, ∀ v ∈ [Value.pointer (some ⟨u, 0, none⟩)], v.oneCell' = true := by intro u v hu; simp only [List.mem_singleton] at hu; subst hu; rfl
  have HOne := Lib.hid hone
  have Hs12 := Lib.hid (And.intro hs1 hs2)
  clear hs1 hs2 hsW hC2 hB2 f2 hob hlt c6 m0 hW2 s3 hone
  go_loopw [142] (fun vi wr => ∃ (j : Nat) (v' : Value) (news M : List Nat) (s2 : FS) (G2 : Option Nat → List Nat) (h2 : Nat → Nat) (mn2 : Option Nat), j ≤ len ∧ vi = .int .i64 j ∧ M6 W2 base hh hb ob ve E N s G h mn xs j v' news M s2 G2 h2 mn2 wr) (fun vi _ => len - (intOf vi).toNat)
  case atStart => exact ⟨0, ve, [], [], s, noG, fun _ => 0, none, Nat.zero_le _, rfl, HM0.out⟩
  case round =>
    obtain ⟨j, v', news, M, s2, G2, h2, mn2, hj, rfl, hm⟩ := hrel
    have HM := Lib.hid hm
    clear hm HM0
    by_cases hlt : j < len
    · have hlti : (j : Int) < (len : Nat) := by omega
      have hj0 : (0 : Int) ≤ (j : Nat) := by omega
      obtain ⟨x, hx⟩ : ∃ x, xs[j]? = some x := ⟨_, List.getElem?_eq_getElem (by rw [HXl.out]; exact hlt)⟩
      obtain ⟨qb, qo, e, c0⟩ := ((HR.out.keep0 HC2.out).keep HM.out.ch (fun b o e h => by
        obtain ⟨b', o', e', h'⟩ := HR.out.lt (by rw [iv_length, HXl.out]; omega)
        rw [e] at e'; cases e'
        have h1 := HAx.out b o e
        have h2 := Hs12.out
        have h3 := HOb.out
        rcases h with h | h | h
        · exact h1 (Or.inl h)
        · omega
        · exact h1 (Or.inr (Or.inr (Or.inr h))))).at (iv_at hx)
      subst e
      have HX := Lib.hid hx
      clear hx
      have hB := HM.out.hblk
      have k1 := hB.cell 1
      simp only [List.getElem?_toArray, List.getElem?_cons_zero, List.getElem?_cons_succ] at k1
      have henq := enq_any ob M s2 G2 h2 mn2 x wr.drew (HM.out.hp2.keep (Ch.refl S0 wr).drew (fun h => h) (fun _ _ h => h)) (HX9.out x (List.mem_of_getElem? HX.out)) (by
        have h1 := HM.out.perm.length_eq
        have h2 := HM.out.nl
        omega)
      obtain ⟨yn, hyn⟩ : ∃ y, y = wr.heap.size := ⟨_, rfl⟩
      rw [show wr.drew.heap.size = yn from hyn.symm] at henq
      have hnl := HM.out.nl
      have hEl := HF.out.len
      have HEq := Lib.hid henq
      have HY := Lib.hid hyn
      have HM9 : Hid (E.length + j + 1 ≤ maxLen) := Lib.hid (by unfold maxLen; omega)
      have HM8 : Hid ((E.length + j + 1) * 8 ≤ 140737488355328) := Lib.hid (by omega)
      clear henq hyn hnl hEl hB
      go_wp2_with fail
      have HPost : Hid (∀ w4, EnqR wr.drew ob M s2 G2 h2 mn2 x w4 → Ch (SH ob M) wr.drew w4 → w4.cell? ⟨hh, 1, none⟩ = some v' ∧ (w4.alloc (.cells #[.pointer (some ⟨yn, 0, none⟩)] 52)).cell? ⟨hh, 1, none⟩ = some v' ∧ Blk (w4.alloc (.cells #[.pointer (some ⟨yn, 0, none⟩)] 52)) hh #[.pointer (some ⟨hb, 0, none⟩), v'] ∧
          (w4.alloc (.cells #[.pointer (some ⟨yn, 0, none⟩)] 52)).ownsRow base 52 1 v' (E.length + j) (ovs (E ++ news.map some)) ∧ Rd (w4.alloc (.cells #[.pointer (some ⟨yn, 0, none⟩)] 52)) (some ⟨w4.heap.size, 0, none⟩) [.pointer (some ⟨yn, 0, none⟩)] ∧ base ≤ (w4.alloc (.cells #[.pointer (some ⟨yn, 0, none⟩)] 52)).heap.size) := Lib.hid (fun w4 he hc => by
        have hb4 := (HM.out.hblk.drew.keep hc (fun h => by
          rcases h with h | h
          · exact HC6.out.oh h.symm
          · exact absurd (HM.out.fresh _ h) (Nat.not_le.2 HC6.out.hhl)))
        refine ⟨hb4.cell 1, (hb4.alloc _).cell 1, hb4.alloc _, ?_, Rd.new w4 [.pointer (some ⟨yn, 0, none⟩)] 52, ?_⟩
        · refine own_keepS (own_keepS (w := wr.drew) HM.out.own hc (fun k hk h => ?_)) ((Ch.refl S0 w4).alloc _) (fun _ _ h => h)
          have hv := HM.out.vk HC6.out hk
          rcases h with h | h
          · exact hv.2.2.1 h
          · exact hv.2.2.2.2 h
        · have h1 := HC6.out.bw
          have h2 := HM.out.ch.size
          have h3 : wr.heap.size ≤ w4.heap.size := hc.size
          rw [World.size_alloc]; omega)
      go_region_law (first
        | (go_simp; go_at_call 35
           (with_reducible refine HEq.out.mono ?_)
           rintro r w4 ⟨rfl, he, hc⟩
           obtain ⟨k1, k1', hb4, hO4, hR4, hS4⟩ := HPost.out w4 he hc
           have HE4 := Lib.hid he
           have HC4 := Lib.hid hc
           have HB4 := Lib.hid hb4
           have HOn := Lib.hid hO4
           have HRn := Lib.hid hR4
           have HSz := Lib.hid hS4
           clear he hc hb4 hO4 hR4 hS4)
        | (refine step_all elP rfl (.tmp 150) (.tmp 154) rfl base (E.length + j) v' (ovs (E ++ news.map some)) (by rfl) HOn.out w4.heap.size 0 1 1 [.pointer (some ⟨yn, 0, none⟩)] (by rfl) (HOne.out yn) (by rfl) HRn.out HM9.out HM8.out HSz.out ?_
           intro v8 w8 hO8 hC8 hb8 _
           obtain ⟨A8, cap8, rfl, _⟩ := own_rd hO8
           have hb := HB4.out.keep hC8 (fun e => (HM.out.vk HC6.out e).1 rfl)
           have p1 := hb.cell 1
           have r1 := hb.free 1
           simp only [List.getElem?_toArray, List.getElem?_cons_zero, List.getElem?_cons_succ] at p1
           have HO8 := Lib.hid hO8
           have HC8 := Lib.hid hC8
           have Hb8 := Lib.hid hb8
           clear hb hO8 hC8 hb8))
      all_goals
        have hR4 : w8.ownsRow base 52 1 (.slice A8 (E.length + j + 1) cap8) (E.length + j + 1) (ovs (E ++ news.map some) ++ [.pointer (some ⟨wr.drew.heap.size, 0, none⟩)]) := by
          have := HO8.out
          rw [HY.out] at this
          exact this
        obtain ⟨s3, G3, mn3, hn⟩ := M6.next HM.out HC6.out HX.out ((Ch.refl S0 wr).drew) HE4.out HC4.out ((Ch.refl S0 w4).alloc (.cells #[.pointer (some ⟨yn, 0, none⟩)] 52)) hR4 HC8.out Hb8.out
        have HNx := Lib.hid hn
        clear hn hR4 p1 r1
        go_wp2_with fail
        go_roundw
        case rel => exact ⟨j + 1, _, _, _, s3, G3, h2, mn3, by omega, by go_num, HNx.out⟩
        case measure => simp [intOf]; omega
    · have hin : ¬ (j : Int) < (len : Nat) := by omega
      have hje : j = len := by omega
      have hB := HM.out.hblk
      have k0 := hB.cell 0
      simp only [List.getElem?_toArray, List.getElem?_cons_zero] at k0
      have hdis : ∀ x ∈ N, x ∉ M := fun x hx h => by have := HC6.out.nl x hx; have := HM.out.fresh x h; omega
      have hbM : hb ∉ M := fun e => by have := HM.out.fresh _ e; have := HC6.out.hbl; omega
      have hmg := hmerge_any hb ob N M s s2 G G2 h h2 mn mn2 wr HM.out.hp HM.out.hp2 hdis hbM HC6.out.oN (Ne.symm HC6.out.ohb) (by
        have h1 := HM.out.perm.length_eq
        have h2 := HM.out.nl
        have h3 := HF.out.perm.length_eq
        have h4 := List.length_filterMap_le id E
        have h5 := HF.out.len
        omega)
      obtain ⟨o3, ho3⟩ : ∃ o, o = mres (uni N s s2) mn mn2 := ⟨_, rfl⟩
      obtain ⟨q, hq⟩ : ∃ q, q = N.length + M.length := ⟨_, rfl⟩
      rw [← ho3, ← hq] at hmg
      obtain ⟨z, hz⟩ : ∃ z, z = w.heap.size + 1 := ⟨_, rfl⟩
      have HZ2 : Hid (Blk W2 z #[.bool false, .int .i64 0, .int .i64 0, .int .i64 0, .bool false]) := Lib.hid (by rw [hz]; exact HAns2.out)
      have HMg : Hid (Calls Try.prog 42 #[.pointer (some ⟨hb, 0, none⟩), .pointer (some ⟨ob, 0, none⟩)] wr fun r w' => r = .returned (.tuple #[.agg #[op o3, .int .u64 (q : Nat)], .nilIface]) ∧ FPost w wr base hh hb ob z v' ve E news N M s s2 A cl xs W2 (op o3) q w') := Lib.hid (hmg.mono fun r w' ⟨h1, hM5, hB5, hO5, hC5⟩ => ⟨h1, fpost HM.out HC6.out HF.out (by rw [HXl.out, hje]) hz (by
        have ha := HT.out.ans
        rw [← hz] at ha
        exact ha) HC1.out HsW.out (by have := HOb.out; exact this) Hs12.out HC2.out HLt.out HZ2.out hM5 hB5 hO5 hC5 ho3 hq (by have h1 := HL.out; have h2 := HAE.out; omega)⟩)
      have HZ := Lib.hid hz
      rw [← hz]
      clear hmg ho3 hq hz hdis hbM hB
      cases o3 with
      | none =>
        dsimp only [op] at HMg
        have HMg2 : Hid (Calls Try.prog 42 #[.pointer (some ⟨hb, 0, none⟩), .pointer (some ⟨ob, 0, none⟩)] wr fun r w' => r = .returned (.tuple #[.agg #[.pointer none, .int .u64 (q : Nat)], .nilIface]) ∧ FPost w wr base hh hb ob z v' ve E news N M s s2 A cl xs W2 (.pointer none) q w') := Lib.hid HMg.out
        clear HMg
        go_wp2_with (first | (go_at_call 42; refine HMg2.out.mono ?_; rintro r w5 ⟨rfl, hp⟩; obtain ⟨j0, j0f, hE1, hE2, z0, z1, z2, z3, z4, y0, y1, y2, y3, y4, hl5, hfin⟩ := hp; have HE1 := Lib.hid hE1; have HE2 := Lib.hid hE2; have HFin := Lib.hid hfin; clear hE1 hE2 hfin) | (go_at_call 26; refine (empty_any hb 0 _ _ HE1.out).mono ?_; rintro r wx ⟨rfl, e⟩; rw [e]; clear e) | (go_at_call 26; refine (empty_any ob 0 _ _ HE2.out).mono ?_; rintro r wx ⟨rfl, e⟩; rw [e]; clear e))
        obtain ⟨S', hS', hsub, hcc⟩ := HFin.out
        refine bodyPost_ret (v := .agg #[.bool true, .int .i64 (-1), .int .i64 0, .int .i64 0, .bool false]) (by simp [results, Try.results24, go_sem, z0, z1, z2, z3, z4, hl5]) rfl ?_
        refine hstep_end rfl hS' (fun k hk => (hsub k hk).imp id (fun h => by have h1 := Hs12.out; have h2 := HOb.out; have h3 := HsW.out; omega)) (fun k hk => HLt.out k hk) hcc (HZ.out ▸ ch5 _ _ _ _ _ _ _) ?_
        exact ⟨rfl, fun e => absurd e (by show ¬ (6 : Int) = 1; decide), fun e => absurd e (by show ¬ (6 : Int) = 3; decide), fun e => absurd e (by show ¬ (6 : Int) = 4; decide), fun _ => ⟨rfl, rfl⟩⟩
      | some y =>
        dsimp only [op] at HMg
        have HMg2 : Hid (Calls Try.prog 42 #[.pointer (some ⟨hb, 0, none⟩), .pointer (some ⟨ob, 0, none⟩)] wr fun r w' => r = .returned (.tuple #[.agg #[.pointer (some ⟨y, 0, none⟩), .int .u64 (q : Nat)], .nilIface]) ∧ FPost w wr base hh hb ob z v' ve E news N M s s2 A cl xs W2 (.pointer (some ⟨y, 0, none⟩)) q w') := Lib.hid HMg.out
        clear HMg
        go_wp2_with (first | (go_at_call 42; refine HMg2.out.mono ?_; rintro r w5 ⟨rfl, hp⟩; obtain ⟨j0, j0f, hE1, hE2, z0, z1, z2, z3, z4, y0, y1, y2, y3, y4, hl5, hfin⟩ := hp; have HE1 := Lib.hid hE1; have HE2 := Lib.hid hE2; have HFin := Lib.hid hfin; clear hE1 hE2 hfin) | (go_at_call 26; refine (empty_any hb 0 _ _ HE1.out).mono ?_; rintro r wx ⟨rfl, e⟩; rw [e]; clear e) | (go_at_call 26; refine (empty_any ob 0 _ _ HE2.out).mono ?_; rintro r wx ⟨rfl, e⟩; rw [e]; clear e))
        obtain ⟨S', hS', hsub, hcc⟩ := HFin.out
        refine bodyPost_ret (v := .agg #[.bool true, .int .i64 (-1), .int .i64 0, .int .i64 0, .bool false]) (by simp [results, Try.results24, go_sem, z0, z1, z2, z3, z4, hl5]) rfl ?_
        refine hstep_end rfl hS' (fun k hk => (hsub k hk).imp id (fun h => by have h1 := Hs12.out; have h2 := HOb.out; have h3 := HsW.out; omega)) (fun k hk => HLt.out k hk) hcc (HZ.out ▸ ch5 _ _ _ _ _ _ _) ?_
        exact ⟨rfl, fun e => absurd e (by show ¬ (6 : Int) = 1; decide), fun e => absurd e (by show ¬ (6 : Int) = 3; decide), fun e => absurd e (by show ¬ (6 : Int) = 4; decide), fun _ => ⟨rfl, rfl⟩⟩
end Go.Proofs.Ytbfcnimebdoagaa
