/- PLAIN AND MEMORY: what stands while the roots are put together. -/
import Derived.Test.YtbfcnimebdoagaaFDa
namespace Go.Proofs.Ytbfcnimebdoagaa
open Go.RowKit
set_option linter.unusedVariables false
set_option linter.unusedSimpArgs false

theorem ovs_snoc (l : List (Option Nat)) (o : Option Nat) : ovs (l ++ [o]) = ovs l ++ [op o] := by simp [ovs]
theorem ovs_length (l : List (Option Nat)) : (ovs l).length = l.length := by simp [ovs]
theorem ovs_at {l : List (Option Nat)} {d : Nat} {o : Option Nat} (h : l[d]? = some o) : (ovs l)[d]? = some (op o) := by simp [ovs, h]
theorem ovs_set (l : List (Option Nat)) (d : Nat) (o : Option Nat) : (ovs l).set d (op o) = ovs (l.set d o) := by simp [ovs, List.map_set]
theorem own_apartN {v7 : Value} {wr w4 : World} {B n n' g8 : Nat} {xs ys : List Value} {v' : Value} (h : v7.ownBlock ≠ some g8) (hg : g8 < wr.heap.size) (hb : v'.ownBlock = v7.ownBlock ∨ v'.ownBlock = some (wr.heap.size + 1)) : v'.ownBlock ≠ some g8 := by
  rcases hb with e | e
  · rw [e]; exact h
  · rw [e]; intro e2; cases e2; omega
/-- The world while the roots L, in block g8, are put together: T lies in v7. -/
structure CS (w : World) (B hb n g8 : Nat) (N L : List Nat) (s s' : FS) (T : List (Option Nat)) (v7 : Value) (mn : Nat) (wr : World) : Prop where
  own : wr.ownsRow B 52 1 v7 T.length (ovs T)
  ap : v7.ownBlock ≠ some g8
  rd : Rd wr (some ⟨g8, 0, none⟩) (pvs L)
  gl : g8 < wr.heap.size
  gb : B ≤ g8
  low : ∀ a ∈ N, a < B
  hl : hb < B
  nohb : ∀ a ∈ N, ¬ a = hb
  bw : B ≤ wr.heap.size
  wb : w.heap.size ≤ B
  mem : Mem wr N s'
  blk : Blk wr hb #[op (some mn), .int .u64 n]
  ch : Ch (SH hb N) w wr
  pr : ∀ a ∈ N, s'.pr a = s.pr a
  ml : ∀ a ∈ N, s.mr a = false → s'.mr a = false
theorem CS.drew {w : World} {B hb n g8 : Nat} {N L : List Nat} {s s' : FS} {T : List (Option Nat)} {v7 : Value} {mn : Nat} {wr : World} (c : CS w B hb n g8 N L s s' T v7 mn wr) : CS w B hb n g8 N L s s' T v7 mn wr.drew :=
  ⟨c.own, c.ap, c.rd, c.gl, c.gb, c.low, c.hl, c.nohb, c.bw, c.wb, c.mem, c.blk, c.ch.drew, c.pr, c.ml⟩
theorem CS.drewN {w : World} {B hb n g8 : Nat} {N L : List Nat} {s s' : FS} {T : List (Option Nat)} {v7 : Value} {mn : Nat} {wr : World} (c : CS w B hb n g8 N L s s' T v7 mn wr) (k : Nat) : CS w B hb n g8 N L s s' T v7 mn (wr.drewN k) :=
  ⟨c.own, c.ap, c.rd, c.gl, c.gb, c.low, c.hl, c.nohb, c.bw, c.wb, c.mem, c.blk, c.ch.drewN k, c.pr, c.ml⟩
/-- A step that changes what lies below B alone, and there the nodes and the heap's block. -/
theorem CS.step {w : World} {B hb n g8 : Nat} {N L : List Nat} {s s' s2 : FS} {T : List (Option Nat)} {v7 : Value} {mn mn2 : Nat} {wr w2 : World} (c : CS w B hb n g8 N L s s' T v7 mn wr) (hc : Ch (SH hb N) wr w2) (hM : Mem w2 N s2) (hB : Blk w2 hb #[op (some mn2), .int .u64 n]) (hp : ∀ a ∈ N, s2.pr a = s.pr a) (hk : ∀ a ∈ N, s.mr a = false → s2.mr a = false) : CS w B hb n g8 N L s s2 T v7 mn2 w2 := by
  have hlow : ∀ k, B ≤ k → ¬ SH hb N k := fun k hk e => by
    rcases e with e | e
    · have := c.hl; omega
    · have := c.low k e; omega
  refine ⟨own_keepS c.own hc (fun g e => hlow g (own_lt c.own g e).1), c.ap, c.rd.keep hc (fun b o e => by cases e; exact hlow g8 c.gb), Nat.lt_of_lt_of_le c.gl hc.size, c.gb, c.low, c.hl, c.nohb, Nat.le_trans c.bw hc.size, c.wb, hM, hB, c.ch.trans hc, hp, hk⟩
/-- A step that changes the table alone. -/
theorem CS.tabl {w : World} {B hb n g8 : Nat} {N L : List Nat} {s s' : FS} {T T2 : List (Option Nat)} {v7 v2 : Value} {mn : Nat} {wr w2 : World} (c : CS w B hb n g8 N L s s' T v7 mn wr) (hc : Ch (fun k => v7.ownBlock = some k) wr w2) (ho : w2.ownsRow B 52 1 v2 T2.length (ovs T2)) (hb' : v2.ownBlock = v7.ownBlock ∨ v2.ownBlock = some (wr.heap.size + 1)) : CS w B hb n g8 N L s s' T2 v2 mn w2 := by
  have hlow : ∀ k, k < B → ¬ v7.ownBlock = some k := fun k hk e => by have := (own_lt c.own k e).1; omega
  refine ⟨ho, own_apartN (B := B) (n := 0) (n' := 0) (xs := []) (ys := []) (w4 := w2) c.ap c.gl hb', c.rd.keep hc (fun b o e => by cases e; exact c.ap), Nat.lt_of_lt_of_le c.gl hc.size, c.gb, c.low, c.hl, c.nohb, Nat.le_trans c.bw hc.size, c.wb, c.mem.keep hc (fun a ha => hlow a (c.low a ha)), c.blk.keep hc (hlow hb c.hl), ?_, c.pr, c.ml⟩
  exact c.ch.trans' hc (fun i hi e => absurd (own_lt c.own i e).1 (by have := c.wb; omega))
theorem CS.tblk {w : World} {B hb n g8 : Nat} {N L : List Nat} {s s' : FS} {T : List (Option Nat)} {v7 : Value} {mn : Nat} {wr : World} (c : CS w B hb n g8 N L s s' T v7 mn wr) (h : 0 < T.length) : ∃ g7 c7, v7 = .slice (some ⟨g7, 0, none⟩) T.length c7 ∧ g7 ≠ g8 := by
  obtain ⟨A, c7, rfl, _, _, _, hA, _⟩ := own_rd c.own
  obtain ⟨g7, rfl⟩ := hA.resolve_left (by omega)
  exact ⟨g7, c7, rfl, fun e => c.ap (by rw [e]; rfl)⟩
theorem CS.push {w : World} {B hb n g8 : Nat} {N L : List Nat} {s s' : FS} {T : List (Option Nat)} {v7 v2 : Value} {mn : Nat} {wr w2 : World} (c : CS w B hb n g8 N L s s' T v7 mn wr) (hc : Ch (fun k => v7.ownBlock = some k) wr w2) (ho : w2.ownsRow B 52 1 v2 (T.length + 1) (ovs T ++ [.pointer none])) (hb' : v2.ownBlock = v7.ownBlock ∨ v2.ownBlock = some (wr.heap.size + 1)) : CS w B hb n g8 N L s s' (T ++ [none]) v2 mn w2 := by
  refine c.tabl hc ?_ hb'
  rw [ovs_snoc, List.length_append]
  exact ho
theorem CS.put {w : World} {B hb n g8 g7 c7 : Nat} {N L : List Nat} {s s' : FS} {T : List (Option Nat)} {mn : Nat} {wr : World} (c : CS w B hb n g8 N L s s' T (.slice (some ⟨g7, 0, none⟩) T.length c7) mn wr) (d : Nat) (o : Option Nat) : CS w B hb n g8 N L s s' (T.set d o) (.slice (some ⟨g7, 0, none⟩) T.length c7) mn (wr.setCell ⟨g7, d, none⟩ (op o)) := by
  obtain ⟨h1, h2⟩ := c.own.stored d (op o)
  rw [ovs_set] at h1
  refine c.tabl (Ch.ofGrown h2 (fun k e => by cases e; rfl)) ?_ (Or.inl rfl)
  rw [List.length_set]
  exact h1
theorem CS.tat {w : World} {B hb n g8 g7 c7 : Nat} {N L : List Nat} {s s' : FS} {T : List (Option Nat)} {mn : Nat} {wr : World} (c : CS w B hb n g8 N L s s' T (.slice (some ⟨g7, 0, none⟩) T.length c7) mn wr) {d : Nat} {o : Option Nat} (h : T[d]? = some o) : wr.cell? ⟨g7, d, none⟩ = some (op o) ∧ wr.frozen? ⟨g7, d, none⟩ = false := by
  have hd := (List.getElem?_eq_some_iff.1 h).1
  refine ⟨?_, c.own.frozenAt d⟩
  rw [c.own.cellAt d (by omega)]
  exact ovs_at h
theorem CS.vat {w : World} {B hb n g8 : Nat} {N L : List Nat} {s s' : FS} {T : List (Option Nat)} {v7 : Value} {mn : Nat} {wr : World} (c : CS w B hb n g8 N L s s' T v7 mn wr) {i x : Nat} (h : L[i]? = some x) : wr.cell? ⟨g8, i, none⟩ = some (.pointer (some ⟨x, 0, none⟩)) := by
  obtain ⟨b, o, e, h2⟩ := c.rd.at (j := i) (x := .pointer (some ⟨x, 0, none⟩)) (by simp [pvs, h])
  cases e
  rw [Nat.zero_add] at h2
  exact h2
theorem CS.min {w : World} {B hb n g8 : Nat} {N L : List Nat} {s s' : FS} {T : List (Option Nat)} {v7 : Value} {mn : Nat} {wr : World} (c : CS w B hb n g8 N L s s' T v7 mn wr) (x : Nat) : CS w B hb n g8 N L s s' T v7 x (wr.setCell ⟨hb, 0, none⟩ (.pointer (some ⟨x, 0, none⟩))) := by
  have b := c.blk.set 0 (.pointer (some ⟨x, 0, none⟩))
  simp only [List.setIfInBounds_toArray, List.set_cons_zero] at b
  have hc : Ch (SH hb N) wr (wr.setCell ⟨hb, 0, none⟩ (.pointer (some ⟨x, 0, none⟩))) := Ch.setCell (p := ⟨hb, 0, none⟩) (Ch.refl _ _) (fun _ => Or.inl rfl) _
  refine c.step hc ?_ b c.pr c.ml
  exact c.mem.keep ((Ch.refl (S1 hb) wr).setCell ⟨hb, 0, none⟩ (fun _ => rfl) _) (fun a ha e => c.nohb a ha e)
theorem CS.n0 {w : World} {B hb n g8 : Nat} {N L : List Nat} {s s' : FS} {T : List (Option Nat)} {v7 : Value} {mn : Nat} {wr : World} (c : CS w B hb n g8 N L s s' T v7 mn wr) {x : Nat} (hx : x ∈ N) (v : Nat) : CS w B hb n g8 N L s { s' with deg := upd s'.deg x v } T v7 mn (wr.setCell ⟨x, 0, none⟩ (.int .i64 v)) :=
  c.step (Ch.setCell (p := ⟨x, 0, none⟩) (Ch.refl _ _) (fun _ => Or.inr hx) _) (c.mem.set0 x v) (c.blk.setOther (p := ⟨x, 0, none⟩) (c.nohb x hx) _) c.pr c.ml
theorem CS.n1 {w : World} {B hb n g8 : Nat} {N L : List Nat} {s s' : FS} {T : List (Option Nat)} {v7 : Value} {mn : Nat} {wr : World} (c : CS w B hb n g8 N L s s' T v7 mn wr) {x : Nat} (hx : x ∈ N) : CS w B hb n g8 N L s { s' with mr := upd s'.mr x false } T v7 mn (wr.setCell ⟨x, 1, none⟩ (.bool false)) :=
  c.step (Ch.setCell (p := ⟨x, 1, none⟩) (Ch.refl _ _) (fun _ => Or.inr hx) _) (c.mem.set1 x false) (c.blk.setOther (p := ⟨x, 1, none⟩) (c.nohb x hx) _) c.pr (fun a ha e => by show upd s'.mr x false a = false; unfold upd; split; rfl; exact c.ml a ha e)
theorem CS.n2 {w : World} {B hb n g8 : Nat} {N L : List Nat} {s s' : FS} {T : List (Option Nat)} {v7 : Value} {mn : Nat} {wr : World} (c : CS w B hb n g8 N L s s' T v7 mn wr) {x : Nat} (hx : x ∈ N) (v : Nat) : CS w B hb n g8 N L s { s' with nx := upd s'.nx x v } T v7 mn (wr.setCell ⟨x, 2, none⟩ (.pointer (some ⟨v, 0, none⟩))) :=
  c.step (Ch.setCell (p := ⟨x, 2, none⟩) (Ch.refl _ _) (fun _ => Or.inr hx) _) (c.mem.set2 x v) (c.blk.setOther (p := ⟨x, 2, none⟩) (c.nohb x hx) _) c.pr c.ml
theorem CS.n3 {w : World} {B hb n g8 : Nat} {N L : List Nat} {s s' : FS} {T : List (Option Nat)} {v7 : Value} {mn : Nat} {wr : World} (c : CS w B hb n g8 N L s s' T v7 mn wr) {x : Nat} (hx : x ∈ N) (v : Nat) : CS w B hb n g8 N L s { s' with pv := upd s'.pv x v } T v7 mn (wr.setCell ⟨x, 3, none⟩ (.pointer (some ⟨v, 0, none⟩))) :=
  c.step (Ch.setCell (p := ⟨x, 3, none⟩) (Ch.refl _ _) (fun _ => Or.inr hx) _) (c.mem.set3 x v) (c.blk.setOther (p := ⟨x, 3, none⟩) (c.nohb x hx) _) c.pr c.ml
theorem CS.n4 {w : World} {B hb n g8 : Nat} {N L : List Nat} {s s' : FS} {T : List (Option Nat)} {v7 : Value} {mn : Nat} {wr : World} (c : CS w B hb n g8 N L s s' T v7 mn wr) {x : Nat} (hx : x ∈ N) (v : Option Nat) : CS w B hb n g8 N L s { s' with ch := upd s'.ch x v } T v7 mn (wr.setCell ⟨x, 4, none⟩ (op v)) :=
  c.step (Ch.setCell (p := ⟨x, 4, none⟩) (Ch.refl _ _) (fun _ => Or.inr hx) _) (c.mem.set4 x v) (c.blk.setOther (p := ⟨x, 4, none⟩) (c.nohb x hx) _) c.pr c.ml
theorem CS.n5 {w : World} {B hb n g8 : Nat} {N L : List Nat} {s s' : FS} {T : List (Option Nat)} {v7 : Value} {mn : Nat} {wr : World} (c : CS w B hb n g8 N L s s' T v7 mn wr) {x : Nat} (hx : x ∈ N) (v : Option Nat) : CS w B hb n g8 N L s { s' with par := upd s'.par x v } T v7 mn (wr.setCell ⟨x, 5, none⟩ (op v)) :=
  c.step (Ch.setCell (p := ⟨x, 5, none⟩) (Ch.refl _ _) (fun _ => Or.inr hx) _) (c.mem.set5 x v) (c.blk.setOther (p := ⟨x, 5, none⟩) (c.nohb x hx) _) c.pr c.ml
theorem link_eq (s : FS) (a b : Nat) (y : Nat) (hy : mres (alone s b) (s.ch a) (some b) = some y) (sm : FS) (hs : sm = mst (alone s b) (s.ch a) (some b)) :
    ({ sm with ch := upd sm.ch a (some y), par := upd sm.par b (some a), mr := upd sm.mr b false, deg := upd sm.deg a (sm.deg a + 1) } : FS) = linkSt s a b := by
  subst hs
  unfold linkSt
  rw [hy]
  simp only [mst_ch, mst_par, mst_mr, mst_deg]
  rfl
theorem link_nx {N : List Nat} {s : FS} {G : Option Nat → List Nat} {h : Nat → Nat} (w : WF N s G h) {b c : Nat} (hb : b ∈ N) (hc : c ∈ N) : (alone s b).nx c ∈ N := by
  show upd (upd s.nx (s.pv b) (s.nx b)) b b c ∈ N
  by_cases e : c = b
  · subst e; rw [upd_at]; exact hb
  · rw [upd_ne _ _ e]
    by_cases e2 : c = s.pv b
    · subst e2; rw [upd_at]; exact w.rings.nextN hb
    · rw [upd_ne _ _ e2]; exact w.rings.nextN hc
theorem link_ch {N : List Nat} {s : FS} {G : Option Nat → List Nat} {h : Nat → Nat} (w : WF N s G h) {a c : Nat} (ha : a ∈ N) (e : s.ch a = some c) : c ∈ N ∧ s.par c = some a := by
  have := w.ch1 a ha c e
  exact ⟨w.rings.mem this, ((w.rings.g _ _).1 this).2⟩
/-- Ahead of the root at place vi. -/
def L3 (w : World) (B hb n g8 m : Nat) (N L : List Nat) (s : FS) (v7 vi : Value) (wr : World) : Prop :=
  ∃ (i mn : Nat) (s' : FS) (G' : Option Nat → List Nat) (h' : Nat → Nat) (T : List (Option Nat)), vi = .int .i64 i ∧ i ≤ L.length ∧ Con (N.erase m) s' G' h' L T i mn ∧ CS w B hb n g8 N L s s' T v7 mn wr
def L4 (w : World) (B hb n g8 m i mn : Nat) (N L : List Nat) (s : FS) (k : Nat) (v7 v11 : Value) (wr : World) : Prop :=
  ∃ (c : Nat) (s' : FS) (G' : Option Nat → List Nat) (h' : Nat → Nat) (T : List (Option Nat)), v11 = .pointer (some ⟨c, 0, none⟩) ∧ (G' none).length = k ∧ Con2 (N.erase m) s' G' h' L T i mn c ∧ CS w B hb n g8 N L s s' T v7 mn wr
def L5 (w : World) (B hb n g8 m i mn c : Nat) (N L : List Nat) (s s' : FS) (G' : Option Nat → List Nat) (h' : Nat → Nat) (k : Nat) (v7 : Value) (wr : World) : Prop :=
  ∃ T : List (Option Nat), s'.deg c + 1 - T.length = k ∧ Con2 (N.erase m) s' G' h' L T i mn c ∧ CS w B hb n g8 N L s s' T v7 mn wr
theorem Con2.cN {N : List Nat} {s : FS} {G : Option Nat → List Nat} {h : Nat → Nat} {V : List Nat} {T : List (Option Nat)} {i m c x : Nat} (w : Con2 (N.erase x) s G h V T i m c) : c ∈ N ∧ m ∈ N :=
  ⟨List.mem_of_mem_erase (w.wf.rings.mem w.cr), List.mem_of_mem_erase w.mN⟩
def lk6 (s : FS) (b : Nat) : FS := { ust s b with pv := upd (ust s b).pv b b }
theorem CS.k6 {w : World} {B hb n g8 : Nat} {N L : List Nat} {s s' : FS} {T : List (Option Nat)} {v7 : Value} {mn : Nat} {wr : World} {b : Nat} (c : CS w B hb n g8 N L s (ust s' b) T v7 mn wr) (hbN : b ∈ N) : CS w B hb n g8 N L s (lk6 s' b) T v7 mn (wr.setCell ⟨b, 3, none⟩ (.pointer (some ⟨b, 0, none⟩))) := c.n3 hbN b
theorem CS.k7 {w : World} {B hb n g8 : Nat} {N L : List Nat} {s s' : FS} {T : List (Option Nat)} {v7 : Value} {mn : Nat} {wr : World} {b : Nat} (c : CS w B hb n g8 N L s (lk6 s' b) T v7 mn wr) (hbN : b ∈ N) : CS w B hb n g8 N L s (alone s' b) T v7 mn (wr.setCell ⟨b, 2, none⟩ (.pointer (some ⟨b, 0, none⟩))) := c.n2 hbN b
/-- The stores behind the merge of the children's ring. -/
def Aft (w : World) (B hb n g8 : Nat) (N L : List Nat) (s sl : FS) (T : List (Option Nat)) (v7 : Value) (mn a b q dg : Nat) (wy : World) : Prop :=
  (∃ o4, wy.cell? ⟨a, 4, none⟩ = some (op o4)) ∧ wy.frozen? ⟨a, 4, none⟩ = false ∧
  (∃ o5, (wy.setCell ⟨a, 4, none⟩ (.pointer (some ⟨q, 0, none⟩))).cell? ⟨b, 5, none⟩ = some (op o5)) ∧ (wy.setCell ⟨a, 4, none⟩ (.pointer (some ⟨q, 0, none⟩))).frozen? ⟨b, 5, none⟩ = false ∧
  (∃ b1, ((wy.setCell ⟨a, 4, none⟩ (.pointer (some ⟨q, 0, none⟩))).setCell ⟨b, 5, none⟩ (.pointer (some ⟨a, 0, none⟩))).cell? ⟨b, 1, none⟩ = some (.bool b1)) ∧ ((wy.setCell ⟨a, 4, none⟩ (.pointer (some ⟨q, 0, none⟩))).setCell ⟨b, 5, none⟩ (.pointer (some ⟨a, 0, none⟩))).frozen? ⟨b, 1, none⟩ = false ∧
  (((wy.setCell ⟨a, 4, none⟩ (.pointer (some ⟨q, 0, none⟩))).setCell ⟨b, 5, none⟩ (.pointer (some ⟨a, 0, none⟩))).setCell ⟨b, 1, none⟩ (.bool false)).cell? ⟨a, 0, none⟩ = some (.int .i64 dg) ∧ (((wy.setCell ⟨a, 4, none⟩ (.pointer (some ⟨q, 0, none⟩))).setCell ⟨b, 5, none⟩ (.pointer (some ⟨a, 0, none⟩))).setCell ⟨b, 1, none⟩ (.bool false)).frozen? ⟨a, 0, none⟩ = false ∧
  CS w B hb n g8 N L s sl T v7 mn ((((wy.setCell ⟨a, 4, none⟩ (.pointer (some ⟨q, 0, none⟩))).setCell ⟨b, 5, none⟩ (.pointer (some ⟨a, 0, none⟩))).setCell ⟨b, 1, none⟩ (.bool false)).setCell ⟨a, 0, none⟩ (.int .i64 ((dg : Int) + 1)))
theorem CS.aft {w : World} {B hb n g8 : Nat} {N L : List Nat} {s s2 : FS} {T : List (Option Nat)} {v7 : Value} {mn : Nat} {wx wy : World} {a b q dg : Nat} (c : CS w B hb n g8 N L s (alone s2 b) T v7 mn wx) (ha : a ∈ N) (hbN : b ∈ N) (hq : mres (alone s2 b) (s2.ch a) (some b) = some q) (hdg : dg = s2.deg a) (hM : Mem wy N (mst (alone s2 b) (s2.ch a) (some b))) (hC : Ch (SN N) wx wy) : Aft w B hb n g8 N L s (linkSt s2 a b) T v7 mn a b q dg wy := by
  have P8 := CS.step c (hC.mono (fun _ _ h => Or.inr h)) hM (c.blk.keep hC (fun h => c.nohb hb h rfl)) (fun x hx => (congrFun (mst_pr _ _ _) x).trans (c.pr x hx)) (fun x hx e => (congrFun (mst_mr _ _ _) x).trans (c.ml x hx e))
  have P9 := P8.n4 ha (some q)
  have P10 := P9.n5 hbN (some a)
  have P11 := P10.n1 hbN
  have P12 := P11.n0 ha ((mst (alone s2 b) (s2.ch a) (some b)).deg a + 1)
  have e : (mst (alone s2 b) (s2.ch a) (some b)).deg a = dg := by rw [mst_deg, hdg]; rfl
  refine ⟨⟨_, P8.mem.c4 ha⟩, P8.mem.free ha 4, ⟨_, P9.mem.c5 hbN⟩, P9.mem.free hbN 5, ⟨_, P10.mem.c1 hbN⟩, P10.mem.free hbN 1, ?_, P11.mem.free ha 0, ?_⟩
  · have := P11.mem.c0 ha
    have e2 : ∀ x : Nat, some (Value.int .i64 ((mst (alone s2 b) (s2.ch a) (some b)).deg a)) = some (Value.int .i64 (dg : Nat)) := fun _ => by rw [e]
    exact this.trans (e2 0)
  · have h1 := link_eq s2 a b q hq _ rfl
    rw [← h1]
    have h2 : ((dg : Int) + 1) = (((mst (alone s2 b) (s2.ch a) (some b)).deg a + 1 : Nat) : Int) := by rw [e]; simp
    rw [h2]
    exact P12
theorem root_nopar {N : List Nat} {s : FS} {G : Option Nat → List Nat} {h : Nat → Nat} {V : List Nat} {T : List (Option Nat)} {i m c o a b d : Nat} (w : Con2 N s G h V T i m c) (ho : T[d]? = some (some o)) (hab : (s.pr o < s.pr c ∧ a = o ∧ b = c) ∨ (¬ s.pr o < s.pr c ∧ a = c ∧ b = o)) : s.par b ≠ some a := fun e => by
  have h1 : b ∈ G none := by
    rcases hab with ⟨_, _, rfl⟩ | ⟨_, _, rfl⟩
    · exact w.cr
    · exact (w.tab _ _ ho).1
  have h2 := ((w.wf.rings.g _ _).1 h1).2
  rw [h2] at e; cases e
end Go.Proofs.Ytbfcnimebdoagaa
