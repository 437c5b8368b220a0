/- PLAIN: the balances of a tree behind an insertion. -/
import Derived.Test.YtlppnbmaedgodaaP
namespace Go.Proofs.Ytlppnbmaedgodaa
set_option linter.unusedVariables false
set_option linter.unusedSimpArgs false

/-- One more on the side where the way goes. -/
def Fr.up (f : Fr) : Fr := { f with b := f.b + (if f.d then 1 else -1) }
def ups (fs : List Fr) : List Fr := fs.map Fr.up
def leaf (q : Nat) (k v : Int) : T := .node q 0 .nil .nil k v
theorem fill_ht (f : Fr) (t : T) : (f.fill t).ht = 1 + max f.sib.ht t.ht := by
  unfold Fr.fill
  cases f.d <;> simp [T.ht]
  rw [Int.max_comm]
theorem fill_avl (f : Fr) (t : T) : (f.fill t).Avl ↔ f.b = (if f.d then t.ht - f.sib.ht else f.sib.ht - t.ht) ∧ -1 ≤ f.b ∧ f.b ≤ 1 ∧ f.sib.Avl ∧ t.Avl := by
  unfold Fr.fill
  cases f.d <;> simp [T.Avl]
  intro _ _ _
  exact And.comm
theorem up_fill_ht (f : Fr) (t : T) : (f.up.fill t).ht = (f.fill t).ht := by rw [fill_ht, fill_ht]; rfl
theorem ups_ht (fs : List Fr) (t : T) : (zip (ups fs) t).ht = (zip fs t).ht := by
  induction fs with
  | nil => rfl
  | cons f fs ih =>
    show (f.up.fill (zip (ups fs) t)).ht = (f.fill (zip fs t)).ht
    rw [fill_ht, fill_ht, ih]
    rfl
theorem pre_ups (fs : List Fr) : pre (ups fs) = pre fs := by
  induction fs with
  | nil => rfl
  | cons f fs ih =>
    show (if f.d then _ else _) ++ pre (ups fs) = _
    rw [ih]; rfl
theorem post_ups (fs : List Fr) : post (ups fs) = post fs := by
  induction fs with
  | nil => rfl
  | cons f fs ih =>
    show post (ups fs) ++ _ = _
    rw [ih]; rfl
theorem frBl_ups (fs : List Fr) : frBl (ups fs) = frBl fs := by
  induction fs with
  | nil => rfl
  | cons f fs ih =>
    show f.a :: (f.sib.bl ++ frBl (ups fs)) = _
    rw [ih]; rfl
theorem zero_ht {q : Nat} {k v : Int} : ∀ {gs : List Fr}, (∀ g ∈ gs, g.b = 0) → (zip gs .nil).Avl → (zip gs (leaf q k v)).ht = (zip gs .nil).ht + 1 ∧ (zip (ups gs) (leaf q k v)).Avl
  | [], _, _ => ⟨by simp [zip, leaf, T.ht], by simp [zip, ups, leaf, T.Avl, T.ht]⟩
  | g :: gs, hz, ha => by
    have ha' : (g.fill (zip gs .nil)).Avl := ha
    obtain ⟨h1, h2, h3, h4, h5⟩ := (fill_avl _ _).1 ha'
    have hg := hz g (by simp)
    obtain ⟨i1, i2⟩ := zero_ht (q := q) (k := k) (v := v) (fun x hx => hz x (by simp [hx])) h5
    have e : g.sib.ht = (zip gs .nil).ht := by
      cases hd : g.d <;> rw [hd] at h1 <;> simp only [Bool.false_eq_true, if_true, if_false] at h1 <;> omega
    constructor
    · show (g.fill (zip gs (leaf q k v))).ht = (g.fill (zip gs .nil)).ht + 1
      rw [fill_ht, fill_ht, i1, e]
      omega
    · show (g.up.fill (zip (ups gs) (leaf q k v))).Avl
      rw [fill_avl]
      have e2 : g.up.sib = g.sib := rfl
      have e3 : g.up.d = g.d := rfl
      have e4 : g.up.b = g.b + (if g.d then 1 else -1) := rfl
      rw [ups_ht, i1, e2, e3, e4, hg, e]
      refine ⟨?_, ?_, ?_, h4, i2⟩ <;> cases g.d <;> simp <;> omega
theorem zip_put {t t' : T} (ha : t'.Avl) (hh : t'.ht = t.ht) : ∀ {fs : List Fr}, (zip fs t).Avl → (zip fs t').Avl ∧ (zip fs t').ht = (zip fs t).ht
  | [], _ => ⟨ha, hh⟩
  | f :: fs, h => by
    obtain ⟨h1, h2, h3, h4, h5⟩ := (fill_avl f _).1 h
    obtain ⟨i1, i2⟩ := zip_put ha hh h5
    refine ⟨(fill_avl f _).2 ⟨by rw [i2]; exact h1, h2, h3, h4, i1⟩, ?_⟩
    show (f.fill (zip fs t')).ht = (f.fill (zip fs t)).ht
    rw [fill_ht, fill_ht, i2]
theorem zip_sub {t : T} : ∀ {fs : List Fr}, (zip fs t).Avl → t.Avl
  | [], h => h
  | f :: fs, h => zip_sub ((fill_avl f _).1 h).2.2.2.2
/-- What a tree becomes that hangs too low on the right, or on the left. -/
def rotR : T → T
  | .node a _ l (.node c 1 x y kc vc) ka va => .node c 0 (.node a 0 l x ka va) y kc vc
  | .node a _ l (.node c _ (.node m bm u v km vm) y kc vc) ka va => .node m 0 (.node a (if bm = 1 then -1 else 0) l u ka va) (.node c (if bm = -1 then 1 else 0) v y kc vc) km vm
  | t => t
def rotL : T → T
  | .node a _ (.node c (-1) y x kc vc) l ka va => .node c 0 y (.node a 0 x l ka va) kc vc
  | .node a _ (.node c _ y (.node m bm v u km vm) kc vc) l ka va => .node m 0 (.node c (if bm = 1 then -1 else 0) y v kc vc) (.node a (if bm = -1 then 1 else 0) u l ka va) km vm
  | t => t
theorem node_inj_b {a a' : Nat} {b b' : Int} {l l' r r' : T} {k k' v v' : Int} (h : T.node a b l r k v = T.node a' b' l' r' k' v') : b = b' := by cases h; rfl
/-- What hangs too low on the right. -/
theorem rotR_cases {l N : T} (hN : N.Avl) (h2 : N.ht - l.ht = 2) (hb : ∀ a l r k v, N ≠ .node a 0 l r k v) :
    (∃ c x y kc vc, N = .node c 1 x y kc vc) ∨ (∃ c m bm u v km vm y kc vc, N = .node c (-1) (.node m bm u v km vm) y kc vc ∧ (bm = -1 ∨ bm = 0 ∨ bm = 1)) := by
  have hl := l.ht_nonneg
  match N, hN, h2, hb with
  | .nil, _, h2, _ => simp [T.ht] at h2; omega
  | .node c b x y kc vc, ⟨h1, h3, h4, h5, h6⟩, h2, hb =>
    by_cases e1 : b = 1
    · subst e1; exact Or.inl ⟨c, x, y, kc, vc, rfl⟩
    · have e0 : b ≠ 0 := fun e => hb c x y kc vc (by rw [e])
      have e2 : b = -1 := by omega
      subst e2
      match x, h1, h5 with
      | .nil, h1, _ => have := y.ht_nonneg; simp [T.ht] at h1; omega
      | .node m bm u v km vm, h1, ⟨g1, g2, g3, _, _⟩ => exact Or.inr ⟨c, m, bm, u, v, km, vm, y, kc, vc, rfl, by omega⟩
theorem rotL_cases {l N : T} (hN : N.Avl) (h2 : N.ht - l.ht = 2) (hb : ∀ a l r k v, N ≠ .node a 0 l r k v) :
    (∃ c x y kc vc, N = .node c (-1) y x kc vc) ∨ (∃ c m bm u v km vm y kc vc, N = .node c 1 y (.node m bm v u km vm) kc vc ∧ (bm = -1 ∨ bm = 0 ∨ bm = 1)) := by
  have hl := l.ht_nonneg
  match N, hN, h2, hb with
  | .nil, _, h2, _ => simp [T.ht] at h2; omega
  | .node c b y x kc vc, ⟨h1, h3, h4, h5, h6⟩, h2, hb =>
    by_cases e1 : b = -1
    · subst e1; exact Or.inl ⟨c, x, y, kc, vc, rfl⟩
    · have e0 : b ≠ 0 := fun e => hb c y x kc vc (by rw [e])
      have e2 : b = 1 := by omega
      subst e2
      match x, h1, h6 with
      | .nil, h1, _ => have := y.ht_nonneg; simp [T.ht] at h1; omega
      | .node m bm v u km vm, h1, ⟨g1, g2, g3, _, _⟩ => exact Or.inr ⟨c, m, bm, u, v, km, vm, y, kc, vc, rfl, by omega⟩
theorem rotR_ok {a : Nat} {b : Int} {l N : T} {k v : Int} (hl : l.Avl) (hN : N.Avl) (h2 : N.ht - l.ht = 2) (hb : ∀ a l r k v, N ≠ .node a 0 l r k v) :
    (rotR (.node a b l N k v)).Avl ∧ (rotR (.node a b l N k v)).ht = N.ht ∧ (rotR (.node a b l N k v)).toL = (T.node a b l N k v).toL ∧ (rotR (.node a b l N k v)).bl.Perm (T.node a b l N k v).bl := by
  rcases rotR_cases hN h2 hb with ⟨c, x, y, kc, vc, rfl⟩ | ⟨c, m, bm, u, w, km, vm, y, kc, vc, rfl, hm⟩
  · obtain ⟨h1, h3, h4, h5, h6⟩ := hN
    simp only [T.ht] at h2
    refine ⟨?_, ?_, by simp [rotR, T.toL], ?_⟩
    · simp only [rotR, T.Avl, T.ht]
      refine ⟨by omega, by omega, by omega, ⟨by omega, by omega, by omega, hl, h5⟩, h6⟩
    · simp only [rotR, T.ht]; omega
    · simp only [rotR, T.bl]
      rw [List.perm_iff_count]
      intro z
      simp only [List.count_cons, List.count_append]
      omega
  · obtain ⟨h1, h3, h4, ⟨g1, g3, g4, g5, g6⟩, h6⟩ := hN
    simp only [T.ht] at h2 h1
    refine ⟨?_, ?_, by simp [rotR, T.toL], ?_⟩
    · simp only [rotR, T.Avl, T.ht]
      refine ⟨?_, by omega, by omega, ⟨?_, ?_, ?_, hl, g5⟩, ⟨?_, ?_, ?_, g6, h6⟩⟩ <;> rcases hm with rfl | rfl | rfl <;> (try simp) <;> omega
    · simp only [rotR, T.ht]; omega
    · simp only [rotR, T.bl]
      rw [List.perm_iff_count]
      intro z
      simp only [List.count_cons, List.count_append]
      omega
theorem rotL_ok {a : Nat} {b : Int} {l N : T} {k v : Int} (hl : l.Avl) (hN : N.Avl) (h2 : N.ht - l.ht = 2) (hb : ∀ a l r k v, N ≠ .node a 0 l r k v) :
    (rotL (.node a b N l k v)).Avl ∧ (rotL (.node a b N l k v)).ht = N.ht ∧ (rotL (.node a b N l k v)).toL = (T.node a b N l k v).toL ∧ (rotL (.node a b N l k v)).bl.Perm (T.node a b N l k v).bl := by
  rcases rotL_cases hN h2 hb with ⟨c, x, y, kc, vc, rfl⟩ | ⟨c, m, bm, u, w, km, vm, y, kc, vc, rfl, hm⟩
  · obtain ⟨h1, h3, h4, h5, h6⟩ := hN
    simp only [T.ht] at h2
    refine ⟨?_, ?_, by simp [rotL, T.toL], ?_⟩
    · simp only [rotL, T.Avl, T.ht]
      refine ⟨by omega, by omega, by omega, h5, ⟨by omega, by omega, by omega, h6, hl⟩⟩
    · simp only [rotL, T.ht]; omega
    · simp only [rotL, T.bl]
      rw [List.perm_iff_count]
      intro z
      simp only [List.count_cons, List.count_append]
      omega
  · obtain ⟨h1, h3, h4, h5, ⟨g1, g3, g4, g5, g6⟩⟩ := hN
    simp only [T.ht] at h2 h1
    refine ⟨?_, ?_, by simp [rotL, T.toL], ?_⟩
    · simp only [rotL, T.Avl, T.ht]
      refine ⟨?_, by omega, by omega, ⟨?_, ?_, ?_, h5, g5⟩, ⟨?_, ?_, ?_, g6, hl⟩⟩ <;> rcases hm with rfl | rfl | rfl <;> (try simp) <;> omega
    · simp only [rotL, T.ht]; omega
    · simp only [rotL, T.bl]
      rw [List.perm_iff_count]
      intro z
      simp only [List.count_cons, List.count_append]
      omega
/-- The tree of s, whose way goes on through gs to a new leaf. -/
def low (s : Fr) (gs : List Fr) (q : Nat) (k v : Int) : T := s.up.fill (zip (ups gs) (leaf q k v))
def heavy (s : Fr) : Bool := s.b == (if s.d then 1 else -1)
def fixed (s : Fr) (gs : List Fr) (q : Nat) (k v : Int) : T := if heavy s then (if s.d then rotR (low s gs q k v) else rotL (low s gs q k v)) else low s gs q k v
theorem top_ne {gs : List Fr} {q : Nat} {k v : Int} (hz : ∀ g ∈ gs, g.b = 0) (hne : gs ≠ []) : ∀ a l r k' v', zip (ups gs) (leaf q k v) ≠ .node a 0 l r k' v' := by
  intro a l r k' v' e
  match gs, hne with
  | g :: gs, _ =>
    have hg := hz g (by simp)
    have e : g.up.fill (zip (ups gs) (leaf q k v)) = .node a 0 l r k' v' := e
    unfold Fr.fill at e
    have e2 : g.up.b = 0 := by
      cases hd : g.up.d <;> rw [hd] at e <;> simp only [if_true, if_false, Bool.false_eq_true] at e <;> exact node_inj_b e
    have e3 : g.up.b = g.b + (if g.d then 1 else -1) := rfl
    rw [hg] at e3
    cases hd : g.d <;> rw [hd] at e3 <;> simp at e3 <;> omega
theorem heavy_ne {s : Fr} {gs : List Fr} (ha : (s.fill (zip gs .nil)).Avl) (hh : heavy s = true) : gs ≠ [] ∧ (zip gs .nil).ht = s.sib.ht + 1 := by
  obtain ⟨h1, h2, h3, h4, h5⟩ := (fill_avl _ _).1 ha
  unfold heavy at hh
  have hb : s.b = (if s.d then 1 else -1) := by simpa using hh
  have e : (zip gs .nil).ht = s.sib.ht + 1 := by
    cases hd : s.d <;> rw [hd] at h1 hb <;> simp only [if_true, if_false, Bool.false_eq_true] at h1 hb <;> omega
  refine ⟨fun e2 => ?_, e⟩
  subst e2
  have := s.sib.ht_nonneg
  simp [zip, T.ht] at e
  omega
theorem low_toL (s : Fr) (gs : List Fr) (q : Nat) (k v : Int) : (low s gs q k v).toL = (s.fill (zip gs (leaf q k v))).toL := by
  have h1 : low s gs q k v = zip (ups (s :: gs)) (leaf q k v) := rfl
  have h2 : s.fill (zip gs (leaf q k v)) = zip (s :: gs) (leaf q k v) := rfl
  rw [h1, h2, zip_toL, zip_toL, pre_ups, post_ups]
/-- The tree behind an insertion is balanced, and has one more. -/
theorem ins_avl {fs gs : List Fr} {s : Fr} {q : Nat} {k v : Int} (hz : ∀ g ∈ gs, g.b = 0) (hs : s.b ≠ 0 ∨ fs = []) (ha : (zip fs (s.fill (zip gs .nil))).Avl) :
    (zip fs (fixed s gs q k v)).Avl ∧ (fixed s gs q k v).toL = (s.fill (zip gs (leaf q k v))).toL ∧ (fixed s gs q k v).bl.Perm (low s gs q k v).bl := by
  have hs1 := zip_sub ha
  obtain ⟨h1, h2, h3, h4, h5⟩ := (fill_avl _ _).1 hs1
  obtain ⟨i1, i2⟩ := zero_ht (q := q) (k := k) (v := v) hz h5
  have e2 : s.up.sib = s.sib := rfl
  have e3 : s.up.d = s.d := rfl
  have e4 : s.up.b = s.b + (if s.d then 1 else -1) := rfl
  cases hh : heavy s
  · have hf : fixed s gs q k v = low s gs q k v := by unfold fixed; rw [hh]; rfl
    rw [hf]
    have hbn : s.b ≠ (if s.d then 1 else -1) := by
      unfold heavy at hh
      simpa using hh
    have hA : (low s gs q k v).Avl := by
      unfold low
      rw [fill_avl, ups_ht, i1, e2, e3, e4]
      refine ⟨?_, ?_, ?_, h4, i2⟩ <;> cases hd : s.d <;> rw [hd] at h1 hbn <;> simp at h1 hbn ⊢ <;> omega
    refine ⟨?_, low_toL _ _ _ _ _, List.Perm.refl _⟩
    by_cases hf0 : fs = []
    · subst hf0; exact hA
    · have hb : s.b ≠ 0 := hs.resolve_right hf0
      have hh2 : (low s gs q k v).ht = (s.fill (zip gs .nil)).ht := by
        unfold low
        rw [up_fill_ht, fill_ht, fill_ht, ups_ht, i1]
        cases hd : s.d <;> rw [hd] at h1 hbn <;> simp only [if_true, if_false, Bool.false_eq_true] at h1 hbn <;> omega
      exact (zip_put hA hh2 ha).1
  · obtain ⟨hne, hht⟩ := heavy_ne hs1 hh
    have htop := top_ne (q := q) (k := k) (v := v) hz hne
    have hN2 : (zip (ups gs) (leaf q k v)).ht - s.sib.ht = 2 := by rw [ups_ht, i1, hht]; omega
    have hold : (s.fill (zip gs .nil)).ht = s.sib.ht + 2 := by rw [fill_ht, hht]; omega
    have hNh : (zip (ups gs) (leaf q k v)).ht = s.sib.ht + 2 := by omega
    cases hd : s.d
    · have hl : low s gs q k v = .node s.a s.up.b (zip (ups gs) (leaf q k v)) s.sib s.k s.v := by
        unfold low Fr.fill
        rw [show s.up.d = false from hd]
        rfl
      have hf : fixed s gs q k v = rotL (low s gs q k v) := by unfold fixed; rw [hh, hd]; rfl
      have hr := rotL_ok (a := s.a) (b := s.up.b) (k := s.k) (v := s.v) h4 i2 hN2 htop
      rw [← hl, ← hf] at hr
      obtain ⟨r1, r2, r3, r4⟩ := hr
      refine ⟨(zip_put r1 (by rw [r2, hNh, hold]) ha).1, by rw [r3]; exact low_toL _ _ _ _ _, r4⟩
    · have hl : low s gs q k v = .node s.a s.up.b s.sib (zip (ups gs) (leaf q k v)) s.k s.v := by
        unfold low Fr.fill
        rw [show s.up.d = true from hd]
        rfl
      have hf : fixed s gs q k v = rotR (low s gs q k v) := by unfold fixed; rw [hh, hd]; rfl
      have hr := rotR_ok (a := s.a) (b := s.up.b) (k := s.k) (v := s.v) h4 i2 hN2 htop
      rw [← hl, ← hf] at hr
      obtain ⟨r1, r2, r3, r4⟩ := hr
      refine ⟨(zip_put r1 (by rw [r2, hNh, hold]) ha).1, by rw [r3]; exact low_toL _ _ _ _ _, r4⟩
/-- The nodes that are written when a tree is turned about. -/
def wrR : T → Nat → Prop
  | .node a _ l (.node c 1 x y kc vc) ka va => fun k => k = a ∨ k = c
  | .node a _ l (.node c _ (.node m bm u v km vm) y kc vc) ka va => fun k => k = a ∨ k = c ∨ k = m
  | _ => fun _ => False
def wrL : T → Nat → Prop
  | .node a _ (.node c (-1) y x kc vc) l ka va => fun k => k = a ∨ k = c
  | .node a _ (.node c _ y (.node m bm v u km vm) kc vc) l ka va => fun k => k = a ∨ k = c ∨ k = m
  | _ => fun _ => False
theorem wrR_bl {t : T} {k : Nat} (h : wrR t k) : k ∈ t.bl := by
  unfold wrR at h
  split at h
  · rcases h with rfl | rfl <;> simp [T.bl]
  · rcases h with rfl | rfl | rfl <;> simp [T.bl]
  · exact h.elim
theorem wrL_bl {t : T} {k : Nat} (h : wrL t k) : k ∈ t.bl := by
  unfold wrL at h
  split at h
  · rcases h with rfl | rfl <;> simp [T.bl]
  · rcases h with rfl | rfl | rfl <;> simp [T.bl]
  · exact h.elim
/-- The nodes of the way. -/
def OnWay (s : Fr) (gs : List Fr) (q : Nat) (k : Nat) : Prop := k = s.a ∨ (∃ g ∈ gs, k = g.a) ∨ k = q
theorem zipup_top (gs : List Fr) (q : Nat) (k v : Int) : ∃ a b l r k' v', zip (ups gs) (leaf q k v) = .node a b l r k' v' ∧ ((∃ g ∈ gs, a = g.a) ∨ a = q) := by
  cases gs with
  | nil => exact ⟨q, 0, .nil, .nil, k, v, rfl, Or.inr rfl⟩
  | cons g gs =>
    cases hd : g.d
    · exact ⟨g.a, g.up.b, zip (ups gs) (leaf q k v), g.sib, g.k, g.v, by
        show g.up.fill (zip (ups gs) (leaf q k v)) = _
        unfold Fr.fill
        rw [show g.up.d = false from hd]; rfl, Or.inl ⟨g, by simp, rfl⟩⟩
    · exact ⟨g.a, g.up.b, g.sib, zip (ups gs) (leaf q k v), g.k, g.v, by
        show g.up.fill (zip (ups gs) (leaf q k v)) = _
        unfold Fr.fill
        rw [show g.up.d = true from hd]; rfl, Or.inl ⟨g, by simp, rfl⟩⟩
/-- What hangs low is a node of the way, and so is what hangs below it on the other side. -/
theorem way_top {gs : List Fr} {q : Nat} {k v : Int} (hz : ∀ g ∈ gs, g.b = 0) (hne : gs ≠ []) :
    (∃ g, (∃ g' ∈ gs, g = g'.a) ∧ ∃ x y kc vc, zip (ups gs) (leaf q k v) = .node g 1 x y kc vc ∧ ∃ m bm u w km vm, y = .node m bm u w km vm ∧ ((∃ g ∈ gs, m = g.a) ∨ m = q)) ∨
    (∃ g, (∃ g' ∈ gs, g = g'.a) ∧ ∃ x y kc vc, zip (ups gs) (leaf q k v) = .node g (-1) x y kc vc ∧ ∃ m bm u w km vm, x = .node m bm u w km vm ∧ ((∃ g ∈ gs, m = g.a) ∨ m = q)) := by
  match gs, hne with
  | g :: gs, _ =>
    obtain ⟨m, bm, u, w, km, vm, e, hm⟩ := zipup_top gs q k v
    have hg := hz g (by simp)
    have hm' : (∃ g' ∈ g :: gs, m = g'.a) ∨ m = q := by
      rcases hm with ⟨g', h1, h2⟩ | h
      · exact Or.inl ⟨g', by simp [h1], h2⟩
      · exact Or.inr h
    have e0 : zip (ups (g :: gs)) (leaf q k v) = g.up.fill (.node m bm u w km vm) := by rw [← e]; rfl
    have e4 : g.up.b = g.b + (if g.d then 1 else -1) := rfl
    rw [hg] at e4
    cases hd : g.d
    · rw [hd] at e4
      refine Or.inr ⟨g.a, ⟨g, by simp, rfl⟩, .node m bm u w km vm, g.sib, g.k, g.v, ?_, m, bm, u, w, km, vm, rfl, hm'⟩
      rw [e0]
      unfold Fr.fill
      rw [show g.up.d = false from hd, e4]; rfl
    · rw [hd] at e4
      refine Or.inl ⟨g.a, ⟨g, by simp, rfl⟩, g.sib, .node m bm u w km vm, g.k, g.v, ?_, m, bm, u, w, km, vm, rfl, hm'⟩
      rw [e0]
      unfold Fr.fill
      rw [show g.up.d = true from hd, e4]; rfl
theorem wrR_way {s : Fr} {gs : List Fr} {q : Nat} {k v : Int} (hz : ∀ g ∈ gs, g.b = 0) (hne : gs ≠ []) (hd : s.d = true) :
    (∀ x, wrR (low s gs q k v) x → OnWay s gs q x) ∧ (∀ x, (rotR (low s gs q k v)).adr = some x → OnWay s gs q x) := by
  have hl : low s gs q k v = .node s.a s.up.b s.sib (zip (ups gs) (leaf q k v)) s.k s.v := by
    unfold low Fr.fill
    rw [show s.up.d = true from hd]; rfl
  rw [hl]
  rcases way_top (q := q) (k := k) (v := v) hz hne with ⟨g, ⟨g', h1, h2⟩, x, y, kc, vc, e, m, bm, u, w, km, vm, rfl, hm⟩ | ⟨g, ⟨g', h1, h2⟩, x, y, kc, vc, e, m, bm, u, w, km, vm, rfl, hm⟩
  · rw [e]
    refine ⟨fun z hz => ?_, fun z hz => ?_⟩
    · rcases hz with h | h
      · exact Or.inl h
      · exact Or.inr (Or.inl ⟨g', h1, h.trans h2⟩)
    · simp only [rotR, T.adr, Option.some.injEq] at hz
      exact Or.inr (Or.inl ⟨g', h1, hz ▸ h2⟩)
  · rw [e]
    have hmw : OnWay s gs q m := by
      rcases hm with ⟨g2, h3, h4⟩ | h
      · exact Or.inr (Or.inl ⟨g2, h3, h4⟩)
      · exact Or.inr (Or.inr h)
    refine ⟨fun z hz => ?_, fun z hz => ?_⟩
    · simp only [wrR] at hz
      rcases hz with h | h | h
      · exact Or.inl h
      · exact Or.inr (Or.inl ⟨g', h1, h.trans h2⟩)
      · rw [h]; exact hmw
    · simp only [rotR, T.adr, Option.some.injEq] at hz
      rw [← hz]; exact hmw
theorem wrL_way {s : Fr} {gs : List Fr} {q : Nat} {k v : Int} (hz : ∀ g ∈ gs, g.b = 0) (hne : gs ≠ []) (hd : s.d = false) :
    (∀ x, wrL (low s gs q k v) x → OnWay s gs q x) ∧ (∀ x, (rotL (low s gs q k v)).adr = some x → OnWay s gs q x) := by
  have hl : low s gs q k v = .node s.a s.up.b (zip (ups gs) (leaf q k v)) s.sib s.k s.v := by
    unfold low Fr.fill
    rw [show s.up.d = false from hd]; rfl
  rw [hl]
  rcases way_top (q := q) (k := k) (v := v) hz hne with ⟨g, ⟨g', h1, h2⟩, x, y, kc, vc, e, m, bm, u, w, km, vm, rfl, hm⟩ | ⟨g, ⟨g', h1, h2⟩, x, y, kc, vc, e, m, bm, u, w, km, vm, rfl, hm⟩
  · rw [e]
    have hmw : OnWay s gs q m := by
      rcases hm with ⟨g2, h3, h4⟩ | h
      · exact Or.inr (Or.inl ⟨g2, h3, h4⟩)
      · exact Or.inr (Or.inr h)
    refine ⟨fun z hz => ?_, fun z hz => ?_⟩
    · simp only [wrL] at hz
      rcases hz with h | h | h
      · exact Or.inl h
      · exact Or.inr (Or.inl ⟨g', h1, h.trans h2⟩)
      · rw [h]; exact hmw
    · simp only [rotL, T.adr, Option.some.injEq] at hz
      rw [← hz]; exact hmw
  · rw [e]
    refine ⟨fun z hz => ?_, fun z hz => ?_⟩
    · rcases hz with h | h
      · exact Or.inl h
      · exact Or.inr (Or.inl ⟨g', h1, h.trans h2⟩)
    · simp only [rotL, T.adr, Option.some.injEq] at hz
      exact Or.inr (Or.inl ⟨g', h1, hz ▸ h2⟩)
end Go.Proofs.Ytlppnbmaedgodaa
