/- PLAIN: the heap as plain data, and what is done to it. -/
import Derived.Test.YtbfcnimebdoagaaFP
namespace Go.Proofs.Ytbfcnimebdoagaa
set_option linter.unusedVariables false

structure FS where
  deg : Nat → Nat
  mr : Nat → Bool
  nx : Nat → Nat
  pv : Nat → Nat
  ch : Nat → Option Nat
  par : Nat → Option Nat
  pr : Nat → Int
structure WF (N : List Nat) (s : FS) (G : Option Nat → List Nat) (h : Nat → Nat) : Prop where
  nd : N.Nodup
  rings : Rings N s.nx s.pv s.par G
  ch0 : ∀ a ∈ N, s.ch a = none → G (some a) = []
  ch1 : ∀ a ∈ N, ∀ c, s.ch a = some c → c ∈ G (some a)
  own : ∀ x ∈ N, ∀ a, s.par x = some a → a ∈ N ∧ s.pr a ≤ s.pr x ∧ h x < h a
  deg : ∀ a ∈ N, s.deg a = (G (some a)).length
theorem Rings.memCongr {N M : List Nat} {nx pv : Nat → Nat} {q : Nat → Option Nat} {G : Option Nat → List Nat} (h : Rings N nx pv q G) (he : ∀ x, x ∈ M ↔ x ∈ N) : Rings M nx pv q G :=
  ⟨fun o x => by rw [h.g, he], h.nd, h.ring, fun a ha => h.inv a ((he a).1 ha)⟩
theorem WF.kid {N : List Nat} {s : FS} {G : Option Nat → List Nat} {h : Nat → Nat} (w : WF N s G h) {a x : Nat} (hx : x ∈ G (some a)) : a ∈ N ∧ x ∈ N ∧ s.pr a ≤ s.pr x ∧ h x < h a := by
  obtain ⟨h1, h2⟩ := (w.rings.g _ _).1 hx
  obtain ⟨h3, h4, h5⟩ := w.own x h1 a h2
  exact ⟨h3, h1, h4, h5⟩
theorem WF.out {N : List Nat} {s : FS} {G : Option Nat → List Nat} {h : Nat → Nat} (w : WF N s G h) {a : Nat} (ha : a ∉ N) : G (some a) = [] := by
  cases e : G (some a) with
  | nil => rfl
  | cons x t => exact absurd (w.kid (a := a) (x := x) (by rw [e]; simp)).1 ha
theorem bounded (h : Nat → Nat) : ∀ N : List Nat, ∃ K, ∀ a ∈ N, h a ≤ K := by
  intro N
  induction N with
  | nil => exact ⟨0, fun a h => by cases h⟩
  | cons x t ih =>
    obtain ⟨K, hK⟩ := ih
    refine ⟨max K (h x), fun a ha => ?_⟩
    rcases List.mem_cons.1 ha with e | e
    · subst e; omega
    · have := hK a e; omega
/-- Above each node there is a root. -/
theorem WF.root {N : List Nat} {s : FS} {G : Option Nat → List Nat} {h : Nat → Nat} (w : WF N s G h) {a : Nat} (ha : a ∈ N) : ∃ r ∈ G none, s.pr r ≤ s.pr a := by
  obtain ⟨K, hK⟩ := bounded h N
  have key : ∀ n a, a ∈ N → K - h a ≤ n → ∃ r ∈ G none, s.pr r ≤ s.pr a := by
    intro n
    induction n with
    | zero =>
      intro a ha hn
      cases e : s.par a with
      | none => exact ⟨a, (w.rings.g _ _).2 ⟨ha, e⟩, by omega⟩
      | some p =>
        obtain ⟨h1, h2, h3⟩ := w.own a ha p e
        have := hK p h1
        omega
    | succ n ih =>
      intro a ha hn
      cases e : s.par a with
      | none => exact ⟨a, (w.rings.g _ _).2 ⟨ha, e⟩, by omega⟩
      | some p =>
        obtain ⟨h1, h2, h3⟩ := w.own a ha p e
        have := hK p h1
        obtain ⟨r, hr, hle⟩ := ih p h1 (by omega)
        exact ⟨r, hr, by omega⟩
  exact key _ a ha (Nat.le_refl _)
theorem WF.none_of {N : List Nat} {s : FS} {G : Option Nat → List Nat} {h : Nat → Nat} (w : WF N s G h) (hG : G none = []) : N = [] := by
  cases e : N with
  | nil => rfl
  | cons a t =>
    obtain ⟨r, hr, _⟩ := w.root (a := a) (by rw [e]; simp)
    rw [hG] at hr
    cases hr
theorem WF.deg_lt {N : List Nat} {s : FS} {G : Option Nat → List Nat} {h : Nat → Nat} (w : WF N s G h) {a : Nat} (ha : a ∈ N) : s.deg a ≤ N.length := by
  rw [w.deg a ha]
  exact (w.rings.nd (some a)).length_le_of_subset (fun x hx => w.rings.mem hx)
/-- A heap and its least root. -/
structure HP (N : List Nat) (s : FS) (G : Option Nat → List Nat) (h : Nat → Nat) (mn : Option Nat) : Prop where
  wf : WF N s G h
  nil : mn = none → N = []
  least : ∀ m, mn = some m → m ∈ G none ∧ ∀ a ∈ G none, s.pr m ≤ s.pr a
theorem HP.all {N : List Nat} {s : FS} {G : Option Nat → List Nat} {h : Nat → Nat} {m : Nat} (w : HP N s G h (some m)) : m ∈ N ∧ ∀ a ∈ N, s.pr m ≤ s.pr a := by
  obtain ⟨h1, h2⟩ := w.least m rfl
  refine ⟨w.wf.rings.mem h1, fun a ha => ?_⟩
  obtain ⟨r, hr, hle⟩ := w.wf.root ha
  have := h2 r hr
  omega
def mst (s : FS) (o1 o2 : Option Nat) : FS :=
  match o1, o2 with
  | some a, some b => { s with nx := mnx s.nx a b, pv := mpv s.nx s.pv a b }
  | _, _ => s
def mres (s : FS) (o1 o2 : Option Nat) : Option Nat :=
  match o1, o2 with
  | none, o => o
  | some a, none => some a
  | some a, some b => if s.pr a < s.pr b then some a else some b
def FS.new (s : FS) (x : Nat) (p : Int) : FS := ⟨upd s.deg x 0, upd s.mr x false, upd s.nx x x, upd s.pv x x, upd s.ch x none, upd s.par x none, upd s.pr x p⟩
/-- States that are the same at the nodes. -/
theorem WF.congr {N : List Nat} {s s' : FS} {G : Option Nat → List Nat} {h : Nat → Nat} (w : WF N s G h) (h1 : ∀ a ∈ N, s'.deg a = s.deg a) (h3 : ∀ a ∈ N, s'.nx a = s.nx a) (h4 : ∀ a ∈ N, s'.pv a = s.pv a) (h5 : ∀ a ∈ N, s'.ch a = s.ch a) (h6 : ∀ a ∈ N, s'.par a = s.par a) (h7 : ∀ a ∈ N, s'.pr a = s.pr a) : WF N s' G h := by
  refine ⟨w.nd, w.rings.congr h3 h4 h6, fun a ha e => w.ch0 a ha ((h5 a ha).symm.trans e), fun a ha c e => w.ch1 a ha c ((h5 a ha).symm.trans e), fun x hx a e => ?_, fun a ha => (h1 a ha).trans (w.deg a ha)⟩
  obtain ⟨e1, e2, e3⟩ := w.own x hx a ((h6 x hx).symm.trans e)
  exact ⟨e1, by rw [h7 a e1, h7 x hx]; exact e2, e3⟩
theorem WF.new {N : List Nat} {s : FS} {G : Option Nat → List Nat} {h : Nat → Nat} (w : WF N s G h) {x : Nat} (p : Int) (hx : x ∉ N) : WF N (s.new x p) G h := by
  have ne : ∀ a ∈ N, a ≠ x := fun a ha e => hx (e ▸ ha)
  exact w.congr (fun a ha => upd_ne _ _ (ne a ha)) (fun a ha => upd_ne _ _ (ne a ha)) (fun a ha => upd_ne _ _ (ne a ha)) (fun a ha => upd_ne _ _ (ne a ha)) (fun a ha => upd_ne _ _ (ne a ha)) (fun a ha => upd_ne _ _ (ne a ha))
theorem mst_pr (s : FS) (o1 o2 : Option Nat) : (mst s o1 o2).pr = s.pr := by unfold mst; split <;> rfl
theorem mst_par (s : FS) (o1 o2 : Option Nat) : (mst s o1 o2).par = s.par := by unfold mst; split <;> rfl
theorem mst_ch (s : FS) (o1 o2 : Option Nat) : (mst s o1 o2).ch = s.ch := by unfold mst; split <;> rfl
theorem mst_deg (s : FS) (o1 o2 : Option Nat) : (mst s o1 o2).deg = s.deg := by unfold mst; split <;> rfl
theorem mst_mr (s : FS) (o1 o2 : Option Nat) : (mst s o1 o2).mr = s.mr := by unfold mst; split <;> rfl
theorem upd_self {α : Type} (f : Nat → α) (a : Nat) : upd f a (f a) = f := by
  funext x
  unfold upd
  split
  · rename_i e; rw [e]
  · rfl
theorem upd_eq {α : Type} {f : Nat → α} {a : Nat} {v : α} (h : f a = v) : upd f a v = f := by rw [← h]; exact upd_self f a
/-- A node that is alone comes among the roots. -/
theorem WF.rootIn {N : List Nat} {s : FS} {G : Option Nat → List Nat} {h : Nat → Nat} {x : Nat} {mn : Option Nat} (w : WF N s G h) (hx : x ∉ N) (hnx : s.nx x = x) (hpv : s.pv x = x) (hch : s.ch x = none) (hpar : s.par x = none) (hdeg : s.deg x = 0)
    (hm0 : mn = none → N = []) (hm1 : ∀ m, mn = some m → m ∈ G none) : WF (x :: N) (mst s mn (some x)) (ups G none (x :: G none)) h := by
  have hr : Rings (x :: N) (mst s mn (some x)).nx (mst s mn (some x)).pv s.par (ups G none (x :: G none)) := by
    cases mn with
    | none =>
      have hG : G none = [] := by
        cases e : G none with
        | nil => rfl
        | cons y t => have := w.rings.mem (a := y) (o := none) (by rw [e]; simp); rw [hm0 rfl] at this; cases this
      have := w.rings.insert0 hx hnx hpv hG
      rw [upd_eq hpar] at this
      rw [hG]
      exact this
    | some m =>
      have := w.rings.insert (x := x) (k := none) hx hnx (hm1 m rfl)
      rw [upd_eq hpar] at this
      exact this
  have hout := w.out hx
  refine ⟨List.nodup_cons.2 ⟨hx, w.nd⟩, by rw [mst_par]; exact hr, fun a ha e => ?_, fun a ha c e => ?_, fun y hy a e => ?_, fun a ha => ?_⟩
  · rw [mst_ch] at e
    rw [ups_ne _ _ (by simp)]
    rcases List.mem_cons.1 ha with h1 | h1
    · subst h1; exact hout
    · exact w.ch0 a h1 e
  · rw [mst_ch] at e
    rw [ups_ne _ _ (by simp)]
    rcases List.mem_cons.1 ha with h1 | h1
    · subst h1; rw [hch] at e; cases e
    · exact w.ch1 a h1 c e
  · rw [mst_par] at e
    rw [mst_pr]
    rcases List.mem_cons.1 hy with h1 | h1
    · subst h1; rw [hpar] at e; cases e
    · obtain ⟨k1, k2, k3⟩ := w.own y h1 a e
      exact ⟨List.mem_cons_of_mem _ k1, k2, k3⟩
  · rw [mst_deg, ups_ne _ _ (by simp)]
    rcases List.mem_cons.1 ha with h1 | h1
    · subst h1; rw [hdeg, hout]; rfl
    · exact w.deg a h1
theorem least_in {G : Option Nat → List Nat} {s : FS} {mn : Option Nat} {x : Nat} (hl : ∀ m, mn = some m → m ∈ G none ∧ ∀ a ∈ G none, s.pr m ≤ s.pr a) (h0 : mn = none → G none = []) :
    ∃ m, mres s mn (some x) = some m ∧ m ∈ ups G none (x :: G none) none ∧ ∀ a ∈ ups G none (x :: G none) none, s.pr m ≤ s.pr a := by
  rw [ups_at]
  cases mn with
  | none =>
    refine ⟨x, rfl, by simp, fun a ha => ?_⟩
    rw [h0 rfl] at ha
    simp at ha
    subst ha; omega
  | some m =>
    obtain ⟨h1, h2⟩ := hl m rfl
    unfold mres
    by_cases hlt : s.pr m < s.pr x
    · refine ⟨m, by simp [hlt], List.mem_cons_of_mem _ h1, fun a ha => ?_⟩
      rcases List.mem_cons.1 ha with e | e
      · subst e; omega
      · exact h2 a e
    · refine ⟨x, by simp [hlt], by simp, fun a ha => ?_⟩
      rcases List.mem_cons.1 ha with e | e
      · subst e; omega
      · have := h2 a e; omega
theorem WF.no_roots {N : List Nat} {s : FS} {G : Option Nat → List Nat} {h : Nat → Nat} (w : WF N s G h) (hN : N = []) : G none = [] := by
  cases e : G none with
  | nil => rfl
  | cons y t => have := w.rings.mem (a := y) (o := none) (by rw [e]; simp); rw [hN] at this; cases this
/-- Enqueue. -/
theorem HP.enq {N : List Nat} {s : FS} {G : Option Nat → List Nat} {h : Nat → Nat} {mn : Option Nat} (w : HP N s G h mn) {x : Nat} (p : Int) (hx : x ∉ N) :
    HP (x :: N) (mst (s.new x p) mn (some x)) (ups G none (x :: G none)) h (mres (s.new x p) mn (some x)) := by
  have w1 := w.wf.new p hx
  have hpr : ∀ a ∈ N, (s.new x p).pr a = s.pr a := fun a ha => upd_ne _ _ (fun e => hx (e ▸ ha))
  have w2 := w1.rootIn (mn := mn) hx (upd_at _ _ _) (upd_at _ _ _) (upd_at _ _ _) (upd_at _ _ _) (upd_at _ _ _) w.nil (fun m e => (w.least m e).1)
  obtain ⟨m, e, h1, h2⟩ := least_in (G := G) (s := s.new x p) (mn := mn) (x := x) (fun m e => by
    obtain ⟨k1, k2⟩ := w.least m e
    refine ⟨k1, fun a ha => ?_⟩
    rw [hpr m (w.wf.rings.mem k1), hpr a (w.wf.rings.mem ha)]
    exact k2 a ha) (fun e => w.wf.no_roots (w.nil e))
  refine ⟨w2, fun e2 => (by rw [e] at e2; cases e2), fun m2 e2 => ?_⟩
  rw [e] at e2
  cases e2
  rw [mst_pr]
  exact ⟨h1, h2⟩

/-- A node taken out of its ring. -/
def ust (s : FS) (x : Nat) : FS := { s with nx := upd s.nx (s.pv x) (s.nx x), pv := upd s.pv (s.nx x) (s.pv x) }
/-- What stands when the least root m has gone, and its children have no parent. -/
def deqSt (s : FS) (m : Nat) : FS := { ust s m with par := fun x => if s.par x = some m then none else s.par x }
def deqMn (s : FS) (m : Nat) : Option Nat := if s.nx m = m then none else some (s.nx m)
theorem deq_roots {N : List Nat} {s : FS} {G : Option Nat → List Nat} {h : Nat → Nat} (w : WF N s G h) {m : Nat} (hm : m ∈ G none) :
    (deqMn s m = none → (G none).erase m = []) ∧ ∀ y, deqMn s m = some y → y ∈ (G none).erase m := by
  obtain ⟨t, hp, p⟩ := w.rings.ring none m hm
  have hpe : t.Perm ((G none).erase m) := by
    have := hp.erase m
    rwa [List.erase_cons_head] at this
  have hnd := hp.nodup_iff.2 (w.rings.nd none)
  unfold deqMn
  cases t with
  | nil =>
    rw [if_pos (show s.nx m = m from p)]
    exact ⟨fun _ => hpe.nil_eq.symm, fun y e => by cases e⟩
  | cons y u =>
    have hym : y ≠ m := fun e => (List.nodup_cons.1 hnd).1 (by rw [← e]; simp)
    rw [p.1, if_neg hym]
    refine ⟨fun e => (by cases e), fun z e => ?_⟩
    cases e
    exact hpe.mem_iff.1 (by simp)
theorem WF.deq {N : List Nat} {s : FS} {G : Option Nat → List Nat} {h : Nat → Nat} (w : WF N s G h) {m : Nat} (hm : m ∈ G none) :
    WF (N.erase m) (mst (deqSt s m) (deqMn s m) (s.ch m)) (ups (ups (ups G none ((G none).erase m)) (some m) []) none ((G none).erase m ++ G (some m))) h := by
  have hmN := w.rings.mem hm
  obtain ⟨hr0, hr1⟩ := deq_roots w hm
  have r1 := w.rings.drop w.nd hm
  have hC : ups G none ((G none).erase m) (some m) = G (some m) := ups_ne _ _ (by simp)
  have hR : ups G none ((G none).erase m) none = (G none).erase m := ups_at _ _ _
  have e0 : ∀ o, o ≠ none → o ≠ some m → (ups (ups (ups G none ((G none).erase m)) (some m) []) none ((G none).erase m ++ G (some m))) o = G o := fun o h1 h2 => by
    rw [ups_ne _ _ h1, ups_ne _ _ h2, ups_ne _ _ h1]
  have hr : Rings (N.erase m) (mst (deqSt s m) (deqMn s m) (s.ch m)).nx (mst (deqSt s m) (deqMn s m) (s.ch m)).pv (fun x => if s.par x = some m then none else s.par x) (ups (ups (ups G none ((G none).erase m)) (some m) []) none ((G none).erase m ++ G (some m))) := by
    cases ec : s.ch m with
    | none =>
      have hk := w.ch0 m hmN ec
      rw [show mst (deqSt s m) (deqMn s m) none = deqSt s m by unfold mst; split <;> simp_all]
      have e1 : (ups (ups (ups G none ((G none).erase m)) (some m) []) none ((G none).erase m ++ G (some m))) = ups G none ((G none).erase m) := by
        funext o
        by_cases h1 : o = none
        · subst h1; rw [ups_at, ups_at, hk, List.append_nil]
        · rw [ups_ne _ _ h1]
          by_cases h2 : o = some m
          · subst h2; rw [ups_at, hC, hk]
          · rw [ups_ne _ _ h2]
      rw [e1]
      refine r1.congr (fun _ _ => rfl) (fun _ _ => rfl) (fun a ha => ?_)
      have haN := (w.nd.mem_erase_iff.1 ha).2
      by_cases hp : s.par a = some m
      · have := (w.rings.g _ a).2 ⟨haN, hp⟩
        rw [hk] at this
        cases this
      · simp [hp]
    | some c =>
      have hc := w.ch1 m hmN c ec
      cases en : deqMn s m with
      | none =>
        have := r1.rename (k := none) (j := some m) (by simp) (by rw [hR, hr0 en])
        rw [hC] at this
        rw [hr0 en, List.nil_append]
        rw [hr0 en] at this
        exact this
      | some y =>
        have := r1.join (k := none) (j := some m) (a := y) (b := c) (by simp) (by rw [hR]; exact hr1 y en) (by rw [hC]; exact hc)
        rw [hR, hC] at this
        exact this
  have hsub : ∀ a ∈ N.erase m, a ∈ N ∧ a ≠ m := fun a ha => ⟨(w.nd.mem_erase_iff.1 ha).2, (w.nd.mem_erase_iff.1 ha).1⟩
  refine ⟨w.nd.erase m, by rw [mst_par]; exact hr, fun a ha e => ?_, fun a ha c e => ?_, fun x hx a e => ?_, fun a ha => ?_⟩
  · rw [mst_ch] at e
    obtain ⟨h1, h2⟩ := hsub a ha
    rw [e0 _ (by simp) (by simp [h2])]
    exact w.ch0 a h1 e
  · rw [mst_ch] at e
    obtain ⟨h1, h2⟩ := hsub a ha
    rw [e0 _ (by simp) (by simp [h2])]
    exact w.ch1 a h1 c e
  · rw [mst_par] at e
    rw [mst_pr]
    obtain ⟨h1, h2⟩ := hsub x hx
    have e' : (if s.par x = some m then none else s.par x) = some a := e
    by_cases hp : s.par x = some m
    · rw [if_pos hp] at e'; cases e'
    · rw [if_neg hp] at e'
      obtain ⟨k1, k2, k3⟩ := w.own x h1 a e'
      exact ⟨w.nd.mem_erase_iff.2 ⟨fun e3 => hp (e3 ▸ e'), k1⟩, k2, k3⟩
  · rw [mst_deg]
    obtain ⟨h1, h2⟩ := hsub a ha
    rw [e0 _ (by simp) (by simp [h2])]
    exact w.deg a h1

/-- The root b under the root a. -/
def alone (s : FS) (b : Nat) : FS := { ust s b with nx := upd (ust s b).nx b b, pv := upd (ust s b).pv b b }
def linkSt (s : FS) (a b : Nat) : FS :=
  let s3 := mst (alone s b) (s.ch a) (some b)
  { s3 with ch := upd s.ch a (mres (alone s b) (s.ch a) (some b)), par := upd s.par b (some a), mr := upd s.mr b false, deg := upd s.deg a (s.deg a + 1) }
def linkG (G : Option Nat → List Nat) (a b : Nat) : Option Nat → List Nat := ups (ups G none ((G none).erase b)) (some a) (b :: G (some a))
theorem mres_or (s : FS) (o : Option Nat) (b : Nat) : mres s o (some b) = some b ∨ ∃ c, o = some c ∧ mres s o (some b) = some c := by
  cases o with
  | none => exact Or.inl rfl
  | some c =>
    unfold mres
    by_cases h : s.pr c < s.pr b
    · exact Or.inr ⟨c, rfl, by simp [h]⟩
    · exact Or.inl (by simp [h])
/-- x alone: out of its ring, and no ring yet. -/
theorem alone_rings {N : List Nat} {s : FS} {G : Option Nat → List Nat} {h : Nat → Nat} (w : WF N s G h) {b : Nat} {k : Option Nat} (hb : b ∈ G k) :
    Rings (N.erase b) (alone s b).nx (alone s b).pv s.par (ups G k ((G k).erase b)) := by
  have ne : ∀ x ∈ N.erase b, x ≠ b := fun x hx => (w.nd.mem_erase_iff.1 hx).1
  exact (w.rings.drop w.nd hb).congr (fun x hx => upd_ne _ _ (ne x hx)) (fun x hx => upd_ne _ _ (ne x hx)) (fun _ _ => rfl)
theorem WF.link {N : List Nat} {s : FS} {G : Option Nat → List Nat} {h : Nat → Nat} (w : WF N s G h) {a b : Nat} (ha : a ∈ G none) (hb : b ∈ G none) (hab : a ≠ b) (hle : s.pr a ≤ s.pr b) :
    WF N (linkSt s a b) (linkG G a b) (upd h a (max (h a) (h b + 1))) := by
  have haN := w.rings.mem ha
  have hbN := w.rings.mem hb
  have pa := ((w.rings.g _ _).1 ha).2
  have pb := ((w.rings.g _ _).1 hb).2
  have hba : b ∉ N.erase b := fun e => (w.nd.mem_erase_iff.1 e).1 rfl
  have r1 := alone_rings w hb
  have hCa : ups G none ((G none).erase b) (some a) = G (some a) := ups_ne _ _ (by simp)
  have hr : Rings N (linkSt s a b).nx (linkSt s a b).pv (linkSt s a b).par (linkG G a b) := by
    have key : Rings (b :: N.erase b) (linkSt s a b).nx (linkSt s a b).pv (upd s.par b (some a)) (linkG G a b) := by
      unfold linkG
      cases ec : s.ch a with
      | none =>
        have := r1.insert0 (x := b) (k := some a) hba (upd_at _ _ _) (upd_at _ _ _) (by rw [hCa]; exact w.ch0 a haN ec)
        rw [w.ch0 a haN ec]
        have e1 : (linkSt s a b).nx = (alone s b).nx := by unfold linkSt; rw [ec]; rfl
        have e2 : (linkSt s a b).pv = (alone s b).pv := by unfold linkSt; rw [ec]; rfl
        rw [e1, e2]
        exact this
      | some c =>
        have := r1.insert (x := b) (b := c) (k := some a) hba (upd_at _ _ _) (by rw [hCa]; exact w.ch1 a haN c ec)
        rw [hCa] at this
        have e1 : (linkSt s a b).nx = mnx (alone s b).nx c b := by unfold linkSt; rw [ec]; rfl
        have e2 : (linkSt s a b).pv = mpv (alone s b).nx (alone s b).pv c b := by unfold linkSt; rw [ec]; rfl
        rw [e1, e2]
        exact this
    refine key.memCongr fun x => ?_
    rw [List.mem_cons, w.nd.mem_erase_iff]
    by_cases e : x = b
    · subst e; simp [hbN]
    · simp [e]
  have hG : ∀ o, o ≠ none → o ≠ some a → linkG G a b o = G o := fun o h1 h2 => by unfold linkG; rw [ups_ne _ _ h2, ups_ne _ _ h1]
  have hGa : linkG G a b (some a) = b :: G (some a) := ups_at _ _ _
  refine ⟨w.nd, hr, fun x hx e => ?_, fun x hx c e => ?_, fun x hx y e => ?_, fun x hx => ?_⟩
  · by_cases e2 : x = a
    · subst e2
      have e' : mres (alone s b) (s.ch x) (some b) = none := by simpa [linkSt] using e
      rcases mres_or (alone s b) (s.ch x) b with k | ⟨c, _, k⟩ <;> rw [k] at e' <;> cases e'
    · have e' : s.ch x = none := by simpa [linkSt, upd_ne _ _ e2] using e
      rw [hG _ (by simp) (by simp [e2])]
      exact w.ch0 x hx e'
  · by_cases e2 : x = a
    · subst e2
      have e' : mres (alone s b) (s.ch x) (some b) = some c := by simpa [linkSt] using e
      rw [hGa]
      rcases mres_or (alone s b) (s.ch x) b with k | ⟨d, k0, k⟩ <;> rw [k] at e' <;> cases e'
      · simp
      · exact List.mem_cons_of_mem _ (w.ch1 x hx c k0)
    · have e' : s.ch x = some c := by simpa [linkSt, upd_ne _ _ e2] using e
      rw [hG _ (by simp) (by simp [e2])]
      exact w.ch1 x hx c e'
  · have e' : upd s.par b (some a) x = some y := e
    have hpr : (linkSt s a b).pr = s.pr := by unfold linkSt; exact mst_pr _ _ _
    rw [hpr]
    by_cases e2 : x = b
    · subst e2
      rw [upd_at] at e'
      cases e'
      refine ⟨haN, hle, ?_⟩
      rw [upd_at, upd_ne _ _ (Ne.symm hab)]
      omega
    · rw [upd_ne _ _ e2] at e'
      obtain ⟨k1, k2, k3⟩ := w.own x hx y e'
      refine ⟨k1, k2, ?_⟩
      have hxa : x ≠ a := fun e3 => by rw [e3, pa] at e'; cases e'
      rw [upd_ne _ _ hxa]
      by_cases e3 : y = a
      · subst e3; rw [upd_at]; omega
      · rw [upd_ne _ _ e3]; exact k3
  · show upd s.deg a (s.deg a + 1) x = _
    by_cases e2 : x = a
    · subst e2; rw [upd_at, hGa, w.deg x hx]; rfl
    · rw [upd_ne _ _ e2, hG _ (by simp) (by simp [e2])]; exact w.deg x hx
end Go.Proofs.Ytbfcnimebdoagaa
