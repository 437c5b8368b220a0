/- PLAIN: rings of nodes, each node in the ring of its group. -/
import Derived.Test.YtbfcnimebdoagaaFF
namespace Go.Proofs.Ytbfcnimebdoagaa
set_option linter.unusedVariables false

def upd {α : Type} (f : Nat → α) (a : Nat) (v : α) : Nat → α := fun x => if x = a then v else f x
@[simp] theorem upd_at {α : Type} (f : Nat → α) (a : Nat) (v : α) : upd f a v a = v := by simp [upd]
theorem upd_ne {α : Type} (f : Nat → α) {a x : Nat} (v : α) (h : x ≠ a) : upd f a v x = f x := by simp [upd, h]
/-- From a by the list to b. -/
def Path (nx : Nat → Nat) : Nat → List Nat → Nat → Prop
  | a, [], b => nx a = b
  | a, c :: l, b => nx a = c ∧ Path nx c l b
theorem path_app {nx : Nat → Nat} {c b : Nat} {v : List Nat} : ∀ {a : Nat} {u : List Nat}, Path nx a (u ++ c :: v) b ↔ Path nx a u c ∧ Path nx c v b := by
  intro a u
  induction u generalizing a with
  | nil => exact Iff.rfl
  | cons d u ih => simp [Path, ih, and_assoc]
theorem path_congr {nx nx' : Nat → Nat} : ∀ {a : Nat} {u : List Nat} {b : Nat}, (∀ w ∈ a :: u, nx' w = nx w) → Path nx a u b → Path nx' a u b := by
  intro a u
  induction u generalizing a with
  | nil => intro b h p; exact (h a (by simp)).trans p
  | cons d u ih => intro b h p; exact ⟨(h a (by simp)).trans p.1, ih (fun w hw => h w (List.mem_cons_of_mem _ hw)) p.2⟩
theorem path_first {nx nx' : Nat → Nat} {y y' b : Nat} {u : List Nat} (h0 : nx' y' = nx y) (h : ∀ w ∈ u, nx' w = nx w) (p : Path nx y u b) : Path nx' y' u b := by
  cases u with
  | nil => exact h0.trans p
  | cons d u => exact ⟨h0.trans p.1, path_congr h p.2⟩
theorem path_last {nx : Nat → Nat} {x : Nat} : ∀ {y : Nat} {u : List Nat}, (y :: u).Nodup → Path nx y u x → ∃ z ∈ y :: u, nx z = x ∧ ∀ (nx' : Nat → Nat) (b : Nat), (∀ w ∈ y :: u, w ≠ z → nx' w = nx w) → nx' z = b → Path nx' y u b := by
  intro y u
  induction u generalizing y with
  | nil => intro _ p; exact ⟨y, by simp, p, fun nx' b _ e => e⟩
  | cons d u ih =>
    intro hn p
    obtain ⟨z, hz, e, hp⟩ := ih (List.nodup_cons.1 hn).2 p.2
    refine ⟨z, List.mem_cons_of_mem _ hz, e, fun nx' b h eb => ⟨?_, hp nx' b (fun w hw => h w (List.mem_cons_of_mem _ hw)) eb⟩⟩
    rw [h y (by simp) (fun e2 => (List.nodup_cons.1 hn).1 (e2 ▸ hz))]
    exact p.1
/-- The nodes of l are a ring. -/
def IsRing (nx : Nat → Nat) (l : List Nat) : Prop := ∀ x ∈ l, ∃ t, (x :: t).Perm l ∧ Path nx x t x
theorem ring_of {nx : Nat → Nat} {a : Nat} {t l : List Nat} (hp : (a :: t).Perm l) (h : Path nx a t a) : IsRing nx l := by
  intro x hx
  have hx2 : x ∈ a :: t := hp.mem_iff.2 hx
  rcases List.mem_cons.1 hx2 with e | hm
  · subst e; exact ⟨t, hp, h⟩
  · obtain ⟨u, v, rfl⟩ := List.append_of_mem hm
    obtain ⟨p1, p2⟩ := path_app.1 h
    refine ⟨v ++ a :: u, List.Perm.trans ?_ hp, path_app.2 ⟨p2, p1⟩⟩
    have : (x :: (v ++ a :: u)) = (x :: v) ++ (a :: u) := rfl
    rw [this]
    exact List.perm_append_comm
theorem IsRing.congr {nx nx' : Nat → Nat} {l : List Nat} (h : IsRing nx l) (he : ∀ w ∈ l, nx' w = nx w) : IsRing nx' l := by
  intro x hx
  obtain ⟨t, hp, p⟩ := h x hx
  exact ⟨t, hp, path_congr (fun w hw => he w (hp.mem_iff.1 hw)) p⟩
theorem IsRing.perm {nx : Nat → Nat} {l m : List Nat} (h : IsRing nx l) (hp : l.Perm m) : IsRing nx m := by
  intro x hx
  obtain ⟨t, h1, p⟩ := h x (hp.mem_iff.2 hx)
  exact ⟨t, h1.trans hp, p⟩
theorem ring_nil (nx : Nat → Nat) : IsRing nx [] := fun _ h => by cases h

/-- Each node of N in the ring of its group. -/
structure Rings (N : List Nat) (nx pv : Nat → Nat) (q : Nat → Option Nat) (G : Option Nat → List Nat) : Prop where
  g : ∀ o x, x ∈ G o ↔ x ∈ N ∧ q x = o
  nd : ∀ o, (G o).Nodup
  ring : ∀ o, IsRing nx (G o)
  inv : ∀ a ∈ N, pv (nx a) = a
def ups (G : Option Nat → List Nat) (o : Option Nat) (l : List Nat) : Option Nat → List Nat := fun k => if k = o then l else G k
@[simp] theorem ups_at (G : Option Nat → List Nat) (o : Option Nat) (l : List Nat) : ups G o l o = l := by simp [ups]
theorem ups_ne (G : Option Nat → List Nat) {o k : Option Nat} (l : List Nat) (h : k ≠ o) : ups G o l k = G k := by simp [ups, h]

theorem Rings.of {N : List Nat} {nx pv : Nat → Nat} {q : Nat → Option Nat} {G : Option Nat → List Nat} (h : Rings N nx pv q G) {a : Nat} (ha : a ∈ N) : a ∈ G (q a) := (h.g _ a).2 ⟨ha, rfl⟩
theorem Rings.next {N : List Nat} {nx pv : Nat → Nat} {q : Nat → Option Nat} {G : Option Nat → List Nat} (h : Rings N nx pv q G) {a : Nat} {o : Option Nat} (ha : a ∈ G o) : nx a ∈ G o := by
  obtain ⟨t, hp, p⟩ := h.ring o a ha
  cases t with
  | nil => rw [show nx a = a from p]; exact ha
  | cons c t => exact hp.mem_iff.1 (by rw [p.1]; simp)
theorem Rings.prev {N : List Nat} {nx pv : Nat → Nat} {q : Nat → Option Nat} {G : Option Nat → List Nat} (h : Rings N nx pv q G) {a : Nat} {o : Option Nat} (ha : a ∈ G o) : pv a ∈ G o ∧ nx (pv a) = a := by
  obtain ⟨t, hp, p⟩ := h.ring o a ha
  obtain ⟨z, hz, e, _⟩ := path_last (hp.nodup_iff.2 (h.nd o)) p
  have hz2 := hp.mem_iff.1 hz
  have := h.inv z ((h.g o z).1 hz2).1
  rw [e] at this
  rw [this]
  exact ⟨hz2, e⟩
theorem Rings.mem {N : List Nat} {nx pv : Nat → Nat} {q : Nat → Option Nat} {G : Option Nat → List Nat} (h : Rings N nx pv q G) {a : Nat} {o : Option Nat} (ha : a ∈ G o) : a ∈ N := ((h.g o a).1 ha).1
theorem Rings.nextN {N : List Nat} {nx pv : Nat → Nat} {q : Nat → Option Nat} {G : Option Nat → List Nat} (h : Rings N nx pv q G) {a : Nat} (ha : a ∈ N) : nx a ∈ N := h.mem (h.next (h.of ha))
theorem Rings.prevN {N : List Nat} {nx pv : Nat → Nat} {q : Nat → Option Nat} {G : Option Nat → List Nat} (h : Rings N nx pv q G) {a : Nat} (ha : a ∈ N) : pv a ∈ N := h.mem (h.prev (h.of ha)).1
theorem Rings.inj {N : List Nat} {nx pv : Nat → Nat} {q : Nat → Option Nat} {G : Option Nat → List Nat} (h : Rings N nx pv q G) {a b : Nat} (ha : a ∈ N) (hb : b ∈ N) (e : nx a = nx b) : a = b := by
  rw [← h.inv a ha, e, h.inv b hb]
theorem Rings.congr {N : List Nat} {nx pv nx' pv' : Nat → Nat} {q q' : Nat → Option Nat} {G : Option Nat → List Nat} (h : Rings N nx pv q G) (h1 : ∀ a ∈ N, nx' a = nx a) (h2 : ∀ a ∈ N, pv' a = pv a) (h3 : ∀ a ∈ N, q' a = q a) : Rings N nx' pv' q' G := by
  refine ⟨fun o x => ?_, h.nd, fun o => (h.ring o).congr fun w hw => h1 w (h.mem hw), fun a ha => ?_⟩
  · rw [h.g]
    exact ⟨fun ⟨a, b⟩ => ⟨a, (h3 x a).trans b⟩, fun ⟨a, b⟩ => ⟨a, (h3 x a).symm.trans b⟩⟩
  · rw [h1 a ha, h2 _ (h.nextN ha), h.inv a ha]
/-- A node goes. -/
theorem Rings.drop {N : List Nat} {nx pv : Nat → Nat} {q : Nat → Option Nat} {G : Option Nat → List Nat} (h : Rings N nx pv q G) (hN : N.Nodup) {x : Nat} {k : Option Nat} (hx : x ∈ G k) :
    Rings (N.erase x) (upd nx (pv x) (nx x)) (upd pv (nx x) (pv x)) q (ups G k ((G k).erase x)) := by
  have hxN := h.mem hx
  obtain ⟨hpv, hnp⟩ := h.prev hx
  refine ⟨fun o y => ?_, fun o => ?_, fun o => ?_, fun a ha => ?_⟩
  · rw [hN.mem_erase_iff]
    by_cases ho : o = k
    · subst ho
      rw [ups_at, (h.nd o).mem_erase_iff, h.g, and_assoc]
    · rw [ups_ne _ _ ho, h.g]
      refine ⟨fun ⟨a, b⟩ => ⟨⟨fun e => ?_, a⟩, b⟩, fun ⟨⟨_, a⟩, b⟩ => ⟨a, b⟩⟩
      subst e
      exact ho (b.symm.trans ((h.g k y).1 hx).2)
  · by_cases ho : o = k
    · subst ho; rw [ups_at]; exact (h.nd o).erase x
    · rw [ups_ne _ _ ho]; exact h.nd o
  · by_cases ho : o = k
    · subst ho
      rw [ups_at]
      obtain ⟨t, hp, p⟩ := h.ring o x hx
      have hnd := hp.nodup_iff.2 (h.nd o)
      have hpe : t.Perm ((G o).erase x) := by
        have := hp.erase x
        rwa [List.erase_cons_head] at this
      cases t with
      | nil => rw [hpe.nil_eq.symm]; exact ring_nil _
      | cons y u =>
        obtain ⟨e1, p1⟩ := p
        obtain ⟨z, hz, e, hpz⟩ := path_last (List.nodup_cons.1 hnd).2 p1
        have hzp : pv x = z := by rw [← e]; exact h.inv z (h.mem (hp.mem_iff.1 (List.mem_cons_of_mem _ hz)))
        refine ring_of hpe (hpz _ _ (fun w hw hwz => upd_ne _ _ (by rw [hzp]; exact hwz)) ?_)
        rw [hzp, upd_at, e1]
    · rw [ups_ne _ _ ho]
      refine (h.ring o).congr fun w hw => upd_ne _ _ fun e => ho ?_
      rw [← ((h.g o w).1 hw).2, ← ((h.g k _).1 hpv).2, e]
  · obtain ⟨hax, haN⟩ := hN.mem_erase_iff.1 ha
    by_cases e : a = pv x
    · subst e; rw [upd_at, upd_at]
    · rw [upd_ne _ _ e, upd_ne _ _ (fun e2 => hax (h.inj haN hxN e2)), h.inv a haN]
def mnx (nx : Nat → Nat) (a b : Nat) : Nat → Nat := upd (upd nx a (nx b)) b (nx a)
def mpv (nx pv : Nat → Nat) (a b : Nat) : Nat → Nat := upd (upd pv (nx b) a) (nx a) b
/-- A new node comes into a group that is not empty, behind b. -/
theorem Rings.insert {N : List Nat} {nx pv : Nat → Nat} {q : Nat → Option Nat} {G : Option Nat → List Nat} (h : Rings N nx pv q G) {x b : Nat} {k : Option Nat} (hx : x ∉ N) (hnx : nx x = x) (hb : b ∈ G k) :
    Rings (x :: N) (mnx nx b x) (mpv nx pv b x) (upd q x k) (ups G k (x :: G k)) := by
  have hbN := h.mem hb
  have hbx : b ≠ x := fun e => hx (e ▸ hbN)
  have hxk : x ∉ G k := fun e => hx (h.mem e)
  refine ⟨fun o y => ?_, fun o => ?_, fun o => ?_, fun a ha => ?_⟩
  · by_cases ho : o = k
    · subst ho
      rw [ups_at]
      by_cases hy : y = x
      · subst hy; simp
      · rw [upd_ne _ _ hy]; simp [hy, h.g]
    · rw [ups_ne _ _ ho]
      by_cases hy : y = x
      · subst hy
        simp only [upd_at, List.mem_cons, true_or, true_and]
        exact ⟨fun e => absurd (h.mem e) hx, fun e => absurd e.symm ho⟩
      · rw [upd_ne _ _ hy]; simp [hy, h.g]
  · by_cases ho : o = k
    · subst ho; rw [ups_at]; exact List.nodup_cons.2 ⟨hxk, h.nd o⟩
    · rw [ups_ne _ _ ho]; exact h.nd o
  · by_cases ho : o = k
    · subst ho
      rw [ups_at]
      obtain ⟨t, hp, p⟩ := h.ring o b hb
      have hnd := hp.nodup_iff.2 (h.nd o)
      refine ring_of (a := b) (t := x :: t) ((List.Perm.swap x b t).trans (hp.cons x)) ⟨?_, ?_⟩
      · unfold mnx; rw [upd_ne _ _ hbx, upd_at, hnx]
      · refine path_first ?_ ?_ p
        · unfold mnx; rw [upd_at]
        · intro w hw
          have h1 : w ≠ b := fun e => (List.nodup_cons.1 hnd).1 (e ▸ hw)
          have h2 : w ≠ x := fun e => hxk (e ▸ hp.mem_iff.1 (List.mem_cons_of_mem _ hw))
          unfold mnx; rw [upd_ne _ _ h2, upd_ne _ _ h1]
    · rw [ups_ne _ _ ho]
      refine (h.ring o).congr fun w hw => ?_
      have h1 : w ≠ b := fun e => ho (by rw [← ((h.g o w).1 hw).2, ← ((h.g k b).1 hb).2, e])
      have h2 : w ≠ x := fun e => hx (e ▸ h.mem hw)
      unfold mnx; rw [upd_ne _ _ h2, upd_ne _ _ h1]
  · unfold mnx mpv
    have hbn := h.nextN hbN
    have hbnx : nx b ≠ x := fun e => hx (e ▸ hbn)
    by_cases e : a = x
    · subst e; rw [upd_at, upd_at]
    · have haN : a ∈ N := (List.mem_cons.1 ha).resolve_left e
      rw [upd_ne _ _ e]
      by_cases e2 : a = b
      · subst e2; rw [upd_at, hnx, upd_ne _ _ (Ne.symm hbnx), upd_at]
      · have h3 : nx a ≠ nx b := fun e3 => e2 (h.inj haN hbN e3)
        have h4 : nx a ≠ x := fun e => hx (e ▸ h.nextN haN)
        rw [upd_ne _ _ e2, upd_ne _ _ h3, hnx, upd_ne _ _ h4, h.inv a haN]
/-- A new node comes into an empty group. -/
theorem Rings.insert0 {N : List Nat} {nx pv : Nat → Nat} {q : Nat → Option Nat} {G : Option Nat → List Nat} (h : Rings N nx pv q G) {x : Nat} {k : Option Nat} (hx : x ∉ N) (hnx : nx x = x) (hpv : pv x = x) (hk : G k = []) :
    Rings (x :: N) nx pv (upd q x k) (ups G k [x]) := by
  refine ⟨fun o y => ?_, fun o => ?_, fun o => ?_, fun a ha => ?_⟩
  · by_cases ho : o = k
    · subst ho
      rw [ups_at]
      by_cases hy : y = x
      · subst hy; simp
      · rw [upd_ne _ _ hy]
        have : ¬ (y ∈ N ∧ q y = o) := fun e => by have := (h.g o y).2 e; rw [hk] at this; cases this
        simp [hy]; simpa using this
    · rw [ups_ne _ _ ho]
      by_cases hy : y = x
      · subst hy
        simp only [upd_at, List.mem_cons, true_or, true_and]
        exact ⟨fun e => absurd (h.mem e) hx, fun e => absurd e.symm ho⟩
      · rw [upd_ne _ _ hy]; simp [hy, h.g]
  · by_cases ho : o = k
    · subst ho; rw [ups_at]; simp
    · rw [ups_ne _ _ ho]; exact h.nd o
  · by_cases ho : o = k
    · subst ho; rw [ups_at]; exact ring_of (List.Perm.refl [x]) hnx
    · rw [ups_ne _ _ ho]; exact h.ring o
  · rcases List.mem_cons.1 ha with e | e
    · subst e; rw [hnx, hpv]
    · exact h.inv a e
/-- Two groups become one. -/
theorem Rings.join {N : List Nat} {nx pv : Nat → Nat} {q : Nat → Option Nat} {G : Option Nat → List Nat} (h : Rings N nx pv q G) {a b : Nat} {k j : Option Nat} (hkj : j ≠ k) (ha : a ∈ G k) (hb : b ∈ G j) :
    Rings N (mnx nx a b) (mpv nx pv a b) (fun x => if q x = j then k else q x) (ups (ups G j []) k (G k ++ G j)) := by
  have haN := h.mem ha
  have hbN := h.mem hb
  have qa := ((h.g k a).1 ha).2
  have qb := ((h.g j b).1 hb).2
  have hab : a ≠ b := fun e => hkj (by rw [← qa, ← qb, e])
  refine ⟨fun o y => ?_, fun o => ?_, fun o => ?_, fun c hc => ?_⟩
  · by_cases ho : o = k
    · subst ho
      rw [ups_at, List.mem_append, h.g, h.g]
      by_cases hq : q y = j
      · simp [hq]; intro a _; exact a
      · simp [hq]
    · rw [ups_ne _ _ ho]
      by_cases hj : o = j
      · subst hj
        rw [ups_at]
        by_cases hq : q y = o
        · simp [hq]; exact fun _ e => ho e.symm
        · simp [hq]
      · rw [ups_ne _ _ hj, h.g]
        by_cases hq : q y = j
        · simp [hq, Ne.symm hj, Ne.symm ho]
        · simp [hq]
  · by_cases ho : o = k
    · subst ho
      rw [ups_at, List.nodup_append]
      refine ⟨h.nd o, h.nd j, fun x hx y hy e => hkj ?_⟩
      rw [← ((h.g o x).1 hx).2, ← ((h.g j y).1 hy).2, e]
    · rw [ups_ne _ _ ho]
      by_cases hj : o = j
      · subst hj; rw [ups_at]; simp
      · rw [ups_ne _ _ hj]; exact h.nd o
  · by_cases ho : o = k
    · subst ho
      rw [ups_at]
      obtain ⟨t, hpt, pt⟩ := h.ring o a ha
      obtain ⟨u, hpu, pu⟩ := h.ring j b hb
      have ndt := List.nodup_cons.1 (hpt.nodup_iff.2 (h.nd o))
      have ndu := List.nodup_cons.1 (hpu.nodup_iff.2 (h.nd j))
      have qt : ∀ w ∈ t, q w = o := fun w hw => ((h.g o w).1 (hpt.mem_iff.1 (List.mem_cons_of_mem _ hw))).2
      have qu : ∀ w ∈ u, q w = j := fun w hw => ((h.g j w).1 (hpu.mem_iff.1 (List.mem_cons_of_mem _ hw))).2
      have p1 : Path (mnx nx a b) a u b := by
        refine path_first ?_ ?_ pu
        · unfold mnx; rw [upd_ne _ _ hab, upd_at]
        · intro w hw
          have h1 : w ≠ b := fun e => ndu.1 (e ▸ hw)
          have h2 : w ≠ a := fun e => hkj (by rw [← qu w hw, e, qa])
          unfold mnx; rw [upd_ne _ _ h1, upd_ne _ _ h2]
      have p2 : Path (mnx nx a b) b t a := by
        refine path_first ?_ ?_ pt
        · unfold mnx; rw [upd_at]
        · intro w hw
          have h1 : w ≠ a := fun e => ndt.1 (e ▸ hw)
          have h2 : w ≠ b := fun e => hkj (by rw [← qt w hw, e, qb])
          unfold mnx; rw [upd_ne _ _ h2, upd_ne _ _ h1]
      refine ring_of (a := a) (t := u ++ b :: t) ?_ (path_app.2 ⟨p1, p2⟩)
      have e1 : (a :: (u ++ b :: t)).Perm (a :: (t ++ (b :: u))) := by
        refine List.Perm.cons a ?_
        have : (u ++ b :: t).Perm (b :: t ++ u) := List.perm_append_comm
        refine this.trans ?_
        have : (b :: t ++ u) = b :: (t ++ u) := rfl
        rw [this]
        exact List.perm_middle.symm
      exact e1.trans (List.Perm.append hpt hpu)
    · rw [ups_ne _ _ ho]
      by_cases hj : o = j
      · subst hj; rw [ups_at]; exact ring_nil _
      · rw [ups_ne _ _ hj]
        refine (h.ring o).congr fun w hw => ?_
        have qw := ((h.g o w).1 hw).2
        have h1 : w ≠ b := fun e => hj (by rw [← qw, e, qb])
        have h2 : w ≠ a := fun e => ho (by rw [← qw, e, qa])
        unfold mnx; rw [upd_ne _ _ h1, upd_ne _ _ h2]
  · unfold mnx mpv
    have hn : nx a ≠ nx b := fun e => hab (h.inj haN hbN e)
    by_cases e : c = b
    · subst e; rw [upd_at, upd_at]
    · rw [upd_ne _ _ e]
      by_cases e2 : c = a
      · subst e2; rw [upd_at, upd_ne _ _ (Ne.symm hn), upd_at]
      · rw [upd_ne _ _ e2, upd_ne _ _ (fun e3 => e2 (h.inj hc haN e3)), upd_ne _ _ (fun e3 => e (h.inj hc hbN e3)), h.inv c hc]
/-- A group of another name. -/
theorem Rings.rename {N : List Nat} {nx pv : Nat → Nat} {q : Nat → Option Nat} {G : Option Nat → List Nat} (h : Rings N nx pv q G) {k j : Option Nat} (hkj : j ≠ k) (hk : G k = []) :
    Rings N nx pv (fun x => if q x = j then k else q x) (ups (ups G j []) k (G j)) := by
  have nok : ∀ y, y ∈ N → q y ≠ k := fun y hy e => by have := (h.g k y).2 ⟨hy, e⟩; rw [hk] at this; cases this
  refine ⟨fun o y => ?_, fun o => ?_, fun o => ?_, h.inv⟩
  · by_cases ho : o = k
    · subst ho
      rw [ups_at, h.g]
      by_cases hq : q y = j
      · simp [hq]
      · simp [hq]; exact nok y
    · rw [ups_ne _ _ ho]
      by_cases hj : o = j
      · subst hj
        rw [ups_at]
        by_cases hq : q y = o
        · simp [hq]; exact fun _ e => ho e.symm
        · simp [hq]
      · rw [ups_ne _ _ hj, h.g]
        by_cases hq : q y = j
        · simp [hq, Ne.symm hj, Ne.symm ho]
        · simp [hq]
  · by_cases ho : o = k
    · subst ho; rw [ups_at]; exact h.nd j
    · rw [ups_ne _ _ ho]
      by_cases hj : o = j
      · subst hj; rw [ups_at]; simp
      · rw [ups_ne _ _ hj]; exact h.nd o
  · by_cases ho : o = k
    · subst ho; rw [ups_at]; exact h.ring j
    · rw [ups_ne _ _ ho]
      by_cases hj : o = j
      · subst hj; rw [ups_at]; exact ring_nil _
      · rw [ups_ne _ _ hj]; exact h.ring o
/-- Rings of two sets of nodes. -/
theorem Rings.union {N M : List Nat} {nx pv nx2 pv2 : Nat → Nat} {q q2 : Nat → Option Nat} {G H : Option Nat → List Nat} (h : Rings N nx pv q G) (k : Rings M nx2 pv2 q2 H) (hd : ∀ x ∈ N, x ∉ M) (hk : ∀ o, G o = [] ∨ H o = []) :
    Rings (N ++ M) (fun x => if x ∈ N then nx x else nx2 x) (fun x => if x ∈ N then pv x else pv2 x) (fun x => if x ∈ N then q x else q2 x) (fun o => G o ++ H o) := by
  have hd2 : ∀ x ∈ M, x ∉ N := fun x hx hn => hd x hn hx
  refine ⟨fun o y => ?_, fun o => ?_, fun o => ?_, fun a ha => ?_⟩
  · rw [List.mem_append, List.mem_append, h.g, k.g]
    by_cases hy : y ∈ N
    · have := hd y hy; simp [hy, this]
    · simp [hy]
  · rcases hk o with e | e <;> rw [e] <;> simp [h.nd, k.nd]
  · have r1 : IsRing (fun x => if x ∈ N then nx x else nx2 x) (G o) := (h.ring o).congr fun w hw => if_pos (h.mem hw)
    have r2 : IsRing (fun x => if x ∈ N then nx x else nx2 x) (H o) := (k.ring o).congr fun w hw => if_neg (hd2 w (k.mem hw))
    rcases hk o with e | e <;> rw [e]
    · simpa using r2
    · simpa using r1
  · rcases List.mem_append.1 ha with e | e
    · simp only [e, if_true, h.nextN e, h.inv a e]
    · have e1 := hd2 a e
      have e2 := hd2 _ (k.nextN e)
      simp only [e1, if_false, e2, k.inv a e]
end Go.Proofs.Ytbfcnimebdoagaa
