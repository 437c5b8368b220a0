/- PLAIN: a priority is decreased; two heaps become one; the roots are put together. -/
import Derived.Test.YtbfcnimebdoagaaFQ
namespace Go.Proofs.Ytbfcnimebdoagaa
set_option linter.unusedVariables false

theorem HP.nonempty {N : List Nat} {s : FS} {G : Option Nat → List Nat} {h : Nat → Nat} {mn : Option Nat} (w : HP N s G h mn) (hN : N ≠ []) : ∃ m, mn = some m := by
  cases mn with
  | none => exact absurd (w.nil rfl) hN
  | some m => exact ⟨m, rfl⟩
def prSt (s : FS) (x : Nat) (p : Int) : FS := { s with pr := upd s.pr x p }
/-- The child x of y becomes a root. -/
def cutSt (s : FS) (x y : Nat) (mn : Option Nat) : FS :=
  let s3 := mst (alone s x) mn (some x)
  { s3 with ch := upd s.ch y (if s.ch y = some x then (if s.nx x = x then none else some (s.nx x)) else s.ch y), deg := upd s.deg y (s.deg y - 1), mr := upd (upd s.mr x false) y true, par := upd s.par x none }
theorem WF.noself {N : List Nat} {s : FS} {G : Option Nat → List Nat} {h : Nat → Nat} (w : WF N s G h) {x y : Nat} (hx : x ∈ N) (hp : s.par x = some y) : y ∈ N ∧ x ≠ y := by
  obtain ⟨h1, h2, h3⟩ := w.own x hx y hp
  exact ⟨h1, fun e => by rw [e] at h3; omega⟩
/-- The priority of a node that keeps its place becomes less. -/
theorem WF.dec {N : List Nat} {s : FS} {G : Option Nat → List Nat} {h : Nat → Nat} (w : WF N s G h) {x : Nat} {p : Int} (hx : x ∈ N) (hp : p ≤ s.pr x) (hy : ∀ y, s.par x = some y → s.pr y ≤ p) : WF N (prSt s x p) G h := by
  refine ⟨w.nd, w.rings, w.ch0, w.ch1, fun z hz a e => ?_, w.deg⟩
  obtain ⟨h1, h2, h3⟩ := w.own z hz a e
  refine ⟨h1, ?_, h3⟩
  show upd s.pr x p a ≤ upd s.pr x p z
  by_cases ez : z = x
  · subst ez
    have : a ≠ z := fun e2 => by rw [e2] at h3; omega
    rw [upd_at, upd_ne _ _ this]
    exact hy a e
  · rw [upd_ne _ _ ez]
    by_cases ea : a = x
    · subst ea; rw [upd_at]; omega
    · rw [upd_ne _ _ ea]; exact h2
theorem WF.cut {N : List Nat} {s : FS} {G : Option Nat → List Nat} {h : Nat → Nat} (w : WF N s G h) {x y m : Nat} {p : Int} (hx : x ∈ N) (hp : p ≤ s.pr x) (hy : s.par x = some y) (hm : m ∈ G none) :
    WF N (cutSt (prSt s x p) x y (some m)) (ups (ups G (some y) ((G (some y)).erase x)) none (x :: G none)) h := by
  obtain ⟨hyN, hxy⟩ := w.noself hx hy
  have hxy2 := hxy
  have hxG := (w.rings.g _ _).2 ⟨hx, hy⟩
  have hxo : x ∉ N.erase x := fun e => (w.nd.mem_erase_iff.1 e).1 rfl
  have r1 := alone_rings w hxG
  have hn0 : ups G (some y) ((G (some y)).erase x) none = G none := ups_ne _ _ (by simp)
  have hr : Rings N (cutSt (prSt s x p) x y (some m)).nx (cutSt (prSt s x p) x y (some m)).pv (upd s.par x none) (ups (ups G (some y) ((G (some y)).erase x)) none (x :: G none)) := by
    have := r1.insert (x := x) (b := m) (k := none) hxo (upd_at _ _ _) (by rw [hn0]; exact hm)
    rw [hn0] at this
    refine Rings.memCongr (N := x :: N.erase x) this fun z => ?_
    rw [List.mem_cons, w.nd.mem_erase_iff]
    by_cases e : z = x
    · subst e; simp [hx]
    · simp [e]
  have e0 : ∀ o, o ≠ none → o ≠ some y → (ups (ups G (some y) ((G (some y)).erase x)) none (x :: G none)) o = G o := fun o h1 h2 => by rw [ups_ne _ _ h1, ups_ne _ _ h2]
  have ey : (ups (ups G (some y) ((G (some y)).erase x)) none (x :: G none)) (some y) = (G (some y)).erase x := by rw [ups_ne _ _ (by simp), ups_at]
  obtain ⟨t, hpt, pt⟩ := w.rings.ring _ x hxG
  have hte : t.Perm ((G (some y)).erase x) := by
    have := hpt.erase x
    rwa [List.erase_cons_head] at this
  have hnd := hpt.nodup_iff.2 (w.rings.nd _)
  have hchy : (cutSt (prSt s x p) x y (some m)).ch y = if s.ch y = some x then (if s.nx x = x then none else some (s.nx x)) else s.ch y := upd_at _ _ _
  refine ⟨w.nd, hr, fun a ha e => ?_, fun a ha c e => ?_, fun z hz a e => ?_, fun a ha => ?_⟩
  · by_cases e2 : a = y
    · subst e2
      rw [ey]
      rw [hchy] at e
      by_cases e3 : s.ch a = some x
      · rw [if_pos e3] at e
        by_cases e4 : s.nx x = x
        · cases t with
          | nil => exact hte.nil_eq.symm
          | cons d t => exact absurd (pt.1.symm.trans e4) (fun e5 => (List.nodup_cons.1 hnd).1 (by rw [e5]; simp))
        · rw [if_neg e4] at e; cases e
      · rw [if_neg e3] at e
        have := w.ch0 a ha e
        rw [this] at hxG
        cases hxG
    · have e' : s.ch a = none := (upd_ne _ _ e2).symm.trans e
      rw [e0 _ (by simp) (by simp [e2])]
      exact w.ch0 a ha e'
  · by_cases e2 : a = y
    · subst e2
      rw [ey]
      rw [hchy] at e
      by_cases e3 : s.ch a = some x
      · rw [if_pos e3] at e
        by_cases e4 : s.nx x = x
        · rw [if_pos e4] at e; cases e
        · rw [if_neg e4] at e
          cases e
          cases t with
          | nil => exact absurd pt e4
          | cons d t => rw [pt.1]; exact hte.mem_iff.1 (by simp)
      · rw [if_neg e3] at e
        rw [(w.rings.nd _).mem_erase_iff]
        exact ⟨fun e5 => e3 (by rw [e, e5]), w.ch1 a ha c e⟩
    · have e' : s.ch a = some c := (upd_ne _ _ e2).symm.trans e
      rw [e0 _ (by simp) (by simp [e2])]
      exact w.ch1 a ha c e'
  · have e' : upd s.par x none z = some a := e
    have ezx : z ≠ x := fun e2 => by rw [e2, upd_at] at e'; cases e'
    rw [upd_ne _ _ ezx] at e'
    obtain ⟨h1, h2, h3⟩ := w.own z hz a e'
    refine ⟨h1, ?_, h3⟩
    show upd s.pr x p a ≤ upd s.pr x p z
    rw [upd_ne _ _ ezx]
    by_cases ea : a = x
    · subst ea; rw [upd_at]; omega
    · rw [upd_ne _ _ ea]; exact h2
  · show upd s.deg y (s.deg y - 1) a = _
    by_cases e2 : a = y
    · subst e2
      rw [upd_at, ey, List.length_erase_of_mem hxG, w.deg a ha]
    · rw [upd_ne _ _ e2, e0 _ (by simp) (by simp [e2])]; exact w.deg a ha
/-- What DecreaseKey leaves: the least root is the node, if its priority is not greater. -/
def decMn (s : FS) (x m : Nat) : Nat := if s.pr x ≤ s.pr m then x else m
theorem HP.decRoot {N : List Nat} {s : FS} {G : Option Nat → List Nat} {h : Nat → Nat} {x m : Nat} {p : Int} (w : HP N s G h (some m)) (hx : x ∈ N) (hp : p ≤ s.pr x) (hr : s.par x = none) : HP N (prSt s x p) G h (some (decMn (prSt s x p) x m)) := by
  obtain ⟨h1, h2⟩ := w.least m rfl
  have hxr : x ∈ G none := (w.wf.rings.g _ _).2 ⟨hx, hr⟩
  refine ⟨w.wf.dec hx hp (fun y e => (by rw [hr] at e; cases e)), fun e => (by cases e), fun m2 e => ?_⟩
  cases e
  have hpx : (prSt s x p).pr x = p := upd_at _ _ _
  have hpo : ∀ a, a ≠ x → (prSt s x p).pr a = s.pr a := fun a ha => upd_ne _ _ ha
  unfold decMn
  by_cases hle : (prSt s x p).pr x ≤ (prSt s x p).pr m
  · rw [if_pos hle]
    refine ⟨hxr, fun a ha => ?_⟩
    by_cases ea : a = x
    · subst ea; omega
    · have := h2 a ha
      rw [hpo a ea]
      by_cases em : m = x
      · subst em; rw [hpx]; omega
      · rw [hpo m em] at hle; omega
  · rw [if_neg hle]
    have em : m ≠ x := fun e => hle (by rw [e]; omega)
    refine ⟨h1, fun a ha => ?_⟩
    by_cases ea : a = x
    · subst ea; omega
    · rw [hpo a ea, hpo m em]; exact h2 a ha
theorem HP.decStay {N : List Nat} {s : FS} {G : Option Nat → List Nat} {h : Nat → Nat} {x y m : Nat} {p : Int} (w : HP N s G h (some m)) (hx : x ∈ N) (hp : p ≤ s.pr x) (hr : s.par x = some y) (hy : s.pr y < p) : HP N (prSt s x p) G h (some (decMn (prSt s x p) x m)) := by
  obtain ⟨h1, h2⟩ := w.least m rfl
  have hyN := (w.wf.own x hx y hr).1
  have hmy := w.all.2 y hyN
  have em : m ≠ x := fun e => by have := ((w.wf.rings.g _ _).1 h1).2; rw [e, hr] at this; cases this
  have hpx : (prSt s x p).pr x = p := upd_at _ _ _
  have hpo : ∀ a, a ≠ x → (prSt s x p).pr a = s.pr a := fun a ha => upd_ne _ _ ha
  have : decMn (prSt s x p) x m = m := by
    unfold decMn
    rw [if_neg]
    rw [hpx, hpo m em]
    omega
  rw [this]
  refine ⟨w.wf.dec hx hp (fun z e => by rw [hr] at e; cases e; omega), fun e => (by cases e), fun m2 e => ?_⟩
  cases e
  refine ⟨h1, fun a ha => ?_⟩
  have ea : a ≠ x := fun e => by have := ((w.wf.rings.g _ _).1 ha).2; rw [e, hr] at this; cases this
  rw [hpo a ea, hpo m em]
  exact h2 a ha
theorem HP.decCut {N : List Nat} {s : FS} {G : Option Nat → List Nat} {h : Nat → Nat} {x y m : Nat} {p : Int} (w : HP N s G h (some m)) (hx : x ∈ N) (hp : p ≤ s.pr x) (hr : s.par x = some y) :
    ∃ m1, mres (prSt s x p) (some m) (some x) = some m1 ∧ HP N (cutSt (prSt s x p) x y (some m)) (ups (ups G (some y) ((G (some y)).erase x)) none (x :: G none)) h (some (decMn (prSt s x p) x m1)) ∧ (m1 = m ∨ m1 = x) := by
  obtain ⟨h1, h2⟩ := w.least m rfl
  have hnr : ∀ a ∈ G none, a ≠ x := fun a ha e => by have := ((w.wf.rings.g _ _).1 ha).2; rw [e, hr] at this; cases this
  have hpo : ∀ a, a ≠ x → (prSt s x p).pr a = s.pr a := fun a ha => upd_ne _ _ ha
  obtain ⟨m1, e1, k1, k2⟩ := least_in (G := G) (s := prSt s x p) (mn := some m) (x := x) (fun m2 e => by
    cases e
    refine ⟨h1, fun a ha => ?_⟩
    rw [hpo _ (hnr _ h1), hpo _ (hnr _ ha)]
    exact h2 a ha) (fun e => by cases e)
  have hm1 : m1 = m ∨ m1 = x := by
    unfold mres at e1
    simp only at e1
    split at e1 <;> cases e1 <;> simp
  refine ⟨m1, e1, ⟨w.wf.cut hx hp hr h1, fun e => (by cases e), fun m2 e => ?_⟩, hm1⟩
  cases e
  have hpr : (cutSt (prSt s x p) x y (some m)).pr = (prSt s x p).pr := rfl
  rw [hpr]
  rw [ups_at] at k1 k2 ⊢
  unfold decMn
  by_cases hle : (prSt s x p).pr x ≤ (prSt s x p).pr m1
  · rw [if_pos hle]
    exact ⟨by simp, fun a ha => by have := k2 a ha; omega⟩
  · rw [if_neg hle]
    exact ⟨k1, k2⟩

/-- Two heaps side by side. -/
def uni (N : List Nat) (s s2 : FS) : FS := ⟨fun x => if x ∈ N then s.deg x else s2.deg x, fun x => if x ∈ N then s.mr x else s2.mr x, fun x => if x ∈ N then s.nx x else s2.nx x, fun x => if x ∈ N then s.pv x else s2.pv x, fun x => if x ∈ N then s.ch x else s2.ch x, fun x => if x ∈ N then s.par x else s2.par x, fun x => if x ∈ N then s.pr x else s2.pr x⟩
theorem fresh2 (N M : List Nat) : ∃ z, z ∉ N ∧ z ∉ M := by
  obtain ⟨K, hK⟩ := bounded id (N ++ M)
  refine ⟨K + 1, fun h => ?_, fun h => ?_⟩
  · have : K + 1 ≤ K := hK (K + 1) (List.mem_append_left _ h); omega
  · have : K + 1 ≤ K := hK (K + 1) (List.mem_append_right _ h); omega
theorem HP.merge {N M : List Nat} {s s2 : FS} {G G2 : Option Nat → List Nat} {h h2 : Nat → Nat} {mn mn2 : Option Nat} (w : HP N s G h mn) (v : HP M s2 G2 h2 mn2) (hd : ∀ x ∈ N, x ∉ M) :
    ∃ G3, HP (N ++ M) (mst (uni N s s2) mn mn2) G3 (fun x => if x ∈ N then h x else h2 x) (mres (uni N s s2) mn mn2) := by
  have hd2 : ∀ x ∈ M, x ∉ N := fun x hx hn => hd x hn hx
  obtain ⟨z, hz1, hz2⟩ := fresh2 N M
  have r2 := v.wf.rings.rename (k := some z) (j := none) (by simp) (v.wf.out hz2)
  have hkk : ∀ o, G o = [] ∨ (ups (ups G2 none []) (some z) (G2 none)) o = [] := by
    intro o
    cases o with
    | none => right; rw [ups_ne _ _ (by simp), ups_at]
    | some a =>
      by_cases ha : a ∈ N
      · right
        have h1 : a ≠ z := fun e => hz1 (e ▸ ha)
        rw [ups_ne _ _ (by simp [h1]), ups_ne _ _ (by simp)]
        exact v.wf.out (hd a ha)
      · left; exact w.wf.out ha
  have ru := w.wf.rings.union r2 hd hkk
  obtain ⟨U, hU⟩ : ∃ U, U = (fun o => G o ++ (ups (ups G2 none []) (some z) (G2 none)) o) := ⟨_, rfl⟩
  rw [← hU] at ru
  have U0 : U none = G none := by rw [hU]; simp [ups]
  have Uz : U (some z) = G2 none := by rw [hU]; simp [w.wf.out hz1]
  have Ua : ∀ a, a ≠ z → U (some a) = G (some a) ++ G2 (some a) := fun a ha => by rw [hU]; simp [ups, ha]
  have qe : ∀ x ∈ N ++ M, (if (if x ∈ N then s.par x else if s2.par x = none then some z else s2.par x) = some z then none else (if x ∈ N then s.par x else if s2.par x = none then some z else s2.par x)) = (uni N s s2).par x := by
    intro x hx
    show _ = if x ∈ N then s.par x else s2.par x
    by_cases hxN : x ∈ N
    · simp only [hxN, if_true]
      by_cases e : s.par x = some z
      · exact absurd (w.wf.own x hxN z e).1 hz1
      · rw [if_neg e]
    · have hxM : x ∈ M := (List.mem_append.1 hx).resolve_left hxN
      simp only [hxN, if_false]
      by_cases e : s2.par x = none
      · simp [e]
      · simp only [e, if_false]
        by_cases e2 : s2.par x = some z
        · exact absurd (v.wf.own x hxM z e2).1 hz2
        · rw [if_neg e2]
  have hr : Rings (N ++ M) (mst (uni N s s2) mn mn2).nx (mst (uni N s s2) mn mn2).pv (uni N s s2).par (ups (ups U (some z) []) none (G none ++ G2 none)) := by
    cases mn2 with
    | none =>
      have hG2 := v.wf.no_roots (v.nil rfl)
      rw [show mst (uni N s s2) mn none = uni N s s2 by unfold mst; split <;> simp_all]
      have e1 : ups (ups U (some z) []) none (G none ++ G2 none) = U := by
        funext o
        by_cases h1 : o = none
        · subst h1; rw [ups_at, U0, hG2, List.append_nil]
        · rw [ups_ne _ _ h1]
          by_cases h2 : o = some z
          · subst h2; rw [ups_at, Uz, hG2]
          · rw [ups_ne _ _ h2]
      rw [e1]
      refine ru.congr (fun _ _ => rfl) (fun _ _ => rfl) (fun a ha => ?_)
      rw [← qe a ha]
      by_cases hp : (if a ∈ N then s.par a else if s2.par a = none then some z else s2.par a) = some z
      · have := (ru.g _ a).2 ⟨ha, hp⟩
        rw [Uz, hG2] at this
        cases this
      · rw [if_neg hp]
    | some c =>
      have hc := (v.least c rfl).1
      cases mn with
      | none =>
        have hG := w.wf.no_roots (w.nil rfl)
        have := ru.rename (k := none) (j := some z) (by simp) (by rw [U0, hG])
        rw [Uz] at this
        rw [hG, List.nil_append]
        exact this.congr (fun _ _ => rfl) (fun _ _ => rfl) (fun a ha => (qe a ha).symm)
      | some y =>
        have := ru.join (k := none) (j := some z) (a := y) (b := c) (by simp) (by rw [U0]; exact (w.least y rfl).1) (by rw [Uz]; exact hc)
        rw [U0, Uz] at this
        exact this.congr (fun _ _ => rfl) (fun _ _ => rfl) (fun a ha => (qe a ha).symm)
  have pN : ∀ {f g : Nat → Int} {x}, x ∈ N → (if x ∈ N then f x else g x) = f x := fun hx => if_pos hx
  have GN : ∀ a ∈ N, (ups (ups U (some z) []) none (G none ++ G2 none)) (some a) = G (some a) := fun a ha => by
    have h1 : a ≠ z := fun e => hz1 (e ▸ ha)
    rw [ups_ne _ _ (by simp), ups_ne _ _ (by simp [h1]), Ua a h1, v.wf.out (hd a ha), List.append_nil]
  have GM : ∀ a ∈ M, (ups (ups U (some z) []) none (G none ++ G2 none)) (some a) = G2 (some a) := fun a ha => by
    have h1 : a ≠ z := fun e => hz2 (e ▸ ha)
    rw [ups_ne _ _ (by simp), ups_ne _ _ (by simp [h1]), Ua a h1, w.wf.out (hd2 a ha), List.nil_append]
  refine ⟨ups (ups U (some z) []) none (G none ++ G2 none), ⟨List.nodup_append.2 ⟨w.wf.nd, v.wf.nd, fun a ha b hb e => hd a ha (e ▸ hb)⟩, by rw [mst_par]; exact hr, fun a ha e => ?_, fun a ha c e => ?_, fun x hx a e => ?_, fun a ha => ?_⟩, fun e => ?_, fun m e => ?_⟩
  · rw [mst_ch] at e
    have e' : (if a ∈ N then s.ch a else s2.ch a) = none := e
    by_cases haN : a ∈ N
    · rw [if_pos haN] at e'; rw [GN a haN]; exact w.wf.ch0 a haN e'
    · rw [if_neg haN] at e'
      have haM : a ∈ M := (List.mem_append.1 ha).resolve_left haN
      rw [GM a haM]; exact v.wf.ch0 a haM e'
  · rw [mst_ch] at e
    have e' : (if a ∈ N then s.ch a else s2.ch a) = some c := e
    by_cases haN : a ∈ N
    · rw [if_pos haN] at e'; rw [GN a haN]; exact w.wf.ch1 a haN c e'
    · rw [if_neg haN] at e'
      have haM : a ∈ M := (List.mem_append.1 ha).resolve_left haN
      rw [GM a haM]; exact v.wf.ch1 a haM c e'
  · rw [mst_par] at e
    rw [mst_pr]
    have e' : (if x ∈ N then s.par x else s2.par x) = some a := e
    show a ∈ N ++ M ∧ (if a ∈ N then s.pr a else s2.pr a) ≤ (if x ∈ N then s.pr x else s2.pr x) ∧ (if x ∈ N then h x else h2 x) < (if a ∈ N then h a else h2 a)
    by_cases hxN : x ∈ N
    · rw [if_pos hxN] at e'
      obtain ⟨k1, k2, k3⟩ := w.wf.own x hxN a e'
      rw [if_pos k1, if_pos hxN, if_pos hxN, if_pos k1]
      exact ⟨List.mem_append_left _ k1, k2, k3⟩
    · have hxM : x ∈ M := (List.mem_append.1 hx).resolve_left hxN
      rw [if_neg hxN] at e'
      obtain ⟨k1, k2, k3⟩ := v.wf.own x hxM a e'
      have haN := hd2 a k1
      rw [if_neg haN, if_neg hxN, if_neg hxN, if_neg haN]
      exact ⟨List.mem_append_right _ k1, k2, k3⟩
  · rw [mst_deg]
    show (if a ∈ N then s.deg a else s2.deg a) = _
    by_cases haN : a ∈ N
    · rw [if_pos haN, GN a haN]; exact w.wf.deg a haN
    · have haM : a ∈ M := (List.mem_append.1 ha).resolve_left haN
      rw [if_neg haN, GM a haM]; exact v.wf.deg a haM
  · cases mn with
    | none =>
      cases mn2 with
      | none => rw [w.nil rfl, v.nil rfl]; rfl
      | some b => cases e
    | some a =>
      cases mn2 with
      | none => cases e
      | some b =>
        unfold mres at e
        simp only at e
        split at e <;> cases e
  · rw [mst_pr, ups_at]
    have hprN : ∀ a ∈ G none, (uni N s s2).pr a = s.pr a := fun a ha => if_pos (w.wf.rings.mem ha)
    have hprM : ∀ a ∈ G2 none, (uni N s s2).pr a = s2.pr a := fun a ha => if_neg (hd2 a (v.wf.rings.mem ha))
    cases mn with
    | none =>
      have hG := w.wf.no_roots (w.nil rfl)
      have e2 : mn2 = some m := e
      obtain ⟨k1, k2⟩ := v.least m e2
      rw [hG, List.nil_append]
      exact ⟨k1, fun a ha => by rw [hprM m k1, hprM a ha]; exact k2 a ha⟩
    | some y =>
      obtain ⟨k1, k2⟩ := w.least y rfl
      cases mn2 with
      | none =>
        have hG2 := v.wf.no_roots (v.nil rfl)
        cases e
        rw [hG2, List.append_nil]
        exact ⟨k1, fun a ha => by rw [hprN _ k1, hprN a ha]; exact k2 a ha⟩
      | some c =>
        obtain ⟨j1, j2⟩ := v.least c rfl
        have hyn := hprN y k1
        have hcn := hprM c j1
        unfold mres at e
        simp only at e
        by_cases hlt : (uni N s s2).pr y < (uni N s s2).pr c
        · rw [if_pos hlt] at e
          cases e
          refine ⟨List.mem_append_left _ k1, fun a ha => ?_⟩
          rcases List.mem_append.1 ha with e | e
          · rw [hyn, hprN a e]; exact k2 a e
          · have := j2 a e; rw [hprM a e]; omega
        · rw [if_neg hlt] at e
          cases e
          refine ⟨List.mem_append_right _ j1, fun a ha => ?_⟩
          rcases List.mem_append.1 ha with e | e
          · have := k2 a e; rw [hprN a e]; omega
          · rw [hcn, hprM a e]; exact j2 a e
end Go.Proofs.Ytbfcnimebdoagaa
