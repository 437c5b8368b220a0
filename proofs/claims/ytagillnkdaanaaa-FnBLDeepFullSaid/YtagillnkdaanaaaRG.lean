/- DRAWN REGIONS: the values that calls return (each with the blocks that it hangs on), variables that are made, stores into these, in whatever order. -/
import Derived.Test.YtagillnkdaanaaaGA
import Derived.Test.YtagillnkdaanaaaM
namespace Go.Proofs.Ytagillnkdaanaaa
open Go.RowKit
set_option linter.unusedVariables false
set_option linter.unusedSimpArgs false

theorem Blk.newAt {w : World} {b : Nat} (c : Array Value) (T : TypeId) (h : b = w.heap.size) : Blk (w.alloc (.cells c T)) b c := by
  subst h
  exact Blk.new w c T

/-- Φ holds of w, and of every world that agrees with w on the blocks of F. -/
def Hangs (F : Nat → Prop) (w : World) (Φ : World → Prop) : Prop := ∀ w', w.heap.size ≤ w'.heap.size → (∀ b, F b → w'.heap[b]? = w.heap[b]?) → Φ w'
/-- What a call out of w into w2 leaves: it hangs on blocks below B0 and on new ones alone. -/
def Fresh (B0 : Nat) (w w2 : World) (Φ : World → Prop) : Prop := ∃ F : Nat → Prop, (∀ b, F b → b < w2.heap.size ∧ (b < B0 ∨ w.heap.size ≤ b)) ∧ Hangs F w2 Φ

theorem Fresh.pure (B0 : Nat) (w w2 : World) {Φ : World → Prop} (h : ∀ w', Φ w') : Fresh B0 w w2 Φ := ⟨fun _ => False, fun _ h => h.elim, fun w' _ _ => h w'⟩
theorem Fresh.and {B0 : Nat} {w w2 : World} {Φ Ψ : World → Prop} (h : Fresh B0 w w2 Φ) (k : Fresh B0 w w2 Ψ) : Fresh B0 w w2 (fun w' => Φ w' ∧ Ψ w') := by
  obtain ⟨F, h1, h2⟩ := h
  obtain ⟨G, k1, k2⟩ := k
  exact ⟨fun b => F b ∨ G b, fun b hb => hb.elim (h1 b) (k1 b), fun w' hs hb => ⟨h2 w' hs fun b hF => hb b (Or.inl hF), k2 w' hs fun b hG => hb b (Or.inr hG)⟩⟩

/-- What the operations in D have left in memory: xs: the values in their slots; R: what the values of calls are; Z: what a variable holds when it is made; C: those that call; A: those that make a variable; st, src: what is stored into it, and where this comes from. -/
structure RG (W0 w : World) (D : Nat → Bool) (xs : List Value) (R : List (World → Value → Prop)) (Z : List (Array Value)) (C A : List Nat) (st src : List Nat) : Prop where
  ch : Ch S0 W0 w
  val : ∀ i, i ∈ C → D i = true → ∃ F : Nat → Prop, (∀ b, F b → b < w.heap.size) ∧ (∀ b, F b → W0.heap.size ≤ b → ∀ j, j ∈ A → D j = true → xs.getD j undef ≠ .pointer (some ⟨b, 0, none⟩)) ∧ Hangs F w (fun w' => R.getD i (fun _ _ => True) w' (xs.getD i undef))
  ptr : ∀ i, i ∈ A → D i = true → ∃ b, xs.getD i undef = .pointer (some ⟨b, 0, none⟩) ∧ W0.heap.size ≤ b ∧ b < w.heap.size ∧ (D (st.getD i 0) = false → Blk w b (Z.getD i #[])) ∧
    (D (st.getD i 0) = true → Blk w b (xs.getD (src.getD i 0) undef).cells)
  diff : ∀ i, i ∈ A → ∀ j, j ∈ A → i ≠ j → D i = true → D j = true → xs.getD i undef ≠ xs.getD j undef
  closed : ∀ i, i ∈ A → D (st.getD i 0) = true → ∀ j, j ∈ C ∨ j ∈ A → D j = true

section
variable {W0 w : World} {D : Nat → Bool} {xs : List Value} {R : List (World → Value → Prop)} {Z : List (Array Value)} {C A : List Nat} {st src : List Nat}

theorem upd_ne {i j : Nat} (h : j ≠ i) : upd D i j = D j := by simp [upd, h]
theorem upd_same {i : Nat} : upd D i i = true := by simp [upd]
theorem upd_out {i j : Nat} (h : upd D i j = true) (hne : j ≠ i) : D j = true := by rwa [upd_ne hne] at h
theorem upd_mono {i j : Nat} (h : D j = true) : upd D i j = true := by unfold upd; split <;> simp_all

theorem RG.start (W0 : World) (xs : List Value) (R : List (World → Value → Prop)) (Z : List (Array Value)) (C A : List Nat) (st src : List Nat) : RG W0 { W0 with drawn := W0.drawn + 1 } (fun _ => false) xs R Z C A st src :=
  ⟨(Ch.refl S0 W0).drew, (fun _ _ h => by cases h), (fun _ _ h => by cases h), (fun _ _ _ _ _ h => by cases h), (fun _ _ h => by cases h)⟩

/-- What a call's value is, now. -/
theorem RG.at (h : RG W0 w D xs R Z C A st src) (i : Nat) (hi : i ∈ C) (hd : D i = true) : R.getD i (fun _ _ => True) w (xs.getD i undef) := by
  obtain ⟨F, _, _, h3⟩ := h.val i hi hd
  exact h3 w (Nat.le_refl _) (fun _ _ => rfl)

/-- Another operation, which leaves memory as it is. -/
theorem RG.other (h : RG W0 w D xs R Z C A st src) {k : Nat} (v : Value) (hC : k ∉ C) (hA : k ∉ A) (hst : ∀ i, i ∈ A → st.getD i 0 ≠ k) (hsrc : ∀ i, i ∈ A → src.getD i 0 ≠ k) : RG W0 w (upd D k) (xs.set k v) R Z C A st src := by
  have hx : ∀ i, i ≠ k → (xs.set k v).getD i undef = xs.getD i undef := fun i hi => by simp [List.getD, List.getElem?_set_ne (Ne.symm hi)]
  have nC : ∀ i, i ∈ C → i ≠ k := fun i hi e => hC (e ▸ hi)
  have nA : ∀ i, i ∈ A → i ≠ k := fun i hi e => hA (e ▸ hi)
  refine ⟨h.ch, fun i hi hd => ?_, fun i hi hd => ?_, fun i hi j hj hij hd hd' => ?_, fun i hi hd j hj => upd_mono (h.closed i hi (by rwa [upd_ne (hst i hi)] at hd) j hj)⟩
  · rw [upd_ne (nC i hi)] at hd
    obtain ⟨F, f1, f2, f3⟩ := h.val i hi hd
    exact ⟨F, f1, fun b hb hw j hj hdj => by rw [upd_ne (nA j hj)] at hdj; rw [hx j (nA j hj)]; exact f2 b hb hw j hj hdj, fun w' hs hb => by rw [hx i (nC i hi)]; exact f3 w' hs hb⟩
  · rw [upd_ne (nA i hi)] at hd
    obtain ⟨b, h1, h2, h3, h4, h5⟩ := h.ptr i hi hd
    refine ⟨b, by rw [hx i (nA i hi)]; exact h1, h2, h3, ?_, ?_⟩
    · rw [upd_ne (hst i hi)]; exact h4
    · rw [upd_ne (hst i hi), hx _ (hsrc i hi)]; exact h5
  · rw [upd_ne (nA i hi)] at hd; rw [upd_ne (nA j hj)] at hd'
    rw [hx i (nA i hi), hx j (nA j hj)]; exact h.diff i hi j hj hij hd hd'

/-- A call. -/
theorem RG.call (h : RG W0 w D xs R Z C A st src) {k : Nat} (hk : k < xs.length) (hC : k ∈ C) (hA : k ∉ A) (hst : ∀ i, i ∈ A → st.getD i 0 ≠ k) (hD : D k = false)
    {w2 : World} {v : Value} (hc : Ch S0 w w2) (hv : Fresh W0.heap.size w w2 (fun w' => R.getD k (fun _ _ => True) w' v)) : RG W0 w2 (upd D k) (xs.set k v) R Z C A st src := by
  have hx : ∀ i, i ≠ k → (xs.set k v).getD i undef = xs.getD i undef := fun i hi => by simp [List.getD, List.getElem?_set_ne (Ne.symm hi)]
  have hxk : (xs.set k v).getD k undef = v := by simp [List.getD, hk]
  have nA : ∀ i, i ∈ A → i ≠ k := fun i hi e => hA (e ▸ hi)
  have hsz := hc.size
  have hsrc : ∀ i, i ∈ A → src.getD i 0 = k → D (st.getD i 0) = false := fun i hi _ => by
    cases e : D (st.getD i 0) with
    | false => rfl
    | true => rw [h.closed i hi e k (Or.inl hC)] at hD; cases hD
  refine ⟨h.ch.trans hc, fun i hi hd => ?_, fun i hi hd => ?_, fun i hi j hj hij hd hd' => ?_, fun i hi hd j hj => upd_mono (h.closed i hi (by rwa [upd_ne (hst i hi)] at hd) j hj)⟩
  · by_cases e : i = k
    · subst e
      obtain ⟨F, f1, f2⟩ := hv
      refine ⟨F, fun b hb => (f1 b hb).1, fun b hb hw j hj hdj => ?_, fun w' hs hb => by rw [hxk]; exact f2 w' hs hb⟩
      rw [upd_ne (nA j hj)] at hdj
      rw [hx j (nA j hj)]
      obtain ⟨b', h1, _, h3, _⟩ := h.ptr j hj hdj
      rw [h1]
      intro e'
      injection e' with e'
      simp only [Option.some.injEq, Addr.mk.injEq, and_true] at e'
      rcases (f1 b hb).2 with q | q <;> omega
    · rw [upd_ne e] at hd
      obtain ⟨F, f1, f2, f3⟩ := h.val i hi hd
      refine ⟨F, fun b hb => Nat.lt_of_lt_of_le (f1 b hb) hsz, fun b hb hw j hj hdj => ?_, fun w' hs hb => ?_⟩
      · rw [upd_ne (nA j hj)] at hdj
        rw [hx j (nA j hj)]
        exact f2 b hb hw j hj hdj
      · rw [hx i e]
        exact f3 w' (Nat.le_trans hsz hs) fun b hb' => (hb b hb').trans (hc.block b (f1 b hb') (fun h => h))
  · rw [upd_ne (nA i hi)] at hd
    obtain ⟨b, h1, h2, h3, h4, h5⟩ := h.ptr i hi hd
    refine ⟨b, by rw [hx i (nA i hi)]; exact h1, h2, by omega, ?_, ?_⟩
    · rw [upd_ne (hst i hi)]; exact fun hd2 => (h4 hd2).keep hc (fun h => h)
    · rw [upd_ne (hst i hi)]
      intro hd2
      have hne : src.getD i 0 ≠ k := fun e => by rw [hsrc i hi e] at hd2; cases hd2
      rw [hx _ hne]
      exact (h5 hd2).keep hc (fun h => h)
  · rw [upd_ne (nA i hi)] at hd; rw [upd_ne (nA j hj)] at hd'
    rw [hx i (nA i hi), hx j (nA j hj)]; exact h.diff i hi j hj hij hd hd'

/-- A variable is made. -/
theorem RG.alloc (h : RG W0 w D xs R Z C A st src) {k : Nat} (hk : k < xs.length) (hC : k ∉ C) (hst : ∀ i, i ∈ A → st.getD i 0 ≠ k) (hsrc : ∀ i, i ∈ A → src.getD i 0 ≠ k) (hDk : D k = false) (hkA : k ∈ A) (T : TypeId) {z : Array Value} (hz : Z.getD k #[] = z) :
    RG W0 (w.alloc (.cells z T)) (upd D k) (xs.set k (.pointer (some ⟨w.heap.size, 0, none⟩))) R Z C A st src := by
  subst hz
  have hx : ∀ i, i ≠ k → (xs.set k (.pointer (some ⟨w.heap.size, 0, none⟩))).getD i undef = xs.getD i undef := fun i hi => by simp [List.getD, List.getElem?_set_ne (Ne.symm hi)]
  have hxk : (xs.set k (.pointer (some ⟨w.heap.size, 0, none⟩))).getD k undef = .pointer (some ⟨w.heap.size, 0, none⟩) := by simp [List.getD, hk]
  have nC : ∀ i, i ∈ C → i ≠ k := fun i hi e => hC (e ▸ hi)
  have hc : Ch S0 w (w.alloc (.cells (Z.getD k #[]) T)) := (Ch.refl _ _).alloc _
  have hsz := h.ch.size
  have hD : D (st.getD k 0) = false := by
    cases e : D (st.getD k 0) with
    | false => rfl
    | true => rw [h.closed k hkA e k (Or.inr hkA)] at hDk; cases hDk
  refine ⟨h.ch.trans hc, fun i hi hd => ?_, fun i hi hd => ?_, fun i hi j hj hij hd hd' => ?_, fun i hi hd j hj => upd_mono (h.closed i hi (by rwa [upd_ne (hst i hi)] at hd) j hj)⟩
  · rw [upd_ne (nC i hi)] at hd
    obtain ⟨F, f1, f2, f3⟩ := h.val i hi hd
    refine ⟨F, fun b hb => Nat.lt_of_lt_of_le (f1 b hb) hc.size, fun b hb hw j hj hdj => ?_, fun w' hs hb => ?_⟩
    · by_cases e : j = k
      · subst e
        rw [hxk]
        intro e'
        injection e' with e'
        simp only [Option.some.injEq, Addr.mk.injEq, and_true] at e'
        have := f1 b hb
        omega
      · rw [hx j e]; rw [upd_ne e] at hdj; exact f2 b hb hw j hj hdj
    · rw [hx i (nC i hi)]
      exact f3 w' (Nat.le_trans hc.size hs) fun b hb' => (hb b hb').trans (hc.block b (f1 b hb') (fun h => h))
  · by_cases e : i = k
    · subst e
      refine ⟨w.heap.size, hxk, hsz, by simp, fun _ => Blk.new _ _ _, fun hd2 => ?_⟩
      rw [upd_ne (hst i hi), hD] at hd2
      cases hd2
    · rw [upd_ne e] at hd
      obtain ⟨b, h1, h2, h3, h4, h5⟩ := h.ptr i hi hd
      refine ⟨b, by rw [hx i e]; exact h1, h2, by simp; omega, ?_, ?_⟩
      · rw [upd_ne (hst i hi)]; exact fun hd2 => (h4 hd2).keep hc (fun h => h)
      · rw [upd_ne (hst i hi), hx _ (hsrc i hi)]
        exact fun hd2 => (h5 hd2).keep hc (fun h => h)
  · by_cases e1 : i = k
    · subst e1
      have e2 : j ≠ i := Ne.symm hij
      rw [upd_ne e2] at hd'
      rw [hxk, hx j e2]
      obtain ⟨b, h1, _, h3, _⟩ := h.ptr j hj hd'
      rw [h1]
      intro e
      injection e with e
      simp only [Option.some.injEq, Addr.mk.injEq, and_true] at e
      omega
    · rw [upd_ne e1] at hd
      rw [hx i e1]
      by_cases e2 : j = k
      · subst e2
        rw [hxk]
        obtain ⟨b, h1, _, h3, _⟩ := h.ptr i hi hd
        rw [h1]
        intro e
        injection e with e
        simp only [Option.some.injEq, Addr.mk.injEq, and_true] at e
        omega
      · rw [upd_ne e2] at hd'
        rw [hx j e2]; exact h.diff i hi j hj hij hd hd'

/-- What a store into variable i finds. -/
theorem RG.before (h : RG W0 w D xs R Z C A st src) (i : Nat) (hi : i ∈ A) (hd : D i = true) (hs : D (st.getD i 0) = false) : ∃ b, xs.getD i undef = .pointer (some ⟨b, 0, none⟩) ∧ W0.heap.size ≤ b ∧ Blk w b (Z.getD i #[]) := by
  obtain ⟨b, h1, h2, h3, h4, h5⟩ := h.ptr i hi hd
  exact ⟨b, h1, h2, h4 hs⟩

/-- A store into variable i. -/
theorem RG.store (h : RG W0 w D xs R Z C A st src) {i k : Nat} (hi : i ∈ A) (hd : D i = true) (hk : st.getD i 0 = k) (hDk : D k = false) (hkC : k ∉ C) (hkA : k ∉ A) (hst : ∀ j, j ∈ A → j ≠ i → st.getD j 0 ≠ k) (hsrc : ∀ j, j ∈ A → src.getD j 0 ≠ k) (hall : ∀ j, j ∈ C ∨ j ∈ A → D j = true)
    {b : Nat} (hb : xs.getD i undef = .pointer (some ⟨b, 0, none⟩)) {w2 : World} (hc : Ch (S1 b) w w2) (hB2 : Blk w2 b (xs.getD (src.getD i 0) undef).cells) (v : Value) :
    RG W0 w2 (upd D k) (xs.set k v) R Z C A st src := by
  have hx : ∀ i, i ≠ k → (xs.set k v).getD i undef = xs.getD i undef := fun i hi => by simp [List.getD, List.getElem?_set_ne (Ne.symm hi)]
  have nC : ∀ i, i ∈ C → i ≠ k := fun i hi e => hkC (e ▸ hi)
  have nA : ∀ i, i ∈ A → i ≠ k := fun i hi e => hkA (e ▸ hi)
  have hsz := hc.size
  obtain ⟨b', h1, h2, h3, h4, h5⟩ := h.ptr i hi hd
  rw [hb] at h1
  injection h1 with h1
  simp only [Option.some.injEq, Addr.mk.injEq, and_true] at h1
  subst h1
  refine ⟨h.ch.trans' hc (fun j hj hs => by cases hs; omega), fun j hj hdj => ?_, fun j hj hdj => ?_, fun a ha j hj haj hda hdj => ?_, fun a ha hd2 j hj => ?_⟩
  · rw [upd_ne (nC j hj)] at hdj
    obtain ⟨F, f1, f2, f3⟩ := h.val j hj hdj
    have hap : ∀ c, F c → c ≠ b := fun c hF e => by
      subst e
      exact f2 c hF h2 i hi hd hb
    refine ⟨F, fun c hF => Nat.lt_of_lt_of_le (f1 c hF) hsz, fun c hF hw a ha hda => ?_, fun w' hs hb' => ?_⟩
    · rw [upd_ne (nA a ha)] at hda
      rw [hx a (nA a ha)]
      exact f2 c hF hw a ha hda
    · rw [hx j (nC j hj)]
      exact f3 w' (Nat.le_trans hsz hs) fun c hF => (hb' c hF).trans (hc.block c (f1 c hF) (hap c hF))
  · rw [upd_ne (nA j hj)] at hdj
    by_cases e : j = i
    · subst e
      refine ⟨b, by rw [hx j (nA j hj)]; exact hb, h2, by omega, fun hd2 => ?_, fun _ => by rw [hx _ (hsrc j hj)]; exact hB2⟩
      rw [hk, upd_same] at hd2; cases hd2
    · obtain ⟨c, q1, q2, q3, q4, q5⟩ := h.ptr j hj hdj
      have hne : ¬ S1 b c := fun e2 => by
        cases e2
        exact h.diff j hj i hi e hdj hd (by rw [q1, hb])
      refine ⟨c, by rw [hx j (nA j hj)]; exact q1, q2, by omega, ?_, ?_⟩
      · rw [upd_ne (hst j hj e)]; exact fun hd2 => (q4 hd2).keep hc hne
      · rw [upd_ne (hst j hj e), hx _ (hsrc j hj)]
        exact fun hd2 => (q5 hd2).keep hc hne
  · rw [upd_ne (nA a ha)] at hda; rw [upd_ne (nA j hj)] at hdj
    rw [hx a (nA a ha), hx j (nA j hj)]; exact h.diff a ha j hj haj hda hdj
  · by_cases e : a = i
    · subst e
      exact upd_mono (hall j hj)
    · rw [upd_ne (hst a ha e)] at hd2
      exact upd_mono (h.closed a ha hd2 j hj)
end
end Go.Proofs.Ytagillnkdaanaaa
