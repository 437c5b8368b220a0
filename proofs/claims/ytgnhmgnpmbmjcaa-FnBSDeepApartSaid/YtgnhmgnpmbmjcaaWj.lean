/- REGIONS OF THE STATEMENTS: values that calls return, variables that are made, stores into these, in whatever order. -/
import Derived.Test.YtgnhmgnpmbmjcaaWi
import Derived.Test.YtgnhmgnpmbmjcaaG
namespace Go.Proofs.Ytgnhmgnpmbmjcaa
open Go.RowKit
set_option linter.unusedVariables false
set_option linter.unusedSimpArgs false

theorem Blk.newAt {w : World} {b : Nat} (c : Array Value) (T : TypeId) (h : b = w.heap.size) : Blk (w.alloc (.cells c T)) b c := by
  subst h
  exact Blk.new w c T

/-- Some bitset as plain data, of which R holds. -/
def Val (R : Nat → (Nat → Bool) → Prop) (w : World) (x : Value) : Prop := ∃ L g, R L g ∧ IsB 0 w x L g

theorem Val.keep {R : Nat → (Nat → Bool) → Prop} {w w' : World} {x : Value} (h : Val R w x) (hc : Ch S0 w w') : Val R w' x := by
  obtain ⟨L, g, hR, hV⟩ := h
  exact ⟨L, g, hR, hV.keep hc⟩

/-- The numbers of v do not lie in the block that p points to. -/
def Apart (v p : Value) : Prop := ∀ b, p = .pointer (some ⟨b, 0, none⟩) → ∀ l q o n c, v = .agg #[l, .slice (some ⟨q, o, none⟩) n c] → 0 < n → q ≠ b

theorem IsB.old {w : World} {v : Value} {L : Nat} {g : Nat → Bool} {base : Nat} (h : IsB base w v L g) : ∀ l q o n c, v = .agg #[l, .slice (some ⟨q, o, none⟩) n c] → 0 < n → base ≤ q ∧ q < w.heap.size := by
  obtain ⟨_, _, inv, rfl, A, cap, rfl, h3⟩ := h
  intro l q o n c e hn
  simp only [Value.agg.injEq, Array.mk.injEq, List.cons.injEq, Value.slice.injEq, and_true] at e
  obtain ⟨_, rfl, rfl, rfl⟩ := e
  obtain ⟨b, o', hb, e, hc⟩ := h3 0 hn
  simp only [Option.some.injEq, Addr.mk.injEq, and_true] at e
  obtain ⟨rfl, rfl⟩ := e
  exact ⟨hb, World.block_lt_of_cell? w _ hc⟩

theorem IsB.setApart {w : World} {v : Value} {L b : Nat} {g : Nat → Bool} {base : Nat} (h : IsB base w v L g) (ha : Apart v (.pointer (some ⟨b, 0, none⟩))) (i : Nat) (u : Value) : IsB base (w.setCell ⟨b, i, none⟩ u) v L g := by
  have h0 := h
  obtain ⟨h1, h2, inv, rfl, A, cap, rfl, h3⟩ := h
  refine ⟨h1, h2, _, rfl, A, cap, rfl, fun j hj => ?_⟩
  obtain ⟨q, o, hb, rfl, hc⟩ := h3 j hj
  have hne := ha b rfl _ q o _ cap rfl (by omega)
  exact ⟨q, o, hb, rfl, by rw [World.cell?_setCell_other _ _ _ _ (by intro e; injection e with e1; exact hne e1.symm)]; exact hc⟩

def zeros : Array Value := #[.int .u64 0, .slice none 0 0]

/-- What the operations in D have left in memory: xs: the values in their slots; C: those that call; A: those that make a variable; st, src: what is stored into it, and where this comes from. -/
structure RM (W0 w : World) (D : Nat → Bool) (xs : List Value) (R : List (Nat → (Nat → Bool) → Prop)) (C A : List Nat) (st src : List Nat) : Prop where
  ch : Ch S0 W0 w
  val : ∀ i, i ∈ C → D i = true → Val (R.getD i fun _ _ => True) w (xs.getD i undef)
  ptr : ∀ i, i ∈ A → D i = true → ∃ b, xs.getD i undef = .pointer (some ⟨b, 0, none⟩) ∧ W0.heap.size ≤ b ∧ b < w.heap.size ∧ (D (st.getD i 0) = false → Blk w b zeros) ∧
    (D (st.getD i 0) = true → ∃ l u, xs.getD (src.getD i 0) undef = .agg #[l, u] ∧ Blk w b #[l, u])
  apart : ∀ i, i ∈ C → ∀ j, j ∈ A → D i = true → D j = true → Apart (xs.getD i undef) (xs.getD j undef)
  diff : ∀ i, i ∈ A → ∀ j, j ∈ A → i ≠ j → D i = true → D j = true → xs.getD i undef ≠ xs.getD j undef
  closed : ∀ i, i ∈ A → D (st.getD i 0) = true → ∀ j, j ∈ C ∨ j ∈ A → D j = true

section
variable {W0 w : World} {D : Nat → Bool} {xs : List Value} {R : List (Nat → (Nat → Bool) → Prop)} {C A : List Nat} {st src : List Nat}

theorem upd_ne {i j : Nat} (h : j ≠ i) : upd D i j = D j := by simp [upd, h]
theorem upd_same {i : Nat} : upd D i i = true := by simp [upd]
theorem upd_out {i j : Nat} (h : upd D i j = true) (hne : j ≠ i) : D j = true := by rwa [upd_ne hne] at h
theorem upd_mono {i j : Nat} (h : D j = true) : upd D i j = true := by unfold upd; split <;> simp_all

/-- Another operation, which leaves memory as it is. -/
theorem RM.other (h : RM W0 w D xs R C A st src) {k : Nat} (v : Value) (hC : k ∉ C) (hA : k ∉ A) (hst : ∀ i, i ∈ A → st.getD i 0 ≠ k) (hsrc : ∀ i, i ∈ A → src.getD i 0 ≠ k) : RM W0 w (upd D k) (xs.set k v) R C A st src := by
  have hx : ∀ i, i ≠ k → (xs.set k v).getD i undef = xs.getD i undef := fun i hi => by simp [List.getD, List.getElem?_set_ne (Ne.symm hi)]
  have nC : ∀ i, i ∈ C → i ≠ k := fun i hi e => hC (e ▸ hi)
  have nA : ∀ i, i ∈ A → i ≠ k := fun i hi e => hA (e ▸ hi)
  refine ⟨h.ch, fun i hi hd => ?_, fun i hi hd => ?_, fun i hi j hj hd hd' => ?_, fun i hi j hj hij hd hd' => ?_, fun i hi hd j hj => upd_mono (h.closed i hi (by rwa [upd_ne (hst i hi)] at hd) j hj)⟩
  · rw [hx i (nC i hi)]; rw [upd_ne (nC i hi)] at hd; exact h.val i hi hd
  · rw [upd_ne (nA i hi)] at hd
    obtain ⟨b, h1, h2, h3, h4, h5⟩ := h.ptr i hi hd
    refine ⟨b, by rw [hx i (nA i hi)]; exact h1, h2, h3, ?_, ?_⟩
    · rw [upd_ne (hst i hi)]; exact h4
    · rw [upd_ne (hst i hi), hx _ (hsrc i hi)]; exact h5
  · rw [upd_ne (nC i hi)] at hd; rw [upd_ne (nA j hj)] at hd'
    rw [hx i (nC i hi), hx j (nA j hj)]; exact h.apart i hi j hj hd hd'
  · rw [upd_ne (nA i hi)] at hd; rw [upd_ne (nA j hj)] at hd'
    rw [hx i (nA i hi), hx j (nA j hj)]; exact h.diff i hi j hj hij hd hd'

/-- A call that returns a bitset. -/
theorem RM.call (h : RM W0 w D xs R C A st src) {k : Nat} (hk : k < xs.length) (hC : k ∈ C) (hA : k ∉ A) (hst : ∀ i, i ∈ A → st.getD i 0 ≠ k) (hD : D k = false)
    {w2 : World} {v : Value} {L : Nat} {g : Nat → Bool} (hc : Ch S0 w w2) (hv : IsB w.heap.size w2 v L g) (hR : R.getD k (fun _ _ => True) L g) : RM W0 w2 (upd D k) (xs.set k v) R C A st src := by
  have hx : ∀ i, i ≠ k → (xs.set k v).getD i undef = xs.getD i undef := fun i hi => by simp [List.getD, List.getElem?_set_ne (Ne.symm hi)]
  have hxk : (xs.set k v).getD k undef = v := by simp [List.getD, hk]
  have nA : ∀ i, i ∈ A → i ≠ k := fun i hi e => hA (e ▸ hi)
  have hsz := hc.size
  have hsrc : ∀ i, i ∈ A → src.getD i 0 = k → D (st.getD i 0) = false := fun i hi _ => by
    cases e : D (st.getD i 0) with
    | false => rfl
    | true => rw [h.closed i hi e k (Or.inl hC)] at hD; cases hD
  refine ⟨h.ch.trans hc, fun i hi hd => ?_, fun i hi hd => ?_, fun i hi j hj hd hd' => ?_, fun i hi j hj hij hd hd' => ?_, fun i hi hd j hj => upd_mono (h.closed i hi (by rwa [upd_ne (hst i hi)] at hd) j hj)⟩
  · by_cases e : i = k
    · subst e; rw [hxk]; exact ⟨L, g, hR, hv.mono (Nat.zero_le _)⟩
    · rw [hx i e]; rw [upd_ne e] at hd; exact (h.val i hi hd).keep hc
  · rw [upd_ne (nA i hi)] at hd
    obtain ⟨b, h1, h2, h3, h4, h5⟩ := h.ptr i hi hd
    refine ⟨b, by rw [hx i (nA i hi)]; exact h1, h2, by omega, ?_, ?_⟩
    · rw [upd_ne (hst i hi)]; exact fun hd2 => (h4 hd2).keep hc (fun h => h)
    · rw [upd_ne (hst i hi)]
      intro hd2
      have hne : src.getD i 0 ≠ k := fun e => by rw [hsrc i hi e] at hd2; cases hd2
      rw [hx _ hne]
      obtain ⟨l, u, q1, q2⟩ := h5 hd2
      exact ⟨l, u, q1, q2.keep hc (fun h => h)⟩
  · rw [upd_ne (nA j hj)] at hd'
    rw [hx j (nA j hj)]
    by_cases e : i = k
    · subst e
      rw [hxk]
      obtain ⟨b, h1, _, h3, _⟩ := h.ptr j hj hd'
      intro b' e' l q o n c ev hn
      rw [h1] at e'
      injection e' with e'
      simp only [Option.some.injEq, Addr.mk.injEq, and_true] at e'
      have := (hv.old l q o n c ev hn).1
      omega
    · rw [hx i e]; rw [upd_ne e] at hd; exact h.apart i hi j hj hd hd'
  · rw [upd_ne (nA i hi)] at hd; rw [upd_ne (nA j hj)] at hd'
    rw [hx i (nA i hi), hx j (nA j hj)]; exact h.diff i hi j hj hij hd hd'

/-- A variable is made. -/
theorem RM.alloc (h : RM W0 w D xs R C A st src) {k : Nat} (hk : k < xs.length) (hC : k ∉ C) (hst : ∀ i, i ∈ A → st.getD i 0 ≠ k) (hsrc : ∀ i, i ∈ A → src.getD i 0 ≠ k) (hDk : D k = false) (hkA : k ∈ A) (T : TypeId) :
    RM W0 (w.alloc (.cells #[.int .u64 0, .slice none 0 0] T)) (upd D k) (xs.set k (.pointer (some ⟨w.heap.size, 0, none⟩))) R C A st src := by
  have hx : ∀ i, i ≠ k → (xs.set k (.pointer (some ⟨w.heap.size, 0, none⟩))).getD i undef = xs.getD i undef := fun i hi => by simp [List.getD, List.getElem?_set_ne (Ne.symm hi)]
  have hxk : (xs.set k (.pointer (some ⟨w.heap.size, 0, none⟩))).getD k undef = .pointer (some ⟨w.heap.size, 0, none⟩) := by simp [List.getD, hk]
  have nC : ∀ i, i ∈ C → i ≠ k := fun i hi e => hC (e ▸ hi)
  have hc : Ch S0 w (w.alloc (.cells #[.int .u64 0, .slice none 0 0] T)) := (Ch.refl _ _).alloc _
  have hsz := h.ch.size
  have hD : D (st.getD k 0) = false := by
    cases e : D (st.getD k 0) with
    | false => rfl
    | true => rw [h.closed k hkA e k (Or.inr hkA)] at hDk; cases hDk
  refine ⟨h.ch.trans hc, fun i hi hd => ?_, fun i hi hd => ?_, fun i hi j hj hd hd' => ?_, fun i hi j hj hij hd hd' => ?_, fun i hi hd j hj => upd_mono (h.closed i hi (by rwa [upd_ne (hst i hi)] at hd) j hj)⟩
  · rw [hx i (nC i hi)]; rw [upd_ne (nC i hi)] at hd; exact (h.val i hi hd).keep hc
  · by_cases e : i = k
    · subst e
      refine ⟨w.heap.size, hxk, hsz, by simp, fun _ => Blk.new _ _ _, fun hd2 => ?_⟩
      rw [upd_ne (hst i hi), hD] at hd2
      cases hd2
    · rw [upd_ne e] at hd
      obtain ⟨b, h1, h2, h3, h4, h5⟩ := h.ptr i hi hd
      refine ⟨b, by rw [hx i e]; exact h1, h2, by simp; omega, ?_, ?_⟩
      · rw [upd_ne (hst i hi)]; exact fun hd2 => (h4 hd2).keep hc (fun h => h)
      · rw [upd_ne (hst i hi), hx _ (hsrc i hi)]
        intro hd2
        obtain ⟨l, u, q1, q2⟩ := h5 hd2
        exact ⟨l, u, q1, q2.keep hc (fun h => h)⟩
  · rw [upd_ne (nC i hi)] at hd
    rw [hx i (nC i hi)]
    by_cases e : j = k
    · subst e
      rw [hxk]
      intro b' e' l q o n c ev hn
      injection e' with e'
      simp only [Option.some.injEq, Addr.mk.injEq, and_true] at e'
      obtain ⟨L, g, _, hv⟩ := h.val i hi hd
      have := (hv.old l q o n c ev hn).2
      omega
    · rw [hx j e]; rw [upd_ne e] at hd'; exact h.apart i hi j hj hd hd'
  · by_cases e1 : i = k
    · subst e1
      have e2 : j ≠ i := Ne.symm hij
      rw [upd_ne e2] at hd'
      rw [hxk, hx j e2]
      obtain ⟨b, h1, _, h3, _⟩ := h.ptr j hj hd'
      rw [h1]
      intro e
      injection e with e
      simp only [Option.some.injEq, Addr.mk.injEq, and_true] at e
      omega
    · rw [upd_ne e1] at hd
      rw [hx i e1]
      by_cases e2 : j = k
      · subst e2
        rw [hxk]
        obtain ⟨b, h1, _, h3, _⟩ := h.ptr i hi hd
        rw [h1]
        intro e
        injection e with e
        simp only [Option.some.injEq, Addr.mk.injEq, and_true] at e
        omega
      · rw [upd_ne e2] at hd'
        rw [hx j e2]; exact h.diff i hi j hj hij hd hd'

/-- What a store into variable i finds. -/
theorem RM.before (h : RM W0 w D xs R C A st src) {i : Nat} (hi : i ∈ A) (hd : D i = true) (hs : D (st.getD i 0) = false) : ∃ b, xs.getD i undef = .pointer (some ⟨b, 0, none⟩) ∧ W0.heap.size ≤ b ∧ w.cell? ⟨b, 0, none⟩ = some (.int .u64 0) ∧ w.cell? ⟨b, 1, none⟩ = some (.slice none 0 0) ∧ w.frozen? ⟨b, 0, none⟩ = false ∧ w.frozen? ⟨b, 1, none⟩ = false := by
  obtain ⟨b, h1, h2, h3, h4, h5⟩ := h.ptr i hi hd
  have hb := h4 hs
  exact ⟨b, h1, h2, by rw [hb.cell]; rfl, by rw [hb.cell]; rfl, hb.free 0, hb.free 1⟩

/-- A store into variable i. -/
theorem RM.store (h : RM W0 w D xs R C A st src) {i k : Nat} (hi : i ∈ A) (hd : D i = true) (hk : st.getD i 0 = k) (hDk : D k = false) (hkC : k ∉ C) (hkA : k ∉ A) (hst : ∀ j, j ∈ A → j ≠ i → st.getD j 0 ≠ k) (hsrc : ∀ j, j ∈ A → src.getD j 0 ≠ k) (hall : ∀ j, j ∈ C ∨ j ∈ A → D j = true)
    {b : Nat} {l u : Value} (hb : xs.getD i undef = .pointer (some ⟨b, 0, none⟩)) (hv : xs.getD (src.getD i 0) undef = .agg #[l, u]) (v : Value) :
    RM W0 ((w.setCell ⟨b, 0, none⟩ l).setCell ⟨b, 1, none⟩ u) (upd D k) (xs.set k v) R C A st src := by
  have hx : ∀ i, i ≠ k → (xs.set k v).getD i undef = xs.getD i undef := fun i hi => by simp [List.getD, List.getElem?_set_ne (Ne.symm hi)]
  have nC : ∀ i, i ∈ C → i ≠ k := fun i hi e => hkC (e ▸ hi)
  have nA : ∀ i, i ∈ A → i ≠ k := fun i hi e => hkA (e ▸ hi)
  obtain ⟨b', h1, h2, h3, h4, h5⟩ := h.ptr i hi hd
  rw [hb] at h1
  injection h1 with h1
  simp only [Option.some.injEq, Addr.mk.injEq, and_true] at h1
  subst h1
  have hB := h4 (by rw [hk]; exact hDk)
  refine ⟨(h.ch.setCell _ (fun hl => by simp at hl; omega) _).setCell _ (fun hl => by simp at hl; omega) _, fun j hj hdj => ?_, fun j hj hdj => ?_, fun a ha j hj hda hdj => ?_, fun a ha j hj haj hda hdj => ?_, fun a ha hd2 j hj => ?_⟩
  · rw [hx j (nC j hj)]
    rw [upd_ne (nC j hj)] at hdj
    obtain ⟨L, g, hR, hV⟩ := h.val j hj hdj
    have hap := h.apart j hj i hi hdj hd
    rw [hb] at hap
    exact ⟨L, g, hR, (hV.setApart hap 0 l).setApart hap 1 u⟩
  · rw [upd_ne (nA j hj)] at hdj
    by_cases e : j = i
    · subst e
      refine ⟨b, by rw [hx j (nA j hj)]; exact hb, h2, by simpa using h3, fun hd2 => ?_, fun _ => ⟨l, u, by rw [hx _ (hsrc j hj)]; exact hv, ?_⟩⟩
      · rw [hk, upd_same] at hd2; cases hd2
      · have := (hB.set 0 l).set 1 u
        simpa [zeros] using this
    · obtain ⟨c, q1, q2, q3, q4, q5⟩ := h.ptr j hj hdj
      have hne : b ≠ c := fun e2 => by
        subst e2
        exact h.diff j hj i hi e hdj hd (by rw [q1, hb])
      refine ⟨c, by rw [hx j (nA j hj)]; exact q1, q2, by simpa using q3, ?_, ?_⟩
      · rw [upd_ne (hst j hj e)]; exact fun hd2 => ((q4 hd2).setOther (by simpa using hne) _).setOther (by simpa using hne) _
      · rw [upd_ne (hst j hj e), hx _ (hsrc j hj)]
        intro hd2
        obtain ⟨l', u', p1, p2⟩ := q5 hd2
        exact ⟨l', u', p1, (p2.setOther (by simpa using hne) _).setOther (by simpa using hne) _⟩
  · rw [upd_ne (nC a ha)] at hda; rw [upd_ne (nA j hj)] at hdj
    rw [hx a (nC a ha), hx j (nA j hj)]; exact h.apart a ha j hj hda hdj
  · rw [upd_ne (nA a ha)] at hda; rw [upd_ne (nA j hj)] at hdj
    rw [hx a (nA a ha), hx j (nA j hj)]; exact h.diff a ha j hj haj hda hdj
  · by_cases e : a = i
    · subst e
      exact upd_mono (hall j hj)
    · rw [upd_ne (hst a ha e)] at hd2
      exact upd_mono (h.closed a ha hd2 j hj)
end
end Go.Proofs.Ytgnhmgnpmbmjcaa
