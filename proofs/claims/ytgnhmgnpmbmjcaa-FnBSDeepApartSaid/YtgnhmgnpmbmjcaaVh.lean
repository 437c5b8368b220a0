/- MEMORY: what BSRun holds from round to round. -/
import Derived.Test.YtgnhmgnpmbmjcaaVg
import Derived.Maps.AppendAt
namespace Go.Proofs.Ytgnhmgnpmbmjcaa
open Go.RowKit
set_option linter.unusedVariables false
set_option linter.unusedSimpArgs false

/-- l = append(l, p), l of type []*BitSet, the call's own; where the new slice lies. -/
theorem app72_at {w : World} {ops : Array Oper} {rest : List Oper} {o : Oper} {a : Act} {Q : Exit → Act → World → Prop} (hgd : o.guard = none) (s x : Operand)
    (ho : o.op = .call { callee := .builtin .append, args := #[s, x], argTypes := #[72, 72] }) (base n : Nat) (v : Value) (xs : List Value) (hs : a.eval s = v) (hown : w.ownsRow base 55 1 v n xs)
    (y : Value) (hy : y.oneCell' = true) (hx : a.eval x = .slice (some ⟨w.heap.size, 0, none⟩) 1 1) (hn : n ≤ 1000000) (hb : base ≤ w.heap.size)
    (h : ∀ g c w', w'.ownsRow base 55 1 (.slice (some ⟨g, 0, none⟩) (n + 1 : Nat) c) (n + 1) (xs ++ [y]) → (w.alloc (.cells #[y] 55)).grownBy w' v.ownBlock → (v.ownBlock = some g ∨ w.heap.size ≤ g) → wpList Try.prog ops Q rest (a.put o.dst (.slice (some ⟨g, 0, none⟩) (n + 1 : Nat) c)) w') :
    wpList Try.prog ops Q (o :: rest) a (w.alloc (.cells #[y] 55)) := by
  obtain ⟨i0, hi0, hz0, hz1, hz2⟩ := info_parts Try.info55
  refine wpList_append_own_at _ hgd s x 72 ho base 55 i0 (.pointer none) 1 8 Try.underlying72 hi0 hz0 hz1 hz2 rfl (by decide) v n xs hs (hown.alloc _) ⟨w.heap.size, 0, none⟩ 1 1 [y] hx rfl ?_ ?_ (by unfold maxLen; omega) (by omega) (by simp; omega) ?_
  · intro j u hj
    match j, hj with
    | 0, hj => simp at hj; subst hj; simp [Addr.add]
  · intro u hu
    simp at hu
    subst hu
    exact hy
  · intro v' w' h1 h2 _ h4
    have h1' := h1
    rcases h1.2 with ⟨_, h0⟩ | ⟨g, cap, cur, rfl, _⟩
    · omega
    · refine h _ _ _ h1' h2 ?_
      rcases h4 with h4 | h4
      · exact .inl h4.symm
      · simp [Value.ownBlock] at h4; exact .inr (by omega)

/-- out = append(out, y), out of type []Bits, the call's own: two cells each; where the new slice lies. -/
theorem appBits_at {w : World} {ops : Array Oper} {rest : List Oper} {o : Oper} {a : Act} {Q : Exit → Act → World → Prop} (hgd : o.guard = none) (s x : Operand)
    (ho : o.op = .call { callee := .builtin .append, args := #[s, x], argTypes := #[50, 50] }) (base n : Nat) (v : Value) (xs : List Value) (hs : a.eval s = v) (hown : w.ownsRow base 25 2 v n xs)
    (y1 y2 : Value) (hy1 : y1.oneCell' = true) (hy2 : y2.oneCell' = true) (hx : a.eval x = .slice (some ⟨w.heap.size, 0, none⟩) 1 1) (hn : n ≤ 1000000) (hb : base ≤ w.heap.size)
    (h : ∀ g c w', w'.ownsRow base 25 2 (.slice (some ⟨g, 0, none⟩) (n + 1 : Nat) c) (n + 1) (xs ++ [y1, y2]) → (w.alloc (.cells #[y1, y2] 25)).grownBy w' v.ownBlock → (v.ownBlock = some g ∨ w.heap.size ≤ g) → wpList Try.prog ops Q rest (a.put o.dst (.slice (some ⟨g, 0, none⟩) (n + 1 : Nat) c)) w') :
    wpList Try.prog ops Q (o :: rest) a (w.alloc (.cells #[y1, y2] 25)) := by
  obtain ⟨i0, hi0, hz0, hz1, hz2⟩ := info_parts Try.info25
  refine wpList_append_own_at _ hgd s x 50 ho base 25 i0 (.agg #[.int .u64 0, .slice none 0 0]) 2 32 Try.underlying50 hi0 hz0 hz1 hz2 rfl (by decide) v n xs hs (hown.alloc _) ⟨w.heap.size, 0, none⟩ 1 1 [y1, y2] hx rfl ?_ ?_ (by unfold maxLen; omega) (by omega) (by simp; omega) ?_
  · intro j u hj
    match j, hj with
    | 0, hj => simp at hj; subst hj; simp [Addr.add]
    | 1, hj => simp at hj; subst hj; simp [Addr.add]
  · intro u hu
    simp at hu
    rcases hu with rfl | rfl
    · exact hy1
    · exact hy2
  · intro v' w' h1 h2 _ h4
    have h1' := h1
    rcases h1.2 with ⟨_, h0⟩ | ⟨g, cap, cur, rfl, _⟩
    · omega
    · refine h _ _ _ h1' h2 ?_
      rcases h4 with h4 | h4
      · exact .inl h4.symm
      · simp [Value.ownBlock] at h4; exact .inr (by omega)

theorem own_keepS {S : Nat → Prop} {w w' : World} {base e size n bl c : Nat} {xs : List Value} (h : w.ownsRow base e size (.slice (some ⟨bl, 0, none⟩) n c) n xs) (hc : Ch S w w') (hb : ¬ S bl) : w'.ownsRow base e size (.slice (some ⟨bl, 0, none⟩) n c) n xs := by
  refine ⟨h.1, ?_⟩
  rcases h.2 with ⟨h1, _⟩ | ⟨g, cap, cur, h1, h2, h3, h4⟩
  · cases h1
  · injection h1 with e1 e2 e3
    injection e1 with e1
    injection e1 with e1
    subst e1
    exact .inr ⟨bl, cap, cur, by rw [e3], h2, (hc.block bl (Array.getElem?_eq_some_iff.1 h3).1 hb).trans h3, h4⟩

theorem own_cell {w : World} {base e size n bl c : Nat} {xs : List Value} (h : w.ownsRow base e size (.slice (some ⟨bl, 0, none⟩) n c) n xs) (j : Nat) (u : Value) (hj : xs[j]? = some u) : w.cell? ⟨bl, j, none⟩ = some u := by
  rcases h.2 with ⟨h1, _⟩ | ⟨g, cap, cur, h1, h2, h3, h4, h5, h6, h7⟩
  · cases h1
  · injection h1 with e1 e2 e3
    injection e1 with e1
    injection e1 with e1
    subst e1
    rw [← h7] at hj
    simp only [World.cell?, h3]
    rw [List.getElem?_take] at hj
    split at hj
    · simpa using hj
    · cases hj

theorem IsQ.lt {q : Nat} {w : World} {v : Value} {L : Nat} {g : Nat → Bool} (h : IsQ q w v L g) (hp : 0 < (places g L).length) : q < w.heap.size := by
  obtain ⟨_, _, A, cap, _, h3⟩ := h
  exact World.block_lt_of_cell? w _ (h3 0 hp).2

/-- What BSRun holds behind i rounds (one at least): the bitset that is worked on, the other one, both lists; what the first round told. -/
structure Run (w : World) (B bl cl p0 p1 pon son poth soth L' : Nat) (g' : Nat → Bool) (L : Nat) (g : Nat → Bool) (q bo co i : Nat) (xs : List Value) : Prop where
  on : BS w pon son L' g'
  oth : BS w poth soth L g
  small : L' ≤ 1000
  lrow : w.ownsRow B 55 1 (.slice (some ⟨bl, 0, none⟩) (2 : Nat) cl) 2 [.pointer (some ⟨p0, 0, none⟩), .pointer (some ⟨p1, 0, none⟩)]
  orow : w.ownsRow B 25 2 (.slice (some ⟨bo, 0, none⟩) i co) i xs
  first : ∃ x0 x1 r, xs = x0 :: x1 :: r ∧ IsQ q w (.agg #[x0, x1]) L g
  pos : 0 < (places g L).length
  new : B ≤ pon ∧ B ≤ son ∧ B ≤ bo
  ne1 : (poth ≠ pon ∧ poth ≠ son ∧ soth ≠ pon ∧ soth ≠ son) ∧ bl ≠ pon ∧ bl ≠ son ∧ bo ≠ pon ∧ bo ≠ son ∧ q ≠ pon ∧ q ≠ son
  ne2 : poth ≠ bo ∧ soth ≠ bo ∧ bl ≠ bo ∧ q ≠ bo
  ne3 : q ≠ bl

section
variable {w w' : World} {B bl cl p0 p1 pon son poth soth L' : Nat} {g' : Nat → Bool} {L : Nat} {g : Nat → Bool} {q bo co i : Nat} {xs : List Value}

theorem ne_new {a s s2 S : Nat} (h : s2 = s ∨ S ≤ s2) (h1 : a ≠ s) (h2 : a < S) : a ≠ s2 := by omega
theorem ne_new' {a s s2 S : Nat} (h : s2 = s ∨ S ≤ s2) (h1 : s ≠ a) (h2 : a < S) : s2 ≠ a := by omega
theorem le_new {B s s2 S : Nat} (h : s2 = s ∨ S ≤ s2) (h1 : B ≤ s) (h2 : B ≤ S) : B ≤ s2 := by omega
theorem ne_big {a b S : Nat} (h : S ≤ b) (h2 : a < S) : a ≠ b := by omega
theorem ne_big' {a b S : Nat} (h : S ≤ b) (h2 : a < S) : b ≠ a := by omega
theorem own_lt {w : World} {base e size n bl c : Nat} {xs : List Value} (h : w.ownsRow base e size (.slice (some ⟨bl, 0, none⟩) n c) n xs) : base ≤ bl ∧ bl < w.heap.size := h.lt bl rfl

theorem Run.keep (h : Run w B bl cl p0 p1 pon son poth soth L' g' L g q bo co i xs) (hc : Ch S0 w w') : Run w' B bl cl p0 p1 pon son poth soth L' g' L g q bo co i xs := by
  obtain ⟨x0, x1, r, e, hq⟩ := h.first
  exact ⟨h.on.keep hc (fun h => h) (fun h => h), h.oth.keep hc (fun h => h) (fun h => h), h.small, own_keep h.lrow hc, own_keep h.orow hc, ⟨x0, x1, r, e, hq.keep hc (fun h => h)⟩, h.pos, h.new, h.ne1, h.ne2, h.ne3⟩

theorem Run.out (h : Run w B bl cl p0 p1 pon son poth soth L' g' L g q bo co i xs) {L2 : Nat} {g2 : Nat → Bool} (ho : Out w w' pon son L2 g2) (h2 : L2 ≤ 1000) (hB : B ≤ w.heap.size) :
    ∃ son2, Run w' B bl cl p0 p1 pon son2 poth soth L2 g2 L g q bo co i xs ∧ Ch (fun k => B ≤ k) w w' := by
  obtain ⟨x0, x1, r, e, hq⟩ := h.first
  obtain ⟨son2, k1, k2, k3⟩ := ho
  obtain ⟨⟨n1, n2, n3, n4⟩, n5, n6, n7, n8, n9, n10⟩ := h.ne1
  obtain ⟨m1, m2, m3, m4⟩ := h.ne2
  have o1 := own_lt h.orow
  have o2 := own_lt h.lrow
  have o3 := h.oth.lt
  have o4 := hq.lt h.pos
  obtain ⟨v1, v2, v3⟩ := h.new
  have nS : ∀ x, x ≠ pon → x ≠ son → ¬ S2 pon son x := fun x a b c => by rcases c with c | c; exact a c; exact b c
  have r1 := h.oth.keep k3 (nS _ n1 n2) (nS _ n3 n4)
  have r2 := own_keepS h.lrow k3 (nS _ n5 n6)
  have r3 := own_keepS h.orow k3 (nS _ n7 n8)
  have r4 := hq.keep k3 (nS _ n9 n10)
  have r5 : B ≤ pon ∧ B ≤ son2 ∧ B ≤ bo := ⟨v1, le_new k2 v2 hB, v3⟩
  have r6 : (poth ≠ pon ∧ poth ≠ son2 ∧ soth ≠ pon ∧ soth ≠ son2) ∧ bl ≠ pon ∧ bl ≠ son2 ∧ bo ≠ pon ∧ bo ≠ son2 ∧ q ≠ pon ∧ q ≠ son2 :=
    ⟨⟨n1, ne_new k2 n2 o3.1, n3, ne_new k2 n4 o3.2⟩, n5, ne_new k2 n6 o2.2, n7, ne_new k2 n8 o1.2, n9, ne_new k2 n10 o4⟩
  refine ⟨son2, ⟨k1, r1, h2, r2, r3, ⟨x0, x1, r, e, r4⟩, h.pos, r5, r6, h.ne2, h.ne3⟩, ?_⟩
  exact k3.mono (fun k _ hs => by rcases hs with rfl | rfl <;> assumption)

theorem Run.outB (h : Run w B bl cl p0 p1 pon son poth soth L' g' L g q bo co i xs) {L2 : Nat} {g2 : Nat → Bool} (h1 : BS w' pon son L2 g2) (h3 : Ch (S2 pon son) w w') (h2 : L2 ≤ 1000) (hB : B ≤ w.heap.size) :
    ∃ son2, Run w' B bl cl p0 p1 pon son2 poth soth L2 g2 L g q bo co i xs ∧ Ch (fun k => B ≤ k) w w' := h.out ⟨son, h1, .inl rfl, h3⟩ h2 hB

/-- Behind said64 of the one that is worked on, and the append. -/
theorem Run.grow (h : Run w B bl cl p0 p1 pon son poth soth L' g' L g q bo co i xs) {y1 y2 : Value} {b' c' : Nat} (hB : B ≤ w.heap.size)
    (hown : w'.ownsRow B 25 2 (.slice (some ⟨b', 0, none⟩) (i + 1 : Nat) c') (i + 1) (xs ++ [y1, y2])) (hgr : (w.alloc (.cells #[y1, y2] 25)).grownBy w' (Value.slice (some ⟨bo, 0, none⟩) i co).ownBlock) (hat : (Value.slice (some ⟨bo, 0, none⟩) i co).ownBlock = some b' ∨ w.heap.size ≤ b') :
    Run w' B bl cl p0 p1 pon son poth soth L' g' L g q b' c' (i + 1) (xs ++ [y1, y2]) ∧ Ch (fun k => B ≤ k) w w' := by
  obtain ⟨x0, x1, r, e, hq⟩ := h.first
  obtain ⟨⟨n1, n2, n3, n4⟩, n5, n6, n7, n8, n9, n10⟩ := h.ne1
  obtain ⟨m1, m2, m3, m4⟩ := h.ne2
  have o1 := own_lt h.orow
  have o2 := own_lt h.lrow
  have o3 := h.oth.lt
  have o5 := h.on.lt
  have o4 := hq.lt h.pos
  obtain ⟨v1, v2, v3⟩ := h.new
  have hc : Ch (S1 bo) w w' := ((Ch.refl _ _).alloc _).trans (Ch.ofGrown hgr fun k hk => by simpa [Value.ownBlock, S1, eq_comm] using hk)
  have hb' : b' = bo ∨ w.heap.size ≤ b' := by
    rcases hat with hat | hat
    · simp [Value.ownBlock] at hat; exact .inl hat.symm
    · exact .inr hat
  refine ⟨⟨h.on.keep hc (Ne.symm n7) (Ne.symm n8), h.oth.keep hc m1 m2, h.small, own_keepS h.lrow hc m3, hown, ⟨x0, x1, r ++ [y1, y2], by rw [e]; rfl, hq.keep hc m4⟩, h.pos, ⟨v1, v2, le_new hb' v3 hB⟩, ⟨⟨n1, n2, n3, n4⟩, n5, n6, ne_new' hb' n7 o5.1, ne_new' hb' n8 o5.2, n9, n10⟩, ⟨ne_new hb' m1 o3.1, ne_new hb' m2 o3.2, ne_new hb' m3 o2.2, ne_new hb' m4 o4⟩, h.ne3⟩, ?_⟩
  exact hc.mono (fun k _ hs => by cases hs; exact v3)

/-- What BSRun gives back. -/
structure Ran (w : World) (ov : Value) (n L : Nat) (g : Nat → Bool) : Prop where
  val : ∃ bo co y0 y1 z0 z1, ov = .slice (some ⟨bo, 0, none⟩) n co ∧ w.cell? ⟨bo, 0, none⟩ = some y0 ∧ w.cell? ⟨bo, 1, none⟩ = some y1 ∧ w.cell? ⟨bo, 2 * (n - 1), none⟩ = some z0 ∧ w.cell? ⟨bo, 2 * (n - 1) + 1, none⟩ = some z1 ∧ IsB 0 w (.agg #[y0, y1]) L g ∧ IsB 0 w (.agg #[z0, z1]) L g
theorem Run.start (h1 : BS w pon son L g) (h2 : BS w poth soth L g) (hs : L ≤ 1000) (hl : w.ownsRow B 55 1 (.slice (some ⟨bl, 0, none⟩) (2 : Nat) cl) 2 [.pointer (some ⟨p0, 0, none⟩), .pointer (some ⟨p1, 0, none⟩)])
    {y1 y2 : Value} {b' c' : Nat} (hq : IsQ q w (.agg #[y1, y2]) L g) (hp : 0 < (places g L).length) (hn : B ≤ pon ∧ B ≤ son) (hne : (poth ≠ pon ∧ poth ≠ son ∧ soth ≠ pon ∧ soth ≠ son) ∧ bl ≠ pon ∧ bl ≠ son ∧ q ≠ pon ∧ q ≠ son) (hqb : q ≠ bl) (hB : B ≤ w.heap.size)
    (hown : w'.ownsRow B 25 2 (.slice (some ⟨b', 0, none⟩) (1 : Nat) c') 1 [y1, y2]) (hgr : (w.alloc (.cells #[y1, y2] 25)).grownBy w' none) (hat : w.heap.size ≤ b') :
    Run w' B bl cl p0 p1 pon son poth soth L g L g q b' c' 1 [y1, y2] ∧ Ch S0 w w' := by
  have hc : Ch S0 w w' := ((Ch.refl _ _).alloc _).trans (Ch.ofGrown hgr fun k hk => by cases hk)
  have o1 := h1.lt
  have o2 := h2.lt
  have o3 := own_lt hl
  have o4 := hq.lt hp
  exact ⟨⟨h1.keep hc (fun h => h) (fun h => h), h2.keep hc (fun h => h) (fun h => h), hs, own_keep hl hc, hown, ⟨y1, y2, [], rfl, hq.keep hc (fun h => h)⟩, hp, ⟨hn.1, hn.2, Nat.le_trans hB hat⟩, ⟨hne.1, hne.2.1, hne.2.2.1, ne_big' hat o1.1, ne_big' hat o1.2, hne.2.2.2⟩, ⟨ne_big hat o2.1, ne_big hat o2.2, ne_big hat o3.2, ne_big hat o4⟩, hqb⟩, hc⟩

theorem Run.last (h : Run w B bl cl p0 p1 pon son poth soth L' g' L g q bo co i xs) {w1 : World} {z0 z1 : Value} {q2 b' c' : Nat} (hB : B ≤ w.heap.size) (hc : Ch (S1 bl) w w1) (hq2 : IsQ q2 w1 (.agg #[z0, z1]) L g) (hq2n : w.heap.size ≤ q2)
    (hown : w'.ownsRow B 25 2 (.slice (some ⟨b', 0, none⟩) (i + 1 : Nat) c') (i + 1) (xs ++ [z0, z1])) (hgr : (w1.alloc (.cells #[z0, z1] 25)).grownBy w' (Value.slice (some ⟨bo, 0, none⟩) i co).ownBlock) :
    Ran w' (.slice (some ⟨b', 0, none⟩) (i + 1 : Nat) c') (i + 1) L g ∧ Ch (fun k => B ≤ k) w w' := by
  obtain ⟨x0, x1, r, e, hq⟩ := h.first
  obtain ⟨m1, m2, m3, m4⟩ := h.ne2
  have o1 := own_lt h.orow
  have o2 := own_lt h.lrow
  have hc1 : Ch (S1 bo) w1 w' := ((Ch.refl _ _).alloc _).trans (Ch.ofGrown hgr fun k hk => by simpa [Value.ownBlock, S1, eq_comm] using hk)
  have hl := h.orow.1
  have n3 := h.ne3
  refine ⟨⟨b', c', x0, x1, z0, z1, rfl, own_cell hown 0 _ (by rw [e]; rfl), own_cell hown 1 _ (by rw [e]; rfl), own_cell hown _ _ (by rw [List.getElem?_append_right (by omega)]; simp [hl, Nat.mul_comm]), own_cell hown _ _ (by rw [List.getElem?_append_right (by omega)]; simp [hl, Nat.mul_comm]),
    ((hq.keep hc n3).keep hc1 m4).isB, (hq2.keep hc1 (ne_big' hq2n o1.2)).isB⟩, ?_⟩
  have v := h.new
  exact (hc.mono (fun k _ hs => by cases hs; exact o2.1)).trans' (hc1.mono (T := fun k => B ≤ k) (fun k _ hs => by cases hs; exact v.2.2)) (fun _ _ h => h)
end
end Go.Proofs.Ytgnhmgnpmbmjcaa
