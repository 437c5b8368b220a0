/- WALKS: FIRun: steps on a new map. -/
import Derived.Test.YtjliofloheellaaD
import Derived.Maps.AppendAt
namespace Go.Proofs.Ytjliofloheellaa
open Go.RowKit
set_option linter.unusedVariables false
set_option linter.unusedSimpArgs false

/-- A step: 1 set, 2 get, 3 exists, 5 length. -/
structure Stp where
  op : Nat
  k : Nat
  v : Nat

/-- These steps lie at A. -/
def Steps (w : World) (A : Option Addr) (xs : List Stp) : Prop := ∀ j x, xs[j]? = some x → ∃ q o, A = some ⟨q, o, none⟩ ∧ w.cell? ⟨q, o + j * 3, none⟩ = some (.int .i64 x.op) ∧ w.cell? ⟨q, o + j * 3 + 1, none⟩ = some (.int .u64 x.k) ∧ w.cell? ⟨q, o + j * 3 + 2, none⟩ = some (.int .u64 x.v)
theorem Steps.keep {w w' : World} {A : Option Addr} {xs : List Stp} (h : Steps w A xs) (hc : Ch S0 w w') : Steps w' A xs := fun j x hj => by
  obtain ⟨q, o, h1, h2, h3, h4⟩ := h j x hj
  have hb := hc.block q (World.block_lt_of_cell? w _ h2) (fun h => h)
  exact ⟨q, o, h1, by rw [World.cell?_of_block (w := w) hb]; exact h2, by rw [World.cell?_of_block (w := w) hb]; exact h3, by rw [World.cell?_of_block (w := w) hb]; exact h4⟩

abbrev FS := (Nat → Option Nat) × Nat
def next (s : FS) (x : Stp) : FS := if x.op = 1 then (upd s.1 x.k x.v, s.2 + 1) else s
def said (s : FS) (x : Stp) : Nat × Bool := if x.op = 2 then ((s.1 x.k).getD 0, (s.1 x.k).isSome) else if x.op = 3 then (0, (s.1 x.k).isSome) else if x.op = 5 then (s.2, false) else (0, false)
/-- The state behind the first i steps, and what they said. -/
def sts (xs : List Stp) (s : FS) : Nat → FS
  | 0 => s
  | i + 1 => match xs[i]? with
    | none => sts xs s i
    | some x => next (sts xs s i) x
def says (xs : List Stp) (s : FS) : Nat → List (Nat × Bool)
  | 0 => []
  | i + 1 => match xs[i]? with
    | none => says xs s i
    | some x => says xs s i ++ [said (sts xs s i) x]
/-- The steps may be done: no key is set twice, at most 102 sets. -/
def Fine (xs : List Stp) (s : FS) : Prop := ∀ i x, xs[i]? = some x → x.op ∈ [1, 2, 3, 5] ∧ (x.op = 1 → (sts xs s i).1 x.k = none) ∧ (sts xs s i).2 ≤ 102

def ansCells (ys : List (Nat × Bool)) : List Value := ys.flatMap fun y => [.int .u64 y.1, .bool y.2]
theorem ansCells_snoc (ys : List (Nat × Bool)) (y : Nat × Bool) : ansCells (ys ++ [y]) = ansCells ys ++ [.int .u64 y.1, .bool y.2] := by simp [ansCells]

theorem Try.info30 : (Try.prog.info? 30).map (fun i => (i.zero, i.size, i.bytes)) = some (some (.agg #[.int .u64 0, .bool false]), 2, 16) := by kernel_rfl

theorem own_keepS {S : Nat → Prop} {w w' : World} {base e size n : Nat} {v : Value} {xs : List Value} (h : w.ownsRow base e size v n xs) (hc : Ch S w w') (hs : ∀ g, v.ownBlock = some g → ¬ S g) : w'.ownsRow base e size v n xs := by
  obtain ⟨h1, h2⟩ := h
  refine ⟨h1, ?_⟩
  rcases h2 with h2 | ⟨g, cap, cur, rfl, hb, hh, h3⟩
  · exact Or.inl h2
  · have hl : g < w.heap.size := (Array.getElem?_eq_some_iff.1 hh).1
    exact Or.inr ⟨g, cap, cur, rfl, hb, by rw [hc.block g hl (hs g rfl)]; exact hh, h3⟩
theorem own_lt {w : World} {base e size n : Nat} {v : Value} {xs : List Value} (h : w.ownsRow base e size v n xs) (g : Nat) (hg : v.ownBlock = some g) : base ≤ g ∧ g < w.heap.size := by
  rcases h.2 with ⟨rfl, _⟩ | ⟨g', cap, cur, rfl, hb, hh, _⟩
  · cases hg
  · cases hg
    exact ⟨hb, (Array.getElem?_eq_some_iff.1 hh).1⟩
theorem Ch.ofGrown {w w' : World} {S : Nat → Prop} {r : Option Nat} (h : w.grownBy w' r) (hr : ∀ k, r = some k → S k) : Ch S w w' :=
  ⟨h.os, h.tape, h.output, h.size, fun k hk hn => h.block k hk fun e => hn (hr k e.symm)⟩

/-- out = append(out, said) -/
theorem app30 {w : World} {ops : Array Oper} {rest : List Oper} {o : Oper} {a : Act} {Q : Exit → Act → World → Prop} (hgd : o.guard = none) (s x : Operand)
    (ho : o.op = .call { callee := .builtin .append, args := #[s, x], argTypes := #[27, 27] }) (base n : Nat) (v : Value) (xs : List Value) (hs : a.eval s = v) (hown : w.ownsRow base 30 2 v n xs)
    (y1 y2 : Value) (h1 : y1.oneCell' = true) (h2 : y2.oneCell' = true) (q0 : Nat) (hq0 : w.heap.size = q0) (hx : a.eval x = .slice (some ⟨q0, 0, none⟩) 1 1) (hn : n ≤ 1000000) (hb : base ≤ w.heap.size)
    (h : ∀ v' w', w'.ownsRow base 30 2 v' (n + 1) (xs ++ [y1, y2]) → (w.alloc (.cells #[y1, y2] 30)).grownBy w' v.ownBlock → (v'.ownBlock = v.ownBlock ∨ v'.ownBlock = some (w.heap.size + 1)) → wpList Try.prog ops Q rest (a.put o.dst v') w') :
    wpList Try.prog ops Q (o :: rest) a (w.alloc (.cells #[y1, y2] 30)) := by
  subst hq0
  obtain ⟨i0, hi0, hz0, hz1, hz2⟩ := info_parts Try.info30
  refine wpList_append_own_at _ hgd s x 27 ho base 30 i0 (.agg #[.int .u64 0, .bool false]) 2 16 Try.underlying27 hi0 hz0 hz1 hz2 rfl (by decide) v n xs hs (own_keepS hown ((Ch.refl S0 _).alloc _) (fun _ _ h => h)) ⟨w.heap.size, 0, none⟩ 1 1 [y1, y2] hx rfl ?_ ?_ (by unfold maxLen; omega) (by omega) (by simp; omega) ?_
  · intro j u hj
    match j, hj with
    | 0, hj => simp at hj; subst hj; simp [Addr.add]
    | 1, hj => simp at hj; subst hj; simp [Addr.add]
  · intro u hu
    simp at hu
    rcases hu with rfl | rfl <;> assumption
  · intro v' w' g1 g2 _ g3
    exact h v' w' g1 g2 (by simpa using g3)

/-- FIRun behind some steps. -/
structure RunI (W wr : World) (fb : Nat) (s : FS) (vo : Value) (ys : List (Nat × Bool)) : Prop where
  fi : ∃ tb e T, FI W.heap.size wr fb tb e T s.1 s.2 ∧ e ≤ 10 ∧ ∀ b, (b = fb ∨ InB tb e T b) → vo.ownBlock ≠ some b
  own : wr.ownsRow W.heap.size 30 2 vo ys.length (ansCells ys)
  ch : Ch S0 W wr

theorem RunI.keep {W wr w' : World} {fb : Nat} {s : FS} {vo : Value} {ys : List (Nat × Bool)} (h : RunI W wr fb s vo ys) (hc : Ch S0 wr w') : RunI W w' fb s vo ys := by
  obtain ⟨⟨tb, e, T, h1, h2, h3⟩, h4, h5⟩ := h
  exact ⟨⟨tb, e, T, h1.keep hc, h2, h3⟩, own_keepS h4 hc (fun _ _ h => h), h5.trans hc⟩
/-- Behind an append. -/
theorem RunI.grow {W wr w' : World} {fb : Nat} {s : FS} {vo v' : Value} {ys : List (Nat × Bool)} {y : Nat × Bool} (h : RunI W wr fb s vo ys)
    (hown : w'.ownsRow W.heap.size 30 2 v' (ys.length + 1) (ansCells ys ++ [.int .u64 y.1, .bool y.2])) (hg : (wr.alloc (.cells #[.int .u64 y.1, .bool y.2] 30)).grownBy w' vo.ownBlock) (hb : v'.ownBlock = vo.ownBlock ∨ v'.ownBlock = some (wr.heap.size + 1)) : RunI W w' fb s v' (ys ++ [y]) := by
  obtain ⟨⟨tb, e, T, h1, h2, h3⟩, h4, h5⟩ := h
  have hc : Ch (fun k => vo.ownBlock = some k) wr w' := ((Ch.refl _ _).alloc _).trans (Ch.ofGrown hg fun k hk => hk)
  have htl := h1.arr.lt
  have hfl := h1.blk.lt
  refine ⟨⟨tb, e, T, ⟨h1.blk.keep hc (h3 fb (Or.inl rfl)), h1.arr.keep hc (h3 tb (Or.inr (Or.inl rfl))) (fun i p hi hp => h3 p.b (Or.inr (Or.inr ⟨i, p, hi, hp, rfl⟩))), h1.tab, h1.rep, h1.occ, h1.load, h1.small, h1.low, h1.pks⟩, h2, fun b hI => ?_⟩, by simpa [ansCells_snoc] using hown, h5.trans' hc (fun k hk hs => ?_)⟩
  · rcases hb with e' | e'
    · rw [e']; exact h3 b hI
    · rw [e']
      intro e2
      have e3 : wr.heap.size + 1 = b := Option.some.inj e2
      rcases hI with rfl | rfl | ⟨i, p, hi, hp, rfl⟩
      · omega
      · omega
      · have := (h1.arr.pks i p hi hp).2.lt; omega
  · have := own_lt h4 k hs
    omega
end Go.Proofs.Ytjliofloheellaa
