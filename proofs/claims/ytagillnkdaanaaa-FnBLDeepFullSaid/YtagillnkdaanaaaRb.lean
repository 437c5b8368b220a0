/- WALKS: blFilter (under way). -/
import Derived.Test.YtagillnkdaanaaaX
import Derived.Test.YtagillnkdaanaaaRa
namespace Go.Proofs.Ytagillnkdaanaaa
open Go.RowKit
set_option linter.unusedVariables false
set_option linter.unusedSimpArgs false

/-- len words that came in. -/
def WIn (w : World) (A : Option Addr) (len : Nat) (x : Nat → Nat) : Prop := ∀ j, j < len → x j < 18446744073709551616 ∧ ∃ q o, A = some ⟨q, o, none⟩ ∧ w.cell? ⟨q, o + j, none⟩ = some (.int .u64 (x j : Nat))
theorem WIn.keep {w w' : World} {A : Option Addr} {len : Nat} {x : Nat → Nat} (h : WIn w A len x) (hc : Ch S0 w w') : WIn w' A len x := fun j hj => by
  obtain ⟨hx, q, o, h1, h2⟩ := h j hj
  exact ⟨hx, q, o, h1, by rw [World.cell?_of_block (w := w) (hc.block q (World.block_lt_of_cell? w _ h2) (fun h => h))]; exact h2⟩

/-- xs = append(xs, y), xs of type []uint64, the call's own. -/
theorem app23 {w : World} {ops : Array Oper} {rest : List Oper} {o : Oper} {a : Act} {Q : Exit → Act → World → Prop} (hgd : o.guard = none) (s x : Operand)
    (ho : o.op = .call { callee := .builtin .append, args := #[s, x], argTypes := #[23, 23] }) (base n : Nat) (v : Value) (xs : List Value) (hs : a.eval s = v) (hown : w.ownsRow base 39 1 v n xs)
    (y : Value) (hy : y.oneCell' = true) (hx : a.eval x = .slice (some ⟨w.heap.size, 0, none⟩) 1 1) (hn : n ≤ 1000000) (hb : base ≤ w.heap.size)
    (h : ∀ g c w', w'.ownsRow base 39 1 (.slice (some ⟨g, 0, none⟩) (n + 1 : Nat) c) (n + 1) (xs ++ [y]) → (w.alloc (.cells #[y] 39)).grownBy w' v.ownBlock → wpList Try.prog ops Q rest (a.put o.dst (.slice (some ⟨g, 0, none⟩) (n + 1 : Nat) c)) w') :
    wpList Try.prog ops Q (o :: rest) a (w.alloc (.cells #[y] 39)) := by
  obtain ⟨i0, hi0, hz0, hz1, hz2⟩ := info_parts Try.info39
  refine wpList_append_own _ hgd s x 23 ho base 39 i0 (.int .u64 0) 1 8 Try.underlying23 hi0 hz0 hz1 hz2 rfl (by decide) v n xs hs (hown.alloc _) ⟨w.heap.size, 0, none⟩ 1 1 [y] hx rfl ?_ ?_ (by unfold maxLen; omega) (by omega) (by simp; omega) ?_
  · intro j u hj
    match j, hj with
    | 0, hj => simp at hj; subst hj; simp [Addr.add]
  · intro u hu
    simp at hu
    subst hu
    exact hy
  · intro v' w' h1 h2 _
    have h1' := h1
    rcases h1.2 with ⟨_, h0⟩ | ⟨g, cap, cur, rfl, _⟩
    · omega
    · exact h _ _ _ h1' h2

/-- What blFilter holds behind i words: the struct at fb. -/
structure BlInv (W wr : World) (M K : Nat) (g : Nat → Bool) (i : Nat) (v : Value) : Prop where
  res : Blk wr W.heap.size #[.int .u64 0, .int .u64 0, .slice none 0 0]
  blk : Blk wr (W.heap.size + 1) #[.int .u64 M, .int .u64 K, v]
  own : wr.ownsRow (W.heap.size + 2) 39 1 v i ((List.range i).map fun j => Value.int .u64 (Bit.wd g j : Nat))
  ch : Ch S0 W wr
end Go.Proofs.Ytagillnkdaanaaa
