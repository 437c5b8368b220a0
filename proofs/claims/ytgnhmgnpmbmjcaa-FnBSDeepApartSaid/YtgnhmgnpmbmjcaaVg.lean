/- WALKS: appends to the lists of BSRun: pointers, plain bitsets of two cells. -/
import Derived.Test.YtgnhmgnpmbmjcaaVf
namespace Go.Proofs.Ytgnhmgnpmbmjcaa
open Go.RowKit
set_option linter.unusedVariables false
set_option linter.unusedSimpArgs false

theorem Try.info55 : (Try.prog.info? 55).map (fun i => (i.zero, i.size, i.bytes)) = some (some (.pointer none), 1, 8) := by kernel_rfl
theorem Try.info25 : (Try.prog.info? 25).map (fun i => (i.zero, i.size, i.bytes)) = some (some (.agg #[.int .u64 0, .slice none 0 0]), 2, 32) := by kernel_rfl

/-- l = append(l, p), l of type []*BitSet, the call's own. -/
theorem app72 {w : World} {ops : Array Oper} {rest : List Oper} {o : Oper} {a : Act} {Q : Exit → Act → World → Prop} (hgd : o.guard = none) (s x : Operand)
    (ho : o.op = .call { callee := .builtin .append, args := #[s, x], argTypes := #[72, 72] }) (base n : Nat) (v : Value) (xs : List Value) (hs : a.eval s = v) (hown : w.ownsRow base 55 1 v n xs)
    (y : Value) (hy : y.oneCell' = true) (hx : a.eval x = .slice (some ⟨w.heap.size, 0, none⟩) 1 1) (hn : n ≤ 1000000) (hb : base ≤ w.heap.size)
    (h : ∀ A n' c w', w'.ownsRow base 55 1 (.slice A n' c) (n + 1) (xs ++ [y]) → (w.alloc (.cells #[y] 55)).grownBy w' v.ownBlock → wpList Try.prog ops Q rest (a.put o.dst (.slice A n' c)) w') :
    wpList Try.prog ops Q (o :: rest) a (w.alloc (.cells #[y] 55)) := by
  obtain ⟨i0, hi0, hz0, hz1, hz2⟩ := info_parts Try.info55
  refine wpList_append_own _ hgd s x 72 ho base 55 i0 (.pointer none) 1 8 Try.underlying72 hi0 hz0 hz1 hz2 rfl (by decide) v n xs hs (hown.alloc _) ⟨w.heap.size, 0, none⟩ 1 1 [y] hx rfl ?_ ?_ (by unfold maxLen; omega) (by omega) (by simp; omega) ?_
  · intro j u hj
    match j, hj with
    | 0, hj => simp at hj; subst hj; simp [Addr.add]
  · intro u hu
    simp at hu
    subst hu
    exact hy
  · intro v' w' h1 h2 _
    have h1' := h1
    rcases h1.2 with ⟨rfl, _⟩ | ⟨g, cap, cur, rfl, _⟩
    · exact h _ _ _ _ h1' h2
    · exact h _ _ _ _ h1' h2

/-- out = append(out, y), out of type []Bits, the call's own: two cells each. -/
theorem appBits {w : World} {ops : Array Oper} {rest : List Oper} {o : Oper} {a : Act} {Q : Exit → Act → World → Prop} (hgd : o.guard = none) (s x : Operand)
    (ho : o.op = .call { callee := .builtin .append, args := #[s, x], argTypes := #[50, 50] }) (base n : Nat) (v : Value) (xs : List Value) (hs : a.eval s = v) (hown : w.ownsRow base 25 2 v n xs)
    (y1 y2 : Value) (hy1 : y1.oneCell' = true) (hy2 : y2.oneCell' = true) (hx : a.eval x = .slice (some ⟨w.heap.size, 0, none⟩) 1 1) (hn : n ≤ 1000000) (hb : base ≤ w.heap.size)
    (h : ∀ A n' c w', w'.ownsRow base 25 2 (.slice A n' c) (n + 1) (xs ++ [y1, y2]) → (w.alloc (.cells #[y1, y2] 25)).grownBy w' v.ownBlock → wpList Try.prog ops Q rest (a.put o.dst (.slice A n' c)) w') :
    wpList Try.prog ops Q (o :: rest) a (w.alloc (.cells #[y1, y2] 25)) := by
  obtain ⟨i0, hi0, hz0, hz1, hz2⟩ := info_parts Try.info25
  refine wpList_append_own _ hgd s x 50 ho base 25 i0 (.agg #[.int .u64 0, .slice none 0 0]) 2 32 Try.underlying50 hi0 hz0 hz1 hz2 rfl (by decide) v n xs hs (hown.alloc _) ⟨w.heap.size, 0, none⟩ 1 1 [y1, y2] hx rfl ?_ ?_ (by unfold maxLen; omega) (by omega) (by simp; omega) ?_
  · intro j u hj
    match j, hj with
    | 0, hj => simp at hj; subst hj; simp [Addr.add]
    | 1, hj => simp at hj; subst hj; simp [Addr.add]
  · intro u hu
    simp at hu
    rcases hu with rfl | rfl
    · exact hy1
    · exact hy2
  · intro v' w' h1 h2 _
    have h1' := h1
    rcases h1.2 with ⟨rfl, _⟩ | ⟨g, cap, cur, rfl, _⟩
    · exact h _ _ _ _ h1' h2
    · exact h _ _ _ _ h1' h2

theorem Try.info48 : (Try.prog.info? 48).map (fun i => (i.zero, i.size, i.bytes)) = some (some (.agg #[.int .i64 0, .int .i64 0, .int .i64 0, .int .u64 0, .int .u64 0]), 5, 40) := by kernel_rfl

/-- l = append(l, s), l of type []BSStep, the call's own: five cells each. -/
theorem appStep {w : World} {ops : Array Oper} {rest : List Oper} {o : Oper} {a : Act} {Q : Exit → Act → World → Prop} (hgd : o.guard = none) (s x : Operand)
    (ho : o.op = .call { callee := .builtin .append, args := #[s, x], argTypes := #[46, 46] }) (base n : Nat) (v : Value) (xs : List Value) (hs : a.eval s = v) (hown : w.ownsRow base 48 5 v n xs)
    (o1 o2 o3 : Int) (o4 o5 : Int) (hx : a.eval x = .slice (some ⟨w.heap.size, 0, none⟩) 1 1) (hn : n ≤ 1000000) (hb : base ≤ w.heap.size)
    (h : ∀ A n' c w', w'.ownsRow base 48 5 (.slice A n' c) (n + 1) (xs ++ [.int .i64 o1, .int .i64 o2, .int .i64 o3, .int .u64 o4, .int .u64 o5]) → (w.alloc (.cells #[.int .i64 o1, .int .i64 o2, .int .i64 o3, .int .u64 o4, .int .u64 o5] 48)).grownBy w' v.ownBlock → wpList Try.prog ops Q rest (a.put o.dst (.slice A n' c)) w') :
    wpList Try.prog ops Q (o :: rest) a (w.alloc (.cells #[.int .i64 o1, .int .i64 o2, .int .i64 o3, .int .u64 o4, .int .u64 o5] 48)) := by
  obtain ⟨i0, hi0, hz0, hz1, hz2⟩ := info_parts Try.info48
  refine wpList_append_own _ hgd s x 46 ho base 48 i0 (.agg #[.int .i64 0, .int .i64 0, .int .i64 0, .int .u64 0, .int .u64 0]) 5 40 Try.underlying46 hi0 hz0 hz1 hz2 rfl (by decide) v n xs hs (hown.alloc _) ⟨w.heap.size, 0, none⟩ 1 1 [.int .i64 o1, .int .i64 o2, .int .i64 o3, .int .u64 o4, .int .u64 o5] hx rfl ?_ ?_ (by unfold maxLen; omega) (by omega) (by simp; omega) ?_
  · intro j u hj
    match j, hj with
    | 0, hj => simp at hj; subst hj; simp [Addr.add]
    | 1, hj => simp at hj; subst hj; simp [Addr.add]
    | 2, hj => simp at hj; subst hj; simp [Addr.add]
    | 3, hj => simp at hj; subst hj; simp [Addr.add]
    | 4, hj => simp at hj; subst hj; simp [Addr.add]
  · intro u hu
    simp at hu
    rcases hu with rfl | rfl | rfl | rfl | rfl <;> rfl
  · intro v' w' h1 h2 _
    have h1' := h1
    rcases h1.2 with ⟨rfl, _⟩ | ⟨g, cap, cur, rfl, _⟩
    · exact h _ _ _ _ h1' h2
    · exact h _ _ _ _ h1' h2
end Go.Proofs.Ytgnhmgnpmbmjcaa
