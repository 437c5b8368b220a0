/- Appends whose two arguments have types of one kind. -/
import Derived.Test.YtpkeiankocimaaaS
namespace Go.Proofs.Ytpkeiankocimaaa
open Go.RowKit
set_option linter.unusedVariables false
set_option linter.unusedSimpArgs false

theorem append_types {P : Program} {t t2 e : TypeId} (ht : P.underlying t = some (.slice e)) (ht2 : P.underlying t2 = some (.slice e)) (ty : TypeId) (args : Array Value) (w : World) : (Builtin.append_ #[t, t2] ty args).run P w = (Builtin.append_ #[t, t] ty args).run P w := by
  have u := run_underlying ht
  have u2 := run_underlying ht2
  unfold Builtin.append_
  simp only [Sem.run_bind, List.getElem?_toArray, List.getElem?_cons_zero, List.getElem?_cons_succ]
  split
  · next sType sv x heq =>
    simp only [Prod.mk.injEq, Option.some.injEq] at heq
    obtain ⟨rfl, _⟩ := heq
    simp only [Sem.run_bind, u, Result.andThen_ok]
    cases sv <;> try rfl
    simp only [Sem.run_bind]
    congr 1
    funext size w'
    simp only [Sem.run_bind, u, u2, Result.andThen_ok]
  · rfl

/-- out = append(s, l...), l of another type of the same kind. -/
theorem app_all2 {P : Program} {w : World} {ops : Array Oper} {rest : List Oper} {o : Oper} {a : Act} {Q : Exit → Act → World → Prop} {T T2 E size bytes : Nat} (L : EL P T E size bytes) (ht2 : P.underlying T2 = some (.slice E)) (hgd : o.guard = none) (s x : Operand)
    (ho : o.op = .call { callee := .builtin .append, args := #[s, x], argTypes := #[T, T2] }) (base n : Nat) (v : Value) (xs : List Value) (hs : a.eval s = v) (hown : w.ownsRow base E size v n xs)
    (b off m c : Nat) (ys : List Value) (hyl : ys.length = m * size) (h1 : ∀ u ∈ ys, u.oneCell' = true) (hx : a.eval x = .slice (some ⟨b, off, none⟩) m c) (hr : Rd w (some ⟨b, off, none⟩) ys) (hn : n + m ≤ maxLen) (hn2 : (n + m) * bytes ≤ 140737488355328) (hb : base ≤ w.heap.size)
    (h : ∀ v' w', w'.ownsRow base E size v' (n + m) (xs ++ ys) → Ch (fun k => v.ownBlock = some k) w w' → (v'.ownBlock = v.ownBlock ∨ v'.ownBlock = some w.heap.size) → wpList P ops Q rest (a.put o.dst v') w') :
    wpList P ops Q (o :: rest) a w := by
  obtain ⟨ht, ⟨i0, z, hi0, hz0, hz1, hz2, hz3⟩, hp⟩ := L
  refine wpList_plain hgd fun K hK => ?_
  obtain ⟨v', w', hr, h2, h3, h4, h5⟩ := run_append_own_at (P := P) w base T o.type E i0 z size bytes ht hi0 hz0 hz1 hz2 hz3 hp v n xs hown ⟨b, off, none⟩ m c ys hyl (fun j u hj => by
    obtain ⟨b', o', e, h⟩ := hr j u hj
    cases e
    have e2 : (⟨b, off, none⟩ : Addr).add j = ⟨b, off + j, none⟩ := by
      unfold Addr.add
      by_cases hx : j = 0
      · simp [hx]
      · simp [hx]
    rw [e2]
    exact h) h1 hn hn2 hb
  rw [← append_types ht ht2] at hr
  unfold Oper.wp execOp
  simp only [ho, resolve, invoke, builtin, Sem.run_bind, Sem.run_pure, Result.andThen_ok, List.map_toArray, List.map_cons, List.map_nil, hs, hx, hr]
  exact hK _ _ (h v' w' h2 (Ch.ofGrown h3 fun k hk => hk) h5)
end Go.Proofs.Ytpkeiankocimaaa
