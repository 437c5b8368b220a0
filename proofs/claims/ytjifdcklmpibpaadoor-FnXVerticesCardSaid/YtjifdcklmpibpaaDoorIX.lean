/- MAPS KEYED BY INTERFACES: range and next at the operation, for the walk. -/
import Derived.Test.YtjifdcklmpibpaaDoorIR
namespace Go.Proofs.YtjifdcklmpibpaaDoor
set_option linter.unusedVariables false
variable {P : Program} {kt ti : TypeId} {q : IntKind}
variable (w : World) {ops : Array Oper} {rest : List Oper} {o : Oper} {a : Act} {Q : Exit → Act → World → Prop}

theorem wpList_irange (hg : o.guard = none) (m : Operand) (t : TypeId) (hop : o.op = Op.range t m) (e : TypeId) (ht : P.underlying t = some (.map kt e)) (b n : Nat) (f : Int → Option Value)
    (hm : a.eval m = .map (some b)) (hown : IMap ti q w b f n) (r : Nat) (hr : w.heap.size = r)
    (hK : ∀ w', IRange ti q w' b r f n [] → w.grownBy w' none → w'.heap.size = r + 1 → wpList P ops Q rest (a.put o.dst (.pointer (some ⟨r, 0, none⟩))) w') :
    wpList P ops Q (o :: rest) a w := by
  subst hr
  refine wpList_plain hg fun K' hK' => ?_
  obtain ⟨w', hrun, r1, r2, r3⟩ := hown.range ht
  unfold Oper.wp
  simp [execOp, hop, hm, hrun, Result.andThen]
  exact hK' _ _ (hK w' r1 r2 r3)

theorem wpList_inext (hg : o.guard = none) (it : Operand) (hop : o.op = Op.next it false) (b r n : Nat) (f : Int → Option Value) (done : List Int)
    (hit : a.eval it = .pointer (some ⟨r, 0, none⟩)) (h : IRange ti q w b r f n done)
    (hDone : done.length = n → (∀ k, (f k).isSome = true → k ∈ done) → wpList P ops Q rest (a.put o.dst (.tuple #[.bool false])) w)
    (hMore : ∀ k v w', f k = some v → k ∉ done → done.length < n → IRange ti q w' b r f n (done ++ [k]) → w.grownBy w' (some r) → w'.heap.size = w.heap.size → (Instr.entry (.pointer (some ⟨r, 0, none⟩))).run P w' = .ok (.tuple #[ik ti q k, v]) w' →
      wpList P ops Q rest (a.put o.dst (.tuple #[.bool true, ik ti q k, v])) w') : wpList P ops Q (o :: rest) a w := by
  refine wpList_plain hg fun K' hK' => ?_
  unfold Oper.wp
  rcases h.next (P := P) o.type with ⟨h0, hrun⟩ | ⟨k, v, w', hf, hn, hrun, hr, hgr, hsz, hen⟩
  · simp [execOp, hop, hit, hrun, Result.andThen]
    exact hK' _ _ (hDone (h.count.2 h0) h0)
  · have hlt := hr.count.1
    simp at hlt
    simp [execOp, hop, hit, hrun, Result.andThen]
    exact hK' _ _ (hMore k v w' hf hn (by omega) hr hgr hsz hen)
end Go.Proofs.YtjifdcklmpibpaaDoor
