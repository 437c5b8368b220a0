/- MAPS KEYED BY INTERFACES: lookup and store at the operation, for the walk. -/
import Derived.Test.YtjifdcklmpibpaaDoorIM
namespace Go.Proofs.YtjifdcklmpibpaaDoor
open Go.MapKept
set_option linter.unusedVariables false
variable {P : Program} {kt ti : TypeId} {q : IntKind}
variable (w : World) {ops : Array Oper} {rest : List Oper} {o : Oper} {a : Act} {Q : Exit → Act → World → Prop}

theorem grown_set {w : World} {b : Nat} (x : Obj) (hb : b < w.heap.size) : w.grownBy { w with heap := w.heap.setIfInBounds b x } (some b) := by
  refine ⟨rfl, rfl, rfl, by simp, fun k hk hne => ?_⟩
  have hkb : b ≠ k := fun e => hne (by rw [e])
  simp [Array.getElem?_setIfInBounds_ne hkb]

theorem wpList_ilook_ok (hg : o.guard = none) (m x : Operand) (t : TypeId) (hop : o.op = Op.lookup t m x true) (e : TypeId) (K : IK P kt ti q) (ht : P.underlying t = some (.map kt e)) {z : Value} (hz : (zeroValue e).run P w = .ok z w) (b n : Nat) (f : Int → Option Value)
    (hm : a.eval m = .map (some b)) (hown : IMap ti q w b f n) (k : Int) (hx : a.eval x = ik ti q k)
    (hK : wpList P ops Q rest (a.put o.dst (.tuple #[(f k).getD z, .bool (f k).isSome])) w) : wpList P ops Q (o :: rest) a w := by
  refine wpList_plain hg fun K' hK' => ?_
  have hrun := hown.look K ht hz true k
  unfold Oper.wp
  simp [execOp, hop, hm, hx, hrun, Result.andThen]
  exact hK' _ _ hK

theorem wpList_ilook (hg : o.guard = none) (m x : Operand) (t : TypeId) (hop : o.op = Op.lookup t m x false) (e : TypeId) (K : IK P kt ti q) (ht : P.underlying t = some (.map kt e)) {z : Value} (hz : (zeroValue e).run P w = .ok z w) (b n : Nat) (f : Int → Option Value)
    (hm : a.eval m = .map (some b)) (hown : IMap ti q w b f n) (k : Int) (hx : a.eval x = ik ti q k)
    (hK : wpList P ops Q rest (a.put o.dst ((f k).getD z)) w) : wpList P ops Q (o :: rest) a w := by
  refine wpList_plain hg fun K' hK' => ?_
  have hrun := hown.look K ht hz false k
  unfold Oper.wp
  simp [execOp, hop, hm, hx, hrun, Result.andThen]
  exact hK' _ _ hK

theorem wpList_istore (hg : o.guard = none) (m x v : Operand) (t : TypeId) (hop : o.op = Op.mapUpdate t m x v) (e : TypeId) (K : IK P kt ti q) (ht : P.underlying t = some (.map kt e)) (b n : Nat) (f : Int → Option Value)
    (hm : a.eval m = .map (some b)) (hown : IMap ti q w b f n) (k : Int) (hx : a.eval x = ik ti q k) (val : Value) (hv : a.eval v = val)
    (hK : ∀ w', IMap ti q w' b (fun y => if y = k then some val else f y) (if (f k).isSome then n else n + 1) → w.grownBy w' (some b) → w'.heap.size = w.heap.size → wpList P ops Q rest (a.put o.dst undef) w') : wpList P ops Q (o :: rest) a w := by
  refine wpList_plain hg fun K' hK' => ?_
  obtain ⟨ob, hrun, h2⟩ := hown.store K ht k val
  unfold Oper.wp
  simp [execOp, hop, hm, hx, hv, hrun, Result.andThen]
  exact hK' _ _ (hK _ h2 (grown_set ob hown.lt) (by simp))
end Go.Proofs.YtjifdcklmpibpaaDoor
