/- Rows of one's own under slices.Sort and slices.Compact. -/
import Derived.Test.YtpkeiankocimaaaOP
import Derived.Test.YtpkeiankocimaaaID
import Derived.Test.YtpkeiankocimaaaShelf
import Derived.Test.YtpkeiankocimaaaIP
import Derived.Lib.OwnBridge
namespace Go.Proofs.Ytpkeiankocimaaa
open Go.RowKit Go.Sort
set_option linter.unusedVariables false
set_option linter.unusedSimpArgs false

theorem Ch.grown (w : World) (os : Array Obj) : Ch S0 w (grow w os) := ⟨rfl, rfl, rfl, by simp [grow], fun k hk _ => by
  simp only [grow]
  exact Array.getElem?_append_left hk⟩
theorem own_put {w : World} {base g n cap q k : Nat} {E : TypeId} {zs ys : List Int} (h : w.ownsRow base E 1 (.slice (some ⟨g, 0, none⟩) n cap) n (iv zs)) (hy : ys.length = n) (hk : k ≤ n) (os : Array Obj) :
    (grow (putRow (Value.int .i64) (Sort.ahead w q) g 0 ys.toArray) os).ownsRow base E 1 (.slice (some ⟨g, 0, none⟩) k cap) k (iv (ys.take k)) := own_keep0 (Lib.ownsRow_putRow (enc := Value.int .i64) h hy hk) (Ch.grown _ _)
theorem ch_put (w : World) (g q : Nat) (d : Array Int) (os : Array Obj) : Ch (fun k => k = g) w (grow (putRow (Value.int .i64) (Sort.ahead w q) g 0 d) os) :=
  ⟨rfl, rfl, rfl, by simp [grow, putRow, mapBlock, Sort.ahead], fun k hk hne => by
    have hkb : g ≠ k := fun e => hne e.symm
    simp only [grow]
    rw [Array.getElem?_append_left (by simpa [putRow, mapBlock, Sort.ahead] using hk)]
    simp [putRow, mapBlock, Sort.ahead, Array.getElem?_modify, hkb]⟩
end Go.Proofs.Ytpkeiankocimaaa
