/- THE GRAPH AS PLAIN DATA, IN MEMORY; the errors' variables; AddEdge. -/
import Derived.Test.YtjifdcklmpibpaaDoorD
import Derived.Test.YtjifdcklmpibpaaDoorP
import Derived.LaidEql
import Derived.Outline
namespace Go.Proofs.YtjifdcklmpibpaaDoor
open Go.RowKit
set_option linter.unusedVariables false
set_option linter.unusedSimpArgs false

/-- A graph in memory, all of whose blocks are B or later. -/
structure GR (w : World) (B g ob : Nat) (vs : Int → Option Nat) (G : PG) : Prop where
  gg : GG w g ob vs G.adj G.deg G.nv G.ne
  ver : ∀ x, (vs x).isSome = G.ver x
  ok : G.Ok
  lo : ∀ k, InG g ob vs k → B ≤ k

theorem GG.inlt {w : World} {g ob nv ne : Nat} {vs : Int → Option Nat} {adj : Int → Int → Bool} {deg : Int → Nat} (h : GG w g ob vs adj deg nv ne) {k : Nat} (hk : InG g ob vs k) : k < w.heap.size := by
  rcases hk with rfl | rfl | ⟨x, hx⟩
  · exact h.blk.lt
  · exact h.out.lt
  · exact (h.inn x k hx).lt

theorem GG.keep {w w' : World} {S : Nat → Prop} {g ob nv ne : Nat} {vs : Int → Option Nat} {adj : Int → Int → Bool} {deg : Int → Nat} (h : GG w g ob vs adj deg nv ne) (hc : Ch S w w') (hs : ∀ k, InG g ob vs k → ¬ S k) : GG w' g ob vs adj deg nv ne :=
  ⟨h.blk.keep hc (hs g (Or.inl rfl)), h.out.keep (hc.block _ h.out.lt (hs ob (Or.inr (Or.inl rfl)))), fun k b hb => (h.inn k b hb).keep (hc.block _ (h.inn k b hb).lt (hs b (Or.inr (Or.inr ⟨k, hb⟩)))), h.og, h.ap, h.inj, h.no⟩

theorem GR.keep {w w' : World} {S : Nat → Prop} {B g ob : Nat} {vs : Int → Option Nat} {G : PG} (h : GR w B g ob vs G) (hc : Ch S w w') (hs : ∀ k, InG g ob vs k → ¬ S k) : GR w' B g ob vs G :=
  ⟨h.gg.keep hc hs, h.ver, h.ok, h.lo⟩

/-- A store into the map of k's neighbours. -/
theorem GG.link {w w' : World} {g ob nv ne : Nat} {vs : Int → Option Nat} {adj : Int → Int → Bool} {deg : Int → Nat} (h : GG w g ob vs adj deg nv ne) {k u : Int} {b : Nat} (hk : vs k = some b) (ha : adj k u = false)
    (hI : IMap 3 .i64 w' b (fun y => if y = u then some (.agg #[]) else if adj k y then some (.agg #[]) else none) (deg k + 1)) (hc : Ch (S1 b) w w') :
    GG w' g ob vs (fun x y => adj x y || (x == k && y == u)) (fun x => if x = k then deg x + 1 else deg x) nv ne := by
  obtain ⟨a1, a2⟩ := h.ap k b hk
  refine ⟨h.blk.keep hc (fun e => a1 e.symm), h.out.keep (hc.block _ h.out.lt (fun e => a2 e.symm)), fun x b' hb => ?_, h.og, h.ap, h.inj, fun x hx => ?_⟩
  · by_cases hx : x = k
    · subst hx
      obtain rfl : b' = b := Option.some.inj (hb.symm.trans hk)
      have e : (fun y => if (adj x y || (x == x && y == u)) = true then some (Value.agg #[]) else none) = (fun y => if y = u then some (.agg #[]) else if adj x y then some (.agg #[]) else none) := by
        funext y
        by_cases hy : y = u <;> simp [hy]
      rw [e]
      simpa using hI
    · have hne : b' ≠ b := fun e => hx (h.inj x k b (by rw [← e]; exact hb) hk)
      have := (h.inn x b' hb).keep (hc.block _ (h.inn x b' hb).lt hne)
      simpa [hx] using this
  · have hxk : x ≠ k := fun e => by rw [e, hk] at hx; cases hx
    obtain ⟨n1, n2⟩ := h.no x hx
    exact ⟨fun y => by simp [n1, hxk], by simp [hxk, n2]⟩

theorem GG.setE {w : World} {g ob nv ne : Nat} {vs : Int → Option Nat} {adj : Int → Int → Bool} {deg : Int → Nat} (h : GG w g ob vs adj deg nv ne) : GG (w.setCell ⟨g, 2, none⟩ (.int .i64 ((ne : Int) + 1))) g ob vs adj deg nv (ne + 1) := by
  have hc : Ch (S1 g) w (w.setCell ⟨g, 2, none⟩ (.int .i64 ((ne : Int) + 1))) := (Ch.refl (S1 g) w).setCell ⟨g, 2, none⟩ (fun _ => rfl) _
  refine ⟨?_, h.out.keep (hc.block _ h.out.lt h.og), fun k b hb => (h.inn k b hb).keep (hc.block _ (h.inn k b hb).lt (h.ap k b hb).1), h.og, h.ap, h.inj, h.no⟩
  have h1 := h.blk.set 2 (.int .i64 ((ne : Int) + 1))
  simpa using h1

/-- The errors' variables, laid, and apart. -/
structure Er (w : World) (B : Nat) (e1 e2 e3 : Addr) : Prop where
  b3 : 3 ≤ B
  v1 : w.cell? ⟨0, 0, none⟩ = some (.iface 108 (.pointer (some e1)))
  v2 : w.cell? ⟨1, 0, none⟩ = some (.iface 108 (.pointer (some e2)))
  v3 : w.cell? ⟨2, 0, none⟩ = some (.iface 108 (.pointer (some e3)))
  n12 : e1 ≠ e2
  n13 : e1 ≠ e3
  n23 : e2 ≠ e3
  f1 : ∃ c t, w.heap[e1.block]? = some (.cells c t (0, 0))
  f2 : ∃ c t, w.heap[e2.block]? = some (.cells c t (0, 0))
  f3 : ∃ c t, w.heap[e3.block]? = some (.cells c t (0, 0))
  l1 : e1.block < B
  l2 : e2.block < B
  l3 : e3.block < B
  sz : B ≤ w.heap.size

theorem Er.keep {w w' : World} {S : Nat → Prop} {B : Nat} {e1 e2 e3 : Addr} (h : Er w B e1 e2 e3) (hc : Ch S w w') (hs : ∀ k, k < B → ¬ S k) : Er w' B e1 e2 e3 := by
  have hk : ∀ k, k < B → w'.heap[k]? = w.heap[k]? := fun k hk => hc.block k (Nat.lt_of_lt_of_le hk h.sz) (hs k hk)
  have hcell : ∀ k (hk : k < B), w'.cell? ⟨k, 0, none⟩ = w.cell? ⟨k, 0, none⟩ := fun k h' => World.cell?_of_block (hk k h')
  have := h.b3
  exact ⟨h.b3, (hcell 0 (by omega)).trans h.v1, (hcell 1 (by omega)).trans h.v2, (hcell 2 (by omega)).trans h.v3, h.n12, h.n13, h.n23, by rw [hk _ h.l1]; exact h.f1, by rw [hk _ h.l2]; exact h.f2, by rw [hk _ h.l3]; exact h.f3, h.l1, h.l2, h.l3, Nat.le_trans h.sz hc.size⟩

def errV (e1 e2 e3 : Addr) : Nat → Value
  | 1 => .iface 108 (.pointer (some e1))
  | 2 => .iface 108 (.pointer (some e2))
  | 3 => .iface 108 (.pointer (some e3))
  | _ => .nilIface

theorem ik_eql (w : World) (a b : Int) : (binOp .eql 20 (ik 3 .i64 a) (ik 3 .i64 b)).run Tryd.prog w = .ok (.bool (a == b)) w := by
  simp only [binOp]
  simp [ik_equal ikey w a b]

set_option maxRecDepth 100000 in
theorem edge_self (B g ob : Nat) (e1 e2 e3 : Addr) (v : Int) (w : World) (hE : Er w B e1 e2 e3) :
    Calls Tryd.prog 26 #[.pointer (some ⟨g, 0, none⟩), .iface 3 (.int .i64 v), .iface 3 (.int .i64 v)] w fun r w' => r = .returned (.iface 108 (.pointer (some e2))) ∧ w' = w := by
  have heq : (binOp .eql 20 (.iface 3 (.int .i64 v)) (.iface 3 (.int .i64 v))).run Tryd.prog w = .ok (.bool true) w := by simpa using ik_eql w v v
  have hv := hE.v2
  clear hE
  go_enter Tryd.func26, Tryd.ntmps26
  go_wp2_with fail
  go_ret
  exact ⟨rfl, rfl⟩
end Go.Proofs.YtjifdcklmpibpaaDoor
