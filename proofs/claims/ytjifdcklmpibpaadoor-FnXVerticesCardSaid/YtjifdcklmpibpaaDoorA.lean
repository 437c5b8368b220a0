/- THE GRAPH IN MEMORY; NewSimpleGraph, V, E. -/
import Derived.Test.YtjifdcklmpibpaaDoorM
import Derived.Test.YtjifdcklmpibpaaDoorIX
namespace Go.Proofs.YtjifdcklmpibpaaDoor
open Go.RowKit
set_option linter.unusedVariables false
set_option linter.unusedSimpArgs false

theorem ikey : IK Tryd.prog 20 3 .i64 := ⟨⟨_, Tryd.underlying20⟩, Tryd.underlying3, by
  have h : (Tryd.prog.info? 3).map (·.comparable) = some true := by kernel_rfl
  cases hi : Tryd.prog.info? 3 with
  | none => rw [hi] at h; cases h
  | some i => rw [hi] at h; exact ⟨i, rfl, by simpa using h⟩⟩

@[go_sem] theorem mk_map {P : Program} (t : TypeId) (w : World) : (Instr.makeMap t none).run P w = .ok (.map (some w.heap.size)) (w.alloc (.map #[] 0)) := rfl

/-- A graph: block g holds the map ob, the number of vertices and of edges; vs k is the block of k's neighbours; adj k y: an edge. -/
structure GG (w : World) (g ob : Nat) (vs : Int → Option Nat) (adj : Int → Int → Bool) (deg : Int → Nat) (nv ne : Nat) : Prop where
  blk : Blk w g #[.map (some ob), .int .i64 (nv : Nat), .int .i64 (ne : Nat)]
  out : IMap 3 .i64 w ob (fun k => (vs k).map fun b => .map (some b)) nv
  inn : ∀ k b, vs k = some b → IMap 3 .i64 w b (fun y => if adj k y then some (.agg #[]) else none) (deg k)
  og : ob ≠ g
  ap : ∀ k b, vs k = some b → b ≠ g ∧ b ≠ ob
  inj : ∀ k l b, vs k = some b → vs l = some b → k = l
  no : ∀ k, vs k = none → (∀ y, adj k y = false) ∧ deg k = 0

set_option maxRecDepth 100000 in
theorem new_graph (w : World) : Calls Tryd.prog 25 #[] w fun r w' => (∃ g ob, r = .returned (.pointer (some ⟨g, 0, none⟩)) ∧ GG w' g ob (fun _ => none) (fun _ _ => false) (fun _ => 0) 0 0 ∧ w.heap.size ≤ g ∧ w.heap.size ≤ ob) ∧ Ch S0 w w' := by
  go_enter Tryd.func25, Tryd.ntmps25
  go_wp2_with fail
  go_ret
  refine ⟨⟨w.heap.size + 1, w.heap.size, by simp, ⟨?_, ?_, fun k b h => (by cases h), by omega, fun k b h => (by cases h), fun k l b h => (by cases h), fun k _ => ⟨fun _ => rfl, rfl⟩⟩, by omega, by omega⟩, ?_⟩
  · have h := Blk.new (w.alloc (.map #[] 0)) #[.map (some w.heap.size), .int .i64 ((0 : Nat) : Int), .int .i64 ((0 : Nat) : Int)] 67
    simpa using h
  · exact (IMap.made 3 .i64 w).keep ((MapKept.heap_alloc (w.alloc (.map #[] 0)) _).2 w.heap.size (by simp))
  · exact ((Ch.refl _ _).alloc _).alloc _
end Go.Proofs.YtjifdcklmpibpaaDoor
