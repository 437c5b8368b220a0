/-
  DERIVED. GIVEN WITH THE SEED: THE PROGRAM's TIES (one call each: nine closed facts by the kernel) AND EACH ROW's TIE, after the 31st guide's Derived/Test/Toyas{Tie, Card}.lean. No idea stands in it: it is a product of the set-up. Laid BY PROGRAM, IN A SANDBOX (cutbox-door.mjs). By AI agents, Wed Nov 11 2026. No macro, syntax, notation, axiom, sorry.
-/
import Derived.Test.YtjifdcklmpibpaaDoorRows
import Derived.LaidByTextLater
import Derived.SevenTiedAt
import Derived.LaidSub
import Derived.LaidOnce
namespace Go.Proofs.YtjifdcklmpibpaaDoor
open Go
set_option maxRecDepth 100000
theorem seatTie1 : Tryd.prog.laidByTextLater [("given.example/pub-spokeshave/pub/godatastructures/graph.ErrVertexNotFound", Rows.laid_given_example_pub_spokeshave_pub_godatastructures_graph_ErrVertexNotFound), ("given.example/pub-spokeshave/pub/godatastructures/graph.ErrSelfLoop", Rows.laid_given_example_pub_spokeshave_pub_godatastructures_graph_ErrSelfLoop), ("given.example/pub-spokeshave/pub/godatastructures/graph.ErrParallelEdge", Rows.laid_given_example_pub_spokeshave_pub_godatastructures_graph_ErrParallelEdge)] [.sentinel, .sentinel, .sentinel] true :=
  Program.laidByTextLater_by_one 66 8 2 (by kernel_rfl) (by kernel_rfl) (by kernel_rfl) (by kernel_rfl) (by kernel_rfl) (by kernel_rfl) (fun _ _ => by kernel_rfl)
theorem noOwnUnsafe : Tryd.pinned.checked.prog.headLifts.contains "ownunsafe" = false := by kernel_rfl
theorem tie : Tryd.prog.laidByTextLater [("given.example/pub-spokeshave/pub/godatastructures/graph.ErrVertexNotFound", Rows.laid_given_example_pub_spokeshave_pub_godatastructures_graph_ErrVertexNotFound), ("given.example/pub-spokeshave/pub/godatastructures/graph.ErrSelfLoop", Rows.laid_given_example_pub_spokeshave_pub_godatastructures_graph_ErrSelfLoop), ("given.example/pub-spokeshave/pub/godatastructures/graph.ErrParallelEdge", Rows.laid_given_example_pub_spokeshave_pub_godatastructures_graph_ErrParallelEdge)] [.sentinel, .sentinel, .sentinel] true :=
  Program.laidByTextLater.sub seatTie1 ["given.example/pub-spokeshave/pub/godatastructures/graph.ErrVertexNotFound", "given.example/pub-spokeshave/pub/godatastructures/graph.ErrSelfLoop", "given.example/pub-spokeshave/pub/godatastructures/graph.ErrParallelEdge"] (by kernel_rfl) (by kernel_rfl)
theorem fnGRMore_row_tie : Rows.fnGRMoreRow.laidByTextAt .later Tryd.pinned [.sentinel, .sentinel, .sentinel] true :=
  OpenClaim.laidByTextAt_later rfl rfl tie noOwnUnsafe
theorem fnXVertices_row_tie : Rows.fnXVerticesRow.laidByTextAt .later Tryd.pinned [.sentinel, .sentinel, .sentinel] true :=
  OpenClaim.laidByTextAt_later rfl rfl tie noOwnUnsafe
theorem fnGRNamed_row_tie : Rows.fnGRNamedRow.laidByTextAt .later Tryd.pinned [.sentinel, .sentinel, .sentinel] true :=
  OpenClaim.laidByTextAt_later rfl rfl tie noOwnUnsafe
theorem fnGRMoreUpto_row_tie : Rows.fnGRMoreUptoRow.laidByTextAt .later Tryd.pinned [.sentinel, .sentinel, .sentinel] true :=
  OpenClaim.laidByTextAt_later rfl rfl tie noOwnUnsafe
theorem fnXVerticesUpto_row_tie : Rows.fnXVerticesUptoRow.laidByTextAt .later Tryd.pinned [.sentinel, .sentinel, .sentinel] true :=
  OpenClaim.laidByTextAt_later rfl rfl tie noOwnUnsafe
theorem fnGRNamedUpto_row_tie : Rows.fnGRNamedUptoRow.laidByTextAt .later Tryd.pinned [.sentinel, .sentinel, .sentinel] true :=
  OpenClaim.laidByTextAt_later rfl rfl tie noOwnUnsafe
end Go.Proofs.YtjifdcklmpibpaaDoor
