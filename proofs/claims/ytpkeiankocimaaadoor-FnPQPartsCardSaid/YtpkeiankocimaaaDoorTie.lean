/-
  DERIVED. GIVEN WITH THE SEED: THE PROGRAM's TIES (one call each: nine closed facts by the kernel) AND EACH ROW's TIE, after the 31st guide's Derived/Test/Toyas{Tie, Card}.lean. No idea stands in it: it is a product of the set-up. Laid BY PROGRAM, IN A SANDBOX (cutbox-door.mjs). By AI agents, Wed Nov 11 2026. No macro, syntax, notation, axiom, sorry.
-/
import Derived.Test.YtpkeiankocimaaaDoorRows
import Derived.LaidByTextLater
import Derived.SevenTiedAt
import Derived.LaidSub
import Derived.LaidOnce
namespace Go.Proofs.YtpkeiankocimaaaDoor
open Go
set_option maxRecDepth 100000
theorem seatTie1 : Tryd.prog.laidByTextLater [("given.example/pub-spokeshave/pub/godatastructures/queue.ErrDisposed", Rows.laid_given_example_pub_spokeshave_pub_godatastructures_queue_ErrDisposed), ("given.example/pub-spokeshave/pub/godatastructures/queue.ErrTimeout", Rows.laid_given_example_pub_spokeshave_pub_godatastructures_queue_ErrTimeout), ("given.example/pub-spokeshave/pub/godatastructures/queue.ErrEmptyQueue", Rows.laid_given_example_pub_spokeshave_pub_godatastructures_queue_ErrEmptyQueue)] [.sentinel, .sentinel, .sentinel] true :=
  Program.laidByTextLater_by_one 66 8 2 (by kernel_rfl) (by kernel_rfl) (by kernel_rfl) (by kernel_rfl) (by kernel_rfl) (by kernel_rfl) (fun _ _ => by kernel_rfl)
theorem noOwnUnsafe : Tryd.pinned.checked.prog.headLifts.contains "ownunsafe" = false := by kernel_rfl
theorem tie : Tryd.prog.laidByTextLater [("given.example/pub-spokeshave/pub/godatastructures/queue.ErrDisposed", Rows.laid_given_example_pub_spokeshave_pub_godatastructures_queue_ErrDisposed), ("given.example/pub-spokeshave/pub/godatastructures/queue.ErrTimeout", Rows.laid_given_example_pub_spokeshave_pub_godatastructures_queue_ErrTimeout), ("given.example/pub-spokeshave/pub/godatastructures/queue.ErrEmptyQueue", Rows.laid_given_example_pub_spokeshave_pub_godatastructures_queue_ErrEmptyQueue)] [.sentinel, .sentinel, .sentinel] true :=
  Program.laidByTextLater.sub seatTie1 ["given.example/pub-spokeshave/pub/godatastructures/queue.ErrDisposed", "given.example/pub-spokeshave/pub/godatastructures/queue.ErrTimeout", "given.example/pub-spokeshave/pub/godatastructures/queue.ErrEmptyQueue"] (by kernel_rfl) (by kernel_rfl)
theorem fnPQLook_row_tie : Rows.fnPQLookRow.laidByTextAt .later Tryd.pinned [.sentinel, .sentinel, .sentinel] true :=
  OpenClaim.laidByTextAt_later rfl rfl tie noOwnUnsafe
theorem fnPQParts_row_tie : Rows.fnPQPartsRow.laidByTextAt .later Tryd.pinned [.sentinel, .sentinel, .sentinel] true :=
  OpenClaim.laidByTextAt_later rfl rfl tie noOwnUnsafe
theorem fnPQUnlike_row_tie : Rows.fnPQUnlikeRow.laidByTextAt .later Tryd.pinned [.sentinel, .sentinel, .sentinel] true :=
  OpenClaim.laidByTextAt_later rfl rfl tie noOwnUnsafe
theorem fnPQLookUpto_row_tie : Rows.fnPQLookUptoRow.laidByTextAt .later Tryd.pinned [.sentinel, .sentinel, .sentinel] true :=
  OpenClaim.laidByTextAt_later rfl rfl tie noOwnUnsafe
theorem fnPQPartsUpto_row_tie : Rows.fnPQPartsUptoRow.laidByTextAt .later Tryd.pinned [.sentinel, .sentinel, .sentinel] true :=
  OpenClaim.laidByTextAt_later rfl rfl tie noOwnUnsafe
theorem fnPQUnlikeUpto_row_tie : Rows.fnPQUnlikeUptoRow.laidByTextAt .later Tryd.pinned [.sentinel, .sentinel, .sentinel] true :=
  OpenClaim.laidByTextAt_later rfl rfl tie noOwnUnsafe
end Go.Proofs.YtpkeiankocimaaaDoor
