/-
  DERIVED. GIVEN WITH THE SEED: THE PROGRAM's TIES (one call each: nine closed facts by the kernel) AND EACH ROW's TIE, after the 31st guide's Derived/Test/Toyas{Tie, Card}.lean. No idea stands in it: it is a product of the set-up. Laid BY PROGRAM, IN A SANDBOX (cutbox-door.mjs). By AI agents, Wed Nov 11 2026. No macro, syntax, notation, axiom, sorry.
-/
import Derived.Test.YtjijgkjmndpngaaDoorRows
import Derived.LaidByTextLater
import Derived.SevenTiedAt
import Derived.LaidSub
import Derived.LaidOnce
namespace Go.Proofs.YtjijgkjmndpngaaDoor
open Go
set_option maxRecDepth 100000
theorem seatTie1 : Tryd.prog.laidByTextLater [("given.example/pub-spokeshave/pub/godatastructures/graph.ErrVertexNotFound", Rows.laid_given_example_pub_spokeshave_pub_godatastructures_graph_ErrVertexNotFound), ("given.example/pub-spokeshave/pub/godatastructures/graph.ErrSelfLoop", Rows.laid_given_example_pub_spokeshave_pub_godatastructures_graph_ErrSelfLoop), ("given.example/pub-spokeshave/pub/godatastructures/graph.ErrParallelEdge", Rows.laid_given_example_pub_spokeshave_pub_godatastructures_graph_ErrParallelEdge)] [.sentinel, .sentinel, .sentinel] true :=
  Program.laidByTextLater_by_one 66 8 2 (by kernel_rfl) (by kernel_rfl) (by kernel_rfl) (by kernel_rfl) (by kernel_rfl) (by kernel_rfl) (fun _ _ => by kernel_rfl)
theorem noOwnUnsafe : Tryd.pinned.checked.prog.headLifts.contains "ownunsafe" = false := by kernel_rfl
theorem tie : Tryd.prog.laidByTextLater [("given.example/pub-spokeshave/pub/godatastructures/graph.ErrVertexNotFound", Rows.laid_given_example_pub_spokeshave_pub_godatastructures_graph_ErrVertexNotFound), ("given.example/pub-spokeshave/pub/godatastructures/graph.ErrSelfLoop", Rows.laid_given_example_pub_spokeshave_pub_godatastructures_graph_ErrSelfLoop), ("given.example/pub-spokeshave/pub/godatastructures/graph.ErrParallelEdge", Rows.laid_given_example_pub_spokeshave_pub_godatastructures_graph_ErrParallelEdge)] [.sentinel, .sentinel, .sentinel] true :=
  Program.laidByTextLater.sub seatTie1 ["given.example/pub-spokeshave/pub/godatastructures/graph.ErrVertexNotFound", "given.example/pub-spokeshave/pub/godatastructures/graph.ErrSelfLoop", "given.example/pub-spokeshave/pub/godatastructures/graph.ErrParallelEdge"] (by kernel_rfl) (by kernel_rfl)
theorem fnGRApart_row_tie : Rows.fnGRApartRow.laidByTextAt .later Tryd.pinned [.sentinel, .sentinel, .sentinel] true :=
  OpenClaim.laidByTextAt_later rfl rfl tie noOwnUnsafe
theorem fnGRFar_row_tie : Rows.fnGRFarRow.laidByTextAt .later Tryd.pinned [.sentinel, .sentinel, .sentinel] true :=
  OpenClaim.laidByTextAt_later rfl rfl tie noOwnUnsafe
theorem fnGRApartUpto_row_tie : Rows.fnGRApartUptoRow.laidByTextAt .later Tryd.pinned [.sentinel, .sentinel, .sentinel] true :=
  OpenClaim.laidByTextAt_later rfl rfl tie noOwnUnsafe
theorem fnGRFarUpto_row_tie : Rows.fnGRFarUptoRow.laidByTextAt .later Tryd.pinned [.sentinel, .sentinel, .sentinel] true :=
  OpenClaim.laidByTextAt_later rfl rfl tie noOwnUnsafe
end Go.Proofs.YtjijgkjmndpngaaDoor
