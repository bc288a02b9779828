/-
  DERIVED. GIVEN WITH THE SEED: THE PROGRAM's TIES (one call each: nine closed facts by the kernel) AND EACH ROW's TIE, after the 31st guide's Derived/Test/Toyas{Tie, Card}.lean. No idea stands in it: it is a product of the set-up. Laid BY PROGRAM, IN A SANDBOX (cutbox-door.mjs). By AI agents, Wed Nov 11 2026. No macro, syntax, notation, axiom, sorry.
-/
import Derived.Test.YtgmngfgpbjbgjaaDoorRows
import Derived.LaidByTextLater
import Derived.SevenTiedAt
import Derived.LaidSub
import Derived.LaidOnce
namespace Go.Proofs.YtgmngfgpbjbgjaaDoor
open Go
set_option maxRecDepth 100000
theorem seatTie1 : Tryd.prog.laidByTextLater [("given.example/pub-spokeshave/pub/godatastructures/graph.ErrVertexNotFound", Rows.laid_given_example_pub_spokeshave_pub_godatastructures_graph_ErrVertexNotFound), ("given.example/pub-spokeshave/pub/godatastructures/graph.ErrSelfLoop", Rows.laid_given_example_pub_spokeshave_pub_godatastructures_graph_ErrSelfLoop), ("given.example/pub-spokeshave/pub/godatastructures/graph.ErrParallelEdge", Rows.laid_given_example_pub_spokeshave_pub_godatastructures_graph_ErrParallelEdge)] [.sentinel, .sentinel, .sentinel] true :=
  Program.laidByTextLater_by_one 66 8 2 (by kernel_rfl) (by kernel_rfl) (by kernel_rfl) (by kernel_rfl) (by kernel_rfl) (by kernel_rfl) (fun _ _ => by kernel_rfl)
theorem noOwnUnsafe : Tryd.pinned.checked.prog.headLifts.contains "ownunsafe" = false := by kernel_rfl
theorem tie : Tryd.prog.laidByTextLater [("given.example/pub-spokeshave/pub/godatastructures/graph.ErrVertexNotFound", Rows.laid_given_example_pub_spokeshave_pub_godatastructures_graph_ErrVertexNotFound), ("given.example/pub-spokeshave/pub/godatastructures/graph.ErrSelfLoop", Rows.laid_given_example_pub_spokeshave_pub_godatastructures_graph_ErrSelfLoop), ("given.example/pub-spokeshave/pub/godatastructures/graph.ErrParallelEdge", Rows.laid_given_example_pub_spokeshave_pub_godatastructures_graph_ErrParallelEdge)] [.sentinel, .sentinel, .sentinel] true :=
  Program.laidByTextLater.sub seatTie1 ["given.example/pub-spokeshave/pub/godatastructures/graph.ErrVertexNotFound", "given.example/pub-spokeshave/pub/godatastructures/graph.ErrSelfLoop", "given.example/pub-spokeshave/pub/godatastructures/graph.ErrParallelEdge"] (by kernel_rfl) (by kernel_rfl)
theorem fnGREnds_row_tie : Rows.fnGREndsRow.laidByTextAt .later Tryd.pinned [.sentinel, .sentinel, .sentinel] true :=
  OpenClaim.laidByTextAt_later rfl rfl tie noOwnUnsafe
theorem fnGRTwice_row_tie : Rows.fnGRTwiceRow.laidByTextAt .later Tryd.pinned [.sentinel, .sentinel, .sentinel] true :=
  OpenClaim.laidByTextAt_later rfl rfl tie noOwnUnsafe
theorem fnGREndsUpto_row_tie : Rows.fnGREndsUptoRow.laidByTextAt .later Tryd.pinned [.sentinel, .sentinel, .sentinel] true :=
  OpenClaim.laidByTextAt_later rfl rfl tie noOwnUnsafe
theorem fnGRTwiceUpto_row_tie : Rows.fnGRTwiceUptoRow.laidByTextAt .later Tryd.pinned [.sentinel, .sentinel, .sentinel] true :=
  OpenClaim.laidByTextAt_later rfl rfl tie noOwnUnsafe
end Go.Proofs.YtgmngfgpbjbgjaaDoor
