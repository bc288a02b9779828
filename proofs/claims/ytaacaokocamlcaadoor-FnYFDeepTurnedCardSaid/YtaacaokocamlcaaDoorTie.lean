/-
  DERIVED. GIVEN WITH THE SEED: THE PROGRAM's TIES (one call each: nine closed facts by the kernel) AND EACH ROW's TIE, after the 31st guide's Derived/Test/Toyas{Tie, Card}.lean. No idea stands in it: it is a product of the set-up. Laid BY PROGRAM, IN A SANDBOX (cutbox-door.mjs). By AI agents, Wed Nov 11 2026. No macro, syntax, notation, axiom, sorry.
-/
import Derived.Test.YtaacaokocamlcaaDoorRows
import Derived.LaidByTextLater
import Derived.SevenTiedAt
import Derived.LaidSub
import Derived.LaidOnce
namespace Go.Proofs.YtaacaokocamlcaaDoor
open Go
set_option maxRecDepth 100000
theorem seatTie1 : Tryd.prog.laidByTextLater [("given.example/pub-spokeshave/pub/godatastructures/trie/xfast.masks", Rows.laid_given_example_pub_spokeshave_pub_godatastructures_trie_xfast_masks), ("given.example/pub-spokeshave/pub/godatastructures/trie/xfast.positions", Rows.laid_given_example_pub_spokeshave_pub_godatastructures_trie_xfast_positions)] [.data, .data] true :=
  Program.laidByTextLater_by_one 19 8 65 (by kernel_rfl) (by kernel_rfl) (by kernel_rfl) (by kernel_rfl) (by kernel_rfl) (by kernel_rfl) (fun _ _ => by kernel_rfl)
theorem noOwnUnsafe : Tryd.pinned.checked.prog.headLifts.contains "ownunsafe" = false := by kernel_rfl
theorem tie : Tryd.prog.laidByTextLater [("given.example/pub-spokeshave/pub/godatastructures/trie/xfast.masks", Rows.laid_given_example_pub_spokeshave_pub_godatastructures_trie_xfast_masks), ("given.example/pub-spokeshave/pub/godatastructures/trie/xfast.positions", Rows.laid_given_example_pub_spokeshave_pub_godatastructures_trie_xfast_positions)] [.data, .data] true :=
  Program.laidByTextLater.sub seatTie1 ["given.example/pub-spokeshave/pub/godatastructures/trie/xfast.masks", "given.example/pub-spokeshave/pub/godatastructures/trie/xfast.positions"] (by kernel_rfl) (by kernel_rfl)
theorem fnXFDeepMany_row_tie : Rows.fnXFDeepManyRow.laidByTextAt .later Tryd.pinned [.data, .data] true :=
  OpenClaim.laidByTextAt_later rfl rfl tie noOwnUnsafe
theorem fnYFDeepAgain_row_tie : Rows.fnYFDeepAgainRow.laidByTextAt .later Tryd.pinned [.data, .data] true :=
  OpenClaim.laidByTextAt_later rfl rfl tie noOwnUnsafe
theorem fnYFDeepTurned_row_tie : Rows.fnYFDeepTurnedRow.laidByTextAt .later Tryd.pinned [.data, .data] true :=
  OpenClaim.laidByTextAt_later rfl rfl tie noOwnUnsafe
theorem fnXYDeepMany_row_tie : Rows.fnXYDeepManyRow.laidByTextAt .later Tryd.pinned [.data, .data] true :=
  OpenClaim.laidByTextAt_later rfl rfl tie noOwnUnsafe
theorem fnXFDeepManyUpto_row_tie : Rows.fnXFDeepManyUptoRow.laidByTextAt .later Tryd.pinned [.data, .data] true :=
  OpenClaim.laidByTextAt_later rfl rfl tie noOwnUnsafe
theorem fnYFDeepAgainUpto_row_tie : Rows.fnYFDeepAgainUptoRow.laidByTextAt .later Tryd.pinned [.data, .data] true :=
  OpenClaim.laidByTextAt_later rfl rfl tie noOwnUnsafe
theorem fnYFDeepTurnedUpto_row_tie : Rows.fnYFDeepTurnedUptoRow.laidByTextAt .later Tryd.pinned [.data, .data] true :=
  OpenClaim.laidByTextAt_later rfl rfl tie noOwnUnsafe
theorem fnXYDeepManyUpto_row_tie : Rows.fnXYDeepManyUptoRow.laidByTextAt .later Tryd.pinned [.data, .data] true :=
  OpenClaim.laidByTextAt_later rfl rfl tie noOwnUnsafe
end Go.Proofs.YtaacaokocamlcaaDoor
