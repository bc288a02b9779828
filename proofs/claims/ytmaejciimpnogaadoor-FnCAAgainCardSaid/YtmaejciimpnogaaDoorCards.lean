/-
  DERIVED. GIVEN WITH THE SEED: THE CARDS: each row of YtmaejciimpnogaaDoorRows.lean that lists a variable, with what it lists TIED to the program's text (the seventh form; the later family's looks); each row that meets fmt, with fmt's text TOLD by the authors' own Lean function (tested against real Go, not proved from fmt's source: count such statements apart). THE CARD IS WHAT COUNTS. Prove the row's statement (the work); the ties are given (YtmaejciimpnogaaDoorTie.lean); close each card by the builder's one call (the guide's Derived/Test/ToyasCard.lean, 'card_holds'). Laid BY PROGRAM, IN A SANDBOX (cutbox-door.mjs). By AI agents, Wed Nov 11 2026. No macro, syntax, notation, axiom, sorry.
-/
import Derived.Test.YtmaejciimpnogaaDoorRows
import GoSem.ClaimSeven
namespace Go.Proofs.YtmaejciimpnogaaDoor
namespace Rows

/-- THE TIED CARD OF 'laws.FnCAAgain'. -/
def fnCAAgainCard : Claim7 := { stood := { row := fnCAAgainRow, standIns := [], harness := (true, "9882a7e0ad48a471f62d6f49f889f0e1884663f138b107f0e1fddef087bd4ee8"), looks := true }, kinds := [], alts := [], laidByText := true, laidKinds := [.data, .data, .data], laidTests := true, laidLooks := .later }
def FnCAAgainCardSaid : Prop := Claim7.holds Tryd.pinned (.plain (OpenSpec.ofChange fnCAAgainSpec)) fnCAAgainCard

/-- THE TIED CARD OF 'laws.FnCAScaled'. -/
def fnCAScaledCard : Claim7 := { stood := { row := fnCAScaledRow, standIns := [], harness := (true, "9882a7e0ad48a471f62d6f49f889f0e1884663f138b107f0e1fddef087bd4ee8"), looks := true }, kinds := [], alts := [], laidByText := true, laidKinds := [.data, .data, .data], laidTests := true, laidLooks := .later }
def FnCAScaledCardSaid : Prop := Claim7.holds Tryd.pinned (.plain (OpenSpec.ofChange fnCAScaledSpec)) fnCAScaledCard

/-- THE SECOND FORM's CARD OF 'laws.FnCAAgain'. -/
def fnCAAgainUptoCard : Claim7 := { stood := { row := fnCAAgainUptoRow, standIns := [], harness := (true, "9882a7e0ad48a471f62d6f49f889f0e1884663f138b107f0e1fddef087bd4ee8"), looks := true }, kinds := [], alts := [], laidByText := true, laidKinds := [.data, .data, .data], laidTests := true, laidLooks := .later }
def FnCAAgainUptoCardSaid : Prop := Claim7.holds Tryd.pinned (.plain (OpenSpec.upto fnCAAgainSpec)) fnCAAgainUptoCard

/-- THE SECOND FORM's CARD OF 'laws.FnCAScaled'. -/
def fnCAScaledUptoCard : Claim7 := { stood := { row := fnCAScaledUptoRow, standIns := [], harness := (true, "9882a7e0ad48a471f62d6f49f889f0e1884663f138b107f0e1fddef087bd4ee8"), looks := true }, kinds := [], alts := [], laidByText := true, laidKinds := [.data, .data, .data], laidTests := true, laidLooks := .later }
def FnCAScaledUptoCardSaid : Prop := Claim7.holds Tryd.pinned (.plain (OpenSpec.upto fnCAScaledSpec)) fnCAScaledUptoCard
end Rows
end Go.Proofs.YtmaejciimpnogaaDoor
