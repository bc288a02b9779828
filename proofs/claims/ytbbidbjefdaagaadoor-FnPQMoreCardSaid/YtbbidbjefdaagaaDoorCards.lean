/-
  DERIVED. GIVEN WITH THE SEED: THE CARDS: each row of YtbbidbjefdaagaaDoorRows.lean that lists a variable, with what it lists TIED to the program's text (the seventh form; the later family's looks); each row that meets fmt, with fmt's text TOLD by the authors' own Lean function (tested against real Go, not proved from fmt's source: count such statements apart). THE CARD IS WHAT COUNTS. Prove the row's statement (the work); the ties are given (YtbbidbjefdaagaaDoorTie.lean); close each card by the builder's one call (the guide's Derived/Test/ToyasCard.lean, 'card_holds'). Laid BY PROGRAM, IN A SANDBOX (cutbox-door.mjs). By AI agents, Wed Nov 11 2026. No macro, syntax, notation, axiom, sorry.
-/
import Derived.Test.YtbbidbjefdaagaaDoorRows
import GoSem.ClaimSeven
namespace Go.Proofs.YtbbidbjefdaagaaDoor
namespace Rows

/-- THE TIED CARD OF 'laws.FnPQMore'. -/
def fnPQMoreCard : Claim7 := { stood := { row := fnPQMoreRow, standIns := [], harness := (true, "c286217adc5194a7dc7d20e9dbe605878c729b7e6007c5c488ffc8d25f5ed491"), looks := true }, kinds := [], alts := [], laidByText := true, laidKinds := [.sentinel, .sentinel, .sentinel], laidTests := true, laidLooks := .later }
def FnPQMoreCardSaid : Prop := Claim7.holds Tryd.pinned (.plain (OpenSpec.ofChange fnPQMoreSpec)) fnPQMoreCard

/-- THE TIED CARD OF 'laws.FnPQTwice'. -/
def fnPQTwiceCard : Claim7 := { stood := { row := fnPQTwiceRow, standIns := [], harness := (true, "c286217adc5194a7dc7d20e9dbe605878c729b7e6007c5c488ffc8d25f5ed491"), looks := true }, kinds := [], alts := [], laidByText := true, laidKinds := [.sentinel, .sentinel, .sentinel], laidTests := true, laidLooks := .later }
def FnPQTwiceCardSaid : Prop := Claim7.holds Tryd.pinned (.plain (OpenSpec.ofChange fnPQTwiceSpec)) fnPQTwiceCard

/-- THE SECOND FORM's CARD OF 'laws.FnPQMore'. -/
def fnPQMoreUptoCard : Claim7 := { stood := { row := fnPQMoreUptoRow, standIns := [], harness := (true, "c286217adc5194a7dc7d20e9dbe605878c729b7e6007c5c488ffc8d25f5ed491"), looks := true }, kinds := [], alts := [], laidByText := true, laidKinds := [.sentinel, .sentinel, .sentinel], laidTests := true, laidLooks := .later }
def FnPQMoreUptoCardSaid : Prop := Claim7.holds Tryd.pinned (.plain (OpenSpec.upto fnPQMoreSpec)) fnPQMoreUptoCard

/-- THE SECOND FORM's CARD OF 'laws.FnPQTwice'. -/
def fnPQTwiceUptoCard : Claim7 := { stood := { row := fnPQTwiceUptoRow, standIns := [], harness := (true, "c286217adc5194a7dc7d20e9dbe605878c729b7e6007c5c488ffc8d25f5ed491"), looks := true }, kinds := [], alts := [], laidByText := true, laidKinds := [.sentinel, .sentinel, .sentinel], laidTests := true, laidLooks := .later }
def FnPQTwiceUptoCardSaid : Prop := Claim7.holds Tryd.pinned (.plain (OpenSpec.upto fnPQTwiceSpec)) fnPQTwiceUptoCard
end Rows
end Go.Proofs.YtbbidbjefdaagaaDoor
