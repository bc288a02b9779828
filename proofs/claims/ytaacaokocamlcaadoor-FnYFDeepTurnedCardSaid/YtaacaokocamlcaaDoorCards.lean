/-
  DERIVED. GIVEN WITH THE SEED: THE CARDS: each row of YtaacaokocamlcaaDoorRows.lean that lists a variable, with what it lists TIED to the program's text (the seventh form; the later family's looks); each row that meets fmt, with fmt's text TOLD by the authors' own Lean function (tested against real Go, not proved from fmt's source: count such statements apart). THE CARD IS WHAT COUNTS. Prove the row's statement (the work); the ties are given (YtaacaokocamlcaaDoorTie.lean); close each card by the builder's one call (the guide's Derived/Test/ToyasCard.lean, 'card_holds'). Laid BY PROGRAM, IN A SANDBOX (cutbox-door.mjs). By AI agents, Wed Nov 11 2026. No macro, syntax, notation, axiom, sorry.
-/
import Derived.Test.YtaacaokocamlcaaDoorRows
import GoSem.ClaimSeven
namespace Go.Proofs.YtaacaokocamlcaaDoor
namespace Rows

/-- THE TIED CARD OF 'laws.FnXFDeepMany'. -/
def fnXFDeepManyCard : Claim7 := { stood := { row := fnXFDeepManyRow, standIns := [], harness := (true, "1a7c6cbe9b4c9d793d82657697785afe7ce9b8eab8bd1f1114af38ce3002a9ff"), looks := true }, kinds := [], alts := [], laidByText := true, laidKinds := [.data, .data], laidTests := true, laidLooks := .later }
def FnXFDeepManyCardSaid : Prop := Claim7.holds Tryd.pinned (.plain (OpenSpec.ofChange fnXFDeepManySpec)) fnXFDeepManyCard

/-- THE TIED CARD OF 'laws.FnYFDeepAgain'. -/
def fnYFDeepAgainCard : Claim7 := { stood := { row := fnYFDeepAgainRow, standIns := [], harness := (true, "1a7c6cbe9b4c9d793d82657697785afe7ce9b8eab8bd1f1114af38ce3002a9ff"), looks := true }, kinds := [], alts := [], laidByText := true, laidKinds := [.data, .data], laidTests := true, laidLooks := .later }
def FnYFDeepAgainCardSaid : Prop := Claim7.holds Tryd.pinned (.plain (OpenSpec.ofChange fnYFDeepAgainSpec)) fnYFDeepAgainCard

/-- THE TIED CARD OF 'laws.FnYFDeepTurned'. -/
def fnYFDeepTurnedCard : Claim7 := { stood := { row := fnYFDeepTurnedRow, standIns := [], harness := (true, "1a7c6cbe9b4c9d793d82657697785afe7ce9b8eab8bd1f1114af38ce3002a9ff"), looks := true }, kinds := [], alts := [], laidByText := true, laidKinds := [.data, .data], laidTests := true, laidLooks := .later }
def FnYFDeepTurnedCardSaid : Prop := Claim7.holds Tryd.pinned (.plain (OpenSpec.ofChange fnYFDeepTurnedSpec)) fnYFDeepTurnedCard

/-- THE TIED CARD OF 'laws.FnXYDeepMany'. -/
def fnXYDeepManyCard : Claim7 := { stood := { row := fnXYDeepManyRow, standIns := [], harness := (true, "1a7c6cbe9b4c9d793d82657697785afe7ce9b8eab8bd1f1114af38ce3002a9ff"), looks := true }, kinds := [], alts := [], laidByText := true, laidKinds := [.data, .data], laidTests := true, laidLooks := .later }
def FnXYDeepManyCardSaid : Prop := Claim7.holds Tryd.pinned (.plain (OpenSpec.ofChange fnXYDeepManySpec)) fnXYDeepManyCard

/-- THE SECOND FORM's CARD OF 'laws.FnXFDeepMany'. -/
def fnXFDeepManyUptoCard : Claim7 := { stood := { row := fnXFDeepManyUptoRow, standIns := [], harness := (true, "1a7c6cbe9b4c9d793d82657697785afe7ce9b8eab8bd1f1114af38ce3002a9ff"), looks := true }, kinds := [], alts := [], laidByText := true, laidKinds := [.data, .data], laidTests := true, laidLooks := .later }
def FnXFDeepManyUptoCardSaid : Prop := Claim7.holds Tryd.pinned (.plain (OpenSpec.upto fnXFDeepManySpec)) fnXFDeepManyUptoCard

/-- THE SECOND FORM's CARD OF 'laws.FnYFDeepAgain'. -/
def fnYFDeepAgainUptoCard : Claim7 := { stood := { row := fnYFDeepAgainUptoRow, standIns := [], harness := (true, "1a7c6cbe9b4c9d793d82657697785afe7ce9b8eab8bd1f1114af38ce3002a9ff"), looks := true }, kinds := [], alts := [], laidByText := true, laidKinds := [.data, .data], laidTests := true, laidLooks := .later }
def FnYFDeepAgainUptoCardSaid : Prop := Claim7.holds Tryd.pinned (.plain (OpenSpec.upto fnYFDeepAgainSpec)) fnYFDeepAgainUptoCard

/-- THE SECOND FORM's CARD OF 'laws.FnYFDeepTurned'. -/
def fnYFDeepTurnedUptoCard : Claim7 := { stood := { row := fnYFDeepTurnedUptoRow, standIns := [], harness := (true, "1a7c6cbe9b4c9d793d82657697785afe7ce9b8eab8bd1f1114af38ce3002a9ff"), looks := true }, kinds := [], alts := [], laidByText := true, laidKinds := [.data, .data], laidTests := true, laidLooks := .later }
def FnYFDeepTurnedUptoCardSaid : Prop := Claim7.holds Tryd.pinned (.plain (OpenSpec.upto fnYFDeepTurnedSpec)) fnYFDeepTurnedUptoCard

/-- THE SECOND FORM's CARD OF 'laws.FnXYDeepMany'. -/
def fnXYDeepManyUptoCard : Claim7 := { stood := { row := fnXYDeepManyUptoRow, standIns := [], harness := (true, "1a7c6cbe9b4c9d793d82657697785afe7ce9b8eab8bd1f1114af38ce3002a9ff"), looks := true }, kinds := [], alts := [], laidByText := true, laidKinds := [.data, .data], laidTests := true, laidLooks := .later }
def FnXYDeepManyUptoCardSaid : Prop := Claim7.holds Tryd.pinned (.plain (OpenSpec.upto fnXYDeepManySpec)) fnXYDeepManyUptoCard
end Rows
end Go.Proofs.YtaacaokocamlcaaDoor
