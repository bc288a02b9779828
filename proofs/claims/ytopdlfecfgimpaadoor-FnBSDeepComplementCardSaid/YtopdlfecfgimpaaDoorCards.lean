/-
  DERIVED. GIVEN WITH THE SEED: THE CARDS: each row of YtopdlfecfgimpaaDoorRows.lean that lists a variable, with what it lists TIED to the program's text (the seventh form; the later family's looks); each row that meets fmt, with fmt's text TOLD by the authors' own Lean function (tested against real Go, not proved from fmt's source: count such statements apart). THE CARD IS WHAT COUNTS. Prove the row's statement (the work); the ties are given (YtopdlfecfgimpaaDoorTie.lean); close each card by the builder's one call (the guide's Derived/Test/ToyasCard.lean, 'card_holds'). Laid BY PROGRAM, IN A SANDBOX (cutbox-door.mjs). By AI agents, Wed Nov 11 2026. No macro, syntax, notation, axiom, sorry.
-/
import Derived.Test.YtopdlfecfgimpaaDoorRows
import GoSem.ClaimSeven
namespace Go.Proofs.YtopdlfecfgimpaaDoor
namespace Rows

/-- THE TIED CARD OF 'laws.FnBSDeepLists'. -/
def fnBSDeepListsCard : Claim7 := { stood := { row := fnBSDeepListsRow, standIns := [], harness := (true, "47f1e9f0d72ac0a62a3b3ae082237b56186126dbc1a9e9e266d133919dabbba0"), looks := false }, kinds := [], alts := [], laidByText := true, laidKinds := [.data], laidTests := true, laidLooks := .later }
def FnBSDeepListsCardSaid : Prop := Claim7.holds Tryd.pinned (.plain (OpenSpec.ofChange fnBSDeepListsSpec)) fnBSDeepListsCard

/-- THE TIED CARD OF 'laws.FnBSDeepBetween'. -/
def fnBSDeepBetweenCard : Claim7 := { stood := { row := fnBSDeepBetweenRow, standIns := [], harness := (true, "47f1e9f0d72ac0a62a3b3ae082237b56186126dbc1a9e9e266d133919dabbba0"), looks := false }, kinds := [], alts := [], laidByText := true, laidKinds := [.data], laidTests := true, laidLooks := .later }
def FnBSDeepBetweenCardSaid : Prop := Claim7.holds Tryd.pinned (.plain (OpenSpec.ofChange fnBSDeepBetweenSpec)) fnBSDeepBetweenCard

/-- THE TIED CARD OF 'laws.FnBSDeepCompact'. -/
def fnBSDeepCompactCard : Claim7 := { stood := { row := fnBSDeepCompactRow, standIns := [], harness := (true, "47f1e9f0d72ac0a62a3b3ae082237b56186126dbc1a9e9e266d133919dabbba0"), looks := false }, kinds := [], alts := [], laidByText := true, laidKinds := [.data], laidTests := true, laidLooks := .later }
def FnBSDeepCompactCardSaid : Prop := Claim7.holds Tryd.pinned (.plain (OpenSpec.ofChange fnBSDeepCompactSpec)) fnBSDeepCompactCard

/-- THE TIED CARD OF 'laws.FnBSDeepComplement'. -/
def fnBSDeepComplementCard : Claim7 := { stood := { row := fnBSDeepComplementRow, standIns := [], harness := (true, "47f1e9f0d72ac0a62a3b3ae082237b56186126dbc1a9e9e266d133919dabbba0"), looks := false }, kinds := [], alts := [], laidByText := true, laidKinds := [.data], laidTests := true, laidLooks := .later }
def FnBSDeepComplementCardSaid : Prop := Claim7.holds Tryd.pinned (.plain (OpenSpec.ofChange fnBSDeepComplementSpec)) fnBSDeepComplementCard

/-- THE SECOND FORM's CARD OF 'laws.FnBSDeepLists'. -/
def fnBSDeepListsUptoCard : Claim7 := { stood := { row := fnBSDeepListsUptoRow, standIns := [], harness := (true, "47f1e9f0d72ac0a62a3b3ae082237b56186126dbc1a9e9e266d133919dabbba0"), looks := false }, kinds := [], alts := [], laidByText := true, laidKinds := [.data], laidTests := true, laidLooks := .later }
def FnBSDeepListsUptoCardSaid : Prop := Claim7.holds Tryd.pinned (.plain (OpenSpec.upto fnBSDeepListsSpec)) fnBSDeepListsUptoCard

/-- THE SECOND FORM's CARD OF 'laws.FnBSDeepBetween'. -/
def fnBSDeepBetweenUptoCard : Claim7 := { stood := { row := fnBSDeepBetweenUptoRow, standIns := [], harness := (true, "47f1e9f0d72ac0a62a3b3ae082237b56186126dbc1a9e9e266d133919dabbba0"), looks := false }, kinds := [], alts := [], laidByText := true, laidKinds := [.data], laidTests := true, laidLooks := .later }
def FnBSDeepBetweenUptoCardSaid : Prop := Claim7.holds Tryd.pinned (.plain (OpenSpec.upto fnBSDeepBetweenSpec)) fnBSDeepBetweenUptoCard

/-- THE SECOND FORM's CARD OF 'laws.FnBSDeepCompact'. -/
def fnBSDeepCompactUptoCard : Claim7 := { stood := { row := fnBSDeepCompactUptoRow, standIns := [], harness := (true, "47f1e9f0d72ac0a62a3b3ae082237b56186126dbc1a9e9e266d133919dabbba0"), looks := false }, kinds := [], alts := [], laidByText := true, laidKinds := [.data], laidTests := true, laidLooks := .later }
def FnBSDeepCompactUptoCardSaid : Prop := Claim7.holds Tryd.pinned (.plain (OpenSpec.upto fnBSDeepCompactSpec)) fnBSDeepCompactUptoCard

/-- THE SECOND FORM's CARD OF 'laws.FnBSDeepComplement'. -/
def fnBSDeepComplementUptoCard : Claim7 := { stood := { row := fnBSDeepComplementUptoRow, standIns := [], harness := (true, "47f1e9f0d72ac0a62a3b3ae082237b56186126dbc1a9e9e266d133919dabbba0"), looks := false }, kinds := [], alts := [], laidByText := true, laidKinds := [.data], laidTests := true, laidLooks := .later }
def FnBSDeepComplementUptoCardSaid : Prop := Claim7.holds Tryd.pinned (.plain (OpenSpec.upto fnBSDeepComplementSpec)) fnBSDeepComplementUptoCard
end Rows
end Go.Proofs.YtopdlfecfgimpaaDoor
