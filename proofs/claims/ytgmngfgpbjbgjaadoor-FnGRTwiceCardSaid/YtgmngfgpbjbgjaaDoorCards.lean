/-
  DERIVED. GIVEN WITH THE SEED: THE CARDS: each row of YtgmngfgpbjbgjaaDoorRows.lean that lists a variable, with what it lists TIED to the program's text (the seventh form; the later family's looks); each row that meets fmt, with fmt's text TOLD by the authors' own Lean function (tested against real Go, not proved from fmt's source: count such statements apart). THE CARD IS WHAT COUNTS. Prove the row's statement (the work); the ties are given (YtgmngfgpbjbgjaaDoorTie.lean); close each card by the builder's one call (the guide's Derived/Test/ToyasCard.lean, 'card_holds'). Laid BY PROGRAM, IN A SANDBOX (cutbox-door.mjs). By AI agents, Wed Nov 11 2026. No macro, syntax, notation, axiom, sorry.
-/
import Derived.Test.YtgmngfgpbjbgjaaDoorRows
import GoSem.ClaimSeven
namespace Go.Proofs.YtgmngfgpbjbgjaaDoor
namespace Rows

/-- THE TIED CARD OF 'laws.FnGREnds'. -/
def fnGREndsCard : Claim7 := { stood := { row := fnGREndsRow, standIns := [], harness := (true, "fccff7c1a99b4053bd5256d3f4ef66ae1727aab40ec7ee7fd44bf685eff03f63"), looks := true }, kinds := [], alts := [], laidByText := true, laidKinds := [.sentinel, .sentinel, .sentinel], laidTests := true, laidLooks := .later }
def FnGREndsCardSaid : Prop := Claim7.holds Tryd.pinned (.plain (OpenSpec.ofChange fnGREndsSpec)) fnGREndsCard

/-- THE TIED CARD OF 'laws.FnGRTwice'. -/
def fnGRTwiceCard : Claim7 := { stood := { row := fnGRTwiceRow, standIns := [], harness := (true, "fccff7c1a99b4053bd5256d3f4ef66ae1727aab40ec7ee7fd44bf685eff03f63"), looks := true }, kinds := [], alts := [], laidByText := true, laidKinds := [.sentinel, .sentinel, .sentinel], laidTests := true, laidLooks := .later }
def FnGRTwiceCardSaid : Prop := Claim7.holds Tryd.pinned (.plain (OpenSpec.ofChange fnGRTwiceSpec)) fnGRTwiceCard

/-- THE SECOND FORM's CARD OF 'laws.FnGREnds'. -/
def fnGREndsUptoCard : Claim7 := { stood := { row := fnGREndsUptoRow, standIns := [], harness := (true, "fccff7c1a99b4053bd5256d3f4ef66ae1727aab40ec7ee7fd44bf685eff03f63"), looks := true }, kinds := [], alts := [], laidByText := true, laidKinds := [.sentinel, .sentinel, .sentinel], laidTests := true, laidLooks := .later }
def FnGREndsUptoCardSaid : Prop := Claim7.holds Tryd.pinned (.plain (OpenSpec.upto fnGREndsSpec)) fnGREndsUptoCard

/-- THE SECOND FORM's CARD OF 'laws.FnGRTwice'. -/
def fnGRTwiceUptoCard : Claim7 := { stood := { row := fnGRTwiceUptoRow, standIns := [], harness := (true, "fccff7c1a99b4053bd5256d3f4ef66ae1727aab40ec7ee7fd44bf685eff03f63"), looks := true }, kinds := [], alts := [], laidByText := true, laidKinds := [.sentinel, .sentinel, .sentinel], laidTests := true, laidLooks := .later }
def FnGRTwiceUptoCardSaid : Prop := Claim7.holds Tryd.pinned (.plain (OpenSpec.upto fnGRTwiceSpec)) fnGRTwiceUptoCard
end Rows
end Go.Proofs.YtgmngfgpbjbgjaaDoor
