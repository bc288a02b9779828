/-
  No cell of these rows narrows 'for every input' (looked for: loops, veiled, ifaces, maps, wideKeys, modest, calm, conditions, laid).
  DERIVED. THE GIVEN ROWS OF THIS SEAT. 4 by the template 'for every input the law returns true; each argument reads behind the call as it read before'; 0 by the template 'total and deterministic' (their statements: YtfokodpnoiilbaaTotals.lean).
  GIVEN WITH THE SEED: the statements are not yours to turn. If you find one false, say at which input.
  Laid BY PROGRAM, IN A SANDBOX (cutbox-rows.mjs): the forced cells as the released guide's own fill.sh prints them over the translation a4d1953a736ab2b6… (all of the seat's roots in one cut). By AI agents, Wed Nov 11 2026. No macro, syntax, notation, axiom, sorry.
-/
import Derived.Test.YtfokodpnoiilbaaChecked
import GoSem.Claim
import GoSem.ClaimJoined
import GoSem.ClaimMapViews
import Derived.JoinedTies
import Derived.KernelRfl
namespace Go.Proofs.Ytfokodpnoiilbaa
/- THE CELL 'sum', in the pinned program and in every row, IS THE sha256 OF THE DUMP (.gsa) THAT YtfokodpnoiilbaaProg.lean LOADS. Nothing in Lean hashes anything: it is a label: what it is worth is what the hold of that sum in a sandbox is worth. -/
noncomputable def Try.pinned : Pinned := { name := "ytfokodpnoiilbaa", sum := "a4d1953a736ab2b65d70b3fa2ca5031032c1652dca96218ee7753aa90c4009c9", checked := Try.checked }
namespace Rows
def none {H : Type} : Left H := { results := [], args := [] }

/-- 'laws.FnSKInserts': WHATEVER THE INPUT: true; the input reads as it did. -/
def fnSKInsertsSpec : ChangeSpec := { name := "fnSKInserts", fn := fun _ => fun
  | [d1, d2, d3] => { results := [.lit (.bool true)], args := [d1, d2, d3] }
  | _ => none }
def fnSKInsertsRow : OpenClaim := { program := "ytfokodpnoiilbaa", sum := "a4d1953a736ab2b65d70b3fa2ca5031032c1652dca96218ee7753aa90c4009c9", func := "given.example/pub-spokeshave/laws.FnSKInserts", spec := "fnSKInserts", unfollowed := true, recurses := true, apart := false }
def FnSKInsertsSaid : Prop := fnSKInsertsRow.holds Try.pinned (OpenSpec.ofChange fnSKInsertsSpec)

/-- ITS FALSE NEIGHBOUR: 'it returns false'. Refute it at one input. -/
def fnSKInsertsWrong : ChangeSpec := { name := "fnSKInserts", fn := fun _ => fun
  | [d1, d2, d3] => { results := [.lit (.bool false)], args := [d1, d2, d3] }
  | _ => none }
def FnSKInsertsWrongFalsely : Prop := fnSKInsertsRow.holds Try.pinned (OpenSpec.ofChange fnSKInsertsWrong)

/-- 'laws.FnSKSeeds': WHATEVER THE INPUT: true; the input reads as it did. -/
def fnSKSeedsSpec : ChangeSpec := { name := "fnSKSeeds", fn := fun _ => fun
  | [d1, d2, d3, d4] => { results := [.lit (.bool true)], args := [d1, d2, d3, d4] }
  | _ => none }
def fnSKSeedsRow : OpenClaim := { program := "ytfokodpnoiilbaa", sum := "a4d1953a736ab2b65d70b3fa2ca5031032c1652dca96218ee7753aa90c4009c9", func := "given.example/pub-spokeshave/laws.FnSKSeeds", spec := "fnSKSeeds", unfollowed := true, recurses := true, apart := false }
def FnSKSeedsSaid : Prop := fnSKSeedsRow.holds Try.pinned (OpenSpec.ofChange fnSKSeedsSpec)

/-- ITS FALSE NEIGHBOUR: 'it returns false'. Refute it at one input. -/
def fnSKSeedsWrong : ChangeSpec := { name := "fnSKSeeds", fn := fun _ => fun
  | [d1, d2, d3, d4] => { results := [.lit (.bool false)], args := [d1, d2, d3, d4] }
  | _ => none }
def FnSKSeedsWrongFalsely : Prop := fnSKSeedsRow.holds Try.pinned (OpenSpec.ofChange fnSKSeedsWrong)

/-- 'laws.FnSRAdds': WHATEVER THE INPUT: true; the input reads as it did. -/
def fnSRAddsSpec : ChangeSpec := { name := "fnSRAdds", fn := fun _ => fun
  | [d1, d2, d3] => { results := [.lit (.bool true)], args := [d1, d2, d3] }
  | _ => none }
def fnSRAddsRow : OpenClaim := { program := "ytfokodpnoiilbaa", sum := "a4d1953a736ab2b65d70b3fa2ca5031032c1652dca96218ee7753aa90c4009c9", func := "given.example/pub-spokeshave/laws.FnSRAdds", spec := "fnSRAdds", unfollowed := true, recurses := true, apart := false }
def FnSRAddsSaid : Prop := fnSRAddsRow.holds Try.pinned (OpenSpec.ofChange fnSRAddsSpec)

/-- ITS FALSE NEIGHBOUR: 'it returns false'. Refute it at one input. -/
def fnSRAddsWrong : ChangeSpec := { name := "fnSRAdds", fn := fun _ => fun
  | [d1, d2, d3] => { results := [.lit (.bool false)], args := [d1, d2, d3] }
  | _ => none }
def FnSRAddsWrongFalsely : Prop := fnSRAddsRow.holds Try.pinned (OpenSpec.ofChange fnSRAddsWrong)

/-- 'laws.FnRTApplies': WHATEVER THE INPUT: true; the input reads as it did. -/
def fnRTAppliesSpec : ChangeSpec := { name := "fnRTApplies", fn := fun _ => fun
  | [d1, d2, d3, d4] => { results := [.lit (.bool true)], args := [d1, d2, d3, d4] }
  | _ => none }
def fnRTAppliesRow : OpenClaim := { program := "ytfokodpnoiilbaa", sum := "a4d1953a736ab2b65d70b3fa2ca5031032c1652dca96218ee7753aa90c4009c9", func := "given.example/pub-spokeshave/laws.FnRTApplies", spec := "fnRTApplies", unfollowed := true, recurses := true, apart := false }
def FnRTAppliesSaid : Prop := fnRTAppliesRow.holds Try.pinned (OpenSpec.ofChange fnRTAppliesSpec)

/-- ITS FALSE NEIGHBOUR: 'it returns false'. Refute it at one input. -/
def fnRTAppliesWrong : ChangeSpec := { name := "fnRTApplies", fn := fun _ => fun
  | [d1, d2, d3, d4] => { results := [.lit (.bool false)], args := [d1, d2, d3, d4] }
  | _ => none }
def FnRTAppliesWrongFalsely : Prop := fnRTAppliesRow.holds Try.pinned (OpenSpec.ofChange fnRTAppliesWrong)

/- THE SECOND FORM. 'bulk': how many values and letters a reading holds, each counted each time it is reached (what is shared counts as often as it is met; a slice's spare places count too). A statement '..UptoSaid' is the law's where the arguments, and the package variables that the reading takes, are together of bulk at most 1048576: NARROWER than '..Said'. Prove '..Said' where nothing that the law and all that it calls make is longer than what came in: it says more and counts as full. Else prove '..UptoSaid'. A law counts once. -/
mutual
def uptoBulk {H : Type} : DataW H → Nat
  | .lit (.string bytes) => bytes.length + 1
  | .lit _ => 1
  | .nil => 1
  | .ptr d => uptoBulk d + 1
  | .slice elems spare => uptoBulkAll elems + uptoBulkAll spare + 1
  | .agg parts => uptoBulkAll parts + 1
  | .iface _ d => uptoBulk d + 1
  | .map entries => uptoBulkEntries entries + 1
  | .held _ => 1
def uptoBulkAll {H : Type} : List (DataW H) → Nat
  | [] => 0
  | d :: r => uptoBulk d + uptoBulkAll r
def uptoBulkEntries {H : Type} : List (Lit × DataW H) → Nat
  | [] => 0
  | x :: r => uptoBulkEntry x + uptoBulkEntries r
def uptoBulkEntry {H : Type} : Lit × DataW H → Nat
  | (.string bytes, d) => bytes.length + uptoBulk d + 1
  | (_, d) => uptoBulk d + 1
 end
def uptoSmall : (H : Type) → List (DataW H) → Bool := fun _ ds => decide (uptoBulkAll ds ≤ 1048576)
def OpenSpec.upto (s : _root_.Go.ChangeSpec) : _root_.Go.OpenSpec := { _root_.Go.OpenSpec.ofChange s with cond := some uptoSmall }

/-- 'laws.FnSKInserts', WHERE WHAT IT READS IS OF BULK AT MOST 1048576: true; the input reads as it did. -/
def fnSKInsertsUptoRow : OpenClaim := { program := "ytfokodpnoiilbaa", sum := "a4d1953a736ab2b65d70b3fa2ca5031032c1652dca96218ee7753aa90c4009c9", func := "given.example/pub-spokeshave/laws.FnSKInserts", spec := "fnSKInserts", unfollowed := true, recurses := true, apart := false, narrowed := true }
def FnSKInsertsUptoSaid : Prop := fnSKInsertsUptoRow.holds Try.pinned (OpenSpec.upto fnSKInsertsSpec)

/-- 'laws.FnSKSeeds', WHERE WHAT IT READS IS OF BULK AT MOST 1048576: true; the input reads as it did. -/
def fnSKSeedsUptoRow : OpenClaim := { program := "ytfokodpnoiilbaa", sum := "a4d1953a736ab2b65d70b3fa2ca5031032c1652dca96218ee7753aa90c4009c9", func := "given.example/pub-spokeshave/laws.FnSKSeeds", spec := "fnSKSeeds", unfollowed := true, recurses := true, apart := false, narrowed := true }
def FnSKSeedsUptoSaid : Prop := fnSKSeedsUptoRow.holds Try.pinned (OpenSpec.upto fnSKSeedsSpec)

/-- 'laws.FnSRAdds', WHERE WHAT IT READS IS OF BULK AT MOST 1048576: true; the input reads as it did. -/
def fnSRAddsUptoRow : OpenClaim := { program := "ytfokodpnoiilbaa", sum := "a4d1953a736ab2b65d70b3fa2ca5031032c1652dca96218ee7753aa90c4009c9", func := "given.example/pub-spokeshave/laws.FnSRAdds", spec := "fnSRAdds", unfollowed := true, recurses := true, apart := false, narrowed := true }
def FnSRAddsUptoSaid : Prop := fnSRAddsUptoRow.holds Try.pinned (OpenSpec.upto fnSRAddsSpec)

/-- 'laws.FnRTApplies', WHERE WHAT IT READS IS OF BULK AT MOST 1048576: true; the input reads as it did. -/
def fnRTAppliesUptoRow : OpenClaim := { program := "ytfokodpnoiilbaa", sum := "a4d1953a736ab2b65d70b3fa2ca5031032c1652dca96218ee7753aa90c4009c9", func := "given.example/pub-spokeshave/laws.FnRTApplies", spec := "fnRTApplies", unfollowed := true, recurses := true, apart := false, narrowed := true }
def FnRTAppliesUptoSaid : Prop := fnRTAppliesUptoRow.holds Try.pinned (OpenSpec.upto fnRTAppliesSpec)

end Rows
end Go.Proofs.Ytfokodpnoiilbaa
