/-
  No cell of these rows narrows 'for every input' (looked for: loops, veiled, ifaces, maps, wideKeys, modest, calm, conditions, laid).
  DERIVED. THE GIVEN ROWS OF THIS SEAT. 3 by the template 'for every input the law returns true; each argument reads behind the call as it read before'; 0 by the template 'total and deterministic' (their statements: YtlbeelgfpbkdbaaTotals.lean).
  GIVEN WITH THE SEED: the statements are not yours to turn. If you find one false, say at which input.
  Laid BY PROGRAM, IN A SANDBOX (cutbox-rows.mjs): the forced cells as the released guide's own fill.sh prints them over the translation bcfd7a9b765f47ee… (all of the seat's roots in one cut). By AI agents, Wed Nov 11 2026. No macro, syntax, notation, axiom, sorry.
-/
import Derived.Test.YtlbeelgfpbkdbaaChecked
import GoSem.Claim
import GoSem.ClaimJoined
import GoSem.ClaimMapViews
import Derived.JoinedTies
import Derived.KernelRfl
namespace Go.Proofs.Ytlbeelgfpbkdbaa
/- THE CELL 'sum', in the pinned program and in every row, IS THE sha256 OF THE DUMP (.gsa) THAT YtlbeelgfpbkdbaaProg.lean LOADS. Nothing in Lean hashes anything: it is a label: what it is worth is what the hold of that sum in a sandbox is worth. -/
noncomputable def Try.pinned : Pinned := { name := "ytlbeelgfpbkdbaa", sum := "bcfd7a9b765f47eecdfad20a3b77d85030413f43675c1af6090b9aeacf21c79b", checked := Try.checked }
namespace Rows
def none {H : Type} : Left H := { results := [], args := [] }

/-- 'laws.FnFHLook': WHATEVER THE INPUT: true; the input reads as it did. -/
def fnFHLookSpec : ChangeSpec := { name := "fnFHLook", fn := fun _ => fun
  | [d] => { results := [.lit (.bool true)], args := [d] }
  | _ => none }
def fnFHLookRow : OpenClaim := { program := "ytlbeelgfpbkdbaa", sum := "bcfd7a9b765f47eecdfad20a3b77d85030413f43675c1af6090b9aeacf21c79b", func := "given.example/pub-spokeshave/laws.FnFHLook", spec := "fnFHLook", recurses := true, apart := false }
def FnFHLookSaid : Prop := fnFHLookRow.holds Try.pinned (OpenSpec.ofChange fnFHLookSpec)

/-- ITS FALSE NEIGHBOUR: 'it returns false'. Refute it at one input. -/
def fnFHLookWrong : ChangeSpec := { name := "fnFHLook", fn := fun _ => fun
  | [d] => { results := [.lit (.bool false)], args := [d] }
  | _ => none }
def FnFHLookWrongFalsely : Prop := fnFHLookRow.holds Try.pinned (OpenSpec.ofChange fnFHLookWrong)

/-- 'laws.FnFHShift': WHATEVER THE INPUT: true; the input reads as it did. -/
def fnFHShiftSpec : ChangeSpec := { name := "fnFHShift", fn := fun _ => fun
  | [d1, d2] => { results := [.lit (.bool true)], args := [d1, d2] }
  | _ => none }
def fnFHShiftRow : OpenClaim := { program := "ytlbeelgfpbkdbaa", sum := "bcfd7a9b765f47eecdfad20a3b77d85030413f43675c1af6090b9aeacf21c79b", func := "given.example/pub-spokeshave/laws.FnFHShift", spec := "fnFHShift", recurses := true, apart := false }
def FnFHShiftSaid : Prop := fnFHShiftRow.holds Try.pinned (OpenSpec.ofChange fnFHShiftSpec)

/-- ITS FALSE NEIGHBOUR: 'it returns false'. Refute it at one input. -/
def fnFHShiftWrong : ChangeSpec := { name := "fnFHShift", fn := fun _ => fun
  | [d1, d2] => { results := [.lit (.bool false)], args := [d1, d2] }
  | _ => none }
def FnFHShiftWrongFalsely : Prop := fnFHShiftRow.holds Try.pinned (OpenSpec.ofChange fnFHShiftWrong)

/-- 'laws.FnFHSteps': WHATEVER THE INPUT: true; the input reads as it did. -/
def fnFHStepsSpec : ChangeSpec := { name := "fnFHSteps", fn := fun _ => fun
  | [d1, d2, d3, d4] => { results := [.lit (.bool true)], args := [d1, d2, d3, d4] }
  | _ => none }
def fnFHStepsRow : OpenClaim := { program := "ytlbeelgfpbkdbaa", sum := "bcfd7a9b765f47eecdfad20a3b77d85030413f43675c1af6090b9aeacf21c79b", func := "given.example/pub-spokeshave/laws.FnFHSteps", spec := "fnFHSteps", recurses := true, apart := false }
def FnFHStepsSaid : Prop := fnFHStepsRow.holds Try.pinned (OpenSpec.ofChange fnFHStepsSpec)

/-- ITS FALSE NEIGHBOUR: 'it returns false'. Refute it at one input. -/
def fnFHStepsWrong : ChangeSpec := { name := "fnFHSteps", fn := fun _ => fun
  | [d1, d2, d3, d4] => { results := [.lit (.bool false)], args := [d1, d2, d3, d4] }
  | _ => none }
def FnFHStepsWrongFalsely : Prop := fnFHStepsRow.holds Try.pinned (OpenSpec.ofChange fnFHStepsWrong)

/- THE SECOND FORM. 'bulk': how many values and letters a reading holds, each counted each time it is reached (what is shared counts as often as it is met; a slice's spare places count too). A statement '..UptoSaid' is the law's where the arguments, and the package variables that the reading takes, are together of bulk at most 1048576: NARROWER than '..Said'. Prove '..Said' where nothing that the law and all that it calls make is longer than what came in: it says more and counts as full. Else prove '..UptoSaid'. A law counts once. -/
mutual
def uptoBulk {H : Type} : DataW H → Nat
  | .lit (.string bytes) => bytes.length + 1
  | .lit _ => 1
  | .nil => 1
  | .ptr d => uptoBulk d + 1
  | .slice elems spare => uptoBulkAll elems + uptoBulkAll spare + 1
  | .agg parts => uptoBulkAll parts + 1
  | .iface _ d => uptoBulk d + 1
  | .map entries => uptoBulkEntries entries + 1
  | .held _ => 1
def uptoBulkAll {H : Type} : List (DataW H) → Nat
  | [] => 0
  | d :: r => uptoBulk d + uptoBulkAll r
def uptoBulkEntries {H : Type} : List (Lit × DataW H) → Nat
  | [] => 0
  | x :: r => uptoBulkEntry x + uptoBulkEntries r
def uptoBulkEntry {H : Type} : Lit × DataW H → Nat
  | (.string bytes, d) => bytes.length + uptoBulk d + 1
  | (_, d) => uptoBulk d + 1
 end
def uptoSmall : (H : Type) → List (DataW H) → Bool := fun _ ds => decide (uptoBulkAll ds ≤ 1048576)
def OpenSpec.upto (s : _root_.Go.ChangeSpec) : _root_.Go.OpenSpec := { _root_.Go.OpenSpec.ofChange s with cond := some uptoSmall }

/-- 'laws.FnFHLook', WHERE WHAT IT READS IS OF BULK AT MOST 1048576: true; the input reads as it did. -/
def fnFHLookUptoRow : OpenClaim := { program := "ytlbeelgfpbkdbaa", sum := "bcfd7a9b765f47eecdfad20a3b77d85030413f43675c1af6090b9aeacf21c79b", func := "given.example/pub-spokeshave/laws.FnFHLook", spec := "fnFHLook", recurses := true, apart := false, narrowed := true }
def FnFHLookUptoSaid : Prop := fnFHLookUptoRow.holds Try.pinned (OpenSpec.upto fnFHLookSpec)

/-- 'laws.FnFHShift', WHERE WHAT IT READS IS OF BULK AT MOST 1048576: true; the input reads as it did. -/
def fnFHShiftUptoRow : OpenClaim := { program := "ytlbeelgfpbkdbaa", sum := "bcfd7a9b765f47eecdfad20a3b77d85030413f43675c1af6090b9aeacf21c79b", func := "given.example/pub-spokeshave/laws.FnFHShift", spec := "fnFHShift", recurses := true, apart := false, narrowed := true }
def FnFHShiftUptoSaid : Prop := fnFHShiftUptoRow.holds Try.pinned (OpenSpec.upto fnFHShiftSpec)

/-- 'laws.FnFHSteps', WHERE WHAT IT READS IS OF BULK AT MOST 1048576: true; the input reads as it did. -/
def fnFHStepsUptoRow : OpenClaim := { program := "ytlbeelgfpbkdbaa", sum := "bcfd7a9b765f47eecdfad20a3b77d85030413f43675c1af6090b9aeacf21c79b", func := "given.example/pub-spokeshave/laws.FnFHSteps", spec := "fnFHSteps", recurses := true, apart := false, narrowed := true }
def FnFHStepsUptoSaid : Prop := fnFHStepsUptoRow.holds Try.pinned (OpenSpec.upto fnFHStepsSpec)

end Rows
end Go.Proofs.Ytlbeelgfpbkdbaa
