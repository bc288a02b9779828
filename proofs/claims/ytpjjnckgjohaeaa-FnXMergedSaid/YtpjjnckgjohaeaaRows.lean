/-
  No cell of these rows narrows 'for every input' (looked for: loops, veiled, ifaces, maps, wideKeys, modest, calm, conditions, laid).
  DERIVED. THE GIVEN ROWS OF THIS SEAT. 4 by the template 'for every input the law returns true; each argument reads behind the call as it read before'; 0 by the template 'total and deterministic' (their statements: YtpjjnckgjohaeaaTotals.lean).
  GIVEN WITH THE SEED: the statements are not yours to turn. If you find one false, say at which input.
  Laid BY PROGRAM, IN A SANDBOX (cutbox-rows.mjs): the forced cells as the released guide's own fill.sh prints them over the translation 004dc3f1a624e3cb… (all of the seat's roots in one cut). By AI agents, Wed Nov 11 2026. No macro, syntax, notation, axiom, sorry.
-/
import Derived.Test.YtpjjnckgjohaeaaChecked
import GoSem.Claim
import GoSem.ClaimJoined
import GoSem.ClaimMapViews
import Derived.JoinedTies
import Derived.KernelRfl
namespace Go.Proofs.Ytpjjnckgjohaeaa
/- THE CELL 'sum', in the pinned program and in every row, IS THE sha256 OF THE DUMP (.gsa) THAT YtpjjnckgjohaeaaProg.lean LOADS. Nothing in Lean hashes anything: it is a label: what it is worth is what the hold of that sum in a sandbox is worth. -/
noncomputable def Try.pinned : Pinned := { name := "ytpjjnckgjohaeaa", sum := "004dc3f1a624e3cb76a9ca390828788ceef9db52091f39a871bfe01c7e50f2f3", checked := Try.checked }
namespace Rows
def none {H : Type} : Left H := { results := [], args := [] }

/-- 'laws.FnISShift': WHATEVER THE INPUT: true; the input reads as it did. -/
def fnISShiftSpec : ChangeSpec := { name := "fnISShift", fn := fun _ => fun
  | [d1, d2, d3] => { results := [.lit (.bool true)], args := [d1, d2, d3] }
  | _ => none }
def fnISShiftRow : OpenClaim := { program := "ytpjjnckgjohaeaa", sum := "004dc3f1a624e3cb76a9ca390828788ceef9db52091f39a871bfe01c7e50f2f3", func := "given.example/pub-spokeshave/laws.FnISShift", spec := "fnISShift", unfollowed := true, recurses := true, apart := false }
def FnISShiftSaid : Prop := fnISShiftRow.holds Try.pinned (OpenSpec.ofChange fnISShiftSpec)

/-- ITS FALSE NEIGHBOUR: 'it returns false'. Refute it at one input. -/
def fnISShiftWrong : ChangeSpec := { name := "fnISShift", fn := fun _ => fun
  | [d1, d2, d3] => { results := [.lit (.bool false)], args := [d1, d2, d3] }
  | _ => none }
def FnISShiftWrongFalsely : Prop := fnISShiftRow.holds Try.pinned (OpenSpec.ofChange fnISShiftWrong)

/-- 'laws.FnISTurned': WHATEVER THE INPUT: true; the input reads as it did. -/
def fnISTurnedSpec : ChangeSpec := { name := "fnISTurned", fn := fun _ => fun
  | [d] => { results := [.lit (.bool true)], args := [d] }
  | _ => none }
def fnISTurnedRow : OpenClaim := { program := "ytpjjnckgjohaeaa", sum := "004dc3f1a624e3cb76a9ca390828788ceef9db52091f39a871bfe01c7e50f2f3", func := "given.example/pub-spokeshave/laws.FnISTurned", spec := "fnISTurned", unfollowed := true, recurses := true, apart := false }
def FnISTurnedSaid : Prop := fnISTurnedRow.holds Try.pinned (OpenSpec.ofChange fnISTurnedSpec)

/-- ITS FALSE NEIGHBOUR: 'it returns false'. Refute it at one input. -/
def fnISTurnedWrong : ChangeSpec := { name := "fnISTurned", fn := fun _ => fun
  | [d] => { results := [.lit (.bool false)], args := [d] }
  | _ => none }
def FnISTurnedWrongFalsely : Prop := fnISTurnedRow.holds Try.pinned (OpenSpec.ofChange fnISTurnedWrong)

/-- 'laws.FnMGThree': WHATEVER THE INPUT: true; the input reads as it did. -/
def fnMGThreeSpec : ChangeSpec := { name := "fnMGThree", fn := fun _ => fun
  | [d1, d2, d3] => { results := [.lit (.bool true)], args := [d1, d2, d3] }
  | _ => none }
def fnMGThreeRow : OpenClaim := { program := "ytpjjnckgjohaeaa", sum := "004dc3f1a624e3cb76a9ca390828788ceef9db52091f39a871bfe01c7e50f2f3", func := "given.example/pub-spokeshave/laws.FnMGThree", spec := "fnMGThree", inPlace := ["math.Float64bits", "math.Float64frombits"], unfollowed := true, recurses := true, apart := false }
def FnMGThreeSaid : Prop := fnMGThreeRow.holds Try.pinned (OpenSpec.ofChange fnMGThreeSpec)

/-- ITS FALSE NEIGHBOUR: 'it returns false'. Refute it at one input. -/
def fnMGThreeWrong : ChangeSpec := { name := "fnMGThree", fn := fun _ => fun
  | [d1, d2, d3] => { results := [.lit (.bool false)], args := [d1, d2, d3] }
  | _ => none }
def FnMGThreeWrongFalsely : Prop := fnMGThreeRow.holds Try.pinned (OpenSpec.ofChange fnMGThreeWrong)

/-- 'laws.FnXMerged': WHATEVER THE INPUT: true; the input reads as it did. -/
def fnXMergedSpec : ChangeSpec := { name := "fnXMerged", fn := fun _ => fun
  | [d1, d2] => { results := [.lit (.bool true)], args := [d1, d2] }
  | _ => none }
def fnXMergedRow : OpenClaim := { program := "ytpjjnckgjohaeaa", sum := "004dc3f1a624e3cb76a9ca390828788ceef9db52091f39a871bfe01c7e50f2f3", func := "given.example/pub-spokeshave/laws.FnXMerged", spec := "fnXMerged", inPlace := ["math.Float64bits", "math.Float64frombits"], unfollowed := true, recurses := true, apart := false }
def FnXMergedSaid : Prop := fnXMergedRow.holds Try.pinned (OpenSpec.ofChange fnXMergedSpec)

/-- ITS FALSE NEIGHBOUR: 'it returns false'. Refute it at one input. -/
def fnXMergedWrong : ChangeSpec := { name := "fnXMerged", fn := fun _ => fun
  | [d1, d2] => { results := [.lit (.bool false)], args := [d1, d2] }
  | _ => none }
def FnXMergedWrongFalsely : Prop := fnXMergedRow.holds Try.pinned (OpenSpec.ofChange fnXMergedWrong)

/- THE SECOND FORM. 'bulk': how many values and letters a reading holds, each counted each time it is reached (what is shared counts as often as it is met; a slice's spare places count too). A statement '..UptoSaid' is the law's where the arguments, and the package variables that the reading takes, are together of bulk at most 1048576: NARROWER than '..Said'. Prove '..Said' where nothing that the law and all that it calls make is longer than what came in: it says more and counts as full. Else prove '..UptoSaid'. A law counts once. -/
mutual
def uptoBulk {H : Type} : DataW H → Nat
  | .lit (.string bytes) => bytes.length + 1
  | .lit _ => 1
  | .nil => 1
  | .ptr d => uptoBulk d + 1
  | .slice elems spare => uptoBulkAll elems + uptoBulkAll spare + 1
  | .agg parts => uptoBulkAll parts + 1
  | .iface _ d => uptoBulk d + 1
  | .map entries => uptoBulkEntries entries + 1
  | .held _ => 1
def uptoBulkAll {H : Type} : List (DataW H) → Nat
  | [] => 0
  | d :: r => uptoBulk d + uptoBulkAll r
def uptoBulkEntries {H : Type} : List (Lit × DataW H) → Nat
  | [] => 0
  | x :: r => uptoBulkEntry x + uptoBulkEntries r
def uptoBulkEntry {H : Type} : Lit × DataW H → Nat
  | (.string bytes, d) => bytes.length + uptoBulk d + 1
  | (_, d) => uptoBulk d + 1
 end
def uptoSmall : (H : Type) → List (DataW H) → Bool := fun _ ds => decide (uptoBulkAll ds ≤ 1048576)
def OpenSpec.upto (s : _root_.Go.ChangeSpec) : _root_.Go.OpenSpec := { _root_.Go.OpenSpec.ofChange s with cond := some uptoSmall }

/-- 'laws.FnISShift', WHERE WHAT IT READS IS OF BULK AT MOST 1048576: true; the input reads as it did. -/
def fnISShiftUptoRow : OpenClaim := { program := "ytpjjnckgjohaeaa", sum := "004dc3f1a624e3cb76a9ca390828788ceef9db52091f39a871bfe01c7e50f2f3", func := "given.example/pub-spokeshave/laws.FnISShift", spec := "fnISShift", unfollowed := true, recurses := true, apart := false, narrowed := true }
def FnISShiftUptoSaid : Prop := fnISShiftUptoRow.holds Try.pinned (OpenSpec.upto fnISShiftSpec)

/-- 'laws.FnISTurned', WHERE WHAT IT READS IS OF BULK AT MOST 1048576: true; the input reads as it did. -/
def fnISTurnedUptoRow : OpenClaim := { program := "ytpjjnckgjohaeaa", sum := "004dc3f1a624e3cb76a9ca390828788ceef9db52091f39a871bfe01c7e50f2f3", func := "given.example/pub-spokeshave/laws.FnISTurned", spec := "fnISTurned", unfollowed := true, recurses := true, apart := false, narrowed := true }
def FnISTurnedUptoSaid : Prop := fnISTurnedUptoRow.holds Try.pinned (OpenSpec.upto fnISTurnedSpec)

/-- 'laws.FnMGThree', WHERE WHAT IT READS IS OF BULK AT MOST 1048576: true; the input reads as it did. -/
def fnMGThreeUptoRow : OpenClaim := { program := "ytpjjnckgjohaeaa", sum := "004dc3f1a624e3cb76a9ca390828788ceef9db52091f39a871bfe01c7e50f2f3", func := "given.example/pub-spokeshave/laws.FnMGThree", spec := "fnMGThree", inPlace := ["math.Float64bits", "math.Float64frombits"], unfollowed := true, recurses := true, apart := false, narrowed := true }
def FnMGThreeUptoSaid : Prop := fnMGThreeUptoRow.holds Try.pinned (OpenSpec.upto fnMGThreeSpec)

/-- 'laws.FnXMerged', WHERE WHAT IT READS IS OF BULK AT MOST 1048576: true; the input reads as it did. -/
def fnXMergedUptoRow : OpenClaim := { program := "ytpjjnckgjohaeaa", sum := "004dc3f1a624e3cb76a9ca390828788ceef9db52091f39a871bfe01c7e50f2f3", func := "given.example/pub-spokeshave/laws.FnXMerged", spec := "fnXMerged", inPlace := ["math.Float64bits", "math.Float64frombits"], unfollowed := true, recurses := true, apart := false, narrowed := true }
def FnXMergedUptoSaid : Prop := fnXMergedUptoRow.holds Try.pinned (OpenSpec.upto fnXMergedSpec)

end Rows
end Go.Proofs.Ytpjjnckgjohaeaa
