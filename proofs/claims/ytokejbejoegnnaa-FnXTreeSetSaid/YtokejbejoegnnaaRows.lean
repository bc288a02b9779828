/-
  No cell of these rows narrows 'for every input' (looked for: loops, veiled, ifaces, maps, wideKeys, modest, calm, conditions, laid).
  DERIVED. THE GIVEN ROWS OF THIS SEAT. 4 by the template 'for every input the law returns true; each argument reads behind the call as it read before'; 0 by the template 'total and deterministic' (their statements: YtokejbejoegnnaaTotals.lean).
  GIVEN WITH THE SEED: the statements are not yours to turn. If you find one false, say at which input.
  Laid BY PROGRAM, IN A SANDBOX (cutbox-rows.mjs): the forced cells as the released guide's own fill.sh prints them over the translation 7481b9b5488dba15… (all of the seat's roots in one cut). By AI agents, Wed Nov 11 2026. No macro, syntax, notation, axiom, sorry.
-/
import Derived.Test.YtokejbejoegnnaaChecked
import GoSem.Claim
import GoSem.ClaimJoined
import GoSem.ClaimMapViews
import Derived.JoinedTies
import Derived.KernelRfl
namespace Go.Proofs.Ytokejbejoegnnaa
/- THE CELL 'sum', in the pinned program and in every row, IS THE sha256 OF THE DUMP (.gsa) THAT YtokejbejoegnnaaProg.lean LOADS. Nothing in Lean hashes anything: it is a label: what it is worth is what the hold of that sum in a sandbox is worth. -/
noncomputable def Try.pinned : Pinned := { name := "ytokejbejoegnnaa", sum := "7481b9b5488dba15a8fad888697d90c86d3351e62c16e989f0a071d9a3bf26f6", checked := Try.checked }
namespace Rows
def none {H : Type} : Left H := { results := [], args := [] }

/-- 'laws.FnSTOnce': WHATEVER THE INPUT: true; the input reads as it did. -/
def fnSTOnceSpec : ChangeSpec := { name := "fnSTOnce", fn := fun _ => fun
  | [d1, d2] => { results := [.lit (.bool true)], args := [d1, d2] }
  | _ => none }
def fnSTOnceRow : OpenClaim := { program := "ytokejbejoegnnaa", sum := "7481b9b5488dba15a8fad888697d90c86d3351e62c16e989f0a071d9a3bf26f6", func := "given.example/pub-spokeshave/laws.FnSTOnce", spec := "fnSTOnce", recurses := true, apart := false }
def FnSTOnceSaid : Prop := fnSTOnceRow.holds Try.pinned (OpenSpec.ofChange fnSTOnceSpec)

/-- ITS FALSE NEIGHBOUR: 'it returns false'. Refute it at one input. -/
def fnSTOnceWrong : ChangeSpec := { name := "fnSTOnce", fn := fun _ => fun
  | [d1, d2] => { results := [.lit (.bool false)], args := [d1, d2] }
  | _ => none }
def FnSTOnceWrongFalsely : Prop := fnSTOnceRow.holds Try.pinned (OpenSpec.ofChange fnSTOnceWrong)

/-- 'laws.FnAVMirror': WHATEVER THE INPUT: true; the input reads as it did. -/
def fnAVMirrorSpec : ChangeSpec := { name := "fnAVMirror", fn := fun _ => fun
  | [d1, d2] => { results := [.lit (.bool true)], args := [d1, d2] }
  | _ => none }
def fnAVMirrorRow : OpenClaim := { program := "ytokejbejoegnnaa", sum := "7481b9b5488dba15a8fad888697d90c86d3351e62c16e989f0a071d9a3bf26f6", func := "given.example/pub-spokeshave/laws.FnAVMirror", spec := "fnAVMirror", inPlace := ["math.Float64bits", "math.Float64frombits"], unfollowed := true, recurses := true, apart := false }
def FnAVMirrorSaid : Prop := fnAVMirrorRow.holds Try.pinned (OpenSpec.ofChange fnAVMirrorSpec)

/-- ITS FALSE NEIGHBOUR: 'it returns false'. Refute it at one input. -/
def fnAVMirrorWrong : ChangeSpec := { name := "fnAVMirror", fn := fun _ => fun
  | [d1, d2] => { results := [.lit (.bool false)], args := [d1, d2] }
  | _ => none }
def FnAVMirrorWrongFalsely : Prop := fnAVMirrorRow.holds Try.pinned (OpenSpec.ofChange fnAVMirrorWrong)

/-- 'laws.FnAVTwo': WHATEVER THE INPUT: true; the input reads as it did. -/
def fnAVTwoSpec : ChangeSpec := { name := "fnAVTwo", fn := fun _ => fun
  | [d1, d2, d3] => { results := [.lit (.bool true)], args := [d1, d2, d3] }
  | _ => none }
def fnAVTwoRow : OpenClaim := { program := "ytokejbejoegnnaa", sum := "7481b9b5488dba15a8fad888697d90c86d3351e62c16e989f0a071d9a3bf26f6", func := "given.example/pub-spokeshave/laws.FnAVTwo", spec := "fnAVTwo", inPlace := ["math.Float64bits", "math.Float64frombits"], unfollowed := true, recurses := true, apart := false }
def FnAVTwoSaid : Prop := fnAVTwoRow.holds Try.pinned (OpenSpec.ofChange fnAVTwoSpec)

/-- ITS FALSE NEIGHBOUR: 'it returns false'. Refute it at one input. -/
def fnAVTwoWrong : ChangeSpec := { name := "fnAVTwo", fn := fun _ => fun
  | [d1, d2, d3] => { results := [.lit (.bool false)], args := [d1, d2, d3] }
  | _ => none }
def FnAVTwoWrongFalsely : Prop := fnAVTwoRow.holds Try.pinned (OpenSpec.ofChange fnAVTwoWrong)

/-- 'laws.FnXTreeSet': WHATEVER THE INPUT: true; the input reads as it did. -/
def fnXTreeSetSpec : ChangeSpec := { name := "fnXTreeSet", fn := fun _ => fun
  | [d1, d2, d3] => { results := [.lit (.bool true)], args := [d1, d2, d3] }
  | _ => none }
def fnXTreeSetRow : OpenClaim := { program := "ytokejbejoegnnaa", sum := "7481b9b5488dba15a8fad888697d90c86d3351e62c16e989f0a071d9a3bf26f6", func := "given.example/pub-spokeshave/laws.FnXTreeSet", spec := "fnXTreeSet", inPlace := ["math.Float64bits", "math.Float64frombits"], unfollowed := true, recurses := true, apart := false }
def FnXTreeSetSaid : Prop := fnXTreeSetRow.holds Try.pinned (OpenSpec.ofChange fnXTreeSetSpec)

/-- ITS FALSE NEIGHBOUR: 'it returns false'. Refute it at one input. -/
def fnXTreeSetWrong : ChangeSpec := { name := "fnXTreeSet", fn := fun _ => fun
  | [d1, d2, d3] => { results := [.lit (.bool false)], args := [d1, d2, d3] }
  | _ => none }
def FnXTreeSetWrongFalsely : Prop := fnXTreeSetRow.holds Try.pinned (OpenSpec.ofChange fnXTreeSetWrong)

/- THE SECOND FORM. 'bulk': how many values and letters a reading holds, each counted each time it is reached (what is shared counts as often as it is met; a slice's spare places count too). A statement '..UptoSaid' is the law's where the arguments, and the package variables that the reading takes, are together of bulk at most 1048576: NARROWER than '..Said'. Prove '..Said' where nothing that the law and all that it calls make is longer than what came in: it says more and counts as full. Else prove '..UptoSaid'. A law counts once. -/
mutual
def uptoBulk {H : Type} : DataW H → Nat
  | .lit (.string bytes) => bytes.length + 1
  | .lit _ => 1
  | .nil => 1
  | .ptr d => uptoBulk d + 1
  | .slice elems spare => uptoBulkAll elems + uptoBulkAll spare + 1
  | .agg parts => uptoBulkAll parts + 1
  | .iface _ d => uptoBulk d + 1
  | .map entries => uptoBulkEntries entries + 1
  | .held _ => 1
def uptoBulkAll {H : Type} : List (DataW H) → Nat
  | [] => 0
  | d :: r => uptoBulk d + uptoBulkAll r
def uptoBulkEntries {H : Type} : List (Lit × DataW H) → Nat
  | [] => 0
  | x :: r => uptoBulkEntry x + uptoBulkEntries r
def uptoBulkEntry {H : Type} : Lit × DataW H → Nat
  | (.string bytes, d) => bytes.length + uptoBulk d + 1
  | (_, d) => uptoBulk d + 1
 end
def uptoSmall : (H : Type) → List (DataW H) → Bool := fun _ ds => decide (uptoBulkAll ds ≤ 1048576)
def OpenSpec.upto (s : _root_.Go.ChangeSpec) : _root_.Go.OpenSpec := { _root_.Go.OpenSpec.ofChange s with cond := some uptoSmall }

/-- 'laws.FnSTOnce', WHERE WHAT IT READS IS OF BULK AT MOST 1048576: true; the input reads as it did. -/
def fnSTOnceUptoRow : OpenClaim := { program := "ytokejbejoegnnaa", sum := "7481b9b5488dba15a8fad888697d90c86d3351e62c16e989f0a071d9a3bf26f6", func := "given.example/pub-spokeshave/laws.FnSTOnce", spec := "fnSTOnce", recurses := true, apart := false, narrowed := true }
def FnSTOnceUptoSaid : Prop := fnSTOnceUptoRow.holds Try.pinned (OpenSpec.upto fnSTOnceSpec)

/-- 'laws.FnAVMirror', WHERE WHAT IT READS IS OF BULK AT MOST 1048576: true; the input reads as it did. -/
def fnAVMirrorUptoRow : OpenClaim := { program := "ytokejbejoegnnaa", sum := "7481b9b5488dba15a8fad888697d90c86d3351e62c16e989f0a071d9a3bf26f6", func := "given.example/pub-spokeshave/laws.FnAVMirror", spec := "fnAVMirror", inPlace := ["math.Float64bits", "math.Float64frombits"], unfollowed := true, recurses := true, apart := false, narrowed := true }
def FnAVMirrorUptoSaid : Prop := fnAVMirrorUptoRow.holds Try.pinned (OpenSpec.upto fnAVMirrorSpec)

/-- 'laws.FnAVTwo', WHERE WHAT IT READS IS OF BULK AT MOST 1048576: true; the input reads as it did. -/
def fnAVTwoUptoRow : OpenClaim := { program := "ytokejbejoegnnaa", sum := "7481b9b5488dba15a8fad888697d90c86d3351e62c16e989f0a071d9a3bf26f6", func := "given.example/pub-spokeshave/laws.FnAVTwo", spec := "fnAVTwo", inPlace := ["math.Float64bits", "math.Float64frombits"], unfollowed := true, recurses := true, apart := false, narrowed := true }
def FnAVTwoUptoSaid : Prop := fnAVTwoUptoRow.holds Try.pinned (OpenSpec.upto fnAVTwoSpec)

/-- 'laws.FnXTreeSet', WHERE WHAT IT READS IS OF BULK AT MOST 1048576: true; the input reads as it did. -/
def fnXTreeSetUptoRow : OpenClaim := { program := "ytokejbejoegnnaa", sum := "7481b9b5488dba15a8fad888697d90c86d3351e62c16e989f0a071d9a3bf26f6", func := "given.example/pub-spokeshave/laws.FnXTreeSet", spec := "fnXTreeSet", inPlace := ["math.Float64bits", "math.Float64frombits"], unfollowed := true, recurses := true, apart := false, narrowed := true }
def FnXTreeSetUptoSaid : Prop := fnXTreeSetUptoRow.holds Try.pinned (OpenSpec.upto fnXTreeSetSpec)

end Rows
end Go.Proofs.Ytokejbejoegnnaa
