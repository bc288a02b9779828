/-
  No cell of these rows narrows 'for every input' (looked for: loops, veiled, ifaces, maps, wideKeys, modest, calm, conditions, laid).
  DERIVED. THE GIVEN ROWS OF THIS SEAT. 9 by the template 'for every input the law returns true; each argument reads behind the call as it read before'; 0 by the template 'total and deterministic' (their statements: YtopdlfecfgimpaaTotals.lean).
  GIVEN WITH THE SEED: the statements are not yours to turn. If you find one false, say at which input.
  Laid BY PROGRAM, IN A SANDBOX (cutbox-rows.mjs): the forced cells as the released guide's own fill.sh prints them over the translation 062bfc10b9baed93… (all of the seat's roots in one cut). By AI agents, Wed Nov 11 2026. No macro, syntax, notation, axiom, sorry.
-/
import Derived.Test.YtopdlfecfgimpaaChecked
import GoSem.Claim
import GoSem.ClaimJoined
import GoSem.ClaimMapViews
import Derived.JoinedTies
import Derived.KernelRfl
namespace Go.Proofs.Ytopdlfecfgimpaa
/- THE CELL 'sum', in the pinned program and in every row, IS THE sha256 OF THE DUMP (.gsa) THAT YtopdlfecfgimpaaProg.lean LOADS. Nothing in Lean hashes anything: it is a label: what it is worth is what the hold of that sum in a sandbox is worth. -/
noncomputable def Try.pinned : Pinned := { name := "ytopdlfecfgimpaa", sum := "062bfc10b9baed93b0962ab21bf4a6c713fef6344d3fbd769d361c24793953f8", checked := Try.checked }
namespace Rows
def none {H : Type} : Left H := { results := [], args := [] }

/-- 'laws.FnBSDeepFlip': WHATEVER THE INPUT: true; the input reads as it did. -/
def fnBSDeepFlipSpec : ChangeSpec := { name := "fnBSDeepFlip", fn := fun _ => fun
  | [d1, d2] => { results := [.lit (.bool true)], args := [d1, d2] }
  | _ => none }
def fnBSDeepFlipRow : OpenClaim := { program := "ytopdlfecfgimpaa", sum := "062bfc10b9baed93b0962ab21bf4a6c713fef6344d3fbd769d361c24793953f8", func := "given.example/pub-spokeshave/laws.FnBSDeepFlip", spec := "fnBSDeepFlip", unfollowed := true, recurses := true, apart := false }
def FnBSDeepFlipSaid : Prop := fnBSDeepFlipRow.holds Try.pinned (OpenSpec.ofChange fnBSDeepFlipSpec)

/-- ITS FALSE NEIGHBOUR: 'it returns false'. Refute it at one input. -/
def fnBSDeepFlipWrong : ChangeSpec := { name := "fnBSDeepFlip", fn := fun _ => fun
  | [d1, d2] => { results := [.lit (.bool false)], args := [d1, d2] }
  | _ => none }
def FnBSDeepFlipWrongFalsely : Prop := fnBSDeepFlipRow.holds Try.pinned (OpenSpec.ofChange fnBSDeepFlipWrong)

/-- 'laws.FnBSDeepHead': WHATEVER THE INPUT: true; the input reads as it did. -/
def fnBSDeepHeadSpec : ChangeSpec := { name := "fnBSDeepHead", fn := fun _ => fun
  | [d1, d2, d3] => { results := [.lit (.bool true)], args := [d1, d2, d3] }
  | _ => none }
def fnBSDeepHeadRow : OpenClaim := { program := "ytopdlfecfgimpaa", sum := "062bfc10b9baed93b0962ab21bf4a6c713fef6344d3fbd769d361c24793953f8", func := "given.example/pub-spokeshave/laws.FnBSDeepHead", spec := "fnBSDeepHead", unfollowed := true, recurses := true, apart := false }
def FnBSDeepHeadSaid : Prop := fnBSDeepHeadRow.holds Try.pinned (OpenSpec.ofChange fnBSDeepHeadSpec)

/-- ITS FALSE NEIGHBOUR: 'it returns false'. Refute it at one input. -/
def fnBSDeepHeadWrong : ChangeSpec := { name := "fnBSDeepHead", fn := fun _ => fun
  | [d1, d2, d3] => { results := [.lit (.bool false)], args := [d1, d2, d3] }
  | _ => none }
def FnBSDeepHeadWrongFalsely : Prop := fnBSDeepHeadRow.holds Try.pinned (OpenSpec.ofChange fnBSDeepHeadWrong)

/-- 'laws.FnBSDeepRanks': WHATEVER THE INPUT: true; the input reads as it did. -/
def fnBSDeepRanksSpec : ChangeSpec := { name := "fnBSDeepRanks", fn := fun _ => fun
  | [d1, d2] => { results := [.lit (.bool true)], args := [d1, d2] }
  | _ => none }
def fnBSDeepRanksRow : OpenClaim := { program := "ytopdlfecfgimpaa", sum := "062bfc10b9baed93b0962ab21bf4a6c713fef6344d3fbd769d361c24793953f8", func := "given.example/pub-spokeshave/laws.FnBSDeepRanks", spec := "fnBSDeepRanks", unfollowed := true, recurses := true, apart := false }
def FnBSDeepRanksSaid : Prop := fnBSDeepRanksRow.holds Try.pinned (OpenSpec.ofChange fnBSDeepRanksSpec)

/-- ITS FALSE NEIGHBOUR: 'it returns false'. Refute it at one input. -/
def fnBSDeepRanksWrong : ChangeSpec := { name := "fnBSDeepRanks", fn := fun _ => fun
  | [d1, d2] => { results := [.lit (.bool false)], args := [d1, d2] }
  | _ => none }
def FnBSDeepRanksWrongFalsely : Prop := fnBSDeepRanksRow.holds Try.pinned (OpenSpec.ofChange fnBSDeepRanksWrong)

/-- 'laws.FnBSDeepSuper': WHATEVER THE INPUT: true; the input reads as it did. -/
def fnBSDeepSuperSpec : ChangeSpec := { name := "fnBSDeepSuper", fn := fun _ => fun
  | [d1, d2] => { results := [.lit (.bool true)], args := [d1, d2] }
  | _ => none }
def fnBSDeepSuperRow : OpenClaim := { program := "ytopdlfecfgimpaa", sum := "062bfc10b9baed93b0962ab21bf4a6c713fef6344d3fbd769d361c24793953f8", func := "given.example/pub-spokeshave/laws.FnBSDeepSuper", spec := "fnBSDeepSuper", unfollowed := true, recurses := true, apart := false }
def FnBSDeepSuperSaid : Prop := fnBSDeepSuperRow.holds Try.pinned (OpenSpec.ofChange fnBSDeepSuperSpec)

/-- ITS FALSE NEIGHBOUR: 'it returns false'. Refute it at one input. -/
def fnBSDeepSuperWrong : ChangeSpec := { name := "fnBSDeepSuper", fn := fun _ => fun
  | [d1, d2] => { results := [.lit (.bool false)], args := [d1, d2] }
  | _ => none }
def FnBSDeepSuperWrongFalsely : Prop := fnBSDeepSuperRow.holds Try.pinned (OpenSpec.ofChange fnBSDeepSuperWrong)

/-- 'laws.FnBSDeepSums': WHATEVER THE INPUT: true; the input reads as it did. -/
def fnBSDeepSumsSpec : ChangeSpec := { name := "fnBSDeepSums", fn := fun _ => fun
  | [d1, d2, d3] => { results := [.lit (.bool true)], args := [d1, d2, d3] }
  | _ => none }
def fnBSDeepSumsRow : OpenClaim := { program := "ytopdlfecfgimpaa", sum := "062bfc10b9baed93b0962ab21bf4a6c713fef6344d3fbd769d361c24793953f8", func := "given.example/pub-spokeshave/laws.FnBSDeepSums", spec := "fnBSDeepSums", unfollowed := true, recurses := true, apart := false }
def FnBSDeepSumsSaid : Prop := fnBSDeepSumsRow.holds Try.pinned (OpenSpec.ofChange fnBSDeepSumsSpec)

/-- ITS FALSE NEIGHBOUR: 'it returns false'. Refute it at one input. -/
def fnBSDeepSumsWrong : ChangeSpec := { name := "fnBSDeepSums", fn := fun _ => fun
  | [d1, d2, d3] => { results := [.lit (.bool false)], args := [d1, d2, d3] }
  | _ => none }
def FnBSDeepSumsWrongFalsely : Prop := fnBSDeepSumsRow.holds Try.pinned (OpenSpec.ofChange fnBSDeepSumsWrong)

/-- 'laws.FnBSDeepRanges': WHATEVER THE INPUT: true; the input reads as it did. -/
def fnBSDeepRangesSpec : ChangeSpec := { name := "fnBSDeepRanges", fn := fun _ => fun
  | [d1, d2, d3] => { results := [.lit (.bool true)], args := [d1, d2, d3] }
  | _ => none }
def fnBSDeepRangesRow : OpenClaim := { program := "ytopdlfecfgimpaa", sum := "062bfc10b9baed93b0962ab21bf4a6c713fef6344d3fbd769d361c24793953f8", func := "given.example/pub-spokeshave/laws.FnBSDeepRanges", spec := "fnBSDeepRanges", unfollowed := true, recurses := true, apart := false }
def FnBSDeepRangesSaid : Prop := fnBSDeepRangesRow.holds Try.pinned (OpenSpec.ofChange fnBSDeepRangesSpec)

/-- ITS FALSE NEIGHBOUR: 'it returns false'. Refute it at one input. -/
def fnBSDeepRangesWrong : ChangeSpec := { name := "fnBSDeepRanges", fn := fun _ => fun
  | [d1, d2, d3] => { results := [.lit (.bool false)], args := [d1, d2, d3] }
  | _ => none }
def FnBSDeepRangesWrongFalsely : Prop := fnBSDeepRangesRow.holds Try.pinned (OpenSpec.ofChange fnBSDeepRangesWrong)

/-- 'laws.FnBLDeepLocations': WHATEVER THE INPUT: true; the input reads as it did. -/
def fnBLDeepLocationsSpec : ChangeSpec := { name := "fnBLDeepLocations", fn := fun _ => fun
  | [d1, d2, d3, d4] => { results := [.lit (.bool true)], args := [d1, d2, d3, d4] }
  | _ => none }
def fnBLDeepLocationsRow : OpenClaim := { program := "ytopdlfecfgimpaa", sum := "062bfc10b9baed93b0962ab21bf4a6c713fef6344d3fbd769d361c24793953f8", func := "given.example/pub-spokeshave/laws.FnBLDeepLocations", spec := "fnBLDeepLocations", named := ["encoding/binary.LittleEndian"], apart := false }
def FnBLDeepLocationsSaid : Prop := fnBLDeepLocationsRow.holds Try.pinned (OpenSpec.ofChange fnBLDeepLocationsSpec)

/-- ITS FALSE NEIGHBOUR: 'it returns false'. Refute it at one input. -/
def fnBLDeepLocationsWrong : ChangeSpec := { name := "fnBLDeepLocations", fn := fun _ => fun
  | [d1, d2, d3, d4] => { results := [.lit (.bool false)], args := [d1, d2, d3, d4] }
  | _ => none }
def FnBLDeepLocationsWrongFalsely : Prop := fnBLDeepLocationsRow.holds Try.pinned (OpenSpec.ofChange fnBLDeepLocationsWrong)

/-- 'laws.FnBLDeepOrder': WHATEVER THE INPUT: true; the input reads as it did. -/
def fnBLDeepOrderSpec : ChangeSpec := { name := "fnBLDeepOrder", fn := fun _ => fun
  | [d1, d2, d3, d4, d5] => { results := [.lit (.bool true)], args := [d1, d2, d3, d4, d5] }
  | _ => none }
def fnBLDeepOrderRow : OpenClaim := { program := "ytopdlfecfgimpaa", sum := "062bfc10b9baed93b0962ab21bf4a6c713fef6344d3fbd769d361c24793953f8", func := "given.example/pub-spokeshave/laws.FnBLDeepOrder", spec := "fnBLDeepOrder", named := ["encoding/binary.LittleEndian"], apart := false }
def FnBLDeepOrderSaid : Prop := fnBLDeepOrderRow.holds Try.pinned (OpenSpec.ofChange fnBLDeepOrderSpec)

/-- ITS FALSE NEIGHBOUR: 'it returns false'. Refute it at one input. -/
def fnBLDeepOrderWrong : ChangeSpec := { name := "fnBLDeepOrder", fn := fun _ => fun
  | [d1, d2, d3, d4, d5] => { results := [.lit (.bool false)], args := [d1, d2, d3, d4, d5] }
  | _ => none }
def FnBLDeepOrderWrongFalsely : Prop := fnBLDeepOrderRow.holds Try.pinned (OpenSpec.ofChange fnBLDeepOrderWrong)

/-- 'laws.FnBLDeepWords': WHATEVER THE INPUT: true; the input reads as it did. -/
def fnBLDeepWordsSpec : ChangeSpec := { name := "fnBLDeepWords", fn := fun _ => fun
  | [d1, d2, d3, d4, d5] => { results := [.lit (.bool true)], args := [d1, d2, d3, d4, d5] }
  | _ => none }
def fnBLDeepWordsRow : OpenClaim := { program := "ytopdlfecfgimpaa", sum := "062bfc10b9baed93b0962ab21bf4a6c713fef6344d3fbd769d361c24793953f8", func := "given.example/pub-spokeshave/laws.FnBLDeepWords", spec := "fnBLDeepWords", unfollowed := true, recurses := true, named := ["encoding/binary.LittleEndian"], apart := false }
def FnBLDeepWordsSaid : Prop := fnBLDeepWordsRow.holds Try.pinned (OpenSpec.ofChange fnBLDeepWordsSpec)

/-- ITS FALSE NEIGHBOUR: 'it returns false'. Refute it at one input. -/
def fnBLDeepWordsWrong : ChangeSpec := { name := "fnBLDeepWords", fn := fun _ => fun
  | [d1, d2, d3, d4, d5] => { results := [.lit (.bool false)], args := [d1, d2, d3, d4, d5] }
  | _ => none }
def FnBLDeepWordsWrongFalsely : Prop := fnBLDeepWordsRow.holds Try.pinned (OpenSpec.ofChange fnBLDeepWordsWrong)

/- THE SECOND FORM. 'bulk': how many values and letters a reading holds, each counted each time it is reached (what is shared counts as often as it is met; a slice's spare places count too). A statement '..UptoSaid' is the law's where the arguments, and the package variables that the reading takes, are together of bulk at most 1048576: NARROWER than '..Said'. Prove '..Said' where nothing that the law and all that it calls make is longer than what came in: it says more and counts as full. Else prove '..UptoSaid'. A law counts once. -/
mutual
def uptoBulk {H : Type} : DataW H → Nat
  | .lit (.string bytes) => bytes.length + 1
  | .lit _ => 1
  | .nil => 1
  | .ptr d => uptoBulk d + 1
  | .slice elems spare => uptoBulkAll elems + uptoBulkAll spare + 1
  | .agg parts => uptoBulkAll parts + 1
  | .iface _ d => uptoBulk d + 1
  | .map entries => uptoBulkEntries entries + 1
  | .held _ => 1
def uptoBulkAll {H : Type} : List (DataW H) → Nat
  | [] => 0
  | d :: r => uptoBulk d + uptoBulkAll r
def uptoBulkEntries {H : Type} : List (Lit × DataW H) → Nat
  | [] => 0
  | x :: r => uptoBulkEntry x + uptoBulkEntries r
def uptoBulkEntry {H : Type} : Lit × DataW H → Nat
  | (.string bytes, d) => bytes.length + uptoBulk d + 1
  | (_, d) => uptoBulk d + 1
 end
def uptoSmall : (H : Type) → List (DataW H) → Bool := fun _ ds => decide (uptoBulkAll ds ≤ 1048576)
def OpenSpec.upto (s : _root_.Go.ChangeSpec) : _root_.Go.OpenSpec := { _root_.Go.OpenSpec.ofChange s with cond := some uptoSmall }

/-- 'laws.FnBSDeepFlip', WHERE WHAT IT READS IS OF BULK AT MOST 1048576: true; the input reads as it did. -/
def fnBSDeepFlipUptoRow : OpenClaim := { program := "ytopdlfecfgimpaa", sum := "062bfc10b9baed93b0962ab21bf4a6c713fef6344d3fbd769d361c24793953f8", func := "given.example/pub-spokeshave/laws.FnBSDeepFlip", spec := "fnBSDeepFlip", unfollowed := true, recurses := true, apart := false, narrowed := true }
def FnBSDeepFlipUptoSaid : Prop := fnBSDeepFlipUptoRow.holds Try.pinned (OpenSpec.upto fnBSDeepFlipSpec)

/-- 'laws.FnBSDeepHead', WHERE WHAT IT READS IS OF BULK AT MOST 1048576: true; the input reads as it did. -/
def fnBSDeepHeadUptoRow : OpenClaim := { program := "ytopdlfecfgimpaa", sum := "062bfc10b9baed93b0962ab21bf4a6c713fef6344d3fbd769d361c24793953f8", func := "given.example/pub-spokeshave/laws.FnBSDeepHead", spec := "fnBSDeepHead", unfollowed := true, recurses := true, apart := false, narrowed := true }
def FnBSDeepHeadUptoSaid : Prop := fnBSDeepHeadUptoRow.holds Try.pinned (OpenSpec.upto fnBSDeepHeadSpec)

/-- 'laws.FnBSDeepRanks', WHERE WHAT IT READS IS OF BULK AT MOST 1048576: true; the input reads as it did. -/
def fnBSDeepRanksUptoRow : OpenClaim := { program := "ytopdlfecfgimpaa", sum := "062bfc10b9baed93b0962ab21bf4a6c713fef6344d3fbd769d361c24793953f8", func := "given.example/pub-spokeshave/laws.FnBSDeepRanks", spec := "fnBSDeepRanks", unfollowed := true, recurses := true, apart := false, narrowed := true }
def FnBSDeepRanksUptoSaid : Prop := fnBSDeepRanksUptoRow.holds Try.pinned (OpenSpec.upto fnBSDeepRanksSpec)

/-- 'laws.FnBSDeepSuper', WHERE WHAT IT READS IS OF BULK AT MOST 1048576: true; the input reads as it did. -/
def fnBSDeepSuperUptoRow : OpenClaim := { program := "ytopdlfecfgimpaa", sum := "062bfc10b9baed93b0962ab21bf4a6c713fef6344d3fbd769d361c24793953f8", func := "given.example/pub-spokeshave/laws.FnBSDeepSuper", spec := "fnBSDeepSuper", unfollowed := true, recurses := true, apart := false, narrowed := true }
def FnBSDeepSuperUptoSaid : Prop := fnBSDeepSuperUptoRow.holds Try.pinned (OpenSpec.upto fnBSDeepSuperSpec)

/-- 'laws.FnBSDeepSums', WHERE WHAT IT READS IS OF BULK AT MOST 1048576: true; the input reads as it did. -/
def fnBSDeepSumsUptoRow : OpenClaim := { program := "ytopdlfecfgimpaa", sum := "062bfc10b9baed93b0962ab21bf4a6c713fef6344d3fbd769d361c24793953f8", func := "given.example/pub-spokeshave/laws.FnBSDeepSums", spec := "fnBSDeepSums", unfollowed := true, recurses := true, apart := false, narrowed := true }
def FnBSDeepSumsUptoSaid : Prop := fnBSDeepSumsUptoRow.holds Try.pinned (OpenSpec.upto fnBSDeepSumsSpec)

/-- 'laws.FnBSDeepRanges', WHERE WHAT IT READS IS OF BULK AT MOST 1048576: true; the input reads as it did. -/
def fnBSDeepRangesUptoRow : OpenClaim := { program := "ytopdlfecfgimpaa", sum := "062bfc10b9baed93b0962ab21bf4a6c713fef6344d3fbd769d361c24793953f8", func := "given.example/pub-spokeshave/laws.FnBSDeepRanges", spec := "fnBSDeepRanges", unfollowed := true, recurses := true, apart := false, narrowed := true }
def FnBSDeepRangesUptoSaid : Prop := fnBSDeepRangesUptoRow.holds Try.pinned (OpenSpec.upto fnBSDeepRangesSpec)

/-- 'laws.FnBLDeepLocations', WHERE WHAT IT READS IS OF BULK AT MOST 1048576: true; the input reads as it did. -/
def fnBLDeepLocationsUptoRow : OpenClaim := { program := "ytopdlfecfgimpaa", sum := "062bfc10b9baed93b0962ab21bf4a6c713fef6344d3fbd769d361c24793953f8", func := "given.example/pub-spokeshave/laws.FnBLDeepLocations", spec := "fnBLDeepLocations", named := ["encoding/binary.LittleEndian"], apart := false, narrowed := true }
def FnBLDeepLocationsUptoSaid : Prop := fnBLDeepLocationsUptoRow.holds Try.pinned (OpenSpec.upto fnBLDeepLocationsSpec)

/-- 'laws.FnBLDeepOrder', WHERE WHAT IT READS IS OF BULK AT MOST 1048576: true; the input reads as it did. -/
def fnBLDeepOrderUptoRow : OpenClaim := { program := "ytopdlfecfgimpaa", sum := "062bfc10b9baed93b0962ab21bf4a6c713fef6344d3fbd769d361c24793953f8", func := "given.example/pub-spokeshave/laws.FnBLDeepOrder", spec := "fnBLDeepOrder", named := ["encoding/binary.LittleEndian"], apart := false, narrowed := true }
def FnBLDeepOrderUptoSaid : Prop := fnBLDeepOrderUptoRow.holds Try.pinned (OpenSpec.upto fnBLDeepOrderSpec)

/-- 'laws.FnBLDeepWords', WHERE WHAT IT READS IS OF BULK AT MOST 1048576: true; the input reads as it did. -/
def fnBLDeepWordsUptoRow : OpenClaim := { program := "ytopdlfecfgimpaa", sum := "062bfc10b9baed93b0962ab21bf4a6c713fef6344d3fbd769d361c24793953f8", func := "given.example/pub-spokeshave/laws.FnBLDeepWords", spec := "fnBLDeepWords", unfollowed := true, recurses := true, named := ["encoding/binary.LittleEndian"], apart := false, narrowed := true }
def FnBLDeepWordsUptoSaid : Prop := fnBLDeepWordsUptoRow.holds Try.pinned (OpenSpec.upto fnBLDeepWordsSpec)

end Rows
end Go.Proofs.Ytopdlfecfgimpaa
