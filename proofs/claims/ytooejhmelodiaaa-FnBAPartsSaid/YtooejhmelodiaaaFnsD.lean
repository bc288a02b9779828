/-
  Printed by this session's own program eng.py out of Lean's print of the loaded functions: what each function's body asks, in the engine's words; each is checked against the program by the kernel.
-/
import Derived.Test.YtooejhmelodiaaaEng
import Derived.Test.YtooejhmelodiaaaFnsA
namespace Go.Proofs.Ytooejhmelodiaaa.E
open Go
set_option linter.unusedVariables false
set_option maxRecDepth 100000
/-! ## impl.arrays).step -/
def F12_L1 (k : Value → W) (again141 : Addr → Value → W) (out_139 : Addr) (it_140 : Value) : W :=
 NextT Go.Proofs.Try.prog (callMethod it_140 "Next" [].toArray) (.s (.one .bool)) fun b142 =>
 BIf b142 (
  NextT Go.Proofs.Try.prog (callMethod it_140 "Value" [].toArray) (.tup [(.one (.int .u64)), (.one (.int .u64))]) fun x143 x144 =>
  LoadT .slice (out_139.add 2) fun s145p s145l s145c =>
  RawT Go.Proofs.Try.prog (Instr.buildSlice 22 2 [(0, .int .u64 x143), (1, .int .u64 x144)].toArray) (.s (.one .slice)) fun s146p s146l s146c =>
  NextT Go.Proofs.Try.prog (builtin .append #[22, 22] 22 [false, false].toArray [.slice s145p s145l s145c, .slice s146p s146l s146c].toArray) (.s (.one .slice)) fun s147p s147l s147c =>
  Store1 (out_139.add 2) (.slice s147p s147l s147c) <|
  again141 out_139 it_140) (
  LoadT .bool (out_139.add 0) fun b148 =>
  LoadT (.int .u64) (out_139.add 1) fun x149 =>
  LoadT .slice (out_139.add 2) fun s150p s150l s150c =>
  LoadT .bool (out_139.add 3) fun b151 =>
  Store1 (out_139.add 0) (.bool b148) <|
  Store1 (out_139.add 1) (.int .u64 x149) <|
  Store1 (out_139.add 2) (.slice s150p s150l s150c) <|
  Store1 (out_139.add 3) (.bool b151) <|
  LoadT .bool (out_139.add 0) fun b152 =>
  LoadT (.int .u64) (out_139.add 1) fun x153 =>
  LoadT .slice (out_139.add 2) fun s154p s154l s154c =>
  LoadT .bool (out_139.add 3) fun b155 =>
  k (.agg #[.bool b152, .int .u64 x153, .slice s154p s154l s154c, .bool b155]))
theorem F12_L1_rule {k : Value → W} (I : Addr → Value → W) (μ : Addr → Value → World → Nat)
  (hr : ∀ (out_139 : Addr) (it_140 : Value) (w : World), I out_139 it_140 w → F12_L1 k (fun out_139' it_140' w' => I out_139' it_140' w' ∧ μ out_139' it_140' w' < μ out_139 it_140 w) out_139 it_140 w)
  {w : World} {out_139 : Addr} {it_140 : Value} (h : I out_139 it_140 w) : Loop [.addr, .any] (F12_L1 k) out_139 it_140 w :=
  Loop_intro (ts := [.addr, .any]) (s := (out_139, it_140, ())) (fun s w => I s.1 s.2.1 w) (fun s w => μ s.1 s.2.1 w) h (fun s w h => hr s.1 s.2.1 w h)
def F12 (k : Value → W) (a_1 : Option Addr) (d32 : Addr) (d43 : Addr) : W :=
 LoadT (.int .i64) d32 fun x4 =>
 BIf (x4 == 1) (
  LoadT (.int .u64) (d32.add 3) fun x5 =>
  LoadT .bool (d32.add 5) fun b6 =>
  RawT Go.Proofs.Try.prog (Instr.buildSlice 70 1 [(0, .bool b6)].toArray) (.s (.one .slice)) fun s7p s7l s7c =>
  CallT Go.Proofs.Try.prog 15 [.int .u64 x5, .slice s7p s7l s7c] (.s (.one .any)) fun v8 =>
  CallT Go.Proofs.Try.prog 14 [.pointer a_1, v8] (.tup []) <|
  LoadT .bool (d43.add 0) fun b9 =>
  LoadT (.int .u64) (d43.add 1) fun x10 =>
  LoadT .slice (d43.add 2) fun s11p s11l s11c =>
  LoadT .bool (d43.add 3) fun b12 =>
  Store1 (d43.add 0) (.bool b9) <|
  Store1 (d43.add 1) (.int .u64 x10) <|
  Store1 (d43.add 2) (.slice s11p s11l s11c) <|
  Store1 (d43.add 3) (.bool b12) <|
  LoadT .bool (d43.add 0) fun b13 =>
  LoadT (.int .u64) (d43.add 1) fun x14 =>
  LoadT .slice (d43.add 2) fun s15p s15l s15c =>
  LoadT .bool (d43.add 3) fun b16 =>
  k (.agg #[.bool b13, .int .u64 x14, .slice s15p s15l s15c, .bool b16])) (
  BIf (x4 == 2) (
   CallT Go.Proofs.Try.prog 16 [] (.s (.one .any)) fun v17 =>
   CallT Go.Proofs.Try.prog 14 [.pointer a_1, v17] (.tup []) <|
   LoadT .bool (d43.add 0) fun b18 =>
   LoadT (.int .u64) (d43.add 1) fun x19 =>
   LoadT .slice (d43.add 2) fun s20p s20l s20c =>
   LoadT .bool (d43.add 3) fun b21 =>
   Store1 (d43.add 0) (.bool b18) <|
   Store1 (d43.add 1) (.int .u64 x19) <|
   Store1 (d43.add 2) (.slice s20p s20l s20c) <|
   Store1 (d43.add 3) (.bool b21) <|
   LoadT .bool (d43.add 0) fun b22 =>
   LoadT (.int .u64) (d43.add 1) fun x23 =>
   LoadT .slice (d43.add 2) fun s24p s24l s24c =>
   LoadT .bool (d43.add 3) fun b25 =>
   k (.agg #[.bool b22, .int .u64 x23, .slice s24p s24l s24c, .bool b25])) (
   LoadT (.int .i64) (d32.add 1) fun x26 =>
   CallT Go.Proofs.Try.prog 17 [.pointer a_1, .int .i64 x26] (.s (.one .any)) fun v27 =>
   IfaceNil v27 fun b28 =>
   BIf b28 (
    LoadT .bool (d43.add 0) fun b29 =>
    LoadT (.int .u64) (d43.add 1) fun x30 =>
    LoadT .slice (d43.add 2) fun s31p s31l s31c =>
    LoadT .bool (d43.add 3) fun b32 =>
    Store1 (d43.add 0) (.bool b29) <|
    Store1 (d43.add 1) (.int .u64 x30) <|
    Store1 (d43.add 2) (.slice s31p s31l s31c) <|
    Store1 (d43.add 3) (.bool b32) <|
    LoadT .bool (d43.add 0) fun b33 =>
    LoadT (.int .u64) (d43.add 1) fun x34 =>
    LoadT .slice (d43.add 2) fun s35p s35l s35c =>
    LoadT .bool (d43.add 3) fun b36 =>
    k (.agg #[.bool b33, .int .u64 x34, .slice s35p s35l s35c, .bool b36])) (
    LoadT (.int .i64) d32 fun x37 =>
    BIf (x37 == 3) (
     LoadT (.int .u64) (d32.add 3) fun x38 =>
     NextT Go.Proofs.Try.prog (callMethod v27 "SetBit" [.int .u64 x38].toArray) (.s (.one .any)) fun v39 =>
     IfaceNil v39 fun b40 =>
     Store1 d43 (.bool b40) <|
     LoadT .bool (d43.add 0) fun b41 =>
     LoadT (.int .u64) (d43.add 1) fun x42 =>
     LoadT .slice (d43.add 2) fun s43p s43l s43c =>
     LoadT .bool (d43.add 3) fun b44 =>
     Store1 (d43.add 0) (.bool b41) <|
     Store1 (d43.add 1) (.int .u64 x42) <|
     Store1 (d43.add 2) (.slice s43p s43l s43c) <|
     Store1 (d43.add 3) (.bool b44) <|
     LoadT .bool (d43.add 0) fun b45 =>
     LoadT (.int .u64) (d43.add 1) fun x46 =>
     LoadT .slice (d43.add 2) fun s47p s47l s47c =>
     LoadT .bool (d43.add 3) fun b48 =>
     k (.agg #[.bool b45, .int .u64 x46, .slice s47p s47l s47c, .bool b48])) (
     BIf (x37 == 4) (
      LoadT (.int .u64) (d32.add 3) fun x49 =>
      NextT Go.Proofs.Try.prog (callMethod v27 "ClearBit" [.int .u64 x49].toArray) (.s (.one .any)) fun v50 =>
      IfaceNil v50 fun b51 =>
      Store1 d43 (.bool b51) <|
      LoadT .bool (d43.add 0) fun b52 =>
      LoadT (.int .u64) (d43.add 1) fun x53 =>
      LoadT .slice (d43.add 2) fun s54p s54l s54c =>
      LoadT .bool (d43.add 3) fun b55 =>
      Store1 (d43.add 0) (.bool b52) <|
      Store1 (d43.add 1) (.int .u64 x53) <|
      Store1 (d43.add 2) (.slice s54p s54l s54c) <|
      Store1 (d43.add 3) (.bool b55) <|
      LoadT .bool (d43.add 0) fun b56 =>
      LoadT (.int .u64) (d43.add 1) fun x57 =>
      LoadT .slice (d43.add 2) fun s58p s58l s58c =>
      LoadT .bool (d43.add 3) fun b59 =>
      k (.agg #[.bool b56, .int .u64 x57, .slice s58p s58l s58c, .bool b59])) (
      BIf (x37 == 5) (
       LoadT (.int .u64) (d32.add 3) fun x60 =>
       NextT Go.Proofs.Try.prog (callMethod v27 "GetBit" [.int .u64 x60].toArray) (.tup [(.one .bool), (.one .any)]) fun b61 v62 =>
       IfaceNil v62 fun b63 =>
       Store1 d43 (.bool b63) <|
       BIf b61 (
        Store1 (d43.add 1) (.int .u64 1) <|
        LoadT .bool (d43.add 0) fun b64 =>
        LoadT (.int .u64) (d43.add 1) fun x65 =>
        LoadT .slice (d43.add 2) fun s66p s66l s66c =>
        LoadT .bool (d43.add 3) fun b67 =>
        Store1 (d43.add 0) (.bool b64) <|
        Store1 (d43.add 1) (.int .u64 x65) <|
        Store1 (d43.add 2) (.slice s66p s66l s66c) <|
        Store1 (d43.add 3) (.bool b67) <|
        LoadT .bool (d43.add 0) fun b68 =>
        LoadT (.int .u64) (d43.add 1) fun x69 =>
        LoadT .slice (d43.add 2) fun s70p s70l s70c =>
        LoadT .bool (d43.add 3) fun b71 =>
        k (.agg #[.bool b68, .int .u64 x69, .slice s70p s70l s70c, .bool b71])) (
        LoadT .bool (d43.add 0) fun b72 =>
        LoadT (.int .u64) (d43.add 1) fun x73 =>
        LoadT .slice (d43.add 2) fun s74p s74l s74c =>
        LoadT .bool (d43.add 3) fun b75 =>
        Store1 (d43.add 0) (.bool b72) <|
        Store1 (d43.add 1) (.int .u64 x73) <|
        Store1 (d43.add 2) (.slice s74p s74l s74c) <|
        Store1 (d43.add 3) (.bool b75) <|
        LoadT .bool (d43.add 0) fun b76 =>
        LoadT (.int .u64) (d43.add 1) fun x77 =>
        LoadT .slice (d43.add 2) fun s78p s78l s78c =>
        LoadT .bool (d43.add 3) fun b79 =>
        k (.agg #[.bool b76, .int .u64 x77, .slice s78p s78l s78c, .bool b79]))) (
       BIf (x37 == 6) (
        NextT Go.Proofs.Try.prog (callMethod v27 "Reset" [].toArray) (.tup []) <|
        LoadT .bool (d43.add 0) fun b80 =>
        LoadT (.int .u64) (d43.add 1) fun x81 =>
        LoadT .slice (d43.add 2) fun s82p s82l s82c =>
        LoadT .bool (d43.add 3) fun b83 =>
        Store1 (d43.add 0) (.bool b80) <|
        Store1 (d43.add 1) (.int .u64 x81) <|
        Store1 (d43.add 2) (.slice s82p s82l s82c) <|
        Store1 (d43.add 3) (.bool b83) <|
        LoadT .bool (d43.add 0) fun b84 =>
        LoadT (.int .u64) (d43.add 1) fun x85 =>
        LoadT .slice (d43.add 2) fun s86p s86l s86c =>
        LoadT .bool (d43.add 3) fun b87 =>
        k (.agg #[.bool b84, .int .u64 x85, .slice s86p s86l s86c, .bool b87])) (
        BIf (x37 == 9) (
         NextT Go.Proofs.Try.prog (callMethod v27 "Capacity" [].toArray) (.s (.one (.int .u64))) fun x88 =>
         Store1 (d43.add 1) (.int .u64 x88) <|
         LoadT .bool (d43.add 0) fun b89 =>
         LoadT (.int .u64) (d43.add 1) fun x90 =>
         LoadT .slice (d43.add 2) fun s91p s91l s91c =>
         LoadT .bool (d43.add 3) fun b92 =>
         Store1 (d43.add 0) (.bool b89) <|
         Store1 (d43.add 1) (.int .u64 x90) <|
         Store1 (d43.add 2) (.slice s91p s91l s91c) <|
         Store1 (d43.add 3) (.bool b92) <|
         LoadT .bool (d43.add 0) fun b93 =>
         LoadT (.int .u64) (d43.add 1) fun x94 =>
         LoadT .slice (d43.add 2) fun s95p s95l s95c =>
         LoadT .bool (d43.add 3) fun b96 =>
         k (.agg #[.bool b93, .int .u64 x94, .slice s95p s95l s95c, .bool b96])) (
         BIf (x37 == 10) (
          NextT Go.Proofs.Try.prog (callMethod v27 "Count" [].toArray) (.s (.one (.int .i64))) fun x97 =>
          Store1 (d43.add 1) (.int .u64 (IntKind.wrap .u64 x97)) <|
          LoadT .bool (d43.add 0) fun b98 =>
          LoadT (.int .u64) (d43.add 1) fun x99 =>
          LoadT .slice (d43.add 2) fun s100p s100l s100c =>
          LoadT .bool (d43.add 3) fun b101 =>
          Store1 (d43.add 0) (.bool b98) <|
          Store1 (d43.add 1) (.int .u64 x99) <|
          Store1 (d43.add 2) (.slice s100p s100l s100c) <|
          Store1 (d43.add 3) (.bool b101) <|
          LoadT .bool (d43.add 0) fun b102 =>
          LoadT (.int .u64) (d43.add 1) fun x103 =>
          LoadT .slice (d43.add 2) fun s104p s104l s104c =>
          LoadT .bool (d43.add 3) fun b105 =>
          k (.agg #[.bool b102, .int .u64 x103, .slice s104p s104l s104c, .bool b105])) (
          BIf (x37 == 14) (
           NextT Go.Proofs.Try.prog (callMethod v27 "ToNums" [].toArray) (.s (.one .slice)) fun s106p s106l s106c =>
           Store1 (d43.add 2) (.slice s106p s106l s106c) <|
           LoadT .bool (d43.add 0) fun b107 =>
           LoadT (.int .u64) (d43.add 1) fun x108 =>
           LoadT .slice (d43.add 2) fun s109p s109l s109c =>
           LoadT .bool (d43.add 3) fun b110 =>
           Store1 (d43.add 0) (.bool b107) <|
           Store1 (d43.add 1) (.int .u64 x108) <|
           Store1 (d43.add 2) (.slice s109p s109l s109c) <|
           Store1 (d43.add 3) (.bool b110) <|
           LoadT .bool (d43.add 0) fun b111 =>
           LoadT (.int .u64) (d43.add 1) fun x112 =>
           LoadT .slice (d43.add 2) fun s113p s113l s113c =>
           LoadT .bool (d43.add 3) fun b114 =>
           k (.agg #[.bool b111, .int .u64 x112, .slice s113p s113l s113c, .bool b114])) (
           BIf (x37 == 15) (
            NextT Go.Proofs.Try.prog (callMethod v27 "IsEmpty" [].toArray) (.s (.one .bool)) fun b115 =>
            Store1 d43 (.bool b115) <|
            LoadT .bool (d43.add 0) fun b116 =>
            LoadT (.int .u64) (d43.add 1) fun x117 =>
            LoadT .slice (d43.add 2) fun s118p s118l s118c =>
            LoadT .bool (d43.add 3) fun b119 =>
            Store1 (d43.add 0) (.bool b116) <|
            Store1 (d43.add 1) (.int .u64 x117) <|
            Store1 (d43.add 2) (.slice s118p s118l s118c) <|
            Store1 (d43.add 3) (.bool b119) <|
            LoadT .bool (d43.add 0) fun b120 =>
            LoadT (.int .u64) (d43.add 1) fun x121 =>
            LoadT .slice (d43.add 2) fun s122p s122l s122c =>
            LoadT .bool (d43.add 3) fun b123 =>
            k (.agg #[.bool b120, .int .u64 x121, .slice s122p s122l s122c, .bool b123])) (
            BIf (x37 == 16) (
             Drw <|
             LoadT (.int .u64) (d32.add 3) fun x124 =>
             LoadT (.int .i64) (d32.add 4) fun x125 =>
             MethOk Go.Proofs.Try.prog (.func (.method "GetSetBits") #[v27] #[]) <|
             NextT Go.Proofs.Try.prog (builtin .max #[3, 3] 3 [true, false].toArray [.int .i64 0, .int .i64 x125].toArray) (.s (.one (.int .i64))) fun x126 =>
             Chk1 (d32.add 3) (.int .u64 x124) <|
             RawT Go.Proofs.Try.prog (Instr.makeSlice 22 (.int .i64 x126) (.int .i64 x126)) (.s (.one .slice)) fun s127p s127l s127c =>
             Chk1 (d32.add 4) (.int .i64 x125) <|
             Chk1 (d32.add 3) (.int .u64 x124) <|
             NextT Go.Proofs.Try.prog (callMethod v27 "GetSetBits" [.int .u64 x124, .slice s127p s127l s127c].toArray) (.s (.one .slice)) fun s128p s128l s128c =>
             Chk1 (d32.add 4) (.int .i64 x125) <|
             NextT Go.Proofs.Try.prog (builtin .append #[22, 22] 22 [true, false].toArray [.slice none 0 0, .slice s128p s128l s128c].toArray) (.s (.one .slice)) fun s129p s129l s129c =>
             Chk1 (d32.add 4) (.int .i64 x125) <|
             Chk1 (d32.add 3) (.int .u64 x124) <|
             Store1 (d43.add 2) (.slice s129p s129l s129c) <|
             LoadT .bool (d43.add 0) fun b130 =>
             LoadT (.int .u64) (d43.add 1) fun x131 =>
             LoadT .slice (d43.add 2) fun s132p s132l s132c =>
             LoadT .bool (d43.add 3) fun b133 =>
             Store1 (d43.add 0) (.bool b130) <|
             Store1 (d43.add 1) (.int .u64 x131) <|
             Store1 (d43.add 2) (.slice s132p s132l s132c) <|
             Store1 (d43.add 3) (.bool b133) <|
             LoadT .bool (d43.add 0) fun b134 =>
             LoadT (.int .u64) (d43.add 1) fun x135 =>
             LoadT .slice (d43.add 2) fun s136p s136l s136c =>
             LoadT .bool (d43.add 3) fun b137 =>
             k (.agg #[.bool b134, .int .u64 x135, .slice s136p s136l s136c, .bool b137])) (
             BIf (x37 == 17) (
              NextT Go.Proofs.Try.prog (callMethod v27 "Blocks" [].toArray) (.s (.one .any)) fun v138 =>
              Loop [.addr, .any] (F12_L1 k) d43 v138) (
              LoadT (.int .i64) (d32.add 0) fun x156 =>
              LoadT (.int .i64) (d32.add 1) fun x157 =>
              LoadT (.int .i64) (d32.add 2) fun x158 =>
              LoadT (.int .u64) (d32.add 3) fun x159 =>
              LoadT (.int .i64) (d32.add 4) fun x160 =>
              LoadT .bool (d32.add 5) fun b161 =>
              CallT Go.Proofs.Try.prog 18 [.pointer a_1, .agg #[.int .i64 x156, .int .i64 x157, .int .i64 x158, .int .u64 x159, .int .i64 x160, .bool b161], v27, .pointer (some d43)] (.tup []) <|
              LoadT .bool (d43.add 0) fun b162 =>
              LoadT (.int .u64) (d43.add 1) fun x163 =>
              LoadT .slice (d43.add 2) fun s164p s164l s164c =>
              LoadT .bool (d43.add 3) fun b165 =>
              Store1 (d43.add 0) (.bool b162) <|
              Store1 (d43.add 1) (.int .u64 x163) <|
              Store1 (d43.add 2) (.slice s164p s164l s164c) <|
              Store1 (d43.add 3) (.bool b165) <|
              LoadT .bool (d43.add 0) fun b166 =>
              LoadT (.int .u64) (d43.add 1) fun x167 =>
              LoadT .slice (d43.add 2) fun s168p s168l s168c =>
              LoadT .bool (d43.add 3) fun b169 =>
              k (.agg #[.bool b166, .int .u64 x167, .slice s168p s168l s168c, .bool b169]))))))))))))))
noncomputable def rest12 : Code := match Go.Proofs.Try.f12.body with | some (.seq _ (.seq _ r)) => r | _ => .skip
def K12 (k : Value → W) : Ks :=
  { nrm := fun _ => bot, ret := fun e => resW Go.Proofs.Try.prog Go.Proofs.Try.f12.results.toList e fun vs => k (one? vs), ext := fun _ _ => bot }
theorem F12_eq (k : Value → W) (a_1 : Option Addr) (d32 : Addr) (d43 : Addr) : comp Go.Proofs.Try.prog 133 [(37, [(4, .addr), (8, .any)])] rest12 (K12 k) (mkEnv [(0, .val (.pointer a_1)), (3, .val (.pointer (some d32))), (4, .val (.pointer (some d43)))]) = F12 k a_1 d32 d43 := by kernel_rfl

end Go.Proofs.Ytooejhmelodiaaa.E
