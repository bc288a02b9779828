/-
  Printed by this session's own program eng.py out of Lean's print of the loaded functions: what each function's body asks, in the engine's words; each is checked against the program by the kernel.
-/
import Derived.Test.YtopdlfecfgimpaaEng
import Derived.Test.YtopdlfecfgimpaaFnsA
namespace Go.Proofs.Ytopdlfecfgimpaa.E
open Go
set_option linter.unusedVariables false
set_option maxRecDepth 100000
/-! ## laws.FnBSDeepSums -/
def F7_J1 (k : Value → W) (a_26 : Addr) (b_27 : Addr) : W :=
 LoadT (.int .u64) (a_26.add 0) fun x28 =>
 LoadT .slice (a_26.add 1) fun s29p s29l s29c =>
 LoadT (.int .u64) (b_27.add 0) fun x30 =>
 LoadT .slice (b_27.add 1) fun s31p s31l s31c =>
 CallT Go.Proofs.Try.prog 29 [.agg #[.int .u64 x28, .slice s29p s29l s29c], .agg #[.int .u64 x30, .slice s31p s31l s31c]] (.s (.one (.int .u64))) fun x32 =>
 Drw <|
 BIf (decide (x32 > 0)) (
  LoadT (.int .u64) (a_26.add 0) fun x33 =>
  LoadT .slice (a_26.add 1) fun s34p s34l s34c =>
  LoadT (.int .u64) (b_27.add 0) fun x35 =>
  LoadT .slice (b_27.add 1) fun s36p s36l s36c =>
  LoadT (.int .u64) (a_26.add 0) fun x37 =>
  LoadT .slice (a_26.add 1) fun s38p s38l s38c =>
  LoadT (.int .u64) (b_27.add 0) fun x39 =>
  LoadT .slice (b_27.add 1) fun s40p s40l s40c =>
  CallT Go.Proofs.Try.prog 30 [.agg #[.int .u64 x33, .slice s34p s34l s34c]] (.s (.one (.int .u64))) fun x41 =>
  Chk1 (b_27.add 0) (.int .u64 x39) <|
  Chk1 (b_27.add 1) (.slice s40p s40l s40c) <|
  Chk1 (a_26.add 0) (.int .u64 x37) <|
  Chk1 (a_26.add 1) (.slice s38p s38l s38c) <|
  Chk1 (b_27.add 0) (.int .u64 x35) <|
  Chk1 (b_27.add 1) (.slice s36p s36l s36c) <|
  CallT Go.Proofs.Try.prog 30 [.agg #[.int .u64 x35, .slice s36p s36l s36c]] (.s (.one (.int .u64))) fun x42 =>
  Chk1 (b_27.add 0) (.int .u64 x39) <|
  Chk1 (b_27.add 1) (.slice s40p s40l s40c) <|
  Chk1 (a_26.add 0) (.int .u64 x37) <|
  Chk1 (a_26.add 1) (.slice s38p s38l s38c) <|
  Chk1 (a_26.add 0) (.int .u64 x33) <|
  Chk1 (a_26.add 1) (.slice s34p s34l s34c) <|
  CallT Go.Proofs.Try.prog 31 [.agg #[.int .u64 x37, .slice s38p s38l s38c], .agg #[.int .u64 x39, .slice s40p s40l s40c]] (.s (.one (.int .u64))) fun x43 =>
  Chk1 (b_27.add 0) (.int .u64 x35) <|
  Chk1 (b_27.add 1) (.slice s36p s36l s36c) <|
  Chk1 (a_26.add 0) (.int .u64 x33) <|
  Chk1 (a_26.add 1) (.slice s34p s34l s34c) <|
  BIf ((addI .u64 x41 x42) == (addI .u64 x32 x43)) (
   LoadT (.int .u64) (a_26.add 0) fun x44 =>
   LoadT .slice (a_26.add 1) fun s45p s45l s45c =>
   LoadT (.int .u64) (b_27.add 0) fun x46 =>
   LoadT .slice (b_27.add 1) fun s47p s47l s47c =>
   LoadT (.int .u64) (a_26.add 0) fun x48 =>
   LoadT .slice (a_26.add 1) fun s49p s49l s49c =>
   LoadT (.int .u64) (b_27.add 0) fun x50 =>
   LoadT .slice (b_27.add 1) fun s51p s51l s51c =>
   LoadT (.int .u64) (b_27.add 0) fun x52 =>
   LoadT .slice (b_27.add 1) fun s53p s53l s53c =>
   LoadT (.int .u64) (a_26.add 0) fun x54 =>
   LoadT .slice (a_26.add 1) fun s55p s55l s55c =>
   CallT Go.Proofs.Try.prog 32 [.agg #[.int .u64 x44, .slice s45p s45l s45c], .agg #[.int .u64 x46, .slice s47p s47l s47c]] (.s (.one (.int .u64))) fun x56 =>
   Chk1 (a_26.add 0) (.int .u64 x54) <|
   Chk1 (a_26.add 1) (.slice s55p s55l s55c) <|
   Chk1 (b_27.add 0) (.int .u64 x52) <|
   Chk1 (b_27.add 1) (.slice s53p s53l s53c) <|
   Chk1 (b_27.add 0) (.int .u64 x50) <|
   Chk1 (b_27.add 1) (.slice s51p s51l s51c) <|
   Chk1 (a_26.add 0) (.int .u64 x48) <|
   Chk1 (a_26.add 1) (.slice s49p s49l s49c) <|
   Chk1 (b_27.add 0) (.int .u64 x39) <|
   Chk1 (b_27.add 1) (.slice s40p s40l s40c) <|
   Chk1 (a_26.add 0) (.int .u64 x37) <|
   Chk1 (a_26.add 1) (.slice s38p s38l s38c) <|
   Chk1 (b_27.add 0) (.int .u64 x35) <|
   Chk1 (b_27.add 1) (.slice s36p s36l s36c) <|
   Chk1 (a_26.add 0) (.int .u64 x33) <|
   Chk1 (a_26.add 1) (.slice s34p s34l s34c) <|
   CallT Go.Proofs.Try.prog 28 [.agg #[.int .u64 x48, .slice s49p s49l s49c], .agg #[.int .u64 x50, .slice s51p s51l s51c]] (.s (.one (.int .u64))) fun x57 =>
   Chk1 (a_26.add 0) (.int .u64 x54) <|
   Chk1 (a_26.add 1) (.slice s55p s55l s55c) <|
   Chk1 (b_27.add 0) (.int .u64 x52) <|
   Chk1 (b_27.add 1) (.slice s53p s53l s53c) <|
   Chk1 (b_27.add 0) (.int .u64 x46) <|
   Chk1 (b_27.add 1) (.slice s47p s47l s47c) <|
   Chk1 (a_26.add 0) (.int .u64 x44) <|
   Chk1 (a_26.add 1) (.slice s45p s45l s45c) <|
   Chk1 (b_27.add 0) (.int .u64 x39) <|
   Chk1 (b_27.add 1) (.slice s40p s40l s40c) <|
   Chk1 (a_26.add 0) (.int .u64 x37) <|
   Chk1 (a_26.add 1) (.slice s38p s38l s38c) <|
   Chk1 (b_27.add 0) (.int .u64 x35) <|
   Chk1 (b_27.add 1) (.slice s36p s36l s36c) <|
   Chk1 (a_26.add 0) (.int .u64 x33) <|
   Chk1 (a_26.add 1) (.slice s34p s34l s34c) <|
   CallT Go.Proofs.Try.prog 28 [.agg #[.int .u64 x52, .slice s53p s53l s53c], .agg #[.int .u64 x54, .slice s55p s55l s55c]] (.s (.one (.int .u64))) fun x58 =>
   Chk1 (b_27.add 0) (.int .u64 x50) <|
   Chk1 (b_27.add 1) (.slice s51p s51l s51c) <|
   Chk1 (a_26.add 0) (.int .u64 x48) <|
   Chk1 (a_26.add 1) (.slice s49p s49l s49c) <|
   Chk1 (b_27.add 0) (.int .u64 x46) <|
   Chk1 (b_27.add 1) (.slice s47p s47l s47c) <|
   Chk1 (a_26.add 0) (.int .u64 x44) <|
   Chk1 (a_26.add 1) (.slice s45p s45l s45c) <|
   Chk1 (b_27.add 0) (.int .u64 x39) <|
   Chk1 (b_27.add 1) (.slice s40p s40l s40c) <|
   Chk1 (a_26.add 0) (.int .u64 x37) <|
   Chk1 (a_26.add 1) (.slice s38p s38l s38c) <|
   Chk1 (b_27.add 0) (.int .u64 x35) <|
   Chk1 (b_27.add 1) (.slice s36p s36l s36c) <|
   Chk1 (a_26.add 0) (.int .u64 x33) <|
   Chk1 (a_26.add 1) (.slice s34p s34l s34c) <|
   Bind (x56 == (addI .u64 x57 x58)) fun y59 =>
   k (.bool y59)) (
   k (.bool false))) (
  k (.bool false))
def F7 (k : Value → W) (x1 : Int) (s2p : Option Addr) (s2l : Nat) (s2c : Nat) (x3 : Int) (s4p : Option Addr) (s4l : Nat) (s4c : Nat) (at_5 : Int) : W :=
 New [.int .u64 x1, .slice s2p s2l s2c] 25 fun n6 =>
 New [.int .u64 x3, .slice s4p s4l s4c] 25 fun n7 =>
 LoadT (.int .u64) ⟨n6, 0, none⟩ fun x8 =>
 LoadT .slice ⟨n6, 1, none⟩ fun s9p s9l s9c =>
 CallT Go.Proofs.Try.prog 12 [.agg #[.int .u64 x8, .slice s9p s9l s9c]] (.s (.one .bool)) fun b10 =>
 BIf (!b10) (
  k (.bool true)) (
  LoadT (.int .u64) ⟨n7, 0, none⟩ fun x11 =>
  LoadT .slice ⟨n7, 1, none⟩ fun s12p s12l s12c =>
  CallT Go.Proofs.Try.prog 12 [.agg #[.int .u64 x11, .slice s12p s12l s12c]] (.s (.one .bool)) fun b13 =>
  BIf (!b13) (
   k (.bool true)) (
   Drw <|
   LoadT (.int .u64) ⟨n6, 0, none⟩ fun x14 =>
   LoadT .slice ⟨n6, 1, none⟩ fun s15p s15l s15c =>
   Req (400 ≠ (0 : Int)) <|
   LoadT (.int .u64) ⟨n7, 0, none⟩ fun x16 =>
   LoadT .slice ⟨n7, 1, none⟩ fun s17p s17l s17c =>
   Both (
    CallT Go.Proofs.Try.prog 13 [.agg #[.int .u64 x14, .slice s15p s15l s15c]] (.s (.agg [(.int .u64), .slice])) fun x18 s19p s19l s19c =>
    Chk1 ⟨n7, 0, none⟩ (.int .u64 x16) <|
    Chk1 ⟨n7, 1, none⟩ (.slice s17p s17l s17c) <|
    Both (
     CallT Go.Proofs.Try.prog 17 [.agg #[.int .u64 x18, .slice s19p s19l s19c], .int .u64 (remI (IntKind.wrap .u64 at_5) 400)] (.s (.agg [(.int .u64), .slice])) fun x20 s21p s21l s21c =>
     Chk1 ⟨n7, 0, none⟩ (.int .u64 x16) <|
     Chk1 ⟨n7, 1, none⟩ (.slice s17p s17l s17c) <|
     Chk1 ⟨n6, 0, none⟩ (.int .u64 x14) <|
     Chk1 ⟨n6, 1, none⟩ (.slice s15p s15l s15c) <|
     Both (
      CallT Go.Proofs.Try.prog 13 [.agg #[.int .u64 x16, .slice s17p s17l s17c]] (.s (.agg [(.int .u64), .slice])) fun x22 s23p s23l s23c =>
      Chk1 ⟨n6, 0, none⟩ (.int .u64 x14) <|
      Chk1 ⟨n6, 1, none⟩ (.slice s15p s15l s15c) <|
      Both (
       New [.int .u64 0, .slice none 0 0] 25 fun n24 =>
       Chk1 ⟨n7, 0, none⟩ (.int .u64 x16) <|
       Chk1 ⟨n7, 1, none⟩ (.slice s17p s17l s17c) <|
       Chk1 ⟨n6, 0, none⟩ (.int .u64 x14) <|
       Chk1 ⟨n6, 1, none⟩ (.slice s15p s15l s15c) <|
       New [.int .u64 0, .slice none 0 0] 25 fun n25 =>
       Chk1 ⟨n7, 0, none⟩ (.int .u64 x16) <|
       Chk1 ⟨n7, 1, none⟩ (.slice s17p s17l s17c) <|
       Chk1 ⟨n6, 0, none⟩ (.int .u64 x14) <|
       Chk1 ⟨n6, 1, none⟩ (.slice s15p s15l s15c) <|
       Store1 ⟨n24, 0, none⟩ (.int .u64 x20) <|
       Store1 ⟨n24, 1, none⟩ (.slice s21p s21l s21c) <|
       Chk1 ⟨n7, 0, none⟩ (.int .u64 x16) <|
       Chk1 ⟨n7, 1, none⟩ (.slice s17p s17l s17c) <|
       Store1 ⟨n25, 0, none⟩ (.int .u64 x22) <|
       Store1 ⟨n25, 1, none⟩ (.slice s23p s23l s23c) <|
       F7_J1 k ⟨n24, 0, none⟩ ⟨n25, 0, none⟩) (
       New [.int .u64 0, .slice none 0 0] 25 fun n60 =>
       Chk1 ⟨n7, 0, none⟩ (.int .u64 x16) <|
       Chk1 ⟨n7, 1, none⟩ (.slice s17p s17l s17c) <|
       Chk1 ⟨n6, 0, none⟩ (.int .u64 x14) <|
       Chk1 ⟨n6, 1, none⟩ (.slice s15p s15l s15c) <|
       New [.int .u64 0, .slice none 0 0] 25 fun n61 =>
       Chk1 ⟨n7, 0, none⟩ (.int .u64 x16) <|
       Chk1 ⟨n7, 1, none⟩ (.slice s17p s17l s17c) <|
       Chk1 ⟨n6, 0, none⟩ (.int .u64 x14) <|
       Chk1 ⟨n6, 1, none⟩ (.slice s15p s15l s15c) <|
       Store1 ⟨n61, 0, none⟩ (.int .u64 x20) <|
       Store1 ⟨n61, 1, none⟩ (.slice s21p s21l s21c) <|
       Chk1 ⟨n7, 0, none⟩ (.int .u64 x16) <|
       Chk1 ⟨n7, 1, none⟩ (.slice s17p s17l s17c) <|
       Store1 ⟨n60, 0, none⟩ (.int .u64 x22) <|
       Store1 ⟨n60, 1, none⟩ (.slice s23p s23l s23c) <|
       F7_J1 k ⟨n61, 0, none⟩ ⟨n60, 0, none⟩)) (
      Both (
       New [.int .u64 0, .slice none 0 0] 25 fun n62 =>
       Chk1 ⟨n7, 0, none⟩ (.int .u64 x16) <|
       Chk1 ⟨n7, 1, none⟩ (.slice s17p s17l s17c) <|
       Chk1 ⟨n6, 0, none⟩ (.int .u64 x14) <|
       Chk1 ⟨n6, 1, none⟩ (.slice s15p s15l s15c) <|
       Both (
        CallT Go.Proofs.Try.prog 13 [.agg #[.int .u64 x16, .slice s17p s17l s17c]] (.s (.agg [(.int .u64), .slice])) fun x63 s64p s64l s64c =>
        Chk1 ⟨n6, 0, none⟩ (.int .u64 x14) <|
        Chk1 ⟨n6, 1, none⟩ (.slice s15p s15l s15c) <|
        New [.int .u64 0, .slice none 0 0] 25 fun n65 =>
        Chk1 ⟨n7, 0, none⟩ (.int .u64 x16) <|
        Chk1 ⟨n7, 1, none⟩ (.slice s17p s17l s17c) <|
        Chk1 ⟨n6, 0, none⟩ (.int .u64 x14) <|
        Chk1 ⟨n6, 1, none⟩ (.slice s15p s15l s15c) <|
        Store1 ⟨n62, 0, none⟩ (.int .u64 x20) <|
        Store1 ⟨n62, 1, none⟩ (.slice s21p s21l s21c) <|
        Chk1 ⟨n7, 0, none⟩ (.int .u64 x16) <|
        Chk1 ⟨n7, 1, none⟩ (.slice s17p s17l s17c) <|
        Store1 ⟨n65, 0, none⟩ (.int .u64 x63) <|
        Store1 ⟨n65, 1, none⟩ (.slice s64p s64l s64c) <|
        F7_J1 k ⟨n62, 0, none⟩ ⟨n65, 0, none⟩) (
        New [.int .u64 0, .slice none 0 0] 25 fun n66 =>
        Chk1 ⟨n7, 0, none⟩ (.int .u64 x16) <|
        Chk1 ⟨n7, 1, none⟩ (.slice s17p s17l s17c) <|
        Chk1 ⟨n6, 0, none⟩ (.int .u64 x14) <|
        Chk1 ⟨n6, 1, none⟩ (.slice s15p s15l s15c) <|
        CallT Go.Proofs.Try.prog 13 [.agg #[.int .u64 x16, .slice s17p s17l s17c]] (.s (.agg [(.int .u64), .slice])) fun x67 s68p s68l s68c =>
        Chk1 ⟨n6, 0, none⟩ (.int .u64 x14) <|
        Chk1 ⟨n6, 1, none⟩ (.slice s15p s15l s15c) <|
        Store1 ⟨n62, 0, none⟩ (.int .u64 x20) <|
        Store1 ⟨n62, 1, none⟩ (.slice s21p s21l s21c) <|
        Chk1 ⟨n7, 0, none⟩ (.int .u64 x16) <|
        Chk1 ⟨n7, 1, none⟩ (.slice s17p s17l s17c) <|
        Store1 ⟨n66, 0, none⟩ (.int .u64 x67) <|
        Store1 ⟨n66, 1, none⟩ (.slice s68p s68l s68c) <|
        F7_J1 k ⟨n62, 0, none⟩ ⟨n66, 0, none⟩)) (
       New [.int .u64 0, .slice none 0 0] 25 fun n69 =>
       Chk1 ⟨n7, 0, none⟩ (.int .u64 x16) <|
       Chk1 ⟨n7, 1, none⟩ (.slice s17p s17l s17c) <|
       Chk1 ⟨n6, 0, none⟩ (.int .u64 x14) <|
       Chk1 ⟨n6, 1, none⟩ (.slice s15p s15l s15c) <|
       Both (
        CallT Go.Proofs.Try.prog 13 [.agg #[.int .u64 x16, .slice s17p s17l s17c]] (.s (.agg [(.int .u64), .slice])) fun x70 s71p s71l s71c =>
        Chk1 ⟨n6, 0, none⟩ (.int .u64 x14) <|
        Chk1 ⟨n6, 1, none⟩ (.slice s15p s15l s15c) <|
        New [.int .u64 0, .slice none 0 0] 25 fun n72 =>
        Chk1 ⟨n7, 0, none⟩ (.int .u64 x16) <|
        Chk1 ⟨n7, 1, none⟩ (.slice s17p s17l s17c) <|
        Chk1 ⟨n6, 0, none⟩ (.int .u64 x14) <|
        Chk1 ⟨n6, 1, none⟩ (.slice s15p s15l s15c) <|
        Store1 ⟨n72, 0, none⟩ (.int .u64 x20) <|
        Store1 ⟨n72, 1, none⟩ (.slice s21p s21l s21c) <|
        Chk1 ⟨n7, 0, none⟩ (.int .u64 x16) <|
        Chk1 ⟨n7, 1, none⟩ (.slice s17p s17l s17c) <|
        Store1 ⟨n69, 0, none⟩ (.int .u64 x70) <|
        Store1 ⟨n69, 1, none⟩ (.slice s71p s71l s71c) <|
        F7_J1 k ⟨n72, 0, none⟩ ⟨n69, 0, none⟩) (
        New [.int .u64 0, .slice none 0 0] 25 fun n73 =>
        Chk1 ⟨n7, 0, none⟩ (.int .u64 x16) <|
        Chk1 ⟨n7, 1, none⟩ (.slice s17p s17l s17c) <|
        Chk1 ⟨n6, 0, none⟩ (.int .u64 x14) <|
        Chk1 ⟨n6, 1, none⟩ (.slice s15p s15l s15c) <|
        CallT Go.Proofs.Try.prog 13 [.agg #[.int .u64 x16, .slice s17p s17l s17c]] (.s (.agg [(.int .u64), .slice])) fun x74 s75p s75l s75c =>
        Chk1 ⟨n6, 0, none⟩ (.int .u64 x14) <|
        Chk1 ⟨n6, 1, none⟩ (.slice s15p s15l s15c) <|
        Store1 ⟨n73, 0, none⟩ (.int .u64 x20) <|
        Store1 ⟨n73, 1, none⟩ (.slice s21p s21l s21c) <|
        Chk1 ⟨n7, 0, none⟩ (.int .u64 x16) <|
        Chk1 ⟨n7, 1, none⟩ (.slice s17p s17l s17c) <|
        Store1 ⟨n69, 0, none⟩ (.int .u64 x74) <|
        Store1 ⟨n69, 1, none⟩ (.slice s75p s75l s75c) <|
        F7_J1 k ⟨n73, 0, none⟩ ⟨n69, 0, none⟩)))) (
     Both (
      New [.int .u64 0, .slice none 0 0] 25 fun n76 =>
      Chk1 ⟨n7, 0, none⟩ (.int .u64 x16) <|
      Chk1 ⟨n7, 1, none⟩ (.slice s17p s17l s17c) <|
      Chk1 ⟨n6, 0, none⟩ (.int .u64 x14) <|
      Chk1 ⟨n6, 1, none⟩ (.slice s15p s15l s15c) <|
      Both (
       CallT Go.Proofs.Try.prog 17 [.agg #[.int .u64 x18, .slice s19p s19l s19c], .int .u64 (remI (IntKind.wrap .u64 at_5) 400)] (.s (.agg [(.int .u64), .slice])) fun x77 s78p s78l s78c =>
       Chk1 ⟨n7, 0, none⟩ (.int .u64 x16) <|
       Chk1 ⟨n7, 1, none⟩ (.slice s17p s17l s17c) <|
       Chk1 ⟨n6, 0, none⟩ (.int .u64 x14) <|
       Chk1 ⟨n6, 1, none⟩ (.slice s15p s15l s15c) <|
       Both (
        CallT Go.Proofs.Try.prog 13 [.agg #[.int .u64 x16, .slice s17p s17l s17c]] (.s (.agg [(.int .u64), .slice])) fun x79 s80p s80l s80c =>
        Chk1 ⟨n6, 0, none⟩ (.int .u64 x14) <|
        Chk1 ⟨n6, 1, none⟩ (.slice s15p s15l s15c) <|
        New [.int .u64 0, .slice none 0 0] 25 fun n81 =>
        Chk1 ⟨n7, 0, none⟩ (.int .u64 x16) <|
        Chk1 ⟨n7, 1, none⟩ (.slice s17p s17l s17c) <|
        Chk1 ⟨n6, 0, none⟩ (.int .u64 x14) <|
        Chk1 ⟨n6, 1, none⟩ (.slice s15p s15l s15c) <|
        Store1 ⟨n76, 0, none⟩ (.int .u64 x77) <|
        Store1 ⟨n76, 1, none⟩ (.slice s78p s78l s78c) <|
        Chk1 ⟨n7, 0, none⟩ (.int .u64 x16) <|
        Chk1 ⟨n7, 1, none⟩ (.slice s17p s17l s17c) <|
        Store1 ⟨n81, 0, none⟩ (.int .u64 x79) <|
        Store1 ⟨n81, 1, none⟩ (.slice s80p s80l s80c) <|
        F7_J1 k ⟨n76, 0, none⟩ ⟨n81, 0, none⟩) (
        New [.int .u64 0, .slice none 0 0] 25 fun n82 =>
        Chk1 ⟨n7, 0, none⟩ (.int .u64 x16) <|
        Chk1 ⟨n7, 1, none⟩ (.slice s17p s17l s17c) <|
        Chk1 ⟨n6, 0, none⟩ (.int .u64 x14) <|
        Chk1 ⟨n6, 1, none⟩ (.slice s15p s15l s15c) <|
        CallT Go.Proofs.Try.prog 13 [.agg #[.int .u64 x16, .slice s17p s17l s17c]] (.s (.agg [(.int .u64), .slice])) fun x83 s84p s84l s84c =>
        Chk1 ⟨n6, 0, none⟩ (.int .u64 x14) <|
        Chk1 ⟨n6, 1, none⟩ (.slice s15p s15l s15c) <|
        Store1 ⟨n76, 0, none⟩ (.int .u64 x77) <|
        Store1 ⟨n76, 1, none⟩ (.slice s78p s78l s78c) <|
        Chk1 ⟨n7, 0, none⟩ (.int .u64 x16) <|
        Chk1 ⟨n7, 1, none⟩ (.slice s17p s17l s17c) <|
        Store1 ⟨n82, 0, none⟩ (.int .u64 x83) <|
        Store1 ⟨n82, 1, none⟩ (.slice s84p s84l s84c) <|
        F7_J1 k ⟨n76, 0, none⟩ ⟨n82, 0, none⟩)) (
       New [.int .u64 0, .slice none 0 0] 25 fun n85 =>
       Chk1 ⟨n7, 0, none⟩ (.int .u64 x16) <|
       Chk1 ⟨n7, 1, none⟩ (.slice s17p s17l s17c) <|
       Chk1 ⟨n6, 0, none⟩ (.int .u64 x14) <|
       Chk1 ⟨n6, 1, none⟩ (.slice s15p s15l s15c) <|
       CallT Go.Proofs.Try.prog 17 [.agg #[.int .u64 x18, .slice s19p s19l s19c], .int .u64 (remI (IntKind.wrap .u64 at_5) 400)] (.s (.agg [(.int .u64), .slice])) fun x86 s87p s87l s87c =>
       Chk1 ⟨n7, 0, none⟩ (.int .u64 x16) <|
       Chk1 ⟨n7, 1, none⟩ (.slice s17p s17l s17c) <|
       Chk1 ⟨n6, 0, none⟩ (.int .u64 x14) <|
       Chk1 ⟨n6, 1, none⟩ (.slice s15p s15l s15c) <|
       CallT Go.Proofs.Try.prog 13 [.agg #[.int .u64 x16, .slice s17p s17l s17c]] (.s (.agg [(.int .u64), .slice])) fun x88 s89p s89l s89c =>
       Chk1 ⟨n6, 0, none⟩ (.int .u64 x14) <|
       Chk1 ⟨n6, 1, none⟩ (.slice s15p s15l s15c) <|
       Store1 ⟨n76, 0, none⟩ (.int .u64 x86) <|
       Store1 ⟨n76, 1, none⟩ (.slice s87p s87l s87c) <|
       Chk1 ⟨n7, 0, none⟩ (.int .u64 x16) <|
       Chk1 ⟨n7, 1, none⟩ (.slice s17p s17l s17c) <|
       Store1 ⟨n85, 0, none⟩ (.int .u64 x88) <|
       Store1 ⟨n85, 1, none⟩ (.slice s89p s89l s89c) <|
       F7_J1 k ⟨n76, 0, none⟩ ⟨n85, 0, none⟩)) (
      New [.int .u64 0, .slice none 0 0] 25 fun n90 =>
      Chk1 ⟨n7, 0, none⟩ (.int .u64 x16) <|
      Chk1 ⟨n7, 1, none⟩ (.slice s17p s17l s17c) <|
      Chk1 ⟨n6, 0, none⟩ (.int .u64 x14) <|
      Chk1 ⟨n6, 1, none⟩ (.slice s15p s15l s15c) <|
      Both (
       CallT Go.Proofs.Try.prog 17 [.agg #[.int .u64 x18, .slice s19p s19l s19c], .int .u64 (remI (IntKind.wrap .u64 at_5) 400)] (.s (.agg [(.int .u64), .slice])) fun x91 s92p s92l s92c =>
       Chk1 ⟨n7, 0, none⟩ (.int .u64 x16) <|
       Chk1 ⟨n7, 1, none⟩ (.slice s17p s17l s17c) <|
       Chk1 ⟨n6, 0, none⟩ (.int .u64 x14) <|
       Chk1 ⟨n6, 1, none⟩ (.slice s15p s15l s15c) <|
       Both (
        CallT Go.Proofs.Try.prog 13 [.agg #[.int .u64 x16, .slice s17p s17l s17c]] (.s (.agg [(.int .u64), .slice])) fun x93 s94p s94l s94c =>
        Chk1 ⟨n6, 0, none⟩ (.int .u64 x14) <|
        Chk1 ⟨n6, 1, none⟩ (.slice s15p s15l s15c) <|
        New [.int .u64 0, .slice none 0 0] 25 fun n95 =>
        Chk1 ⟨n7, 0, none⟩ (.int .u64 x16) <|
        Chk1 ⟨n7, 1, none⟩ (.slice s17p s17l s17c) <|
        Chk1 ⟨n6, 0, none⟩ (.int .u64 x14) <|
        Chk1 ⟨n6, 1, none⟩ (.slice s15p s15l s15c) <|
        Store1 ⟨n95, 0, none⟩ (.int .u64 x91) <|
        Store1 ⟨n95, 1, none⟩ (.slice s92p s92l s92c) <|
        Chk1 ⟨n7, 0, none⟩ (.int .u64 x16) <|
        Chk1 ⟨n7, 1, none⟩ (.slice s17p s17l s17c) <|
        Store1 ⟨n90, 0, none⟩ (.int .u64 x93) <|
        Store1 ⟨n90, 1, none⟩ (.slice s94p s94l s94c) <|
        F7_J1 k ⟨n95, 0, none⟩ ⟨n90, 0, none⟩) (
        New [.int .u64 0, .slice none 0 0] 25 fun n96 =>
        Chk1 ⟨n7, 0, none⟩ (.int .u64 x16) <|
        Chk1 ⟨n7, 1, none⟩ (.slice s17p s17l s17c) <|
        Chk1 ⟨n6, 0, none⟩ (.int .u64 x14) <|
        Chk1 ⟨n6, 1, none⟩ (.slice s15p s15l s15c) <|
        CallT Go.Proofs.Try.prog 13 [.agg #[.int .u64 x16, .slice s17p s17l s17c]] (.s (.agg [(.int .u64), .slice])) fun x97 s98p s98l s98c =>
        Chk1 ⟨n6, 0, none⟩ (.int .u64 x14) <|
        Chk1 ⟨n6, 1, none⟩ (.slice s15p s15l s15c) <|
        Store1 ⟨n96, 0, none⟩ (.int .u64 x91) <|
        Store1 ⟨n96, 1, none⟩ (.slice s92p s92l s92c) <|
        Chk1 ⟨n7, 0, none⟩ (.int .u64 x16) <|
        Chk1 ⟨n7, 1, none⟩ (.slice s17p s17l s17c) <|
        Store1 ⟨n90, 0, none⟩ (.int .u64 x97) <|
        Store1 ⟨n90, 1, none⟩ (.slice s98p s98l s98c) <|
        F7_J1 k ⟨n96, 0, none⟩ ⟨n90, 0, none⟩)) (
       New [.int .u64 0, .slice none 0 0] 25 fun n99 =>
       Chk1 ⟨n7, 0, none⟩ (.int .u64 x16) <|
       Chk1 ⟨n7, 1, none⟩ (.slice s17p s17l s17c) <|
       Chk1 ⟨n6, 0, none⟩ (.int .u64 x14) <|
       Chk1 ⟨n6, 1, none⟩ (.slice s15p s15l s15c) <|
       CallT Go.Proofs.Try.prog 17 [.agg #[.int .u64 x18, .slice s19p s19l s19c], .int .u64 (remI (IntKind.wrap .u64 at_5) 400)] (.s (.agg [(.int .u64), .slice])) fun x100 s101p s101l s101c =>
       Chk1 ⟨n7, 0, none⟩ (.int .u64 x16) <|
       Chk1 ⟨n7, 1, none⟩ (.slice s17p s17l s17c) <|
       Chk1 ⟨n6, 0, none⟩ (.int .u64 x14) <|
       Chk1 ⟨n6, 1, none⟩ (.slice s15p s15l s15c) <|
       CallT Go.Proofs.Try.prog 13 [.agg #[.int .u64 x16, .slice s17p s17l s17c]] (.s (.agg [(.int .u64), .slice])) fun x102 s103p s103l s103c =>
       Chk1 ⟨n6, 0, none⟩ (.int .u64 x14) <|
       Chk1 ⟨n6, 1, none⟩ (.slice s15p s15l s15c) <|
       Store1 ⟨n99, 0, none⟩ (.int .u64 x100) <|
       Store1 ⟨n99, 1, none⟩ (.slice s101p s101l s101c) <|
       Chk1 ⟨n7, 0, none⟩ (.int .u64 x16) <|
       Chk1 ⟨n7, 1, none⟩ (.slice s17p s17l s17c) <|
       Store1 ⟨n90, 0, none⟩ (.int .u64 x102) <|
       Store1 ⟨n90, 1, none⟩ (.slice s103p s103l s103c) <|
       F7_J1 k ⟨n99, 0, none⟩ ⟨n90, 0, none⟩)))) (
    Both (
     New [.int .u64 0, .slice none 0 0] 25 fun n104 =>
     Chk1 ⟨n7, 0, none⟩ (.int .u64 x16) <|
     Chk1 ⟨n7, 1, none⟩ (.slice s17p s17l s17c) <|
     Chk1 ⟨n6, 0, none⟩ (.int .u64 x14) <|
     Chk1 ⟨n6, 1, none⟩ (.slice s15p s15l s15c) <|
     Both (
      CallT Go.Proofs.Try.prog 13 [.agg #[.int .u64 x14, .slice s15p s15l s15c]] (.s (.agg [(.int .u64), .slice])) fun x105 s106p s106l s106c =>
      Chk1 ⟨n7, 0, none⟩ (.int .u64 x16) <|
      Chk1 ⟨n7, 1, none⟩ (.slice s17p s17l s17c) <|
      Both (
       CallT Go.Proofs.Try.prog 17 [.agg #[.int .u64 x105, .slice s106p s106l s106c], .int .u64 (remI (IntKind.wrap .u64 at_5) 400)] (.s (.agg [(.int .u64), .slice])) fun x107 s108p s108l s108c =>
       Chk1 ⟨n7, 0, none⟩ (.int .u64 x16) <|
       Chk1 ⟨n7, 1, none⟩ (.slice s17p s17l s17c) <|
       Chk1 ⟨n6, 0, none⟩ (.int .u64 x14) <|
       Chk1 ⟨n6, 1, none⟩ (.slice s15p s15l s15c) <|
       Both (
        CallT Go.Proofs.Try.prog 13 [.agg #[.int .u64 x16, .slice s17p s17l s17c]] (.s (.agg [(.int .u64), .slice])) fun x109 s110p s110l s110c =>
        Chk1 ⟨n6, 0, none⟩ (.int .u64 x14) <|
        Chk1 ⟨n6, 1, none⟩ (.slice s15p s15l s15c) <|
        New [.int .u64 0, .slice none 0 0] 25 fun n111 =>
        Chk1 ⟨n7, 0, none⟩ (.int .u64 x16) <|
        Chk1 ⟨n7, 1, none⟩ (.slice s17p s17l s17c) <|
        Chk1 ⟨n6, 0, none⟩ (.int .u64 x14) <|
        Chk1 ⟨n6, 1, none⟩ (.slice s15p s15l s15c) <|
        Store1 ⟨n104, 0, none⟩ (.int .u64 x107) <|
        Store1 ⟨n104, 1, none⟩ (.slice s108p s108l s108c) <|
        Chk1 ⟨n7, 0, none⟩ (.int .u64 x16) <|
        Chk1 ⟨n7, 1, none⟩ (.slice s17p s17l s17c) <|
        Store1 ⟨n111, 0, none⟩ (.int .u64 x109) <|
        Store1 ⟨n111, 1, none⟩ (.slice s110p s110l s110c) <|
        F7_J1 k ⟨n104, 0, none⟩ ⟨n111, 0, none⟩) (
        New [.int .u64 0, .slice none 0 0] 25 fun n112 =>
        Chk1 ⟨n7, 0, none⟩ (.int .u64 x16) <|
        Chk1 ⟨n7, 1, none⟩ (.slice s17p s17l s17c) <|
        Chk1 ⟨n6, 0, none⟩ (.int .u64 x14) <|
        Chk1 ⟨n6, 1, none⟩ (.slice s15p s15l s15c) <|
        CallT Go.Proofs.Try.prog 13 [.agg #[.int .u64 x16, .slice s17p s17l s17c]] (.s (.agg [(.int .u64), .slice])) fun x113 s114p s114l s114c =>
        Chk1 ⟨n6, 0, none⟩ (.int .u64 x14) <|
        Chk1 ⟨n6, 1, none⟩ (.slice s15p s15l s15c) <|
        Store1 ⟨n104, 0, none⟩ (.int .u64 x107) <|
        Store1 ⟨n104, 1, none⟩ (.slice s108p s108l s108c) <|
        Chk1 ⟨n7, 0, none⟩ (.int .u64 x16) <|
        Chk1 ⟨n7, 1, none⟩ (.slice s17p s17l s17c) <|
        Store1 ⟨n112, 0, none⟩ (.int .u64 x113) <|
        Store1 ⟨n112, 1, none⟩ (.slice s114p s114l s114c) <|
        F7_J1 k ⟨n104, 0, none⟩ ⟨n112, 0, none⟩)) (
       New [.int .u64 0, .slice none 0 0] 25 fun n115 =>
       Chk1 ⟨n7, 0, none⟩ (.int .u64 x16) <|
       Chk1 ⟨n7, 1, none⟩ (.slice s17p s17l s17c) <|
       Chk1 ⟨n6, 0, none⟩ (.int .u64 x14) <|
       Chk1 ⟨n6, 1, none⟩ (.slice s15p s15l s15c) <|
       CallT Go.Proofs.Try.prog 17 [.agg #[.int .u64 x105, .slice s106p s106l s106c], .int .u64 (remI (IntKind.wrap .u64 at_5) 400)] (.s (.agg [(.int .u64), .slice])) fun x116 s117p s117l s117c =>
       Chk1 ⟨n7, 0, none⟩ (.int .u64 x16) <|
       Chk1 ⟨n7, 1, none⟩ (.slice s17p s17l s17c) <|
       Chk1 ⟨n6, 0, none⟩ (.int .u64 x14) <|
       Chk1 ⟨n6, 1, none⟩ (.slice s15p s15l s15c) <|
       CallT Go.Proofs.Try.prog 13 [.agg #[.int .u64 x16, .slice s17p s17l s17c]] (.s (.agg [(.int .u64), .slice])) fun x118 s119p s119l s119c =>
       Chk1 ⟨n6, 0, none⟩ (.int .u64 x14) <|
       Chk1 ⟨n6, 1, none⟩ (.slice s15p s15l s15c) <|
       Store1 ⟨n104, 0, none⟩ (.int .u64 x116) <|
       Store1 ⟨n104, 1, none⟩ (.slice s117p s117l s117c) <|
       Chk1 ⟨n7, 0, none⟩ (.int .u64 x16) <|
       Chk1 ⟨n7, 1, none⟩ (.slice s17p s17l s17c) <|
       Store1 ⟨n115, 0, none⟩ (.int .u64 x118) <|
       Store1 ⟨n115, 1, none⟩ (.slice s119p s119l s119c) <|
       F7_J1 k ⟨n104, 0, none⟩ ⟨n115, 0, none⟩)) (
      New [.int .u64 0, .slice none 0 0] 25 fun n120 =>
      Chk1 ⟨n7, 0, none⟩ (.int .u64 x16) <|
      Chk1 ⟨n7, 1, none⟩ (.slice s17p s17l s17c) <|
      Chk1 ⟨n6, 0, none⟩ (.int .u64 x14) <|
      Chk1 ⟨n6, 1, none⟩ (.slice s15p s15l s15c) <|
      CallT Go.Proofs.Try.prog 13 [.agg #[.int .u64 x14, .slice s15p s15l s15c]] (.s (.agg [(.int .u64), .slice])) fun x121 s122p s122l s122c =>
      Chk1 ⟨n7, 0, none⟩ (.int .u64 x16) <|
      Chk1 ⟨n7, 1, none⟩ (.slice s17p s17l s17c) <|
      CallT Go.Proofs.Try.prog 17 [.agg #[.int .u64 x121, .slice s122p s122l s122c], .int .u64 (remI (IntKind.wrap .u64 at_5) 400)] (.s (.agg [(.int .u64), .slice])) fun x123 s124p s124l s124c =>
      Chk1 ⟨n7, 0, none⟩ (.int .u64 x16) <|
      Chk1 ⟨n7, 1, none⟩ (.slice s17p s17l s17c) <|
      Chk1 ⟨n6, 0, none⟩ (.int .u64 x14) <|
      Chk1 ⟨n6, 1, none⟩ (.slice s15p s15l s15c) <|
      CallT Go.Proofs.Try.prog 13 [.agg #[.int .u64 x16, .slice s17p s17l s17c]] (.s (.agg [(.int .u64), .slice])) fun x125 s126p s126l s126c =>
      Chk1 ⟨n6, 0, none⟩ (.int .u64 x14) <|
      Chk1 ⟨n6, 1, none⟩ (.slice s15p s15l s15c) <|
      Store1 ⟨n104, 0, none⟩ (.int .u64 x123) <|
      Store1 ⟨n104, 1, none⟩ (.slice s124p s124l s124c) <|
      Chk1 ⟨n7, 0, none⟩ (.int .u64 x16) <|
      Chk1 ⟨n7, 1, none⟩ (.slice s17p s17l s17c) <|
      Store1 ⟨n120, 0, none⟩ (.int .u64 x125) <|
      Store1 ⟨n120, 1, none⟩ (.slice s126p s126l s126c) <|
      F7_J1 k ⟨n104, 0, none⟩ ⟨n120, 0, none⟩)) (
     New [.int .u64 0, .slice none 0 0] 25 fun n127 =>
     Chk1 ⟨n7, 0, none⟩ (.int .u64 x16) <|
     Chk1 ⟨n7, 1, none⟩ (.slice s17p s17l s17c) <|
     Chk1 ⟨n6, 0, none⟩ (.int .u64 x14) <|
     Chk1 ⟨n6, 1, none⟩ (.slice s15p s15l s15c) <|
     Both (
      CallT Go.Proofs.Try.prog 13 [.agg #[.int .u64 x14, .slice s15p s15l s15c]] (.s (.agg [(.int .u64), .slice])) fun x128 s129p s129l s129c =>
      Chk1 ⟨n7, 0, none⟩ (.int .u64 x16) <|
      Chk1 ⟨n7, 1, none⟩ (.slice s17p s17l s17c) <|
      Both (
       CallT Go.Proofs.Try.prog 17 [.agg #[.int .u64 x128, .slice s129p s129l s129c], .int .u64 (remI (IntKind.wrap .u64 at_5) 400)] (.s (.agg [(.int .u64), .slice])) fun x130 s131p s131l s131c =>
       Chk1 ⟨n7, 0, none⟩ (.int .u64 x16) <|
       Chk1 ⟨n7, 1, none⟩ (.slice s17p s17l s17c) <|
       Chk1 ⟨n6, 0, none⟩ (.int .u64 x14) <|
       Chk1 ⟨n6, 1, none⟩ (.slice s15p s15l s15c) <|
       Both (
        CallT Go.Proofs.Try.prog 13 [.agg #[.int .u64 x16, .slice s17p s17l s17c]] (.s (.agg [(.int .u64), .slice])) fun x132 s133p s133l s133c =>
        Chk1 ⟨n6, 0, none⟩ (.int .u64 x14) <|
        Chk1 ⟨n6, 1, none⟩ (.slice s15p s15l s15c) <|
        New [.int .u64 0, .slice none 0 0] 25 fun n134 =>
        Chk1 ⟨n7, 0, none⟩ (.int .u64 x16) <|
        Chk1 ⟨n7, 1, none⟩ (.slice s17p s17l s17c) <|
        Chk1 ⟨n6, 0, none⟩ (.int .u64 x14) <|
        Chk1 ⟨n6, 1, none⟩ (.slice s15p s15l s15c) <|
        Store1 ⟨n134, 0, none⟩ (.int .u64 x130) <|
        Store1 ⟨n134, 1, none⟩ (.slice s131p s131l s131c) <|
        Chk1 ⟨n7, 0, none⟩ (.int .u64 x16) <|
        Chk1 ⟨n7, 1, none⟩ (.slice s17p s17l s17c) <|
        Store1 ⟨n127, 0, none⟩ (.int .u64 x132) <|
        Store1 ⟨n127, 1, none⟩ (.slice s133p s133l s133c) <|
        F7_J1 k ⟨n134, 0, none⟩ ⟨n127, 0, none⟩) (
        New [.int .u64 0, .slice none 0 0] 25 fun n135 =>
        Chk1 ⟨n7, 0, none⟩ (.int .u64 x16) <|
        Chk1 ⟨n7, 1, none⟩ (.slice s17p s17l s17c) <|
        Chk1 ⟨n6, 0, none⟩ (.int .u64 x14) <|
        Chk1 ⟨n6, 1, none⟩ (.slice s15p s15l s15c) <|
        CallT Go.Proofs.Try.prog 13 [.agg #[.int .u64 x16, .slice s17p s17l s17c]] (.s (.agg [(.int .u64), .slice])) fun x136 s137p s137l s137c =>
        Chk1 ⟨n6, 0, none⟩ (.int .u64 x14) <|
        Chk1 ⟨n6, 1, none⟩ (.slice s15p s15l s15c) <|
        Store1 ⟨n135, 0, none⟩ (.int .u64 x130) <|
        Store1 ⟨n135, 1, none⟩ (.slice s131p s131l s131c) <|
        Chk1 ⟨n7, 0, none⟩ (.int .u64 x16) <|
        Chk1 ⟨n7, 1, none⟩ (.slice s17p s17l s17c) <|
        Store1 ⟨n127, 0, none⟩ (.int .u64 x136) <|
        Store1 ⟨n127, 1, none⟩ (.slice s137p s137l s137c) <|
        F7_J1 k ⟨n135, 0, none⟩ ⟨n127, 0, none⟩)) (
       New [.int .u64 0, .slice none 0 0] 25 fun n138 =>
       Chk1 ⟨n7, 0, none⟩ (.int .u64 x16) <|
       Chk1 ⟨n7, 1, none⟩ (.slice s17p s17l s17c) <|
       Chk1 ⟨n6, 0, none⟩ (.int .u64 x14) <|
       Chk1 ⟨n6, 1, none⟩ (.slice s15p s15l s15c) <|
       CallT Go.Proofs.Try.prog 17 [.agg #[.int .u64 x128, .slice s129p s129l s129c], .int .u64 (remI (IntKind.wrap .u64 at_5) 400)] (.s (.agg [(.int .u64), .slice])) fun x139 s140p s140l s140c =>
       Chk1 ⟨n7, 0, none⟩ (.int .u64 x16) <|
       Chk1 ⟨n7, 1, none⟩ (.slice s17p s17l s17c) <|
       Chk1 ⟨n6, 0, none⟩ (.int .u64 x14) <|
       Chk1 ⟨n6, 1, none⟩ (.slice s15p s15l s15c) <|
       CallT Go.Proofs.Try.prog 13 [.agg #[.int .u64 x16, .slice s17p s17l s17c]] (.s (.agg [(.int .u64), .slice])) fun x141 s142p s142l s142c =>
       Chk1 ⟨n6, 0, none⟩ (.int .u64 x14) <|
       Chk1 ⟨n6, 1, none⟩ (.slice s15p s15l s15c) <|
       Store1 ⟨n138, 0, none⟩ (.int .u64 x139) <|
       Store1 ⟨n138, 1, none⟩ (.slice s140p s140l s140c) <|
       Chk1 ⟨n7, 0, none⟩ (.int .u64 x16) <|
       Chk1 ⟨n7, 1, none⟩ (.slice s17p s17l s17c) <|
       Store1 ⟨n127, 0, none⟩ (.int .u64 x141) <|
       Store1 ⟨n127, 1, none⟩ (.slice s142p s142l s142c) <|
       F7_J1 k ⟨n138, 0, none⟩ ⟨n127, 0, none⟩)) (
      New [.int .u64 0, .slice none 0 0] 25 fun n143 =>
      Chk1 ⟨n7, 0, none⟩ (.int .u64 x16) <|
      Chk1 ⟨n7, 1, none⟩ (.slice s17p s17l s17c) <|
      Chk1 ⟨n6, 0, none⟩ (.int .u64 x14) <|
      Chk1 ⟨n6, 1, none⟩ (.slice s15p s15l s15c) <|
      CallT Go.Proofs.Try.prog 13 [.agg #[.int .u64 x14, .slice s15p s15l s15c]] (.s (.agg [(.int .u64), .slice])) fun x144 s145p s145l s145c =>
      Chk1 ⟨n7, 0, none⟩ (.int .u64 x16) <|
      Chk1 ⟨n7, 1, none⟩ (.slice s17p s17l s17c) <|
      CallT Go.Proofs.Try.prog 17 [.agg #[.int .u64 x144, .slice s145p s145l s145c], .int .u64 (remI (IntKind.wrap .u64 at_5) 400)] (.s (.agg [(.int .u64), .slice])) fun x146 s147p s147l s147c =>
      Chk1 ⟨n7, 0, none⟩ (.int .u64 x16) <|
      Chk1 ⟨n7, 1, none⟩ (.slice s17p s17l s17c) <|
      Chk1 ⟨n6, 0, none⟩ (.int .u64 x14) <|
      Chk1 ⟨n6, 1, none⟩ (.slice s15p s15l s15c) <|
      CallT Go.Proofs.Try.prog 13 [.agg #[.int .u64 x16, .slice s17p s17l s17c]] (.s (.agg [(.int .u64), .slice])) fun x148 s149p s149l s149c =>
      Chk1 ⟨n6, 0, none⟩ (.int .u64 x14) <|
      Chk1 ⟨n6, 1, none⟩ (.slice s15p s15l s15c) <|
      Store1 ⟨n143, 0, none⟩ (.int .u64 x146) <|
      Store1 ⟨n143, 1, none⟩ (.slice s147p s147l s147c) <|
      Chk1 ⟨n7, 0, none⟩ (.int .u64 x16) <|
      Chk1 ⟨n7, 1, none⟩ (.slice s17p s17l s17c) <|
      Store1 ⟨n127, 0, none⟩ (.int .u64 x148) <|
      Store1 ⟨n127, 1, none⟩ (.slice s149p s149l s149c) <|
      F7_J1 k ⟨n143, 0, none⟩ ⟨n127, 0, none⟩)))))
theorem F7_eq (k : Value → W) (x1 : Int) (s2p : Option Addr) (s2l : Nat) (s2c : Nat) (x3 : Int) (s4p : Option Addr) (s4l : Nat) (s4c : Nat) (at_5 : Int) : compF Go.Proofs.Try.prog Go.Proofs.Try.f7 [] (Go.Proofs.Try.f7.body.getD .skip) [.agg #[.int .u64 x1, .slice s2p s2l s2c], .agg #[.int .u64 x3, .slice s4p s4l s4c], .int .u16 at_5] k = F7 k x1 s2p s2l s2c x3 s4p s4l s4c at_5 := by kernel_rfl
theorem F7_calls {x1 : Int} {s2p : Option Addr} {s2l : Nat} {s2c : Nat} {x3 : Int} {s4p : Option Addr} {s4l : Nat} {s4c : Nat} {at_5 : Int} {w : World} {R : Ending → World → Prop} (h : F7 (fun v w => R (.returned v) w) x1 s2p s2l s2c x3 s4p s4l s4c at_5 w) : Calls Go.Proofs.Try.prog 7 #[.agg #[.int .u64 x1, .slice s2p s2l s2c], .agg #[.int .u64 x3, .slice s4p s4l s4c], .int .u16 at_5] w R :=
  calls_of_compF noNum follows [] (f := 7) (fn := Go.Proofs.Try.f7) (body := Go.Proofs.Try.f7.body.getD .skip) (args := [.agg #[.int .u64 x1, .slice s2p s2l s2c], .agg #[.int .u64 x3, .slice s4p s4l s4c], .int .u16 at_5]) rfl rfl (Nat.le_of_ble_eq_true rfl) ((congrFun (F7_eq _ x1 s2p s2l s2c x3 s4p s4l s4c at_5) w).mpr h)
theorem F7_call {x1 : Int} {s2p : Option Addr} {s2l : Nat} {s2c : Nat} {x3 : Int} {s4p : Option Addr} {s4l : Nat} {s4c : Nat} {at_5 : Int} {w : World} {g : Fn W (RTy.leaves (.s (.one .bool)))} (h : F7 (fun v => Back (.s (.one .bool)) g (.returned v)) x1 s2p s2l s2c x3 s4p s4l s4c at_5 w) : CallT Go.Proofs.Try.prog 7 [.agg #[.int .u64 x1, .slice s2p s2l s2c], .agg #[.int .u64 x3, .slice s4p s4l s4c], .int .u16 at_5] (.s (.one .bool)) g w := F7_calls h

/-! ## bitset.BitSet).SetRange -/
def F70_L1 (k : Value → W) (again29 : Option Addr → Int → Int → Int → W) (b_25 : Option Addr) (endWord_26 : Int) (lastMask_27 : Int) (i_28 : Int) : W :=
 BIf (decide (i_28 < endWord_26)) (
  NN b_25 fun a30 =>
  LoadT .slice (a30.add 1) fun s31p s31l s31c =>
  NN s31p fun a32 =>
  Req (0 ≤ i_28 ∧ i_28 < (s31l : Int)) <|
  Store1 (a32.add i_28.toNat) (.int .u64 18446744073709551615) <|
  again29 b_25 endWord_26 lastMask_27 (addI .u64 i_28 1)) (
  NN b_25 fun a33 =>
  LoadT .slice (a33.add 1) fun s34p s34l s34c =>
  NN s34p fun a35 =>
  Req (0 ≤ endWord_26 ∧ endWord_26 < (s34l : Int)) <|
  LoadT (.int .u64) (a35.add endWord_26.toNat) fun x36 =>
  NN s34p fun a37 =>
  Req (0 ≤ endWord_26 ∧ endWord_26 < (s34l : Int)) <|
  Store1 (a37.add endWord_26.toNat) (.int .u64 (orI .u64 x36 lastMask_27)) <|
  k (.pointer b_25))
theorem F70_L1_rule {k : Value → W} (I : Option Addr → Int → Int → Int → W) (μ : Option Addr → Int → Int → Int → World → Nat)
  (hr : ∀ (b_25 : Option Addr) (endWord_26 : Int) (lastMask_27 : Int) (i_28 : Int) (w : World), I b_25 endWord_26 lastMask_27 i_28 w → F70_L1 k (fun b_25' endWord_26' lastMask_27' i_28' w' => I b_25' endWord_26' lastMask_27' i_28' w' ∧ μ b_25' endWord_26' lastMask_27' i_28' w' < μ b_25 endWord_26 lastMask_27 i_28 w) b_25 endWord_26 lastMask_27 i_28 w)
  {w : World} {b_25 : Option Addr} {endWord_26 : Int} {lastMask_27 : Int} {i_28 : Int} (h : I b_25 endWord_26 lastMask_27 i_28 w) : Loop [.ptr, (.int .u64), (.int .u64), (.int .u64)] (F70_L1 k) b_25 endWord_26 lastMask_27 i_28 w :=
  Loop_intro (ts := [.ptr, (.int .u64), (.int .u64), (.int .u64)]) (s := (b_25, endWord_26, lastMask_27, i_28, ())) (fun s w => I s.1 s.2.1 s.2.2.1 s.2.2.2.1 w) (fun s w => μ s.1 s.2.1 s.2.2.1 s.2.2.2.1 w) h (fun s w h => hr s.1 s.2.1 s.2.2.1 s.2.2.2.1 w h)
def F70_J1 (k : Value → W) (b_6 : Option Addr) (start_7 : Int) (end_8 : Int) : W :=
 Bind (shrI .u64 (subI .u64 end_8 1) 6 : Int) fun endWord_9 =>
 CallT Go.Proofs.Try.prog 86 [.int .u64 start_7] (.s (.one (.int .u64))) fun x10 =>
 Req (0 ≤ x10) <|
 Bind (shlI .u64 18446744073709551615 x10.toNat : Int) fun firstMask_11 =>
 CallT Go.Proofs.Try.prog 86 [.int .u64 (subI .u64 0 end_8)] (.s (.one (.int .u64))) fun x12 =>
 Req (0 ≤ x12) <|
 Bind (shrI .u64 18446744073709551615 x12.toNat : Int) fun lastMask_13 =>
 BIf ((shrI .u64 start_7 6) == endWord_9) (
  NN b_6 fun a14 =>
  LoadT .slice (a14.add 1) fun s15p s15l s15c =>
  NN s15p fun a16 =>
  Req (0 ≤ shrI .u64 start_7 6 ∧ shrI .u64 start_7 6 < (s15l : Int)) <|
  LoadT (.int .u64) (a16.add ((shrI .u64 start_7 6).toNat)) fun x17 =>
  NN s15p fun a18 =>
  Req (0 ≤ shrI .u64 start_7 6 ∧ shrI .u64 start_7 6 < (s15l : Int)) <|
  Store1 (a18.add ((shrI .u64 start_7 6).toNat)) (.int .u64 (orI .u64 x17 (andI .u64 firstMask_11 lastMask_13))) <|
  k (.pointer b_6)) (
  NN b_6 fun a19 =>
  LoadT .slice (a19.add 1) fun s20p s20l s20c =>
  NN s20p fun a21 =>
  Req (0 ≤ shrI .u64 start_7 6 ∧ shrI .u64 start_7 6 < (s20l : Int)) <|
  LoadT (.int .u64) (a21.add ((shrI .u64 start_7 6).toNat)) fun x22 =>
  NN s20p fun a23 =>
  Req (0 ≤ shrI .u64 start_7 6 ∧ shrI .u64 start_7 6 < (s20l : Int)) <|
  Store1 (a23.add ((shrI .u64 start_7 6).toNat)) (.int .u64 (orI .u64 x22 firstMask_11)) <|
  Bind (addI .u64 (shrI .u64 start_7 6) 1 : Int) fun i_24 =>
  Loop [.ptr, (.int .u64), (.int .u64), (.int .u64)] (F70_L1 k) b_6 endWord_9 lastMask_13 i_24)
def F70 (k : Value → W) (b_1 : Option Addr) (start_2 : Int) (end_3 : Int) : W :=
 BIf (decide (start_2 ≥ end_3)) (
  k (.pointer b_1)) (
  NN b_1 fun a4 =>
  LoadT (.int .u64) a4 fun x5 =>
  BIf (decide ((subI .u64 end_3 1) ≥ x5)) (
   CallT Go.Proofs.Try.prog 87 [.pointer b_1, .int .u64 (subI .u64 end_3 1)] (.tup []) <|
   F70_J1 k b_1 start_2 end_3) (
   F70_J1 k b_1 start_2 end_3))
theorem F70_eq (k : Value → W) (b_1 : Option Addr) (start_2 : Int) (end_3 : Int) : compF Go.Proofs.Try.prog Go.Proofs.Try.f70 [(14, [(0, .ptr), (8, (.int .u64)), (10, (.int .u64)), (11, (.int .u64))])] (Go.Proofs.Try.f70.body.getD .skip) [.pointer b_1, .int .u64 start_2, .int .u64 end_3] k = F70 k b_1 start_2 end_3 := by kernel_rfl
theorem F70_calls {b_1 : Option Addr} {start_2 : Int} {end_3 : Int} {w : World} {R : Ending → World → Prop} (h : F70 (fun v w => R (.returned v) w) b_1 start_2 end_3 w) : Calls Go.Proofs.Try.prog 70 #[.pointer b_1, .int .u64 start_2, .int .u64 end_3] w R :=
  calls_of_compF noNum follows [(14, [(0, .ptr), (8, (.int .u64)), (10, (.int .u64)), (11, (.int .u64))])] (f := 70) (fn := Go.Proofs.Try.f70) (body := Go.Proofs.Try.f70.body.getD .skip) (args := [.pointer b_1, .int .u64 start_2, .int .u64 end_3]) rfl rfl (Nat.le_of_ble_eq_true rfl) ((congrFun (F70_eq _ b_1 start_2 end_3) w).mpr h)
theorem F70_call {b_1 : Option Addr} {start_2 : Int} {end_3 : Int} {w : World} {g : Fn W (RTy.leaves (.s (.one .ptr)))} (h : F70 (fun v => Back (.s (.one .ptr)) g (.returned v)) b_1 start_2 end_3 w) : CallT Go.Proofs.Try.prog 70 [.pointer b_1, .int .u64 start_2, .int .u64 end_3] (.s (.one .ptr)) g w := F70_calls h

/-! ## impl.BSSetRange -/
def F33 (k : Value → W) (x1 : Int) (s2p : Option Addr) (s2l : Nat) (s2c : Nat) (from_3 : Int) (to_4 : Int) : W :=
 New [.int .u64 x1, .slice s2p s2l s2c] 25 fun n5 =>
 New [.int .u64 0, .slice none 0 0] 25 fun n6 =>
 LoadT (.int .u64) ⟨n5, 0, none⟩ fun x7 =>
 LoadT .slice ⟨n5, 1, none⟩ fun s8p s8l s8c =>
 CallT Go.Proofs.Try.prog 49 [.agg #[.int .u64 x7, .slice s8p s8l s8c]] (.s (.one .ptr)) fun p9 =>
 CallT Go.Proofs.Try.prog 70 [.pointer p9, .int .u64 from_3, .int .u64 to_4] (.s (.one .ptr)) fun p10 =>
 CallT Go.Proofs.Try.prog 51 [.pointer p9] (.s (.agg [(.int .u64), .slice])) fun x11 s12p s12l s12c =>
 Store1 ⟨n6, 0, none⟩ (.int .u64 x11) <|
 Store1 ⟨n6, 1, none⟩ (.slice s12p s12l s12c) <|
 LoadT (.int .u64) ⟨n6, 0, none⟩ fun x13 =>
 LoadT .slice ⟨n6, 1, none⟩ fun s14p s14l s14c =>
 k (.agg #[.int .u64 x13, .slice s14p s14l s14c])
theorem F33_eq (k : Value → W) (x1 : Int) (s2p : Option Addr) (s2l : Nat) (s2c : Nat) (from_3 : Int) (to_4 : Int) : compF Go.Proofs.Try.prog Go.Proofs.Try.f33 [] (Go.Proofs.Try.f33.body.getD .skip) [.agg #[.int .u64 x1, .slice s2p s2l s2c], .int .u64 from_3, .int .u64 to_4] k = F33 k x1 s2p s2l s2c from_3 to_4 := by kernel_rfl
theorem F33_calls {x1 : Int} {s2p : Option Addr} {s2l : Nat} {s2c : Nat} {from_3 : Int} {to_4 : Int} {w : World} {R : Ending → World → Prop} (h : F33 (fun v w => R (.returned v) w) x1 s2p s2l s2c from_3 to_4 w) : Calls Go.Proofs.Try.prog 33 #[.agg #[.int .u64 x1, .slice s2p s2l s2c], .int .u64 from_3, .int .u64 to_4] w R :=
  calls_of_compF noNum follows [] (f := 33) (fn := Go.Proofs.Try.f33) (body := Go.Proofs.Try.f33.body.getD .skip) (args := [.agg #[.int .u64 x1, .slice s2p s2l s2c], .int .u64 from_3, .int .u64 to_4]) rfl rfl (Nat.le_of_ble_eq_true rfl) ((congrFun (F33_eq _ x1 s2p s2l s2c from_3 to_4) w).mpr h)
theorem F33_call {x1 : Int} {s2p : Option Addr} {s2l : Nat} {s2c : Nat} {from_3 : Int} {to_4 : Int} {w : World} {g : Fn W (RTy.leaves (.s (.agg [(.int .u64), .slice])))} (h : F33 (fun v => Back (.s (.agg [(.int .u64), .slice])) g (.returned v)) x1 s2p s2l s2c from_3 to_4 w) : CallT Go.Proofs.Try.prog 33 [.agg #[.int .u64 x1, .slice s2p s2l s2c], .int .u64 from_3, .int .u64 to_4] (.s (.agg [(.int .u64), .slice])) g w := F33_calls h

/-! ## bitset.BitSet).FlipRange -/
def F71_L1 (k : Value → W) (again25 : Option Addr → Int → Int → Int → Int → Int → W) (b_19 : Option Addr) (end_20 : Int) (startWord_21 : Int) (endWord_22 : Int) (x23 : Int) (x24 : Int) : W :=
 BIf (decide (x24 < x23)) (
  Drw <|
  NN b_19 fun a26 =>
  LoadT .slice (a26.add 1) fun s27p s27l s27c =>
  NN b_19 fun a28 =>
  LoadT .slice (a28.add 1) fun s29p s29l s29c =>
  NN s29p fun a30 =>
  Req (0 ≤ addI .i64 startWord_21 x24 ∧ addI .i64 startWord_21 x24 < (s29l : Int)) <|
  LoadT (.int .u64) (a30.add ((addI .i64 startWord_21 x24).toNat)) fun x31 =>
  NN s27p fun a32 =>
  Req (0 ≤ addI .i64 startWord_21 x24 ∧ addI .i64 startWord_21 x24 < (s27l : Int)) <|
  Store1 (a32.add ((addI .i64 startWord_21 x24).toNat)) (.int .u64 (xorI .u64 (IntKind.max .u64) x31)) <|
  again25 b_19 end_20 startWord_21 endWord_22 x23 (addI .i64 x24 1)) (
  CallT Go.Proofs.Try.prog 86 [.int .u64 (subI .u64 0 end_20)] (.s (.one (.int .u64))) fun x33 =>
  BIf (x33 != 0) (
   Drw <|
   NN b_19 fun a34 =>
   LoadT .slice (a34.add 1) fun s35p s35l s35c =>
   NN s35p fun a36 =>
   Req (0 ≤ endWord_22 ∧ endWord_22 < (s35l : Int)) <|
   LoadT (.int .u64) (a36.add endWord_22.toNat) fun x37 =>
   CallT Go.Proofs.Try.prog 86 [.int .u64 x33] (.s (.one (.int .u64))) fun x38 =>
   Chk1 (a36.add endWord_22.toNat) (.int .u64 x37) <|
   Chk1 (a34.add 1) (.slice s35p s35l s35c) <|
   Req (0 ≤ x38) <|
   NN s35p fun a39 =>
   Req (0 ≤ endWord_22 ∧ endWord_22 < (s35l : Int)) <|
   Store1 (a39.add endWord_22.toNat) (.int .u64 (xorI .u64 x37 (shrI .u64 18446744073709551615 x38.toNat))) <|
   k (.pointer b_19)) (
   k (.pointer b_19)))
theorem F71_L1_rule {k : Value → W} (I : Option Addr → Int → Int → Int → Int → Int → W) (μ : Option Addr → Int → Int → Int → Int → Int → World → Nat)
  (hr : ∀ (b_19 : Option Addr) (end_20 : Int) (startWord_21 : Int) (endWord_22 : Int) (x23 : Int) (x24 : Int) (w : World), I b_19 end_20 startWord_21 endWord_22 x23 x24 w → F71_L1 k (fun b_19' end_20' startWord_21' endWord_22' x23' x24' w' => I b_19' end_20' startWord_21' endWord_22' x23' x24' w' ∧ μ b_19' end_20' startWord_21' endWord_22' x23' x24' w' < μ b_19 end_20 startWord_21 endWord_22 x23 x24 w) b_19 end_20 startWord_21 endWord_22 x23 x24 w)
  {w : World} {b_19 : Option Addr} {end_20 : Int} {startWord_21 : Int} {endWord_22 : Int} {x23 : Int} {x24 : Int} (h : I b_19 end_20 startWord_21 endWord_22 x23 x24 w) : Loop [.ptr, (.int .u64), (.int .i64), (.int .i64), (.int .i64), (.int .i64)] (F71_L1 k) b_19 end_20 startWord_21 endWord_22 x23 x24 w :=
  Loop_intro (ts := [.ptr, (.int .u64), (.int .i64), (.int .i64), (.int .i64), (.int .i64)]) (s := (b_19, end_20, startWord_21, endWord_22, x23, x24, ())) (fun s w => I s.1 s.2.1 s.2.2.1 s.2.2.2.1 s.2.2.2.2.1 s.2.2.2.2.2.1 w) (fun s w => μ s.1 s.2.1 s.2.2.1 s.2.2.2.1 s.2.2.2.2.1 s.2.2.2.2.2.1 w) h (fun s w h => hr s.1 s.2.1 s.2.2.1 s.2.2.2.1 s.2.2.2.2.1 s.2.2.2.2.2.1 w h)
def F71_J1 (k : Value → W) (b_6 : Option Addr) (start_7 : Int) (end_8 : Int) : W :=
 Bind (IntKind.wrap .i64 (shrI .u64 start_7 6) : Int) fun startWord_9 =>
 Bind (IntKind.wrap .i64 (shrI .u64 end_8 6) : Int) fun endWord_10 =>
 Drw <|
 NN b_6 fun a11 =>
 LoadT .slice (a11.add 1) fun s12p s12l s12c =>
 NN s12p fun a13 =>
 Req (0 ≤ startWord_9 ∧ startWord_9 < (s12l : Int)) <|
 LoadT (.int .u64) (a13.add startWord_9.toNat) fun x14 =>
 CallT Go.Proofs.Try.prog 86 [.int .u64 start_7] (.s (.one (.int .u64))) fun x15 =>
 Chk1 (a13.add startWord_9.toNat) (.int .u64 x14) <|
 Chk1 (a11.add 1) (.slice s12p s12l s12c) <|
 Req (0 ≤ x15) <|
 NN s12p fun a16 =>
 Req (0 ≤ startWord_9 ∧ startWord_9 < (s12l : Int)) <|
 Store1 (a16.add startWord_9.toNat) (.int .u64 (xorI .u64 x14 (xorI .u64 (IntKind.max .u64) (shlI .u64 18446744073709551615 x15.toNat)))) <|
 NN b_6 fun a17 =>
 LoadT .slice (a17.add 1) fun s18p s18l s18c =>
 Req (0 ≤ endWord_10 ∧ endWord_10 ≤ (s18c : Int)) <|
 Req (0 ≤ startWord_9 ∧ startWord_9 ≤ ((endWord_10.toNat : Nat) : Int)) <|
 Loop [.ptr, (.int .u64), (.int .i64), (.int .i64), (.int .i64), (.int .i64)] (F71_L1 k) b_6 end_8 startWord_9 endWord_10 ((endWord_10.toNat - startWord_9.toNat : Nat) : Int) 0
def F71 (k : Value → W) (b_1 : Option Addr) (start_2 : Int) (end_3 : Int) : W :=
 BIf (decide (start_2 ≥ end_3)) (
  k (.pointer b_1)) (
  NN b_1 fun a4 =>
  LoadT (.int .u64) a4 fun x5 =>
  BIf (decide ((subI .u64 end_3 1) ≥ x5)) (
   CallT Go.Proofs.Try.prog 87 [.pointer b_1, .int .u64 (subI .u64 end_3 1)] (.tup []) <|
   F71_J1 k b_1 start_2 end_3) (
   F71_J1 k b_1 start_2 end_3))
theorem F71_eq (k : Value → W) (b_1 : Option Addr) (start_2 : Int) (end_3 : Int) : compF Go.Proofs.Try.prog Go.Proofs.Try.f71 [(9, [(0, .ptr), (2, (.int .u64)), (7, (.int .i64)), (8, (.int .i64)), (52, (.int .i64)), (53, (.int .i64))])] (Go.Proofs.Try.f71.body.getD .skip) [.pointer b_1, .int .u64 start_2, .int .u64 end_3] k = F71 k b_1 start_2 end_3 := by kernel_rfl
theorem F71_calls {b_1 : Option Addr} {start_2 : Int} {end_3 : Int} {w : World} {R : Ending → World → Prop} (h : F71 (fun v w => R (.returned v) w) b_1 start_2 end_3 w) : Calls Go.Proofs.Try.prog 71 #[.pointer b_1, .int .u64 start_2, .int .u64 end_3] w R :=
  calls_of_compF noNum follows [(9, [(0, .ptr), (2, (.int .u64)), (7, (.int .i64)), (8, (.int .i64)), (52, (.int .i64)), (53, (.int .i64))])] (f := 71) (fn := Go.Proofs.Try.f71) (body := Go.Proofs.Try.f71.body.getD .skip) (args := [.pointer b_1, .int .u64 start_2, .int .u64 end_3]) rfl rfl (Nat.le_of_ble_eq_true rfl) ((congrFun (F71_eq _ b_1 start_2 end_3) w).mpr h)
theorem F71_call {b_1 : Option Addr} {start_2 : Int} {end_3 : Int} {w : World} {g : Fn W (RTy.leaves (.s (.one .ptr)))} (h : F71 (fun v => Back (.s (.one .ptr)) g (.returned v)) b_1 start_2 end_3 w) : CallT Go.Proofs.Try.prog 71 [.pointer b_1, .int .u64 start_2, .int .u64 end_3] (.s (.one .ptr)) g w := F71_calls h

/-! ## impl.BSFlipRange -/
def F34 (k : Value → W) (x1 : Int) (s2p : Option Addr) (s2l : Nat) (s2c : Nat) (from_3 : Int) (to_4 : Int) : W :=
 New [.int .u64 x1, .slice s2p s2l s2c] 25 fun n5 =>
 New [.int .u64 0, .slice none 0 0] 25 fun n6 =>
 LoadT (.int .u64) ⟨n5, 0, none⟩ fun x7 =>
 LoadT .slice ⟨n5, 1, none⟩ fun s8p s8l s8c =>
 CallT Go.Proofs.Try.prog 49 [.agg #[.int .u64 x7, .slice s8p s8l s8c]] (.s (.one .ptr)) fun p9 =>
 CallT Go.Proofs.Try.prog 71 [.pointer p9, .int .u64 from_3, .int .u64 to_4] (.s (.one .ptr)) fun p10 =>
 CallT Go.Proofs.Try.prog 51 [.pointer p9] (.s (.agg [(.int .u64), .slice])) fun x11 s12p s12l s12c =>
 Store1 ⟨n6, 0, none⟩ (.int .u64 x11) <|
 Store1 ⟨n6, 1, none⟩ (.slice s12p s12l s12c) <|
 LoadT (.int .u64) ⟨n6, 0, none⟩ fun x13 =>
 LoadT .slice ⟨n6, 1, none⟩ fun s14p s14l s14c =>
 k (.agg #[.int .u64 x13, .slice s14p s14l s14c])
theorem F34_eq (k : Value → W) (x1 : Int) (s2p : Option Addr) (s2l : Nat) (s2c : Nat) (from_3 : Int) (to_4 : Int) : compF Go.Proofs.Try.prog Go.Proofs.Try.f34 [] (Go.Proofs.Try.f34.body.getD .skip) [.agg #[.int .u64 x1, .slice s2p s2l s2c], .int .u64 from_3, .int .u64 to_4] k = F34 k x1 s2p s2l s2c from_3 to_4 := by kernel_rfl
theorem F34_calls {x1 : Int} {s2p : Option Addr} {s2l : Nat} {s2c : Nat} {from_3 : Int} {to_4 : Int} {w : World} {R : Ending → World → Prop} (h : F34 (fun v w => R (.returned v) w) x1 s2p s2l s2c from_3 to_4 w) : Calls Go.Proofs.Try.prog 34 #[.agg #[.int .u64 x1, .slice s2p s2l s2c], .int .u64 from_3, .int .u64 to_4] w R :=
  calls_of_compF noNum follows [] (f := 34) (fn := Go.Proofs.Try.f34) (body := Go.Proofs.Try.f34.body.getD .skip) (args := [.agg #[.int .u64 x1, .slice s2p s2l s2c], .int .u64 from_3, .int .u64 to_4]) rfl rfl (Nat.le_of_ble_eq_true rfl) ((congrFun (F34_eq _ x1 s2p s2l s2c from_3 to_4) w).mpr h)
theorem F34_call {x1 : Int} {s2p : Option Addr} {s2l : Nat} {s2c : Nat} {from_3 : Int} {to_4 : Int} {w : World} {g : Fn W (RTy.leaves (.s (.agg [(.int .u64), .slice])))} (h : F34 (fun v => Back (.s (.agg [(.int .u64), .slice])) g (.returned v)) x1 s2p s2l s2c from_3 to_4 w) : CallT Go.Proofs.Try.prog 34 [.agg #[.int .u64 x1, .slice s2p s2l s2c], .int .u64 from_3, .int .u64 to_4] (.s (.agg [(.int .u64), .slice])) g w := F34_calls h

/-! ## bitset.BitSet).SymmetricDifference -/
def F72_L1 (k : Value → W) (again13 : Option Addr → Option Addr → Option Addr → Nat → Nat → Int → Int → W) (compare_8 : Option Addr) (result_9 : Option Addr) (s10p : Option Addr) (s10l : Nat) (s10c : Nat) (x11 : Int) (x12 : Int) : W :=
 BIf (decide (x12 < x11)) (
  NN s10p fun a14 =>
  Req (0 ≤ x12 ∧ x12 < (s10l : Int)) <|
  LoadT (.int .u64) (a14.add x12.toNat) fun x15 =>
  Drw <|
  NN result_9 fun a16 =>
  LoadT .slice (a16.add 1) fun s17p s17l s17c =>
  NN compare_8 fun a18 =>
  LoadT .slice (a18.add 1) fun s19p s19l s19c =>
  NN s19p fun a20 =>
  Req (0 ≤ x12 ∧ x12 < (s19l : Int)) <|
  LoadT (.int .u64) (a20.add x12.toNat) fun x21 =>
  NN s17p fun a22 =>
  Req (0 ≤ x12 ∧ x12 < (s17l : Int)) <|
  Store1 (a22.add x12.toNat) (.int .u64 (xorI .u64 x15 x21)) <|
  again13 compare_8 result_9 s10p s10l s10c x11 (addI .i64 x12 1)) (
  k (.pointer result_9))
theorem F72_L1_rule {k : Value → W} (I : Option Addr → Option Addr → Option Addr → Nat → Nat → Int → Int → W) (μ : Option Addr → Option Addr → Option Addr → Nat → Nat → Int → Int → World → Nat)
  (hr : ∀ (compare_8 : Option Addr) (result_9 : Option Addr) (s10p : Option Addr) (s10l : Nat) (s10c : Nat) (x11 : Int) (x12 : Int) (w : World), I compare_8 result_9 s10p s10l s10c x11 x12 w → F72_L1 k (fun compare_8' result_9' s10p' s10l' s10c' x11' x12' w' => I compare_8' result_9' s10p' s10l' s10c' x11' x12' w' ∧ μ compare_8' result_9' s10p' s10l' s10c' x11' x12' w' < μ compare_8 result_9 s10p s10l s10c x11 x12 w) compare_8 result_9 s10p s10l s10c x11 x12 w)
  {w : World} {compare_8 : Option Addr} {result_9 : Option Addr} {s10p : Option Addr} {s10l : Nat} {s10c : Nat} {x11 : Int} {x12 : Int} (h : I compare_8 result_9 s10p s10l s10c x11 x12 w) : Loop [.ptr, .ptr, .slice, (.int .i64), (.int .i64)] (F72_L1 k) compare_8 result_9 s10p s10l s10c x11 x12 w :=
  Loop_intro (ts := [.ptr, .ptr, .slice, (.int .i64), (.int .i64)]) (s := (compare_8, result_9, (s10p, s10l, s10c), x11, x12, ())) (fun s w => I s.1 s.2.1 s.2.2.1.1 s.2.2.1.2.1 s.2.2.1.2.2 s.2.2.2.1 s.2.2.2.2.1 w) (fun s w => μ s.1 s.2.1 s.2.2.1.1 s.2.2.1.2.1 s.2.2.1.2.2 s.2.2.2.1 s.2.2.2.2.1 w) h (fun s w h => hr s.1 s.2.1 s.2.2.1.1 s.2.2.1.2.1 s.2.2.1.2.2 s.2.2.2.1 s.2.2.2.2.1 w h)
def F72 (k : Value → W) (b_1 : Option Addr) (compare_2 : Option Addr) : W :=
 CallT Go.Proofs.Try.prog 89 [.pointer b_1] (.tup []) <|
 CallT Go.Proofs.Try.prog 89 [.pointer compare_2] (.tup []) <|
 CallT Go.Proofs.Try.prog 90 [.pointer b_1, .pointer compare_2] (.tup [(.one .ptr), (.one .ptr)]) fun p3 p4 =>
 CallT Go.Proofs.Try.prog 94 [.pointer p4] (.s (.one .ptr)) fun p5 =>
 NN p3 fun a6 =>
 LoadT .slice (a6.add 1) fun s7p s7l s7c =>
 Loop [.ptr, .ptr, .slice, (.int .i64), (.int .i64)] (F72_L1 k) p4 p5 s7p s7l s7c ((s7l : Nat) : Int) 0
theorem F72_eq (k : Value → W) (b_1 : Option Addr) (compare_2 : Option Addr) : compF Go.Proofs.Try.prog Go.Proofs.Try.f72 [(6, [(1, .ptr), (4, .ptr), (22, .slice), (23, (.int .i64)), (24, (.int .i64))])] (Go.Proofs.Try.f72.body.getD .skip) [.pointer b_1, .pointer compare_2] k = F72 k b_1 compare_2 := by kernel_rfl
theorem F72_calls {b_1 : Option Addr} {compare_2 : Option Addr} {w : World} {R : Ending → World → Prop} (h : F72 (fun v w => R (.returned v) w) b_1 compare_2 w) : Calls Go.Proofs.Try.prog 72 #[.pointer b_1, .pointer compare_2] w R :=
  calls_of_compF noNum follows [(6, [(1, .ptr), (4, .ptr), (22, .slice), (23, (.int .i64)), (24, (.int .i64))])] (f := 72) (fn := Go.Proofs.Try.f72) (body := Go.Proofs.Try.f72.body.getD .skip) (args := [.pointer b_1, .pointer compare_2]) rfl rfl (Nat.le_of_ble_eq_true rfl) ((congrFun (F72_eq _ b_1 compare_2) w).mpr h)
theorem F72_call {b_1 : Option Addr} {compare_2 : Option Addr} {w : World} {g : Fn W (RTy.leaves (.s (.one .ptr)))} (h : F72 (fun v => Back (.s (.one .ptr)) g (.returned v)) b_1 compare_2 w) : CallT Go.Proofs.Try.prog 72 [.pointer b_1, .pointer compare_2] (.s (.one .ptr)) g w := F72_calls h

/-! ## impl.BSSymmetricDifference -/
def F35 (k : Value → W) (x1 : Int) (s2p : Option Addr) (s2l : Nat) (s2c : Nat) (x3 : Int) (s4p : Option Addr) (s4l : Nat) (s4c : Nat) : W :=
 New [.int .u64 x1, .slice s2p s2l s2c] 25 fun n5 =>
 New [.int .u64 x3, .slice s4p s4l s4c] 25 fun n6 =>
 New [.int .u64 0, .slice none 0 0] 25 fun n7 =>
 Drw <|
 LoadT (.int .u64) ⟨n5, 0, none⟩ fun x8 =>
 LoadT .slice ⟨n5, 1, none⟩ fun s9p s9l s9c =>
 LoadT (.int .u64) ⟨n6, 0, none⟩ fun x10 =>
 LoadT .slice ⟨n6, 1, none⟩ fun s11p s11l s11c =>
 CallT Go.Proofs.Try.prog 49 [.agg #[.int .u64 x8, .slice s9p s9l s9c]] (.s (.one .ptr)) fun p12 =>
 Chk1 ⟨n6, 0, none⟩ (.int .u64 x10) <|
 Chk1 ⟨n6, 1, none⟩ (.slice s11p s11l s11c) <|
 CallT Go.Proofs.Try.prog 49 [.agg #[.int .u64 x10, .slice s11p s11l s11c]] (.s (.one .ptr)) fun p13 =>
 Chk1 ⟨n5, 0, none⟩ (.int .u64 x8) <|
 Chk1 ⟨n5, 1, none⟩ (.slice s9p s9l s9c) <|
 CallT Go.Proofs.Try.prog 72 [.pointer p12, .pointer p13] (.s (.one .ptr)) fun p14 =>
 Chk1 ⟨n6, 0, none⟩ (.int .u64 x10) <|
 Chk1 ⟨n6, 1, none⟩ (.slice s11p s11l s11c) <|
 Chk1 ⟨n5, 0, none⟩ (.int .u64 x8) <|
 Chk1 ⟨n5, 1, none⟩ (.slice s9p s9l s9c) <|
 CallT Go.Proofs.Try.prog 51 [.pointer p14] (.s (.agg [(.int .u64), .slice])) fun x15 s16p s16l s16c =>
 Chk1 ⟨n6, 0, none⟩ (.int .u64 x10) <|
 Chk1 ⟨n6, 1, none⟩ (.slice s11p s11l s11c) <|
 Chk1 ⟨n5, 0, none⟩ (.int .u64 x8) <|
 Chk1 ⟨n5, 1, none⟩ (.slice s9p s9l s9c) <|
 Store1 ⟨n7, 0, none⟩ (.int .u64 x15) <|
 Store1 ⟨n7, 1, none⟩ (.slice s16p s16l s16c) <|
 LoadT (.int .u64) ⟨n7, 0, none⟩ fun x17 =>
 LoadT .slice ⟨n7, 1, none⟩ fun s18p s18l s18c =>
 k (.agg #[.int .u64 x17, .slice s18p s18l s18c])
theorem F35_eq (k : Value → W) (x1 : Int) (s2p : Option Addr) (s2l : Nat) (s2c : Nat) (x3 : Int) (s4p : Option Addr) (s4l : Nat) (s4c : Nat) : compF Go.Proofs.Try.prog Go.Proofs.Try.f35 [] (Go.Proofs.Try.f35.body.getD .skip) [.agg #[.int .u64 x1, .slice s2p s2l s2c], .agg #[.int .u64 x3, .slice s4p s4l s4c]] k = F35 k x1 s2p s2l s2c x3 s4p s4l s4c := by kernel_rfl
theorem F35_calls {x1 : Int} {s2p : Option Addr} {s2l : Nat} {s2c : Nat} {x3 : Int} {s4p : Option Addr} {s4l : Nat} {s4c : Nat} {w : World} {R : Ending → World → Prop} (h : F35 (fun v w => R (.returned v) w) x1 s2p s2l s2c x3 s4p s4l s4c w) : Calls Go.Proofs.Try.prog 35 #[.agg #[.int .u64 x1, .slice s2p s2l s2c], .agg #[.int .u64 x3, .slice s4p s4l s4c]] w R :=
  calls_of_compF noNum follows [] (f := 35) (fn := Go.Proofs.Try.f35) (body := Go.Proofs.Try.f35.body.getD .skip) (args := [.agg #[.int .u64 x1, .slice s2p s2l s2c], .agg #[.int .u64 x3, .slice s4p s4l s4c]]) rfl rfl (Nat.le_of_ble_eq_true rfl) ((congrFun (F35_eq _ x1 s2p s2l s2c x3 s4p s4l s4c) w).mpr h)
theorem F35_call {x1 : Int} {s2p : Option Addr} {s2l : Nat} {s2c : Nat} {x3 : Int} {s4p : Option Addr} {s4l : Nat} {s4c : Nat} {w : World} {g : Fn W (RTy.leaves (.s (.agg [(.int .u64), .slice])))} (h : F35 (fun v => Back (.s (.agg [(.int .u64), .slice])) g (.returned v)) x1 s2p s2l s2c x3 s4p s4l s4c w) : CallT Go.Proofs.Try.prog 35 [.agg #[.int .u64 x1, .slice s2p s2l s2c], .agg #[.int .u64 x3, .slice s4p s4l s4c]] (.s (.agg [(.int .u64), .slice])) g w := F35_calls h

/-! ## bitset.BitSet).Difference -/
def F73_L1 (k : Value → W) (again16 : Option Addr → Option Addr → Option Addr → Int → Int → W) (b_11 : Option Addr) (compare_12 : Option Addr) (result_13 : Option Addr) (l_14 : Int) (i_15 : Int) : W :=
 BIf (decide (i_15 < l_14)) (
  Drw <|
  NN result_13 fun a17 =>
  LoadT .slice (a17.add 1) fun s18p s18l s18c =>
  NN b_11 fun a19 =>
  LoadT .slice (a19.add 1) fun s20p s20l s20c =>
  NN s20p fun a21 =>
  Req (0 ≤ i_15 ∧ i_15 < (s20l : Int)) <|
  LoadT (.int .u64) (a21.add i_15.toNat) fun x22 =>
  NN compare_12 fun a23 =>
  LoadT .slice (a23.add 1) fun s24p s24l s24c =>
  NN s24p fun a25 =>
  Req (0 ≤ i_15 ∧ i_15 < (s24l : Int)) <|
  LoadT (.int .u64) (a25.add i_15.toNat) fun x26 =>
  NN s18p fun a27 =>
  Req (0 ≤ i_15 ∧ i_15 < (s18l : Int)) <|
  Store1 (a27.add i_15.toNat) (.int .u64 (andNotI .u64 x22 x26)) <|
  again16 b_11 compare_12 result_13 l_14 (addI .i64 i_15 1)) (
  k (.pointer result_13))
theorem F73_L1_rule {k : Value → W} (I : Option Addr → Option Addr → Option Addr → Int → Int → W) (μ : Option Addr → Option Addr → Option Addr → Int → Int → World → Nat)
  (hr : ∀ (b_11 : Option Addr) (compare_12 : Option Addr) (result_13 : Option Addr) (l_14 : Int) (i_15 : Int) (w : World), I b_11 compare_12 result_13 l_14 i_15 w → F73_L1 k (fun b_11' compare_12' result_13' l_14' i_15' w' => I b_11' compare_12' result_13' l_14' i_15' w' ∧ μ b_11' compare_12' result_13' l_14' i_15' w' < μ b_11 compare_12 result_13 l_14 i_15 w) b_11 compare_12 result_13 l_14 i_15 w)
  {w : World} {b_11 : Option Addr} {compare_12 : Option Addr} {result_13 : Option Addr} {l_14 : Int} {i_15 : Int} (h : I b_11 compare_12 result_13 l_14 i_15 w) : Loop [.ptr, .ptr, .ptr, (.int .i64), (.int .i64)] (F73_L1 k) b_11 compare_12 result_13 l_14 i_15 w :=
  Loop_intro (ts := [.ptr, .ptr, .ptr, (.int .i64), (.int .i64)]) (s := (b_11, compare_12, result_13, l_14, i_15, ())) (fun s w => I s.1 s.2.1 s.2.2.1 s.2.2.2.1 s.2.2.2.2.1 w) (fun s w => μ s.1 s.2.1 s.2.2.1 s.2.2.2.1 s.2.2.2.2.1 w) h (fun s w h => hr s.1 s.2.1 s.2.2.1 s.2.2.2.1 s.2.2.2.2.1 w h)
def F73_J1 (k : Value → W) (b_7 : Option Addr) (compare_8 : Option Addr) (result_9 : Option Addr) (l_10 : Int) : W :=
 Loop [.ptr, .ptr, .ptr, (.int .i64), (.int .i64)] (F73_L1 k) b_7 compare_8 result_9 l_10 0
def F73 (k : Value → W) (b_1 : Option Addr) (compare_2 : Option Addr) : W :=
 CallT Go.Proofs.Try.prog 89 [.pointer b_1] (.tup []) <|
 CallT Go.Proofs.Try.prog 89 [.pointer compare_2] (.tup []) <|
 CallT Go.Proofs.Try.prog 94 [.pointer b_1] (.s (.one .ptr)) fun p3 =>
 CallT Go.Proofs.Try.prog 95 [.pointer compare_2] (.s (.one (.int .i64))) fun x4 =>
 CallT Go.Proofs.Try.prog 95 [.pointer b_1] (.s (.one (.int .i64))) fun x5 =>
 BIf (decide (x4 > x5)) (
  CallT Go.Proofs.Try.prog 95 [.pointer b_1] (.s (.one (.int .i64))) fun x6 =>
  F73_J1 k b_1 compare_2 p3 x6) (
  F73_J1 k b_1 compare_2 p3 x4)
theorem F73_eq (k : Value → W) (b_1 : Option Addr) (compare_2 : Option Addr) : compF Go.Proofs.Try.prog Go.Proofs.Try.f73 [(8, [(0, .ptr), (1, .ptr), (4, .ptr), (5, (.int .i64)), (6, (.int .i64))])] (Go.Proofs.Try.f73.body.getD .skip) [.pointer b_1, .pointer compare_2] k = F73 k b_1 compare_2 := by kernel_rfl
theorem F73_calls {b_1 : Option Addr} {compare_2 : Option Addr} {w : World} {R : Ending → World → Prop} (h : F73 (fun v w => R (.returned v) w) b_1 compare_2 w) : Calls Go.Proofs.Try.prog 73 #[.pointer b_1, .pointer compare_2] w R :=
  calls_of_compF noNum follows [(8, [(0, .ptr), (1, .ptr), (4, .ptr), (5, (.int .i64)), (6, (.int .i64))])] (f := 73) (fn := Go.Proofs.Try.f73) (body := Go.Proofs.Try.f73.body.getD .skip) (args := [.pointer b_1, .pointer compare_2]) rfl rfl (Nat.le_of_ble_eq_true rfl) ((congrFun (F73_eq _ b_1 compare_2) w).mpr h)
theorem F73_call {b_1 : Option Addr} {compare_2 : Option Addr} {w : World} {g : Fn W (RTy.leaves (.s (.one .ptr)))} (h : F73 (fun v => Back (.s (.one .ptr)) g (.returned v)) b_1 compare_2 w) : CallT Go.Proofs.Try.prog 73 [.pointer b_1, .pointer compare_2] (.s (.one .ptr)) g w := F73_calls h

/-! ## impl.BSDifference -/
def F36 (k : Value → W) (x1 : Int) (s2p : Option Addr) (s2l : Nat) (s2c : Nat) (x3 : Int) (s4p : Option Addr) (s4l : Nat) (s4c : Nat) : W :=
 New [.int .u64 x1, .slice s2p s2l s2c] 25 fun n5 =>
 New [.int .u64 x3, .slice s4p s4l s4c] 25 fun n6 =>
 New [.int .u64 0, .slice none 0 0] 25 fun n7 =>
 Drw <|
 LoadT (.int .u64) ⟨n5, 0, none⟩ fun x8 =>
 LoadT .slice ⟨n5, 1, none⟩ fun s9p s9l s9c =>
 LoadT (.int .u64) ⟨n6, 0, none⟩ fun x10 =>
 LoadT .slice ⟨n6, 1, none⟩ fun s11p s11l s11c =>
 CallT Go.Proofs.Try.prog 49 [.agg #[.int .u64 x8, .slice s9p s9l s9c]] (.s (.one .ptr)) fun p12 =>
 Chk1 ⟨n6, 0, none⟩ (.int .u64 x10) <|
 Chk1 ⟨n6, 1, none⟩ (.slice s11p s11l s11c) <|
 CallT Go.Proofs.Try.prog 49 [.agg #[.int .u64 x10, .slice s11p s11l s11c]] (.s (.one .ptr)) fun p13 =>
 Chk1 ⟨n5, 0, none⟩ (.int .u64 x8) <|
 Chk1 ⟨n5, 1, none⟩ (.slice s9p s9l s9c) <|
 CallT Go.Proofs.Try.prog 73 [.pointer p12, .pointer p13] (.s (.one .ptr)) fun p14 =>
 Chk1 ⟨n6, 0, none⟩ (.int .u64 x10) <|
 Chk1 ⟨n6, 1, none⟩ (.slice s11p s11l s11c) <|
 Chk1 ⟨n5, 0, none⟩ (.int .u64 x8) <|
 Chk1 ⟨n5, 1, none⟩ (.slice s9p s9l s9c) <|
 CallT Go.Proofs.Try.prog 51 [.pointer p14] (.s (.agg [(.int .u64), .slice])) fun x15 s16p s16l s16c =>
 Chk1 ⟨n6, 0, none⟩ (.int .u64 x10) <|
 Chk1 ⟨n6, 1, none⟩ (.slice s11p s11l s11c) <|
 Chk1 ⟨n5, 0, none⟩ (.int .u64 x8) <|
 Chk1 ⟨n5, 1, none⟩ (.slice s9p s9l s9c) <|
 Store1 ⟨n7, 0, none⟩ (.int .u64 x15) <|
 Store1 ⟨n7, 1, none⟩ (.slice s16p s16l s16c) <|
 LoadT (.int .u64) ⟨n7, 0, none⟩ fun x17 =>
 LoadT .slice ⟨n7, 1, none⟩ fun s18p s18l s18c =>
 k (.agg #[.int .u64 x17, .slice s18p s18l s18c])
theorem F36_eq (k : Value → W) (x1 : Int) (s2p : Option Addr) (s2l : Nat) (s2c : Nat) (x3 : Int) (s4p : Option Addr) (s4l : Nat) (s4c : Nat) : compF Go.Proofs.Try.prog Go.Proofs.Try.f36 [] (Go.Proofs.Try.f36.body.getD .skip) [.agg #[.int .u64 x1, .slice s2p s2l s2c], .agg #[.int .u64 x3, .slice s4p s4l s4c]] k = F36 k x1 s2p s2l s2c x3 s4p s4l s4c := by kernel_rfl
theorem F36_calls {x1 : Int} {s2p : Option Addr} {s2l : Nat} {s2c : Nat} {x3 : Int} {s4p : Option Addr} {s4l : Nat} {s4c : Nat} {w : World} {R : Ending → World → Prop} (h : F36 (fun v w => R (.returned v) w) x1 s2p s2l s2c x3 s4p s4l s4c w) : Calls Go.Proofs.Try.prog 36 #[.agg #[.int .u64 x1, .slice s2p s2l s2c], .agg #[.int .u64 x3, .slice s4p s4l s4c]] w R :=
  calls_of_compF noNum follows [] (f := 36) (fn := Go.Proofs.Try.f36) (body := Go.Proofs.Try.f36.body.getD .skip) (args := [.agg #[.int .u64 x1, .slice s2p s2l s2c], .agg #[.int .u64 x3, .slice s4p s4l s4c]]) rfl rfl (Nat.le_of_ble_eq_true rfl) ((congrFun (F36_eq _ x1 s2p s2l s2c x3 s4p s4l s4c) w).mpr h)
theorem F36_call {x1 : Int} {s2p : Option Addr} {s2l : Nat} {s2c : Nat} {x3 : Int} {s4p : Option Addr} {s4l : Nat} {s4c : Nat} {w : World} {g : Fn W (RTy.leaves (.s (.agg [(.int .u64), .slice])))} (h : F36 (fun v => Back (.s (.agg [(.int .u64), .slice])) g (.returned v)) x1 s2p s2l s2c x3 s4p s4l s4c w) : CallT Go.Proofs.Try.prog 36 [.agg #[.int .u64 x1, .slice s2p s2l s2c], .agg #[.int .u64 x3, .slice s4p s4l s4c]] (.s (.agg [(.int .u64), .slice])) g w := F36_calls h

/-! ## laws.FnBSDeepRanges -/
def F8 (k : Value → W) (x1 : Int) (s2p : Option Addr) (s2l : Nat) (s2c : Nat) (from_3 : Int) (many_4 : Int) : W :=
 New [.int .u64 x1, .slice s2p s2l s2c] 25 fun n5 =>
 LoadT (.int .u64) ⟨n5, 0, none⟩ fun x6 =>
 LoadT .slice ⟨n5, 1, none⟩ fun s7p s7l s7c =>
 CallT Go.Proofs.Try.prog 12 [.agg #[.int .u64 x6, .slice s7p s7l s7c]] (.s (.one .bool)) fun b8 =>
 BIf (!b8) (
  k (.bool true)) (
  LoadT (.int .u64) ⟨n5, 0, none⟩ fun x9 =>
  LoadT .slice ⟨n5, 1, none⟩ fun s10p s10l s10c =>
  CallT Go.Proofs.Try.prog 13 [.agg #[.int .u64 x9, .slice s10p s10l s10c]] (.s (.agg [(.int .u64), .slice])) fun x11 s12p s12l s12c =>
  Req (500 ≠ (0 : Int)) <|
  New [.int .u64 0, .slice none 0 0] 25 fun n13 =>
  Store1 ⟨n13, 0, none⟩ (.int .u64 x11) <|
  Store1 ⟨n13, 1, none⟩ (.slice s12p s12l s12c) <|
  Bind (remI (IntKind.wrap .u64 from_3) 500 : Int) fun i_14 =>
  Req (300 ≠ (0 : Int)) <|
  Bind (addI .u64 (addI .u64 i_14 1) (remI (IntKind.wrap .u64 many_4) 300) : Int) fun k_15 =>
  CallT Go.Proofs.Try.prog 22 [.int .u64 0] (.s (.agg [(.int .u64), .slice])) fun x16 s17p s17l s17c =>
  CallT Go.Proofs.Try.prog 33 [.agg #[.int .u64 x16, .slice s17p s17l s17c], .int .u64 i_14, .int .u64 k_15] (.s (.agg [(.int .u64), .slice])) fun x18 s19p s19l s19c =>
  New [.int .u64 0, .slice none 0 0] 25 fun n20 =>
  Store1 ⟨n20, 0, none⟩ (.int .u64 x18) <|
  Store1 ⟨n20, 1, none⟩ (.slice s19p s19l s19c) <|
  LoadT (.int .u64) ⟨n13, 0, none⟩ fun x21 =>
  LoadT .slice ⟨n13, 1, none⟩ fun s22p s22l s22c =>
  LoadT (.int .u64) ⟨n20, 0, none⟩ fun x23 =>
  LoadT .slice ⟨n20, 1, none⟩ fun s24p s24l s24c =>
  CallT Go.Proofs.Try.prog 25 [.agg #[.int .u64 x21, .slice s22p s22l s22c], .agg #[.int .u64 x23, .slice s24p s24l s24c]] (.s (.agg [(.int .u64), .slice])) fun x25 s26p s26l s26c =>
  New [.int .u64 0, .slice none 0 0] 25 fun n27 =>
  Store1 ⟨n27, 0, none⟩ (.int .u64 x25) <|
  Store1 ⟨n27, 1, none⟩ (.slice s26p s26l s26c) <|
  Drw <|
  LoadT (.int .u64) ⟨n20, 0, none⟩ fun x28 =>
  LoadT .slice ⟨n20, 1, none⟩ fun s29p s29l s29c =>
  CallT Go.Proofs.Try.prog 30 [.agg #[.int .u64 x28, .slice s29p s29l s29c]] (.s (.one (.int .u64))) fun x30 =>
  BIf (x30 == (subI .u64 k_15 i_14)) (
   LoadT (.int .u64) ⟨n13, 0, none⟩ fun x31 =>
   LoadT .slice ⟨n13, 1, none⟩ fun s32p s32l s32c =>
   LoadT (.int .u64) ⟨n27, 0, none⟩ fun x33 =>
   LoadT .slice ⟨n27, 1, none⟩ fun s34p s34l s34c =>
   CallT Go.Proofs.Try.prog 33 [.agg #[.int .u64 x31, .slice s32p s32l s32c], .int .u64 i_14, .int .u64 k_15] (.s (.agg [(.int .u64), .slice])) fun x35 s36p s36l s36c =>
   Chk1 ⟨n27, 0, none⟩ (.int .u64 x33) <|
   Chk1 ⟨n27, 1, none⟩ (.slice s34p s34l s34c) <|
   Chk1 ⟨n20, 0, none⟩ (.int .u64 x28) <|
   Chk1 ⟨n20, 1, none⟩ (.slice s29p s29l s29c) <|
   CallT Go.Proofs.Try.prog 16 [.agg #[.int .u64 x35, .slice s36p s36l s36c], .agg #[.int .u64 x33, .slice s34p s34l s34c]] (.s (.one .bool)) fun b37 =>
   Chk1 ⟨n13, 0, none⟩ (.int .u64 x31) <|
   Chk1 ⟨n13, 1, none⟩ (.slice s32p s32l s32c) <|
   Chk1 ⟨n20, 0, none⟩ (.int .u64 x28) <|
   Chk1 ⟨n20, 1, none⟩ (.slice s29p s29l s29c) <|
   BIf b37 (
    LoadT (.int .u64) ⟨n13, 0, none⟩ fun x38 =>
    LoadT .slice ⟨n13, 1, none⟩ fun s39p s39l s39c =>
    LoadT (.int .u64) ⟨n13, 0, none⟩ fun x40 =>
    LoadT .slice ⟨n13, 1, none⟩ fun s41p s41l s41c =>
    LoadT (.int .u64) ⟨n20, 0, none⟩ fun x42 =>
    LoadT .slice ⟨n20, 1, none⟩ fun s43p s43l s43c =>
    CallT Go.Proofs.Try.prog 34 [.agg #[.int .u64 x38, .slice s39p s39l s39c], .int .u64 i_14, .int .u64 k_15] (.s (.agg [(.int .u64), .slice])) fun x44 s45p s45l s45c =>
    Chk1 ⟨n20, 0, none⟩ (.int .u64 x42) <|
    Chk1 ⟨n20, 1, none⟩ (.slice s43p s43l s43c) <|
    Chk1 ⟨n13, 0, none⟩ (.int .u64 x40) <|
    Chk1 ⟨n13, 1, none⟩ (.slice s41p s41l s41c) <|
    Chk1 ⟨n27, 0, none⟩ (.int .u64 x33) <|
    Chk1 ⟨n27, 1, none⟩ (.slice s34p s34l s34c) <|
    Chk1 ⟨n13, 0, none⟩ (.int .u64 x31) <|
    Chk1 ⟨n13, 1, none⟩ (.slice s32p s32l s32c) <|
    Chk1 ⟨n20, 0, none⟩ (.int .u64 x28) <|
    Chk1 ⟨n20, 1, none⟩ (.slice s29p s29l s29c) <|
    CallT Go.Proofs.Try.prog 35 [.agg #[.int .u64 x40, .slice s41p s41l s41c], .agg #[.int .u64 x42, .slice s43p s43l s43c]] (.s (.agg [(.int .u64), .slice])) fun x46 s47p s47l s47c =>
    Chk1 ⟨n13, 0, none⟩ (.int .u64 x38) <|
    Chk1 ⟨n13, 1, none⟩ (.slice s39p s39l s39c) <|
    Chk1 ⟨n27, 0, none⟩ (.int .u64 x33) <|
    Chk1 ⟨n27, 1, none⟩ (.slice s34p s34l s34c) <|
    Chk1 ⟨n13, 0, none⟩ (.int .u64 x31) <|
    Chk1 ⟨n13, 1, none⟩ (.slice s32p s32l s32c) <|
    Chk1 ⟨n20, 0, none⟩ (.int .u64 x28) <|
    Chk1 ⟨n20, 1, none⟩ (.slice s29p s29l s29c) <|
    CallT Go.Proofs.Try.prog 16 [.agg #[.int .u64 x44, .slice s45p s45l s45c], .agg #[.int .u64 x46, .slice s47p s47l s47c]] (.s (.one .bool)) fun b48 =>
    Chk1 ⟨n20, 0, none⟩ (.int .u64 x42) <|
    Chk1 ⟨n20, 1, none⟩ (.slice s43p s43l s43c) <|
    Chk1 ⟨n13, 0, none⟩ (.int .u64 x40) <|
    Chk1 ⟨n13, 1, none⟩ (.slice s41p s41l s41c) <|
    Chk1 ⟨n13, 0, none⟩ (.int .u64 x38) <|
    Chk1 ⟨n13, 1, none⟩ (.slice s39p s39l s39c) <|
    Chk1 ⟨n27, 0, none⟩ (.int .u64 x33) <|
    Chk1 ⟨n27, 1, none⟩ (.slice s34p s34l s34c) <|
    Chk1 ⟨n13, 0, none⟩ (.int .u64 x31) <|
    Chk1 ⟨n13, 1, none⟩ (.slice s32p s32l s32c) <|
    Chk1 ⟨n20, 0, none⟩ (.int .u64 x28) <|
    Chk1 ⟨n20, 1, none⟩ (.slice s29p s29l s29c) <|
    BIf b48 (
     LoadT (.int .u64) ⟨n27, 0, none⟩ fun x49 =>
     LoadT .slice ⟨n27, 1, none⟩ fun s50p s50l s50c =>
     LoadT (.int .u64) ⟨n20, 0, none⟩ fun x51 =>
     LoadT .slice ⟨n20, 1, none⟩ fun s52p s52l s52c =>
     LoadT (.int .u64) ⟨n13, 0, none⟩ fun x53 =>
     LoadT .slice ⟨n13, 1, none⟩ fun s54p s54l s54c =>
     LoadT (.int .u64) ⟨n20, 0, none⟩ fun x55 =>
     LoadT .slice ⟨n20, 1, none⟩ fun s56p s56l s56c =>
     CallT Go.Proofs.Try.prog 36 [.agg #[.int .u64 x49, .slice s50p s50l s50c], .agg #[.int .u64 x51, .slice s52p s52l s52c]] (.s (.agg [(.int .u64), .slice])) fun x57 s58p s58l s58c =>
     Chk1 ⟨n20, 0, none⟩ (.int .u64 x55) <|
     Chk1 ⟨n20, 1, none⟩ (.slice s56p s56l s56c) <|
     Chk1 ⟨n13, 0, none⟩ (.int .u64 x53) <|
     Chk1 ⟨n13, 1, none⟩ (.slice s54p s54l s54c) <|
     Chk1 ⟨n20, 0, none⟩ (.int .u64 x42) <|
     Chk1 ⟨n20, 1, none⟩ (.slice s43p s43l s43c) <|
     Chk1 ⟨n13, 0, none⟩ (.int .u64 x40) <|
     Chk1 ⟨n13, 1, none⟩ (.slice s41p s41l s41c) <|
     Chk1 ⟨n13, 0, none⟩ (.int .u64 x38) <|
     Chk1 ⟨n13, 1, none⟩ (.slice s39p s39l s39c) <|
     Chk1 ⟨n27, 0, none⟩ (.int .u64 x33) <|
     Chk1 ⟨n27, 1, none⟩ (.slice s34p s34l s34c) <|
     Chk1 ⟨n13, 0, none⟩ (.int .u64 x31) <|
     Chk1 ⟨n13, 1, none⟩ (.slice s32p s32l s32c) <|
     Chk1 ⟨n20, 0, none⟩ (.int .u64 x28) <|
     Chk1 ⟨n20, 1, none⟩ (.slice s29p s29l s29c) <|
     CallT Go.Proofs.Try.prog 36 [.agg #[.int .u64 x53, .slice s54p s54l s54c], .agg #[.int .u64 x55, .slice s56p s56l s56c]] (.s (.agg [(.int .u64), .slice])) fun x59 s60p s60l s60c =>
     Chk1 ⟨n20, 0, none⟩ (.int .u64 x51) <|
     Chk1 ⟨n20, 1, none⟩ (.slice s52p s52l s52c) <|
     Chk1 ⟨n27, 0, none⟩ (.int .u64 x49) <|
     Chk1 ⟨n27, 1, none⟩ (.slice s50p s50l s50c) <|
     Chk1 ⟨n20, 0, none⟩ (.int .u64 x42) <|
     Chk1 ⟨n20, 1, none⟩ (.slice s43p s43l s43c) <|
     Chk1 ⟨n13, 0, none⟩ (.int .u64 x40) <|
     Chk1 ⟨n13, 1, none⟩ (.slice s41p s41l s41c) <|
     Chk1 ⟨n13, 0, none⟩ (.int .u64 x38) <|
     Chk1 ⟨n13, 1, none⟩ (.slice s39p s39l s39c) <|
     Chk1 ⟨n27, 0, none⟩ (.int .u64 x33) <|
     Chk1 ⟨n27, 1, none⟩ (.slice s34p s34l s34c) <|
     Chk1 ⟨n13, 0, none⟩ (.int .u64 x31) <|
     Chk1 ⟨n13, 1, none⟩ (.slice s32p s32l s32c) <|
     Chk1 ⟨n20, 0, none⟩ (.int .u64 x28) <|
     Chk1 ⟨n20, 1, none⟩ (.slice s29p s29l s29c) <|
     CallT Go.Proofs.Try.prog 16 [.agg #[.int .u64 x57, .slice s58p s58l s58c], .agg #[.int .u64 x59, .slice s60p s60l s60c]] (.s (.one .bool)) fun b61 =>
     Chk1 ⟨n20, 0, none⟩ (.int .u64 x55) <|
     Chk1 ⟨n20, 1, none⟩ (.slice s56p s56l s56c) <|
     Chk1 ⟨n13, 0, none⟩ (.int .u64 x53) <|
     Chk1 ⟨n13, 1, none⟩ (.slice s54p s54l s54c) <|
     Chk1 ⟨n20, 0, none⟩ (.int .u64 x51) <|
     Chk1 ⟨n20, 1, none⟩ (.slice s52p s52l s52c) <|
     Chk1 ⟨n27, 0, none⟩ (.int .u64 x49) <|
     Chk1 ⟨n27, 1, none⟩ (.slice s50p s50l s50c) <|
     Chk1 ⟨n20, 0, none⟩ (.int .u64 x42) <|
     Chk1 ⟨n20, 1, none⟩ (.slice s43p s43l s43c) <|
     Chk1 ⟨n13, 0, none⟩ (.int .u64 x40) <|
     Chk1 ⟨n13, 1, none⟩ (.slice s41p s41l s41c) <|
     Chk1 ⟨n13, 0, none⟩ (.int .u64 x38) <|
     Chk1 ⟨n13, 1, none⟩ (.slice s39p s39l s39c) <|
     Chk1 ⟨n27, 0, none⟩ (.int .u64 x33) <|
     Chk1 ⟨n27, 1, none⟩ (.slice s34p s34l s34c) <|
     Chk1 ⟨n13, 0, none⟩ (.int .u64 x31) <|
     Chk1 ⟨n13, 1, none⟩ (.slice s32p s32l s32c) <|
     Chk1 ⟨n20, 0, none⟩ (.int .u64 x28) <|
     Chk1 ⟨n20, 1, none⟩ (.slice s29p s29l s29c) <|
     k (.bool b61)) (
     k (.bool false))) (
    k (.bool false))) (
   k (.bool false)))
theorem F8_eq (k : Value → W) (x1 : Int) (s2p : Option Addr) (s2l : Nat) (s2c : Nat) (from_3 : Int) (many_4 : Int) : compF Go.Proofs.Try.prog Go.Proofs.Try.f8 [] (Go.Proofs.Try.f8.body.getD .skip) [.agg #[.int .u64 x1, .slice s2p s2l s2c], .int .u16 from_3, .int .u16 many_4] k = F8 k x1 s2p s2l s2c from_3 many_4 := by kernel_rfl
theorem F8_calls {x1 : Int} {s2p : Option Addr} {s2l : Nat} {s2c : Nat} {from_3 : Int} {many_4 : Int} {w : World} {R : Ending → World → Prop} (h : F8 (fun v w => R (.returned v) w) x1 s2p s2l s2c from_3 many_4 w) : Calls Go.Proofs.Try.prog 8 #[.agg #[.int .u64 x1, .slice s2p s2l s2c], .int .u16 from_3, .int .u16 many_4] w R :=
  calls_of_compF noNum follows [] (f := 8) (fn := Go.Proofs.Try.f8) (body := Go.Proofs.Try.f8.body.getD .skip) (args := [.agg #[.int .u64 x1, .slice s2p s2l s2c], .int .u16 from_3, .int .u16 many_4]) rfl rfl (Nat.le_of_ble_eq_true rfl) ((congrFun (F8_eq _ x1 s2p s2l s2c from_3 many_4) w).mpr h)
theorem F8_call {x1 : Int} {s2p : Option Addr} {s2l : Nat} {s2c : Nat} {from_3 : Int} {many_4 : Int} {w : World} {g : Fn W (RTy.leaves (.s (.one .bool)))} (h : F8 (fun v => Back (.s (.one .bool)) g (.returned v)) x1 s2p s2l s2c from_3 many_4 w) : CallT Go.Proofs.Try.prog 8 [.agg #[.int .u64 x1, .slice s2p s2l s2c], .int .u16 from_3, .int .u16 many_4] (.s (.one .bool)) g w := F8_calls h

end Go.Proofs.Ytopdlfecfgimpaa.E
