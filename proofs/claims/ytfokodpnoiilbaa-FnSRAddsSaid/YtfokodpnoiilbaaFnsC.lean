/-
  Printed by this session's own program eng.py out of Lean's print of the loaded functions: what each function's body asks, in the engine's words; each is checked against the program by the kernel.
-/
import Derived.Test.YtfokodpnoiilbaaEng
import Derived.Test.YtfokodpnoiilbaaFnsA
namespace Go.Proofs.Ytfokodpnoiilbaa.E
open Go
set_option linter.unusedVariables false
set_option maxRecDepth 100000
/-! ## impl.skipStep -/
def F23 (k : Value → W) (sl_1 : Option Addr) (x2 : Int) (x3 : Int) (s4p : Option Addr) (s4l : Nat) (s4c : Nat) (x5 : Int) (x6 : Int) : W :=
 New [.int .i64 x2, .int .i64 x3, .slice s4p s4l s4c, .int .u64 x5, .int .i64 x6] 39 fun n7 =>
 New [.slice none 0 0, .slice none 0 0, .int .u64 0] 35 fun n8 =>
 New [.slice none 0 0, .slice none 0 0, .int .u64 0] 35 fun n9 =>
 LoadT (.int .i64) ⟨n7, 0, none⟩ fun x10 =>
 BIf (x10 == 1) (
  LoadT .slice ⟨n7, 2, none⟩ fun s11p s11l s11c =>
  CallT Go.Proofs.Try.prog 42 [.slice s11p s11l s11c] (.s (.one .slice)) fun s12p s12l s12c =>
  CallT Go.Proofs.Try.prog 41 [.pointer sl_1, .slice s12p s12l s12c] (.s (.one .slice)) fun s13p s13l s13c =>
  CallT Go.Proofs.Try.prog 40 [.pointer (some ⟨n9, 0, none⟩), .slice s13p s13l s13c] (.tup []) <|
  LoadT .slice ⟨n9, 0, none⟩ fun s14p s14l s14c =>
  LoadT .slice ⟨n9, 1, none⟩ fun s15p s15l s15c =>
  LoadT (.int .u64) ⟨n9, 2, none⟩ fun x16 =>
  Store1 ⟨n8, 0, none⟩ (.slice s14p s14l s14c) <|
  Store1 ⟨n8, 1, none⟩ (.slice s15p s15l s15c) <|
  Store1 ⟨n8, 2, none⟩ (.int .u64 x16) <|
  LoadT .slice ⟨n8, 0, none⟩ fun s17p s17l s17c =>
  LoadT .slice ⟨n8, 1, none⟩ fun s18p s18l s18c =>
  LoadT (.int .u64) ⟨n8, 2, none⟩ fun x19 =>
  k (.tuple #[.agg #[.slice s17p s17l s17c, .slice s18p s18l s18c, .int .u64 x19], .pointer none])) (
  BIf (x10 == 2) (
   LoadT .slice ⟨n7, 2, none⟩ fun s20p s20l s20c =>
   CallT Go.Proofs.Try.prog 42 [.slice s20p s20l s20c] (.s (.one .slice)) fun s21p s21l s21c =>
   CallT Go.Proofs.Try.prog 43 [.pointer sl_1, .slice s21p s21l s21c] (.s (.one .slice)) fun s22p s22l s22c =>
   CallT Go.Proofs.Try.prog 40 [.pointer (some ⟨n9, 0, none⟩), .slice s22p s22l s22c] (.tup []) <|
   LoadT .slice ⟨n9, 0, none⟩ fun s23p s23l s23c =>
   LoadT .slice ⟨n9, 1, none⟩ fun s24p s24l s24c =>
   LoadT (.int .u64) ⟨n9, 2, none⟩ fun x25 =>
   Store1 ⟨n8, 0, none⟩ (.slice s23p s23l s23c) <|
   Store1 ⟨n8, 1, none⟩ (.slice s24p s24l s24c) <|
   Store1 ⟨n8, 2, none⟩ (.int .u64 x25) <|
   LoadT .slice ⟨n8, 0, none⟩ fun s26p s26l s26c =>
   LoadT .slice ⟨n8, 1, none⟩ fun s27p s27l s27c =>
   LoadT (.int .u64) ⟨n8, 2, none⟩ fun x28 =>
   k (.tuple #[.agg #[.slice s26p s26l s26c, .slice s27p s27l s27c, .int .u64 x28], .pointer none])) (
   BIf (x10 == 3) (
    LoadT .slice ⟨n7, 2, none⟩ fun s29p s29l s29c =>
    CallT Go.Proofs.Try.prog 45 [.slice s29p s29l s29c] (.s (.agg [(.int .i64), (.int .i64)])) fun x30 x31 =>
    CallT Go.Proofs.Try.prog 44 [.pointer sl_1, .iface 118 (.agg #[.int .i64 x30, .int .i64 x31])] (.tup [(.one .any), (.one (.int .u64))]) fun v32 x33 =>
    CallT Go.Proofs.Try.prog 46 [.pointer (some ⟨n9, 0, none⟩), v32] (.tup []) <|
    Store1 ⟨n9, 2, none⟩ (.int .u64 x33) <|
    LoadT .slice ⟨n9, 0, none⟩ fun s34p s34l s34c =>
    LoadT .slice ⟨n9, 1, none⟩ fun s35p s35l s35c =>
    LoadT (.int .u64) ⟨n9, 2, none⟩ fun x36 =>
    Store1 ⟨n8, 0, none⟩ (.slice s34p s34l s34c) <|
    Store1 ⟨n8, 1, none⟩ (.slice s35p s35l s35c) <|
    Store1 ⟨n8, 2, none⟩ (.int .u64 x36) <|
    LoadT .slice ⟨n8, 0, none⟩ fun s37p s37l s37c =>
    LoadT .slice ⟨n8, 1, none⟩ fun s38p s38l s38c =>
    LoadT (.int .u64) ⟨n8, 2, none⟩ fun x39 =>
    k (.tuple #[.agg #[.slice s37p s37l s37c, .slice s38p s38l s38c, .int .u64 x39], .pointer none])) (
    BIf (x10 == 4) (
     LoadT .slice ⟨n7, 2, none⟩ fun s40p s40l s40c =>
     CallT Go.Proofs.Try.prog 42 [.slice s40p s40l s40c] (.s (.one .slice)) fun s41p s41l s41c =>
     CallT Go.Proofs.Try.prog 47 [.pointer sl_1, .slice s41p s41l s41c] (.s (.one .slice)) fun s42p s42l s42c =>
     CallT Go.Proofs.Try.prog 40 [.pointer (some ⟨n9, 0, none⟩), .slice s42p s42l s42c] (.tup []) <|
     LoadT .slice ⟨n9, 0, none⟩ fun s43p s43l s43c =>
     LoadT .slice ⟨n9, 1, none⟩ fun s44p s44l s44c =>
     LoadT (.int .u64) ⟨n9, 2, none⟩ fun x45 =>
     Store1 ⟨n8, 0, none⟩ (.slice s43p s43l s43c) <|
     Store1 ⟨n8, 1, none⟩ (.slice s44p s44l s44c) <|
     Store1 ⟨n8, 2, none⟩ (.int .u64 x45) <|
     LoadT .slice ⟨n8, 0, none⟩ fun s46p s46l s46c =>
     LoadT .slice ⟨n8, 1, none⟩ fun s47p s47l s47c =>
     LoadT (.int .u64) ⟨n8, 2, none⟩ fun x48 =>
     k (.tuple #[.agg #[.slice s46p s46l s46c, .slice s47p s47l s47c, .int .u64 x48], .pointer none])) (
     BIf (x10 == 5) (
      Drw <|
      LoadT .slice ⟨n7, 2, none⟩ fun s49p s49l s49c =>
      LoadT (.int .i64) ⟨n7, 4, none⟩ fun x50 =>
      CallT Go.Proofs.Try.prog 45 [.slice s49p s49l s49c] (.s (.agg [(.int .i64), (.int .i64)])) fun x51 x52 =>
      Chk1 ⟨n7, 4, none⟩ (.int .i64 x50) <|
      CallT Go.Proofs.Try.prog 49 [.pointer sl_1, .iface 118 (.agg #[.int .i64 x51, .int .i64 x52])] (.s (.one .any)) fun v53 =>
      Chk1 ⟨n7, 4, none⟩ (.int .i64 x50) <|
      Chk1 ⟨n7, 2, none⟩ (.slice s49p s49l s49c) <|
      CallT Go.Proofs.Try.prog 48 [.pointer (some ⟨n9, 0, none⟩), v53, .int .i64 x50] (.tup []) <|
      Chk1 ⟨n7, 2, none⟩ (.slice s49p s49l s49c) <|
      LoadT .slice ⟨n9, 0, none⟩ fun s54p s54l s54c =>
      LoadT .slice ⟨n9, 1, none⟩ fun s55p s55l s55c =>
      LoadT (.int .u64) ⟨n9, 2, none⟩ fun x56 =>
      Store1 ⟨n8, 0, none⟩ (.slice s54p s54l s54c) <|
      Store1 ⟨n8, 1, none⟩ (.slice s55p s55l s55c) <|
      Store1 ⟨n8, 2, none⟩ (.int .u64 x56) <|
      LoadT .slice ⟨n8, 0, none⟩ fun s57p s57l s57c =>
      LoadT .slice ⟨n8, 1, none⟩ fun s58p s58l s58c =>
      LoadT (.int .u64) ⟨n8, 2, none⟩ fun x59 =>
      k (.tuple #[.agg #[.slice s57p s57l s57c, .slice s58p s58l s58c, .int .u64 x59], .pointer none])) (
      BIf (x10 == 6) (
       CallT Go.Proofs.Try.prog 50 [.pointer sl_1] (.s (.one (.int .u64))) fun x60 =>
       Store1 ⟨n9, 2, none⟩ (.int .u64 x60) <|
       LoadT .slice ⟨n9, 0, none⟩ fun s61p s61l s61c =>
       LoadT .slice ⟨n9, 1, none⟩ fun s62p s62l s62c =>
       LoadT (.int .u64) ⟨n9, 2, none⟩ fun x63 =>
       Store1 ⟨n8, 0, none⟩ (.slice s61p s61l s61c) <|
       Store1 ⟨n8, 1, none⟩ (.slice s62p s62l s62c) <|
       Store1 ⟨n8, 2, none⟩ (.int .u64 x63) <|
       LoadT .slice ⟨n8, 0, none⟩ fun s64p s64l s64c =>
       LoadT .slice ⟨n8, 1, none⟩ fun s65p s65l s65c =>
       LoadT (.int .u64) ⟨n8, 2, none⟩ fun x66 =>
       k (.tuple #[.agg #[.slice s64p s64l s64c, .slice s65p s65l s65c, .int .u64 x66], .pointer none])) (
       BIf (x10 == 7) (
        Drw <|
        LoadT (.int .u64) ⟨n7, 3, none⟩ fun x67 =>
        LoadT .slice ⟨n7, 2, none⟩ fun s68p s68l s68c =>
        CallT Go.Proofs.Try.prog 45 [.slice s68p s68l s68c] (.s (.agg [(.int .i64), (.int .i64)])) fun x69 x70 =>
        Chk1 ⟨n7, 3, none⟩ (.int .u64 x67) <|
        CallT Go.Proofs.Try.prog 51 [.pointer sl_1, .int .u64 x67, .iface 118 (.agg #[.int .i64 x69, .int .i64 x70])] (.tup []) <|
        Chk1 ⟨n7, 2, none⟩ (.slice s68p s68l s68c) <|
        LoadT .slice ⟨n9, 0, none⟩ fun s71p s71l s71c =>
        LoadT .slice ⟨n9, 1, none⟩ fun s72p s72l s72c =>
        LoadT (.int .u64) ⟨n9, 2, none⟩ fun x73 =>
        Store1 ⟨n8, 0, none⟩ (.slice s71p s71l s71c) <|
        Store1 ⟨n8, 1, none⟩ (.slice s72p s72l s72c) <|
        Store1 ⟨n8, 2, none⟩ (.int .u64 x73) <|
        LoadT .slice ⟨n8, 0, none⟩ fun s74p s74l s74c =>
        LoadT .slice ⟨n8, 1, none⟩ fun s75p s75l s75c =>
        LoadT (.int .u64) ⟨n8, 2, none⟩ fun x76 =>
        k (.tuple #[.agg #[.slice s74p s74l s74c, .slice s75p s75l s75c, .int .u64 x76], .pointer none])) (
        BIf (x10 == 8) (
         Drw <|
         LoadT (.int .u64) ⟨n7, 3, none⟩ fun x77 =>
         LoadT .slice ⟨n7, 2, none⟩ fun s78p s78l s78c =>
         CallT Go.Proofs.Try.prog 45 [.slice s78p s78l s78c] (.s (.agg [(.int .i64), (.int .i64)])) fun x79 x80 =>
         Chk1 ⟨n7, 3, none⟩ (.int .u64 x77) <|
         CallT Go.Proofs.Try.prog 52 [.pointer sl_1, .int .u64 x77, .iface 118 (.agg #[.int .i64 x79, .int .i64 x80])] (.tup []) <|
         Chk1 ⟨n7, 2, none⟩ (.slice s78p s78l s78c) <|
         LoadT .slice ⟨n9, 0, none⟩ fun s81p s81l s81c =>
         LoadT .slice ⟨n9, 1, none⟩ fun s82p s82l s82c =>
         LoadT (.int .u64) ⟨n9, 2, none⟩ fun x83 =>
         Store1 ⟨n8, 0, none⟩ (.slice s81p s81l s81c) <|
         Store1 ⟨n8, 1, none⟩ (.slice s82p s82l s82c) <|
         Store1 ⟨n8, 2, none⟩ (.int .u64 x83) <|
         LoadT .slice ⟨n8, 0, none⟩ fun s84p s84l s84c =>
         LoadT .slice ⟨n8, 1, none⟩ fun s85p s85l s85c =>
         LoadT (.int .u64) ⟨n8, 2, none⟩ fun x86 =>
         k (.tuple #[.agg #[.slice s84p s84l s84c, .slice s85p s85l s85c, .int .u64 x86], .pointer none])) (
         BIf (x10 == 9) (
          LoadT (.int .u64) ⟨n7, 3, none⟩ fun x87 =>
          CallT Go.Proofs.Try.prog 53 [.pointer sl_1, .int .u64 x87] (.s (.one .any)) fun v88 =>
          CallT Go.Proofs.Try.prog 46 [.pointer (some ⟨n9, 0, none⟩), v88] (.tup []) <|
          LoadT .slice ⟨n9, 0, none⟩ fun s89p s89l s89c =>
          LoadT .slice ⟨n9, 1, none⟩ fun s90p s90l s90c =>
          LoadT (.int .u64) ⟨n9, 2, none⟩ fun x91 =>
          Store1 ⟨n8, 0, none⟩ (.slice s89p s89l s89c) <|
          Store1 ⟨n8, 1, none⟩ (.slice s90p s90l s90c) <|
          Store1 ⟨n8, 2, none⟩ (.int .u64 x91) <|
          LoadT .slice ⟨n8, 0, none⟩ fun s92p s92l s92c =>
          LoadT .slice ⟨n8, 1, none⟩ fun s93p s93l s93c =>
          LoadT (.int .u64) ⟨n8, 2, none⟩ fun x94 =>
          k (.tuple #[.agg #[.slice s92p s92l s92c, .slice s93p s93l s93c, .int .u64 x94], .pointer none])) (
          BIf (x10 == 10) (
           Drw <|
           LoadT (.int .u64) ⟨n7, 3, none⟩ fun x95 =>
           LoadT (.int .i64) ⟨n7, 4, none⟩ fun x96 =>
           CallT Go.Proofs.Try.prog 54 [.pointer sl_1, .int .u64 x95] (.s (.one .any)) fun v97 =>
           Chk1 ⟨n7, 4, none⟩ (.int .i64 x96) <|
           CallT Go.Proofs.Try.prog 48 [.pointer (some ⟨n9, 0, none⟩), v97, .int .i64 x96] (.tup []) <|
           Chk1 ⟨n7, 3, none⟩ (.int .u64 x95) <|
           LoadT .slice ⟨n9, 0, none⟩ fun s98p s98l s98c =>
           LoadT .slice ⟨n9, 1, none⟩ fun s99p s99l s99c =>
           LoadT (.int .u64) ⟨n9, 2, none⟩ fun x100 =>
           Store1 ⟨n8, 0, none⟩ (.slice s98p s98l s98c) <|
           Store1 ⟨n8, 1, none⟩ (.slice s99p s99l s99c) <|
           Store1 ⟨n8, 2, none⟩ (.int .u64 x100) <|
           LoadT .slice ⟨n8, 0, none⟩ fun s101p s101l s101c =>
           LoadT .slice ⟨n8, 1, none⟩ fun s102p s102l s102c =>
           LoadT (.int .u64) ⟨n8, 2, none⟩ fun x103 =>
           k (.tuple #[.agg #[.slice s101p s101l s101c, .slice s102p s102l s102c, .int .u64 x103], .pointer none])) (
           BIf (x10 == 11) (
            LoadT (.int .u64) ⟨n7, 3, none⟩ fun x104 =>
            CallT Go.Proofs.Try.prog 55 [.pointer sl_1, .int .u64 x104] (.tup [(.one .ptr), (.one .ptr)]) fun p105 p106 =>
            LoadT .slice ⟨n9, 0, none⟩ fun s107p s107l s107c =>
            LoadT .slice ⟨n9, 1, none⟩ fun s108p s108l s108c =>
            LoadT (.int .u64) ⟨n9, 2, none⟩ fun x109 =>
            Store1 ⟨n8, 0, none⟩ (.slice s107p s107l s107c) <|
            Store1 ⟨n8, 1, none⟩ (.slice s108p s108l s108c) <|
            Store1 ⟨n8, 2, none⟩ (.int .u64 x109) <|
            LoadT .slice ⟨n8, 0, none⟩ fun s110p s110l s110c =>
            LoadT .slice ⟨n8, 1, none⟩ fun s111p s111l s111c =>
            LoadT (.int .u64) ⟨n8, 2, none⟩ fun x112 =>
            k (.tuple #[.agg #[.slice s110p s110l s110c, .slice s111p s111l s111c, .int .u64 x112], .pointer p106])) (
            LoadT .slice ⟨n9, 0, none⟩ fun s113p s113l s113c =>
            LoadT .slice ⟨n9, 1, none⟩ fun s114p s114l s114c =>
            LoadT (.int .u64) ⟨n9, 2, none⟩ fun x115 =>
            Store1 ⟨n8, 0, none⟩ (.slice s113p s113l s113c) <|
            Store1 ⟨n8, 1, none⟩ (.slice s114p s114l s114c) <|
            Store1 ⟨n8, 2, none⟩ (.int .u64 x115) <|
            LoadT .slice ⟨n8, 0, none⟩ fun s116p s116l s116c =>
            LoadT .slice ⟨n8, 1, none⟩ fun s117p s117l s117c =>
            LoadT (.int .u64) ⟨n8, 2, none⟩ fun x118 =>
            k (.tuple #[.agg #[.slice s116p s116l s116c, .slice s117p s117l s117c, .int .u64 x118], .pointer none]))))))))))))
theorem F23_eq (k : Value → W) (sl_1 : Option Addr) (x2 : Int) (x3 : Int) (s4p : Option Addr) (s4l : Nat) (s4c : Nat) (x5 : Int) (x6 : Int) : compF Go.Proofs.Try.prog Go.Proofs.Try.f23 [] (Go.Proofs.Try.f23.body.getD .skip) [.pointer sl_1, .agg #[.int .i64 x2, .int .i64 x3, .slice s4p s4l s4c, .int .u64 x5, .int .i64 x6]] k = F23 k sl_1 x2 x3 s4p s4l s4c x5 x6 := by kernel_rfl
theorem F23_calls {sl_1 : Option Addr} {x2 : Int} {x3 : Int} {s4p : Option Addr} {s4l : Nat} {s4c : Nat} {x5 : Int} {x6 : Int} {w : World} {R : Ending → World → Prop} (h : F23 (fun v w => R (.returned v) w) sl_1 x2 x3 s4p s4l s4c x5 x6 w) : Calls Go.Proofs.Try.prog 23 #[.pointer sl_1, .agg #[.int .i64 x2, .int .i64 x3, .slice s4p s4l s4c, .int .u64 x5, .int .i64 x6]] w R :=
  calls_of_compF noNum follows [] (f := 23) (fn := Go.Proofs.Try.f23) (body := Go.Proofs.Try.f23.body.getD .skip) (args := [.pointer sl_1, .agg #[.int .i64 x2, .int .i64 x3, .slice s4p s4l s4c, .int .u64 x5, .int .i64 x6]]) rfl rfl (Nat.le_of_ble_eq_true rfl) ((congrFun (F23_eq _ sl_1 x2 x3 s4p s4l s4c x5 x6) w).mpr h)
theorem F23_call {sl_1 : Option Addr} {x2 : Int} {x3 : Int} {s4p : Option Addr} {s4l : Nat} {s4c : Nat} {x5 : Int} {x6 : Int} {w : World} {g : Fn W (RTy.leaves (.tup [(.agg [.slice, .slice, (.int .u64)]), (.one .ptr)]))} (h : F23 (fun v => Back (.tup [(.agg [.slice, .slice, (.int .u64)]), (.one .ptr)]) g (.returned v)) sl_1 x2 x3 s4p s4l s4c x5 x6 w) : CallT Go.Proofs.Try.prog 23 [.pointer sl_1, .agg #[.int .i64 x2, .int .i64 x3, .slice s4p s4l s4c, .int .u64 x5, .int .i64 x6]] (.tup [(.agg [.slice, .slice, (.int .u64)]), (.one .ptr)]) g w := F23_calls h

/-! ## impl.SKRun -/
def F9_J3 (k : Value → W) (again12 : Option Addr → Nat → Nat → Option Addr → Nat → Nat → Option Addr → Nat → Nat → Int → Int → W) (l_52p : Option Addr) (l_52l : Nat) (l_52c : Nat) (out_53p : Option Addr) (out_53l : Nat) (out_53c : Nat) (said_54 : Addr) (s55p : Option Addr) (s55l : Nat) (s55c : Nat) (x56 : Int) (x57 : Int) : W :=
 LoadT .slice (said_54.add 0) fun s58p s58l s58c =>
 LoadT .slice (said_54.add 1) fun s59p s59l s59c =>
 LoadT (.int .u64) (said_54.add 2) fun x60 =>
 RawT Go.Proofs.Try.prog (Instr.buildSlice 28 1 [(0, .agg #[.slice s58p s58l s58c, .slice s59p s59l s59c, .int .u64 x60])].toArray) (.s (.one .slice)) fun s61p s61l s61c =>
 NextT Go.Proofs.Try.prog (builtin .append #[28, 28] 28 [false, false].toArray [.slice out_53p out_53l out_53c, .slice s61p s61l s61c].toArray) (.s (.one .slice)) fun s62p s62l s62c =>
 again12 l_52p l_52l l_52c s62p s62l s62c s55p s55l s55c x56 (addI .i64 x57 1)
def F9_J2 (k : Value → W) (again12 : Option Addr → Nat → Nat → Option Addr → Nat → Nat → Option Addr → Nat → Nat → Int → Int → W) (l_43p : Option Addr) (l_43l : Nat) (l_43c : Nat) (out_44p : Option Addr) (out_44l : Nat) (out_44c : Nat) (said_45 : Addr) (right_46 : Option Addr) (s47p : Option Addr) (s47l : Nat) (s47c : Nat) (x48 : Int) (x49 : Int) : W :=
 BIf (!right_46.isNone) (
  RawT Go.Proofs.Try.prog (Instr.buildSlice 75 1 [(0, .pointer right_46)].toArray) (.s (.one .slice)) fun s50p s50l s50c =>
  NextT Go.Proofs.Try.prog (builtin .append #[75, 75] 75 [false, false].toArray [.slice l_43p l_43l l_43c, .slice s50p s50l s50c].toArray) (.s (.one .slice)) fun s51p s51l s51c =>
  F9_J3 k again12 s51p s51l s51c out_44p out_44l out_44c said_45 s47p s47l s47c x48 x49) (
  F9_J3 k again12 l_43p l_43l l_43c out_44p out_44l out_44c said_45 s47p s47l s47c x48 x49)
def F9_J1 (k : Value → W) (again12 : Option Addr → Nat → Nat → Option Addr → Nat → Nat → Option Addr → Nat → Nat → Int → Int → W) (l_21p : Option Addr) (l_21l : Nat) (l_21c : Nat) (out_22p : Option Addr) (out_22l : Nat) (out_22c : Nat) (s_23 : Addr) (s24p : Option Addr) (s24l : Nat) (s24c : Nat) (x25 : Int) (x26 : Int) (b27 : Bool) : W :=
 BIf b27 (
  RawT Go.Proofs.Try.prog (Instr.buildSlice 28 1 [(0, .agg #[.slice none 0 0, .slice none 0 0, .int .u64 0])].toArray) (.s (.one .slice)) fun s28p s28l s28c =>
  NextT Go.Proofs.Try.prog (builtin .append #[28, 28] 28 [false, false].toArray [.slice out_22p out_22l out_22c, .slice s28p s28l s28c].toArray) (.s (.one .slice)) fun s29p s29l s29c =>
  again12 l_21p l_21l l_21c s29p s29l s29c s24p s24l s24c x25 (addI .i64 x26 1)) (
  Drw <|
  LoadT (.int .i64) (s_23.add 1) fun x30 =>
  NN l_21p fun a31 =>
  Req (0 ≤ x30 ∧ x30 < ((l_21l : Nat) : Int)) <|
  LoadT .ptr (a31.add x30.toNat) fun p32 =>
  LoadT (.int .i64) (s_23.add 0) fun x33 =>
  LoadT (.int .i64) (s_23.add 1) fun x34 =>
  LoadT .slice (s_23.add 2) fun s35p s35l s35c =>
  LoadT (.int .u64) (s_23.add 3) fun x36 =>
  LoadT (.int .i64) (s_23.add 4) fun x37 =>
  Both (
   CallT Go.Proofs.Try.prog 23 [.pointer p32, .agg #[.int .i64 x33, .int .i64 x34, .slice s35p s35l s35c, .int .u64 x36, .int .i64 x37]] (.tup [(.agg [.slice, .slice, (.int .u64)]), (.one .ptr)]) fun s38p s38l s38c s39p s39l s39c x40 p41 =>
   Chk1 (s_23.add 1) (.int .i64 x30) <|
   New [.slice none 0 0, .slice none 0 0, .int .u64 0] 35 fun n42 =>
   Chk1 (s_23.add 0) (.int .i64 x33) <|
   Chk1 (s_23.add 1) (.int .i64 x34) <|
   Chk1 (s_23.add 2) (.slice s35p s35l s35c) <|
   Chk1 (s_23.add 3) (.int .u64 x36) <|
   Chk1 (s_23.add 4) (.int .i64 x37) <|
   Chk1 (a31.add x30.toNat) (.pointer p32) <|
   Chk1 (s_23.add 1) (.int .i64 x30) <|
   Store1 ⟨n42, 0, none⟩ (.slice s38p s38l s38c) <|
   Store1 ⟨n42, 1, none⟩ (.slice s39p s39l s39c) <|
   Store1 ⟨n42, 2, none⟩ (.int .u64 x40) <|
   F9_J2 k again12 l_21p l_21l l_21c out_22p out_22l out_22c ⟨n42, 0, none⟩ p41 s24p s24l s24c x25 x26) (
   New [.slice none 0 0, .slice none 0 0, .int .u64 0] 35 fun n63 =>
   Chk1 (s_23.add 0) (.int .i64 x33) <|
   Chk1 (s_23.add 1) (.int .i64 x34) <|
   Chk1 (s_23.add 2) (.slice s35p s35l s35c) <|
   Chk1 (s_23.add 3) (.int .u64 x36) <|
   Chk1 (s_23.add 4) (.int .i64 x37) <|
   Chk1 (a31.add x30.toNat) (.pointer p32) <|
   Chk1 (s_23.add 1) (.int .i64 x30) <|
   CallT Go.Proofs.Try.prog 23 [.pointer p32, .agg #[.int .i64 x33, .int .i64 x34, .slice s35p s35l s35c, .int .u64 x36, .int .i64 x37]] (.tup [(.agg [.slice, .slice, (.int .u64)]), (.one .ptr)]) fun s64p s64l s64c s65p s65l s65c x66 p67 =>
   Chk1 (s_23.add 1) (.int .i64 x30) <|
   Store1 ⟨n63, 0, none⟩ (.slice s64p s64l s64c) <|
   Store1 ⟨n63, 1, none⟩ (.slice s65p s65l s65c) <|
   Store1 ⟨n63, 2, none⟩ (.int .u64 x66) <|
   F9_J2 k again12 l_21p l_21l l_21c out_22p out_22l out_22c ⟨n63, 0, none⟩ p67 s24p s24l s24c x25 x26))
def F9_L1 (k : Value → W) (again12 : Option Addr → Nat → Nat → Option Addr → Nat → Nat → Option Addr → Nat → Nat → Int → Int → W) (l_7p : Option Addr) (l_7l : Nat) (l_7c : Nat) (out_8p : Option Addr) (out_8l : Nat) (out_8c : Nat) (s9p : Option Addr) (s9l : Nat) (s9c : Nat) (x10 : Int) (x11 : Int) : W :=
 BIf (decide (x11 < x10)) (
  NN s9p fun a13 =>
  Req (0 ≤ x11 ∧ x11 < ((s9l : Nat) : Int)) <|
  LoadT (.int .i64) ((a13.add (x11.toNat * 5)).add 0) fun x14 =>
  LoadT (.int .i64) ((a13.add (x11.toNat * 5)).add 1) fun x15 =>
  LoadT .slice ((a13.add (x11.toNat * 5)).add 2) fun s16p s16l s16c =>
  LoadT (.int .u64) ((a13.add (x11.toNat * 5)).add 3) fun x17 =>
  LoadT (.int .i64) ((a13.add (x11.toNat * 5)).add 4) fun x18 =>
  New [.int .i64 0, .int .i64 0, .slice none 0 0, .int .u64 0, .int .i64 0] 39 fun n19 =>
  Store1 ⟨n19, 0, none⟩ (.int .i64 x14) <|
  Store1 ⟨n19, 1, none⟩ (.int .i64 x15) <|
  Store1 ⟨n19, 2, none⟩ (.slice s16p s16l s16c) <|
  Store1 ⟨n19, 3, none⟩ (.int .u64 x17) <|
  Store1 ⟨n19, 4, none⟩ (.int .i64 x18) <|
  LoadT (.int .i64) ⟨n19, 1, none⟩ fun x20 =>
  BIf (decide (x20 < 0)) (
   F9_J1 k again12 l_7p l_7l l_7c out_8p out_8l out_8c ⟨n19, 0, none⟩ s9p s9l s9c x10 x11 true) (
   LoadT (.int .i64) ⟨n19, 1, none⟩ fun x68 =>
   F9_J1 k again12 l_7p l_7l l_7c out_8p out_8l out_8c ⟨n19, 0, none⟩ s9p s9l s9c x10 x11 (decide (x68 ≥ ((l_7l : Nat) : Int))))) (
  k (.slice out_8p out_8l out_8c))
theorem F9_L1_rule {k : Value → W} (I : Option Addr → Nat → Nat → Option Addr → Nat → Nat → Option Addr → Nat → Nat → Int → Int → W) (μ : Option Addr → Nat → Nat → Option Addr → Nat → Nat → Option Addr → Nat → Nat → Int → Int → World → Nat)
  (hr : ∀ (l_7p : Option Addr) (l_7l : Nat) (l_7c : Nat) (out_8p : Option Addr) (out_8l : Nat) (out_8c : Nat) (s9p : Option Addr) (s9l : Nat) (s9c : Nat) (x10 : Int) (x11 : Int) (w : World), I l_7p l_7l l_7c out_8p out_8l out_8c s9p s9l s9c x10 x11 w → F9_L1 k (fun l_7p' l_7l' l_7c' out_8p' out_8l' out_8c' s9p' s9l' s9c' x10' x11' w' => I l_7p' l_7l' l_7c' out_8p' out_8l' out_8c' s9p' s9l' s9c' x10' x11' w' ∧ μ l_7p' l_7l' l_7c' out_8p' out_8l' out_8c' s9p' s9l' s9c' x10' x11' w' < μ l_7p l_7l l_7c out_8p out_8l out_8c s9p s9l s9c x10 x11 w) l_7p l_7l l_7c out_8p out_8l out_8c s9p s9l s9c x10 x11 w)
  {w : World} {l_7p : Option Addr} {l_7l : Nat} {l_7c : Nat} {out_8p : Option Addr} {out_8l : Nat} {out_8c : Nat} {s9p : Option Addr} {s9l : Nat} {s9c : Nat} {x10 : Int} {x11 : Int} (h : I l_7p l_7l l_7c out_8p out_8l out_8c s9p s9l s9c x10 x11 w) : Loop [.slice, .slice, .slice, (.int .i64), (.int .i64)] (F9_L1 k) l_7p l_7l l_7c out_8p out_8l out_8c s9p s9l s9c x10 x11 w :=
  Loop_intro (ts := [.slice, .slice, .slice, (.int .i64), (.int .i64)]) (s := ((l_7p, l_7l, l_7c), (out_8p, out_8l, out_8c), (s9p, s9l, s9c), x10, x11, ())) (fun s w => I s.1.1 s.1.2.1 s.1.2.2 s.2.1.1 s.2.1.2.1 s.2.1.2.2 s.2.2.1.1 s.2.2.1.2.1 s.2.2.1.2.2 s.2.2.2.1 s.2.2.2.2.1 w) (fun s w => μ s.1.1 s.1.2.1 s.1.2.2 s.2.1.1 s.2.1.2.1 s.2.1.2.2 s.2.2.1.1 s.2.2.1.2.1 s.2.2.1.2.2 s.2.2.2.1 s.2.2.2.2.1 w) h (fun s w h => hr s.1.1 s.1.2.1 s.1.2.2 s.2.1.1 s.2.1.2.1 s.2.1.2.2 s.2.2.1.1 s.2.2.1.2.1 s.2.2.1.2.2 s.2.2.2.1 s.2.2.2.2.1 w h)
def F9 (k : Value → W) (bits_1 : Int) (seed_2 : Int) (steps_3p : Option Addr) (steps_3l : Nat) (steps_3c : Nat) : W :=
 CallT Go.Proofs.Try.prog 22 [.int .i64 bits_1] (.s (.one .any)) fun v4 =>
 CallT Go.Proofs.Try.prog 21 [v4, .int .u64 (IntKind.wrap .u64 seed_2)] (.s (.one .ptr)) fun p5 =>
 RawT Go.Proofs.Try.prog (Instr.buildSlice 75 1 [(0, .pointer p5)].toArray) (.s (.one .slice)) fun s6p s6l s6c =>
 Loop [.slice, .slice, .slice, (.int .i64), (.int .i64)] (F9_L1 k) s6p s6l s6c none 0 0 steps_3p steps_3l steps_3c ((steps_3l : Nat) : Int) 0
theorem F9_eq (k : Value → W) (bits_1 : Int) (seed_2 : Int) (steps_3p : Option Addr) (steps_3l : Nat) (steps_3c : Nat) : compF Go.Proofs.Try.prog Go.Proofs.Try.f9 [(4, [(7, .slice), (8, .slice), (19, .slice), (20, (.int .i64)), (21, (.int .i64))])] (Go.Proofs.Try.f9.body.getD .skip) [.int .i64 bits_1, .int .i64 seed_2, .slice steps_3p steps_3l steps_3c] k = F9 k bits_1 seed_2 steps_3p steps_3l steps_3c := by kernel_rfl
theorem F9_calls {bits_1 : Int} {seed_2 : Int} {steps_3p : Option Addr} {steps_3l : Nat} {steps_3c : Nat} {w : World} {R : Ending → World → Prop} (h : F9 (fun v w => R (.returned v) w) bits_1 seed_2 steps_3p steps_3l steps_3c w) : Calls Go.Proofs.Try.prog 9 #[.int .i64 bits_1, .int .i64 seed_2, .slice steps_3p steps_3l steps_3c] w R :=
  calls_of_compF noNum follows [(4, [(7, .slice), (8, .slice), (19, .slice), (20, (.int .i64)), (21, (.int .i64))])] (f := 9) (fn := Go.Proofs.Try.f9) (body := Go.Proofs.Try.f9.body.getD .skip) (args := [.int .i64 bits_1, .int .i64 seed_2, .slice steps_3p steps_3l steps_3c]) rfl rfl (Nat.le_of_ble_eq_true rfl) ((congrFun (F9_eq _ bits_1 seed_2 steps_3p steps_3l steps_3c) w).mpr h)
theorem F9_call {bits_1 : Int} {seed_2 : Int} {steps_3p : Option Addr} {steps_3l : Nat} {steps_3c : Nat} {w : World} {g : Fn W (RTy.leaves (.s (.one .slice)))} (h : F9 (fun v => Back (.s (.one .slice)) g (.returned v)) bits_1 seed_2 steps_3p steps_3l steps_3c w) : CallT Go.Proofs.Try.prog 9 [.int .i64 bits_1, .int .i64 seed_2, .slice steps_3p steps_3l steps_3c] (.s (.one .slice)) g w := F9_calls h

/-! ## laws.skPlays -/
def F7_L1 (k : Value → W) (again13 : Option Addr → Nat → Nat → Option Addr → Nat → Nat → Option Addr → Nat → Nat → Bool → Int → W) (steps_8p : Option Addr) (steps_8l : Nat) (steps_8c : Nat) (l_9p : Option Addr) (l_9l : Nat) (l_9c : Nat) (now_10p : Option Addr) (now_10l : Nat) (now_10c : Nat) (is_11 : Bool) (i_12 : Int) : W :=
 BIf (decide (i_12 < ((steps_8l : Nat) : Int))) (
  BIf is_11 (
   Drw <|
   NN steps_8p fun a14 =>
   Req (0 ≤ i_12 ∧ i_12 < ((steps_8l : Nat) : Int)) <|
   LoadT (.int .i64) ((a14.add (i_12.toNat * 5)).add 0) fun x15 =>
   LoadT (.int .i64) ((a14.add (i_12.toNat * 5)).add 1) fun x16 =>
   LoadT .slice ((a14.add (i_12.toNat * 5)).add 2) fun s17p s17l s17c =>
   LoadT (.int .u64) ((a14.add (i_12.toNat * 5)).add 3) fun x18 =>
   LoadT (.int .i64) ((a14.add (i_12.toNat * 5)).add 4) fun x19 =>
   NN l_9p fun a20 =>
   Req (0 ≤ i_12 ∧ i_12 < ((l_9l : Nat) : Int)) <|
   LoadT .slice ((a20.add (i_12.toNat * 3)).add 0) fun s21p s21l s21c =>
   LoadT .slice ((a20.add (i_12.toNat * 3)).add 1) fun s22p s22l s22c =>
   LoadT (.int .u64) ((a20.add (i_12.toNat * 3)).add 2) fun x23 =>
   CallT Go.Proofs.Try.prog 17 [.slice now_10p now_10l now_10c, .agg #[.int .i64 x15, .int .i64 x16, .slice s17p s17l s17c, .int .u64 x18, .int .i64 x19], .agg #[.slice s21p s21l s21c, .slice s22p s22l s22c, .int .u64 x23]] (.tup [(.one .slice), (.one .bool)]) fun s24p s24l s24c b25 =>
   again13 steps_8p steps_8l steps_8c l_9p l_9l l_9c s24p s24l s24c b25 (addI .i64 i_12 1)) (
   k (.bool is_11))) (
  k (.bool is_11))
theorem F7_L1_rule {k : Value → W} (I : Option Addr → Nat → Nat → Option Addr → Nat → Nat → Option Addr → Nat → Nat → Bool → Int → W) (μ : Option Addr → Nat → Nat → Option Addr → Nat → Nat → Option Addr → Nat → Nat → Bool → Int → World → Nat)
  (hr : ∀ (steps_8p : Option Addr) (steps_8l : Nat) (steps_8c : Nat) (l_9p : Option Addr) (l_9l : Nat) (l_9c : Nat) (now_10p : Option Addr) (now_10l : Nat) (now_10c : Nat) (is_11 : Bool) (i_12 : Int) (w : World), I steps_8p steps_8l steps_8c l_9p l_9l l_9c now_10p now_10l now_10c is_11 i_12 w → F7_L1 k (fun steps_8p' steps_8l' steps_8c' l_9p' l_9l' l_9c' now_10p' now_10l' now_10c' is_11' i_12' w' => I steps_8p' steps_8l' steps_8c' l_9p' l_9l' l_9c' now_10p' now_10l' now_10c' is_11' i_12' w' ∧ μ steps_8p' steps_8l' steps_8c' l_9p' l_9l' l_9c' now_10p' now_10l' now_10c' is_11' i_12' w' < μ steps_8p steps_8l steps_8c l_9p l_9l l_9c now_10p now_10l now_10c is_11 i_12 w) steps_8p steps_8l steps_8c l_9p l_9l l_9c now_10p now_10l now_10c is_11 i_12 w)
  {w : World} {steps_8p : Option Addr} {steps_8l : Nat} {steps_8c : Nat} {l_9p : Option Addr} {l_9l : Nat} {l_9c : Nat} {now_10p : Option Addr} {now_10l : Nat} {now_10c : Nat} {is_11 : Bool} {i_12 : Int} (h : I steps_8p steps_8l steps_8c l_9p l_9l l_9c now_10p now_10l now_10c is_11 i_12 w) : Loop [.slice, .slice, .slice, .bool, (.int .i64)] (F7_L1 k) steps_8p steps_8l steps_8c l_9p l_9l l_9c now_10p now_10l now_10c is_11 i_12 w :=
  Loop_intro (ts := [.slice, .slice, .slice, .bool, (.int .i64)]) (s := ((steps_8p, steps_8l, steps_8c), (l_9p, l_9l, l_9c), (now_10p, now_10l, now_10c), is_11, i_12, ())) (fun s w => I s.1.1 s.1.2.1 s.1.2.2 s.2.1.1 s.2.1.2.1 s.2.1.2.2 s.2.2.1.1 s.2.2.1.2.1 s.2.2.1.2.2 s.2.2.2.1 s.2.2.2.2.1 w) (fun s w => μ s.1.1 s.1.2.1 s.1.2.2 s.2.1.1 s.2.1.2.1 s.2.1.2.2 s.2.2.1.1 s.2.2.1.2.1 s.2.2.1.2.2 s.2.2.2.1 s.2.2.2.2.1 w) h (fun s w h => hr s.1.1 s.1.2.1 s.1.2.2 s.2.1.1 s.2.1.2.1 s.2.1.2.2 s.2.2.1.1 s.2.2.1.2.1 s.2.2.1.2.2 s.2.2.2.1 s.2.2.2.2.1 w h)
def F7 (k : Value → W) (size_1 : Int) (seed_2 : Int) (moves_3p : Option Addr) (moves_3l : Nat) (moves_3c : Nat) (kinds_4p : Option Addr) (kinds_4l : Nat) (kinds_4c : Nat) : W :=
 CallT Go.Proofs.Try.prog 8 [.slice moves_3p moves_3l moves_3c, .slice kinds_4p kinds_4l kinds_4c] (.s (.one .slice)) fun s5p s5l s5c =>
 CallT Go.Proofs.Try.prog 10 [.int .u8 size_1] (.s (.one (.int .i64))) fun x6 =>
 CallT Go.Proofs.Try.prog 9 [.int .i64 x6, .int .i64 seed_2, .slice s5p s5l s5c] (.s (.one .slice)) fun s7p s7l s7c =>
 BIf (((s7l : Nat) : Int) != ((s5l : Nat) : Int)) (
  k (.bool false)) (
  Loop [.slice, .slice, .slice, .bool, (.int .i64)] (F7_L1 k) s5p s5l s5c s7p s7l s7c none 0 0 true 0)
theorem F7_eq (k : Value → W) (size_1 : Int) (seed_2 : Int) (moves_3p : Option Addr) (moves_3l : Nat) (moves_3c : Nat) (kinds_4p : Option Addr) (kinds_4l : Nat) (kinds_4c : Nat) : compF Go.Proofs.Try.prog Go.Proofs.Try.f7 [(8, [(9, .slice), (10, .slice), (11, .slice), (12, .bool), (13, (.int .i64))])] (Go.Proofs.Try.f7.body.getD .skip) [.int .u8 size_1, .int .i64 seed_2, .slice moves_3p moves_3l moves_3c, .slice kinds_4p kinds_4l kinds_4c] k = F7 k size_1 seed_2 moves_3p moves_3l moves_3c kinds_4p kinds_4l kinds_4c := by kernel_rfl
theorem F7_calls {size_1 : Int} {seed_2 : Int} {moves_3p : Option Addr} {moves_3l : Nat} {moves_3c : Nat} {kinds_4p : Option Addr} {kinds_4l : Nat} {kinds_4c : Nat} {w : World} {R : Ending → World → Prop} (h : F7 (fun v w => R (.returned v) w) size_1 seed_2 moves_3p moves_3l moves_3c kinds_4p kinds_4l kinds_4c w) : Calls Go.Proofs.Try.prog 7 #[.int .u8 size_1, .int .i64 seed_2, .slice moves_3p moves_3l moves_3c, .slice kinds_4p kinds_4l kinds_4c] w R :=
  calls_of_compF noNum follows [(8, [(9, .slice), (10, .slice), (11, .slice), (12, .bool), (13, (.int .i64))])] (f := 7) (fn := Go.Proofs.Try.f7) (body := Go.Proofs.Try.f7.body.getD .skip) (args := [.int .u8 size_1, .int .i64 seed_2, .slice moves_3p moves_3l moves_3c, .slice kinds_4p kinds_4l kinds_4c]) rfl rfl (Nat.le_of_ble_eq_true rfl) ((congrFun (F7_eq _ size_1 seed_2 moves_3p moves_3l moves_3c kinds_4p kinds_4l kinds_4c) w).mpr h)
theorem F7_call {size_1 : Int} {seed_2 : Int} {moves_3p : Option Addr} {moves_3l : Nat} {moves_3c : Nat} {kinds_4p : Option Addr} {kinds_4l : Nat} {kinds_4c : Nat} {w : World} {g : Fn W (RTy.leaves (.s (.one .bool)))} (h : F7 (fun v => Back (.s (.one .bool)) g (.returned v)) size_1 seed_2 moves_3p moves_3l moves_3c kinds_4p kinds_4l kinds_4c w) : CallT Go.Proofs.Try.prog 7 [.int .u8 size_1, .int .i64 seed_2, .slice moves_3p moves_3l moves_3c, .slice kinds_4p kinds_4l kinds_4c] (.s (.one .bool)) g w := F7_calls h

/-! ## laws.FnSKInserts -/
def F3 (k : Value → W) (size_1 : Int) (seed_2 : Int) (moves_3p : Option Addr) (moves_3l : Nat) (moves_3c : Nat) : W :=
 BIf (decide (((moves_3l : Nat) : Int) > 2147483647)) (
  k (.bool true)) (
  RawT Go.Proofs.Try.prog (Instr.buildSlice 24 5 [(0, .int .i64 1), (1, .int .i64 1), (2, .int .i64 2), (3, .int .i64 1), (4, .int .i64 6)].toArray) (.s (.one .slice)) fun s4p s4l s4c =>
  CallT Go.Proofs.Try.prog 7 [.int .u8 size_1, .int .i64 seed_2, .slice moves_3p moves_3l moves_3c, .slice s4p s4l s4c] (.s (.one .bool)) fun b5 =>
  k (.bool b5))
theorem F3_eq (k : Value → W) (size_1 : Int) (seed_2 : Int) (moves_3p : Option Addr) (moves_3l : Nat) (moves_3c : Nat) : compF Go.Proofs.Try.prog Go.Proofs.Try.f3 [] (Go.Proofs.Try.f3.body.getD .skip) [.int .u8 size_1, .int .i64 seed_2, .slice moves_3p moves_3l moves_3c] k = F3 k size_1 seed_2 moves_3p moves_3l moves_3c := by kernel_rfl
theorem F3_calls {size_1 : Int} {seed_2 : Int} {moves_3p : Option Addr} {moves_3l : Nat} {moves_3c : Nat} {w : World} {R : Ending → World → Prop} (h : F3 (fun v w => R (.returned v) w) size_1 seed_2 moves_3p moves_3l moves_3c w) : Calls Go.Proofs.Try.prog 3 #[.int .u8 size_1, .int .i64 seed_2, .slice moves_3p moves_3l moves_3c] w R :=
  calls_of_compF noNum follows [] (f := 3) (fn := Go.Proofs.Try.f3) (body := Go.Proofs.Try.f3.body.getD .skip) (args := [.int .u8 size_1, .int .i64 seed_2, .slice moves_3p moves_3l moves_3c]) rfl rfl (Nat.le_of_ble_eq_true rfl) ((congrFun (F3_eq _ size_1 seed_2 moves_3p moves_3l moves_3c) w).mpr h)
theorem F3_call {size_1 : Int} {seed_2 : Int} {moves_3p : Option Addr} {moves_3l : Nat} {moves_3c : Nat} {w : World} {g : Fn W (RTy.leaves (.s (.one .bool)))} (h : F3 (fun v => Back (.s (.one .bool)) g (.returned v)) size_1 seed_2 moves_3p moves_3l moves_3c w) : CallT Go.Proofs.Try.prog 3 [.int .u8 size_1, .int .i64 seed_2, .slice moves_3p moves_3l moves_3c] (.s (.one .bool)) g w := F3_calls h

/-! ## laws.FnSKSeeds -/
def F4_L3 (k : Value → W) (again17 : Int → Int → Option Addr → Nat → Nat → Option Addr → Nat → Nat → Option Addr → Nat → Nat → Int → W) (again58 : Int → Int → Option Addr → Nat → Nat → Option Addr → Nat → Nat → Option Addr → Nat → Nat → Int → Int → W) (size_51 : Int) (one_52 : Int) (steps_53p : Option Addr) (steps_53l : Nat) (steps_53c : Nat) (a_54p : Option Addr) (a_54l : Nat) (a_54c : Nat) (b_55p : Option Addr) (b_55l : Nat) (b_55c : Nat) (i_56 : Int) (k_57 : Int) : W :=
 NN a_54p fun a59 =>
 Req (0 ≤ i_56 ∧ i_56 < ((a_54l : Nat) : Int)) <|
 LoadT .slice ((a59.add (i_56.toNat * 3)).add 1) fun s60p s60l s60c =>
 BIf (decide (k_57 < ((s60l : Nat) : Int))) (
  Drw <|
  NN a_54p fun a61 =>
  Req (0 ≤ i_56 ∧ i_56 < ((a_54l : Nat) : Int)) <|
  LoadT .slice ((a61.add (i_56.toNat * 3)).add 1) fun s62p s62l s62c =>
  NN s62p fun a63 =>
  Req (0 ≤ k_57 ∧ k_57 < ((s62l : Nat) : Int)) <|
  LoadT .bool (a63.add k_57.toNat) fun b64 =>
  NN b_55p fun a65 =>
  Req (0 ≤ i_56 ∧ i_56 < ((b_55l : Nat) : Int)) <|
  LoadT .slice ((a65.add (i_56.toNat * 3)).add 1) fun s66p s66l s66c =>
  NN s66p fun a67 =>
  Req (0 ≤ k_57 ∧ k_57 < ((s66l : Nat) : Int)) <|
  LoadT .bool (a67.add k_57.toNat) fun b68 =>
  BIf (!(b64 == b68)) (
   k (.bool false)) (
   again58 size_51 one_52 steps_53p steps_53l steps_53c a_54p a_54l a_54c b_55p b_55l b_55c i_56 (addI .i64 k_57 1))) (
  again17 size_51 one_52 steps_53p steps_53l steps_53c a_54p a_54l a_54c b_55p b_55l b_55c (addI .i64 i_56 1))
theorem F4_L3_rule {k : Value → W} {again17 : Int → Int → Option Addr → Nat → Nat → Option Addr → Nat → Nat → Option Addr → Nat → Nat → Int → W} (I : Int → Int → Option Addr → Nat → Nat → Option Addr → Nat → Nat → Option Addr → Nat → Nat → Int → Int → W) (μ : Int → Int → Option Addr → Nat → Nat → Option Addr → Nat → Nat → Option Addr → Nat → Nat → Int → Int → World → Nat)
  (hr : ∀ (size_51 : Int) (one_52 : Int) (steps_53p : Option Addr) (steps_53l : Nat) (steps_53c : Nat) (a_54p : Option Addr) (a_54l : Nat) (a_54c : Nat) (b_55p : Option Addr) (b_55l : Nat) (b_55c : Nat) (i_56 : Int) (k_57 : Int) (w : World), I size_51 one_52 steps_53p steps_53l steps_53c a_54p a_54l a_54c b_55p b_55l b_55c i_56 k_57 w → F4_L3 k again17 (fun size_51' one_52' steps_53p' steps_53l' steps_53c' a_54p' a_54l' a_54c' b_55p' b_55l' b_55c' i_56' k_57' w' => I size_51' one_52' steps_53p' steps_53l' steps_53c' a_54p' a_54l' a_54c' b_55p' b_55l' b_55c' i_56' k_57' w' ∧ μ size_51' one_52' steps_53p' steps_53l' steps_53c' a_54p' a_54l' a_54c' b_55p' b_55l' b_55c' i_56' k_57' w' < μ size_51 one_52 steps_53p steps_53l steps_53c a_54p a_54l a_54c b_55p b_55l b_55c i_56 k_57 w) size_51 one_52 steps_53p steps_53l steps_53c a_54p a_54l a_54c b_55p b_55l b_55c i_56 k_57 w)
  {w : World} {size_51 : Int} {one_52 : Int} {steps_53p : Option Addr} {steps_53l : Nat} {steps_53c : Nat} {a_54p : Option Addr} {a_54l : Nat} {a_54c : Nat} {b_55p : Option Addr} {b_55l : Nat} {b_55c : Nat} {i_56 : Int} {k_57 : Int} (h : I size_51 one_52 steps_53p steps_53l steps_53c a_54p a_54l a_54c b_55p b_55l b_55c i_56 k_57 w) : Loop [(.int .u8), (.int .i64), .slice, .slice, .slice, (.int .i64), (.int .i64)] (F4_L3 k again17) size_51 one_52 steps_53p steps_53l steps_53c a_54p a_54l a_54c b_55p b_55l b_55c i_56 k_57 w :=
  Loop_intro (ts := [(.int .u8), (.int .i64), .slice, .slice, .slice, (.int .i64), (.int .i64)]) (s := (size_51, one_52, (steps_53p, steps_53l, steps_53c), (a_54p, a_54l, a_54c), (b_55p, b_55l, b_55c), i_56, k_57, ())) (fun s w => I s.1 s.2.1 s.2.2.1.1 s.2.2.1.2.1 s.2.2.1.2.2 s.2.2.2.1.1 s.2.2.2.1.2.1 s.2.2.2.1.2.2 s.2.2.2.2.1.1 s.2.2.2.2.1.2.1 s.2.2.2.2.1.2.2 s.2.2.2.2.2.1 s.2.2.2.2.2.2.1 w) (fun s w => μ s.1 s.2.1 s.2.2.1.1 s.2.2.1.2.1 s.2.2.1.2.2 s.2.2.2.1.1 s.2.2.2.1.2.1 s.2.2.2.1.2.2 s.2.2.2.2.1.1 s.2.2.2.2.1.2.1 s.2.2.2.2.1.2.2 s.2.2.2.2.2.1 s.2.2.2.2.2.2.1 w) h (fun s w h => hr s.1 s.2.1 s.2.2.1.1 s.2.2.1.2.1 s.2.2.1.2.2 s.2.2.2.1.1 s.2.2.2.1.2.1 s.2.2.2.1.2.2 s.2.2.2.2.1.1 s.2.2.2.2.1.2.1 s.2.2.2.2.1.2.2 s.2.2.2.2.2.1 s.2.2.2.2.2.2.1 w h)
def F4_L2 (k : Value → W) (again17 : Int → Int → Option Addr → Nat → Nat → Option Addr → Nat → Nat → Option Addr → Nat → Nat → Int → W) (again37 : Int → Int → Option Addr → Nat → Nat → Option Addr → Nat → Nat → Option Addr → Nat → Nat → Int → Int → W) (size_30 : Int) (one_31 : Int) (steps_32p : Option Addr) (steps_32l : Nat) (steps_32c : Nat) (a_33p : Option Addr) (a_33l : Nat) (a_33c : Nat) (b_34p : Option Addr) (b_34l : Nat) (b_34c : Nat) (i_35 : Int) (k_36 : Int) : W :=
 NN a_33p fun a38 =>
 Req (0 ≤ i_35 ∧ i_35 < ((a_33l : Nat) : Int)) <|
 LoadT .slice (a38.add (i_35.toNat * 3)) fun s39p s39l s39c =>
 BIf (decide (k_36 < ((s39l : Nat) : Int))) (
  Drw <|
  NN a_33p fun a40 =>
  Req (0 ≤ i_35 ∧ i_35 < ((a_33l : Nat) : Int)) <|
  LoadT .slice (a40.add (i_35.toNat * 3)) fun s41p s41l s41c =>
  NN s41p fun a42 =>
  Req (0 ≤ k_36 ∧ k_36 < ((s41l : Nat) : Int)) <|
  LoadT (.int .i64) ((a42.add (k_36.toNat * 2)).add 0) fun x43 =>
  LoadT (.int .i64) ((a42.add (k_36.toNat * 2)).add 1) fun x44 =>
  NN b_34p fun a45 =>
  Req (0 ≤ i_35 ∧ i_35 < ((b_34l : Nat) : Int)) <|
  LoadT .slice (a45.add (i_35.toNat * 3)) fun s46p s46l s46c =>
  NN s46p fun a47 =>
  Req (0 ≤ k_36 ∧ k_36 < ((s46l : Nat) : Int)) <|
  LoadT (.int .i64) ((a47.add (k_36.toNat * 2)).add 0) fun x48 =>
  LoadT (.int .i64) ((a47.add (k_36.toNat * 2)).add 1) fun x49 =>
  RawS Go.Proofs.Try.prog (binS .neq 37 (.tmp 109) (.tmp 117) (.agg #[.int .i64 x43, .int .i64 x44]) (.agg #[.int .i64 x48, .int .i64 x49])) (.s (.one .bool)) fun b50 =>
  Chk1 (a45.add (i_35.toNat * 3)) (.slice s46p s46l s46c) <|
  Chk1 (a40.add (i_35.toNat * 3)) (.slice s41p s41l s41c) <|
  BIf b50 (
   k (.bool false)) (
   again37 size_30 one_31 steps_32p steps_32l steps_32c a_33p a_33l a_33c b_34p b_34l b_34c i_35 (addI .i64 k_36 1))) (
  Loop [(.int .u8), (.int .i64), .slice, .slice, .slice, (.int .i64), (.int .i64)] (F4_L3 k again17) size_30 one_31 steps_32p steps_32l steps_32c a_33p a_33l a_33c b_34p b_34l b_34c i_35 0)
theorem F4_L2_rule {k : Value → W} {again17 : Int → Int → Option Addr → Nat → Nat → Option Addr → Nat → Nat → Option Addr → Nat → Nat → Int → W} (I : Int → Int → Option Addr → Nat → Nat → Option Addr → Nat → Nat → Option Addr → Nat → Nat → Int → Int → W) (μ : Int → Int → Option Addr → Nat → Nat → Option Addr → Nat → Nat → Option Addr → Nat → Nat → Int → Int → World → Nat)
  (hr : ∀ (size_30 : Int) (one_31 : Int) (steps_32p : Option Addr) (steps_32l : Nat) (steps_32c : Nat) (a_33p : Option Addr) (a_33l : Nat) (a_33c : Nat) (b_34p : Option Addr) (b_34l : Nat) (b_34c : Nat) (i_35 : Int) (k_36 : Int) (w : World), I size_30 one_31 steps_32p steps_32l steps_32c a_33p a_33l a_33c b_34p b_34l b_34c i_35 k_36 w → F4_L2 k again17 (fun size_30' one_31' steps_32p' steps_32l' steps_32c' a_33p' a_33l' a_33c' b_34p' b_34l' b_34c' i_35' k_36' w' => I size_30' one_31' steps_32p' steps_32l' steps_32c' a_33p' a_33l' a_33c' b_34p' b_34l' b_34c' i_35' k_36' w' ∧ μ size_30' one_31' steps_32p' steps_32l' steps_32c' a_33p' a_33l' a_33c' b_34p' b_34l' b_34c' i_35' k_36' w' < μ size_30 one_31 steps_32p steps_32l steps_32c a_33p a_33l a_33c b_34p b_34l b_34c i_35 k_36 w) size_30 one_31 steps_32p steps_32l steps_32c a_33p a_33l a_33c b_34p b_34l b_34c i_35 k_36 w)
  {w : World} {size_30 : Int} {one_31 : Int} {steps_32p : Option Addr} {steps_32l : Nat} {steps_32c : Nat} {a_33p : Option Addr} {a_33l : Nat} {a_33c : Nat} {b_34p : Option Addr} {b_34l : Nat} {b_34c : Nat} {i_35 : Int} {k_36 : Int} (h : I size_30 one_31 steps_32p steps_32l steps_32c a_33p a_33l a_33c b_34p b_34l b_34c i_35 k_36 w) : Loop [(.int .u8), (.int .i64), .slice, .slice, .slice, (.int .i64), (.int .i64)] (F4_L2 k again17) size_30 one_31 steps_32p steps_32l steps_32c a_33p a_33l a_33c b_34p b_34l b_34c i_35 k_36 w :=
  Loop_intro (ts := [(.int .u8), (.int .i64), .slice, .slice, .slice, (.int .i64), (.int .i64)]) (s := (size_30, one_31, (steps_32p, steps_32l, steps_32c), (a_33p, a_33l, a_33c), (b_34p, b_34l, b_34c), i_35, k_36, ())) (fun s w => I s.1 s.2.1 s.2.2.1.1 s.2.2.1.2.1 s.2.2.1.2.2 s.2.2.2.1.1 s.2.2.2.1.2.1 s.2.2.2.1.2.2 s.2.2.2.2.1.1 s.2.2.2.2.1.2.1 s.2.2.2.2.1.2.2 s.2.2.2.2.2.1 s.2.2.2.2.2.2.1 w) (fun s w => μ s.1 s.2.1 s.2.2.1.1 s.2.2.1.2.1 s.2.2.1.2.2 s.2.2.2.1.1 s.2.2.2.1.2.1 s.2.2.2.1.2.2 s.2.2.2.2.1.1 s.2.2.2.2.1.2.1 s.2.2.2.2.1.2.2 s.2.2.2.2.2.1 s.2.2.2.2.2.2.1 w) h (fun s w h => hr s.1 s.2.1 s.2.2.1.1 s.2.2.1.2.1 s.2.2.1.2.2 s.2.2.2.1.1 s.2.2.2.1.2.1 s.2.2.2.1.2.2 s.2.2.2.2.1.1 s.2.2.2.2.1.2.1 s.2.2.2.2.1.2.2 s.2.2.2.2.2.1 s.2.2.2.2.2.2.1 w h)
def F4_L1 (k : Value → W) (again17 : Int → Int → Option Addr → Nat → Nat → Option Addr → Nat → Nat → Option Addr → Nat → Nat → Int → W) (size_11 : Int) (one_12 : Int) (steps_13p : Option Addr) (steps_13l : Nat) (steps_13c : Nat) (a_14p : Option Addr) (a_14l : Nat) (a_14c : Nat) (b_15p : Option Addr) (b_15l : Nat) (b_15c : Nat) (i_16 : Int) : W :=
 BIf (decide (i_16 < ((steps_13l : Nat) : Int))) (
  Drw <|
  NN a_14p fun a18 =>
  Req (0 ≤ i_16 ∧ i_16 < ((a_14l : Nat) : Int)) <|
  LoadT (.int .u64) ((a18.add (i_16.toNat * 3)).add 2) fun x19 =>
  NN b_15p fun a20 =>
  Req (0 ≤ i_16 ∧ i_16 < ((b_15l : Nat) : Int)) <|
  LoadT (.int .u64) ((a20.add (i_16.toNat * 3)).add 2) fun x21 =>
  BIf (x19 != x21) (
   k (.bool false)) (
   NN a_14p fun a22 =>
   Req (0 ≤ i_16 ∧ i_16 < ((a_14l : Nat) : Int)) <|
   LoadT .slice (a22.add (i_16.toNat * 3)) fun s23p s23l s23c =>
   NN b_15p fun a24 =>
   Req (0 ≤ i_16 ∧ i_16 < ((b_15l : Nat) : Int)) <|
   LoadT .slice (a24.add (i_16.toNat * 3)) fun s25p s25l s25c =>
   BIf (((s23l : Nat) : Int) != ((s25l : Nat) : Int)) (
    k (.bool false)) (
    NN a_14p fun a26 =>
    Req (0 ≤ i_16 ∧ i_16 < ((a_14l : Nat) : Int)) <|
    LoadT .slice ((a26.add (i_16.toNat * 3)).add 1) fun s27p s27l s27c =>
    NN b_15p fun a28 =>
    Req (0 ≤ i_16 ∧ i_16 < ((b_15l : Nat) : Int)) <|
    LoadT .slice ((a28.add (i_16.toNat * 3)).add 1) fun s29p s29l s29c =>
    BIf (((s27l : Nat) : Int) != ((s29l : Nat) : Int)) (
     k (.bool false)) (
     Loop [(.int .u8), (.int .i64), .slice, .slice, .slice, (.int .i64), (.int .i64)] (F4_L2 k again17) size_11 one_12 steps_13p steps_13l steps_13c a_14p a_14l a_14c b_15p b_15l b_15c i_16 0)))) (
  CallT Go.Proofs.Try.prog 10 [.int .u8 size_11] (.s (.one (.int .i64))) fun x69 =>
  RawT Go.Proofs.Try.prog (Instr.buildSlice 31 1 [(0, .agg #[.int .i64 3, .int .i64 4])].toArray) (.s (.one .slice)) fun s70p s70l s70c =>
  RawT Go.Proofs.Try.prog (Instr.buildSlice 26 2 [(0, .agg #[.int .i64 1, .int .i64 0, .slice s70p s70l s70c, .int .u64 0, .int .i64 0]), (1, .agg #[.int .i64 6, .int .i64 0, .slice none 0 0, .int .u64 0, .int .i64 0])].toArray) (.s (.one .slice)) fun s71p s71l s71c =>
  CallT Go.Proofs.Try.prog 9 [.int .i64 x69, .int .i64 one_12, .slice s71p s71l s71c] (.s (.one .slice)) fun s72p s72l s72c =>
  BIf (((s72l : Nat) : Int) == 2) (
   NN s72p fun a73 =>
   Req (0 ≤ (1 : Int) ∧ (1 : Int) < ((s72l : Nat) : Int)) <|
   LoadT (.int .u64) ((a73.add ((1 : Int).toNat * 3)).add 2) fun x74 =>
   k (.bool (x74 == 1))) (
   k (.bool false)))
theorem F4_L1_rule {k : Value → W} (I : Int → Int → Option Addr → Nat → Nat → Option Addr → Nat → Nat → Option Addr → Nat → Nat → Int → W) (μ : Int → Int → Option Addr → Nat → Nat → Option Addr → Nat → Nat → Option Addr → Nat → Nat → Int → World → Nat)
  (hr : ∀ (size_11 : Int) (one_12 : Int) (steps_13p : Option Addr) (steps_13l : Nat) (steps_13c : Nat) (a_14p : Option Addr) (a_14l : Nat) (a_14c : Nat) (b_15p : Option Addr) (b_15l : Nat) (b_15c : Nat) (i_16 : Int) (w : World), I size_11 one_12 steps_13p steps_13l steps_13c a_14p a_14l a_14c b_15p b_15l b_15c i_16 w → F4_L1 k (fun size_11' one_12' steps_13p' steps_13l' steps_13c' a_14p' a_14l' a_14c' b_15p' b_15l' b_15c' i_16' w' => I size_11' one_12' steps_13p' steps_13l' steps_13c' a_14p' a_14l' a_14c' b_15p' b_15l' b_15c' i_16' w' ∧ μ size_11' one_12' steps_13p' steps_13l' steps_13c' a_14p' a_14l' a_14c' b_15p' b_15l' b_15c' i_16' w' < μ size_11 one_12 steps_13p steps_13l steps_13c a_14p a_14l a_14c b_15p b_15l b_15c i_16 w) size_11 one_12 steps_13p steps_13l steps_13c a_14p a_14l a_14c b_15p b_15l b_15c i_16 w)
  {w : World} {size_11 : Int} {one_12 : Int} {steps_13p : Option Addr} {steps_13l : Nat} {steps_13c : Nat} {a_14p : Option Addr} {a_14l : Nat} {a_14c : Nat} {b_15p : Option Addr} {b_15l : Nat} {b_15c : Nat} {i_16 : Int} (h : I size_11 one_12 steps_13p steps_13l steps_13c a_14p a_14l a_14c b_15p b_15l b_15c i_16 w) : Loop [(.int .u8), (.int .i64), .slice, .slice, .slice, (.int .i64)] (F4_L1 k) size_11 one_12 steps_13p steps_13l steps_13c a_14p a_14l a_14c b_15p b_15l b_15c i_16 w :=
  Loop_intro (ts := [(.int .u8), (.int .i64), .slice, .slice, .slice, (.int .i64)]) (s := (size_11, one_12, (steps_13p, steps_13l, steps_13c), (a_14p, a_14l, a_14c), (b_15p, b_15l, b_15c), i_16, ())) (fun s w => I s.1 s.2.1 s.2.2.1.1 s.2.2.1.2.1 s.2.2.1.2.2 s.2.2.2.1.1 s.2.2.2.1.2.1 s.2.2.2.1.2.2 s.2.2.2.2.1.1 s.2.2.2.2.1.2.1 s.2.2.2.2.1.2.2 s.2.2.2.2.2.1 w) (fun s w => μ s.1 s.2.1 s.2.2.1.1 s.2.2.1.2.1 s.2.2.1.2.2 s.2.2.2.1.1 s.2.2.2.1.2.1 s.2.2.2.1.2.2 s.2.2.2.2.1.1 s.2.2.2.2.1.2.1 s.2.2.2.2.1.2.2 s.2.2.2.2.2.1 w) h (fun s w h => hr s.1 s.2.1 s.2.2.1.1 s.2.2.1.2.1 s.2.2.1.2.2 s.2.2.2.1.1 s.2.2.2.1.2.1 s.2.2.2.1.2.2 s.2.2.2.2.1.1 s.2.2.2.2.1.2.1 s.2.2.2.2.1.2.2 s.2.2.2.2.2.1 w h)
def F4 (k : Value → W) (size_1 : Int) (one_2 : Int) (two_3 : Int) (moves_4p : Option Addr) (moves_4l : Nat) (moves_4c : Nat) : W :=
 BIf (decide (((moves_4l : Nat) : Int) > 2147483647)) (
  k (.bool true)) (
  RawT Go.Proofs.Try.prog (Instr.buildSlice 24 7 [(0, .int .i64 1), (1, .int .i64 1), (2, .int .i64 5), (3, .int .i64 1), (4, .int .i64 2), (5, .int .i64 4), (6, .int .i64 6)].toArray) (.s (.one .slice)) fun s5p s5l s5c =>
  CallT Go.Proofs.Try.prog 8 [.slice moves_4p moves_4l moves_4c, .slice s5p s5l s5c] (.s (.one .slice)) fun s6p s6l s6c =>
  CallT Go.Proofs.Try.prog 10 [.int .u8 size_1] (.s (.one (.int .i64))) fun x7 =>
  CallT Go.Proofs.Try.prog 9 [.int .i64 x7, .int .i64 one_2, .slice s6p s6l s6c] (.s (.one .slice)) fun s8p s8l s8c =>
  Req (4 ≠ (0 : Int)) <|
  CallT Go.Proofs.Try.prog 10 [.int .u8 (quoI .u8 size_1 4)] (.s (.one (.int .i64))) fun x9 =>
  CallT Go.Proofs.Try.prog 9 [.int .i64 x9, .int .i64 two_3, .slice s6p s6l s6c] (.s (.one .slice)) fun s10p s10l s10c =>
  BIf (((s8l : Nat) : Int) != ((s6l : Nat) : Int)) (
   k (.bool false)) (
   BIf (((s10l : Nat) : Int) != ((s6l : Nat) : Int)) (
    k (.bool false)) (
    Loop [(.int .u8), (.int .i64), .slice, .slice, .slice, (.int .i64)] (F4_L1 k) size_1 one_2 s6p s6l s6c s8p s8l s8c s10p s10l s10c 0)))
theorem F4_eq (k : Value → W) (size_1 : Int) (one_2 : Int) (two_3 : Int) (moves_4p : Option Addr) (moves_4l : Nat) (moves_4c : Nat) : compF Go.Proofs.Try.prog Go.Proofs.Try.f4 [(8, [(0, (.int .u8)), (1, (.int .i64)), (9, .slice), (10, .slice), (11, .slice), (12, (.int .i64))]), (13, [(0, (.int .u8)), (1, (.int .i64)), (9, .slice), (10, .slice), (11, .slice), (12, (.int .i64)), (13, (.int .i64))]), (18, [(0, (.int .u8)), (1, (.int .i64)), (9, .slice), (10, .slice), (11, .slice), (12, (.int .i64)), (14, (.int .i64))])] (Go.Proofs.Try.f4.body.getD .skip) [.int .u8 size_1, .int .i64 one_2, .int .i64 two_3, .slice moves_4p moves_4l moves_4c] k = F4 k size_1 one_2 two_3 moves_4p moves_4l moves_4c := by kernel_rfl
theorem F4_calls {size_1 : Int} {one_2 : Int} {two_3 : Int} {moves_4p : Option Addr} {moves_4l : Nat} {moves_4c : Nat} {w : World} {R : Ending → World → Prop} (h : F4 (fun v w => R (.returned v) w) size_1 one_2 two_3 moves_4p moves_4l moves_4c w) : Calls Go.Proofs.Try.prog 4 #[.int .u8 size_1, .int .i64 one_2, .int .i64 two_3, .slice moves_4p moves_4l moves_4c] w R :=
  calls_of_compF noNum follows [(8, [(0, (.int .u8)), (1, (.int .i64)), (9, .slice), (10, .slice), (11, .slice), (12, (.int .i64))]), (13, [(0, (.int .u8)), (1, (.int .i64)), (9, .slice), (10, .slice), (11, .slice), (12, (.int .i64)), (13, (.int .i64))]), (18, [(0, (.int .u8)), (1, (.int .i64)), (9, .slice), (10, .slice), (11, .slice), (12, (.int .i64)), (14, (.int .i64))])] (f := 4) (fn := Go.Proofs.Try.f4) (body := Go.Proofs.Try.f4.body.getD .skip) (args := [.int .u8 size_1, .int .i64 one_2, .int .i64 two_3, .slice moves_4p moves_4l moves_4c]) rfl rfl (Nat.le_of_ble_eq_true rfl) ((congrFun (F4_eq _ size_1 one_2 two_3 moves_4p moves_4l moves_4c) w).mpr h)
theorem F4_call {size_1 : Int} {one_2 : Int} {two_3 : Int} {moves_4p : Option Addr} {moves_4l : Nat} {moves_4c : Nat} {w : World} {g : Fn W (RTy.leaves (.s (.one .bool)))} (h : F4 (fun v => Back (.s (.one .bool)) g (.returned v)) size_1 one_2 two_3 moves_4p moves_4l moves_4c w) : CallT Go.Proofs.Try.prog 4 [.int .u8 size_1, .int .i64 one_2, .int .i64 two_3, .slice moves_4p moves_4l moves_4c] (.s (.one .bool)) g w := F4_calls h

end Go.Proofs.Ytfokodpnoiilbaa.E
