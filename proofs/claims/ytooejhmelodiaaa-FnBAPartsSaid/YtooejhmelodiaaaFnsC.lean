/-
  Printed by this session's own program eng.py out of Lean's print of the loaded functions: what each function's body asks, in the engine's words; each is checked against the program by the kernel.
-/
import Derived.Test.YtooejhmelodiaaaEng
import Derived.Test.YtooejhmelodiaaaFnsA
namespace Go.Proofs.Ytooejhmelodiaaa.E
open Go
set_option linter.unusedVariables false
set_option maxRecDepth 100000
/-! ## bitarray.sparseBitArray).Or -/
def F92 (k : Value → W) (sba_1 : Option Addr) (other_2 : Value) : W :=
 RawS Go.Proofs.Try.prog (Instr.typeAssert other_2 48 73 true) (.tup [(.one .ptr), (.one .bool)]) fun p3 b4 =>
 BIf b4 (
  CallT Go.Proofs.Try.prog 104 [.pointer sba_1, .pointer p3] (.s (.one .any)) fun v5 =>
  k v5) (
  TAs other_2 71 (.s (.one .ptr)) fun p6 =>
  CallT Go.Proofs.Try.prog 66 [.pointer sba_1, .pointer p6] (.s (.one .any)) fun v7 =>
  k v7)
theorem F92_eq (k : Value → W) (sba_1 : Option Addr) (other_2 : Value) : compF Go.Proofs.Try.prog Go.Proofs.Try.f92 [] (Go.Proofs.Try.f92.body.getD .skip) [.pointer sba_1, other_2] k = F92 k sba_1 other_2 := by kernel_rfl
theorem F92_calls {sba_1 : Option Addr} {other_2 : Value} {w : World} {R : Ending → World → Prop} (h : F92 (fun v w => R (.returned v) w) sba_1 other_2 w) : Calls Go.Proofs.Try.prog 92 #[.pointer sba_1, other_2] w R :=
  calls_of_compF noNum follows [] (f := 92) (fn := Go.Proofs.Try.f92) (body := Go.Proofs.Try.f92.body.getD .skip) (args := [.pointer sba_1, other_2]) rfl rfl (Nat.le_of_ble_eq_true rfl) ((congrFun (F92_eq _ sba_1 other_2) w).mpr h)
theorem F92_call {sba_1 : Option Addr} {other_2 : Value} {w : World} {g : Fn W (RTy.leaves (.s (.one .any)))} (h : F92 (fun v => Back (.s (.one .any)) g (.returned v)) sba_1 other_2 w) : CallT Go.Proofs.Try.prog 92 [.pointer sba_1, other_2] (.s (.one .any)) g w := F92_calls h

/-! ## bitarray.sparseBitArray).And -/
def F82 (k : Value → W) (sba_1 : Option Addr) (other_2 : Value) : W :=
 RawS Go.Proofs.Try.prog (Instr.typeAssert other_2 48 73 true) (.tup [(.one .ptr), (.one .bool)]) fun p3 b4 =>
 BIf b4 (
  CallT Go.Proofs.Try.prog 96 [.pointer sba_1, .pointer p3] (.s (.one .any)) fun v5 =>
  k v5) (
  TAs other_2 71 (.s (.one .ptr)) fun p6 =>
  CallT Go.Proofs.Try.prog 54 [.pointer sba_1, .pointer p6] (.s (.one .any)) fun v7 =>
  k v7)
theorem F82_eq (k : Value → W) (sba_1 : Option Addr) (other_2 : Value) : compF Go.Proofs.Try.prog Go.Proofs.Try.f82 [] (Go.Proofs.Try.f82.body.getD .skip) [.pointer sba_1, other_2] k = F82 k sba_1 other_2 := by kernel_rfl
theorem F82_calls {sba_1 : Option Addr} {other_2 : Value} {w : World} {R : Ending → World → Prop} (h : F82 (fun v w => R (.returned v) w) sba_1 other_2 w) : Calls Go.Proofs.Try.prog 82 #[.pointer sba_1, other_2] w R :=
  calls_of_compF noNum follows [] (f := 82) (fn := Go.Proofs.Try.f82) (body := Go.Proofs.Try.f82.body.getD .skip) (args := [.pointer sba_1, other_2]) rfl rfl (Nat.le_of_ble_eq_true rfl) ((congrFun (F82_eq _ sba_1 other_2) w).mpr h)
theorem F82_call {sba_1 : Option Addr} {other_2 : Value} {w : World} {g : Fn W (RTy.leaves (.s (.one .any)))} (h : F82 (fun v => Back (.s (.one .any)) g (.returned v)) sba_1 other_2 w) : CallT Go.Proofs.Try.prog 82 [.pointer sba_1, other_2] (.s (.one .any)) g w := F82_calls h

/-! ## bitarray.sparseBitArray).Nand -/
def F91 (k : Value → W) (sba_1 : Option Addr) (other_2 : Value) : W :=
 RawS Go.Proofs.Try.prog (Instr.typeAssert other_2 48 73 true) (.tup [(.one .ptr), (.one .bool)]) fun p3 b4 =>
 BIf b4 (
  CallT Go.Proofs.Try.prog 102 [.pointer sba_1, .pointer p3] (.s (.one .any)) fun v5 =>
  k v5) (
  TAs other_2 71 (.s (.one .ptr)) fun p6 =>
  CallT Go.Proofs.Try.prog 103 [.pointer sba_1, .pointer p6] (.s (.one .any)) fun v7 =>
  k v7)
theorem F91_eq (k : Value → W) (sba_1 : Option Addr) (other_2 : Value) : compF Go.Proofs.Try.prog Go.Proofs.Try.f91 [] (Go.Proofs.Try.f91.body.getD .skip) [.pointer sba_1, other_2] k = F91 k sba_1 other_2 := by kernel_rfl
theorem F91_calls {sba_1 : Option Addr} {other_2 : Value} {w : World} {R : Ending → World → Prop} (h : F91 (fun v w => R (.returned v) w) sba_1 other_2 w) : Calls Go.Proofs.Try.prog 91 #[.pointer sba_1, other_2] w R :=
  calls_of_compF noNum follows [] (f := 91) (fn := Go.Proofs.Try.f91) (body := Go.Proofs.Try.f91.body.getD .skip) (args := [.pointer sba_1, other_2]) rfl rfl (Nat.le_of_ble_eq_true rfl) ((congrFun (F91_eq _ sba_1 other_2) w).mpr h)
theorem F91_call {sba_1 : Option Addr} {other_2 : Value} {w : World} {g : Fn W (RTy.leaves (.s (.one .any)))} (h : F91 (fun v => Back (.s (.one .any)) g (.returned v)) sba_1 other_2 w) : CallT Go.Proofs.Try.prog 91 [.pointer sba_1, other_2] (.s (.one .any)) g w := F91_calls h

end Go.Proofs.Ytooejhmelodiaaa.E
