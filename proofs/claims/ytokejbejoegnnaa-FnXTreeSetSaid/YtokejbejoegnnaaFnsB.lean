/-
  Printed by this session's own program eng.py out of Lean's print of the loaded functions: what each function's body asks, in the engine's words; each is checked against the program by the kernel.
-/
import Derived.Test.YtokejbejoegnnaaEng
import Derived.Test.YtokejbejoegnnaaFnsA
namespace Go.Proofs.Ytokejbejoegnnaa.E
open Go
set_option linter.unusedVariables false
set_option maxRecDepth 100000
/-! ## avl.takeOpposite -/
def F80 (k : Value → W) (value_1 : Int) : W :=
 k (.int .i64 (subI .i64 1 value_1))
theorem F80_eq (k : Value → W) (value_1 : Int) : compF Go.Proofs.Try.prog Go.Proofs.Try.f80 [] (Go.Proofs.Try.f80.body.getD .skip) [.int .i64 value_1] k = F80 k value_1 := by kernel_rfl
theorem F80_calls {value_1 : Int} {w : World} {R : Ending → World → Prop} (h : F80 (fun v w => R (.returned v) w) value_1 w) : Calls Go.Proofs.Try.prog 80 #[.int .i64 value_1] w R :=
  calls_of_compF noNum follows [] (f := 80) (fn := Go.Proofs.Try.f80) (body := Go.Proofs.Try.f80.body.getD .skip) (args := [.int .i64 value_1]) rfl rfl (Nat.le_of_ble_eq_true rfl) ((congrFun (F80_eq _ value_1) w).mpr h)
theorem F80_call {value_1 : Int} {w : World} {g : Fn W (RTy.leaves (.s (.one (.int .i64))))} (h : F80 (fun v => Back (.s (.one (.int .i64))) g (.returned v)) value_1 w) : CallT Go.Proofs.Try.prog 80 [.int .i64 value_1] (.s (.one (.int .i64))) g w := F80_calls h

/-! ## avl.rotate -/
def F79 (k : Value → W) (parent_1 : Option Addr) (dir_2 : Int) : W :=
 CallT Go.Proofs.Try.prog 80 [.int .i64 dir_2] (.s (.one (.int .i64))) fun x3 =>
 NN parent_1 fun a4 =>
 Req (0 ≤ x3 ∧ x3 < (2 : Int)) <|
 LoadT .ptr ((a4.add 1).add x3.toNat) fun p5 =>
 Drw <|
 NN p5 fun a6 =>
 Req (0 ≤ dir_2 ∧ dir_2 < (2 : Int)) <|
 LoadT .ptr ((a6.add 1).add dir_2.toNat) fun p7 =>
 NN parent_1 fun a8 =>
 Req (0 ≤ x3 ∧ x3 < (2 : Int)) <|
 Store1 ((a8.add 1).add x3.toNat) (.pointer p7) <|
 NN p5 fun a9 =>
 Req (0 ≤ dir_2 ∧ dir_2 < (2 : Int)) <|
 Store1 ((a9.add 1).add dir_2.toNat) (.pointer parent_1) <|
 k (.pointer p5)
theorem F79_eq (k : Value → W) (parent_1 : Option Addr) (dir_2 : Int) : compF Go.Proofs.Try.prog Go.Proofs.Try.f79 [] (Go.Proofs.Try.f79.body.getD .skip) [.pointer parent_1, .int .i64 dir_2] k = F79 k parent_1 dir_2 := by kernel_rfl
theorem F79_calls {parent_1 : Option Addr} {dir_2 : Int} {w : World} {R : Ending → World → Prop} (h : F79 (fun v w => R (.returned v) w) parent_1 dir_2 w) : Calls Go.Proofs.Try.prog 79 #[.pointer parent_1, .int .i64 dir_2] w R :=
  calls_of_compF noNum follows [] (f := 79) (fn := Go.Proofs.Try.f79) (body := Go.Proofs.Try.f79.body.getD .skip) (args := [.pointer parent_1, .int .i64 dir_2]) rfl rfl (Nat.le_of_ble_eq_true rfl) ((congrFun (F79_eq _ parent_1 dir_2) w).mpr h)
theorem F79_call {parent_1 : Option Addr} {dir_2 : Int} {w : World} {g : Fn W (RTy.leaves (.s (.one .ptr)))} (h : F79 (fun v => Back (.s (.one .ptr)) g (.returned v)) parent_1 dir_2 w) : CallT Go.Proofs.Try.prog 79 [.pointer parent_1, .int .i64 dir_2] (.s (.one .ptr)) g w := F79_calls h

/-! ## avl.adjustBalance -/
def F81_J1 (k : Value → W) (nn_13 : Option Addr) : W :=
 NN nn_13 fun a14 =>
 Store1 a14 (.int .i8 0) <|
 k (.tuple #[])
def F81 (k : Value → W) (root_1 : Option Addr) (dir_2 : Int) (bal_3 : Int) : W :=
 NN root_1 fun a4 =>
 Req (0 ≤ dir_2 ∧ dir_2 < (2 : Int)) <|
 LoadT .ptr ((a4.add 1).add dir_2.toNat) fun p5 =>
 Drw <|
 NN p5 fun a6 =>
 CallT Go.Proofs.Try.prog 80 [.int .i64 dir_2] (.s (.one (.int .i64))) fun x7 =>
 Req (0 ≤ x7 ∧ x7 < (2 : Int)) <|
 LoadT .ptr ((a6.add 1).add x7.toNat) fun p8 =>
 NN p8 fun a9 =>
 LoadT (.int .i8) a9 fun x10 =>
 BIf (x10 == 0) (
  NN root_1 fun a11 =>
  Store1 a11 (.int .i8 0) <|
  NN p5 fun a12 =>
  Store1 a12 (.int .i8 0) <|
  F81_J1 k p8) (
  NN p8 fun a15 =>
  LoadT (.int .i8) a15 fun x16 =>
  BIf ((IntKind.wrap .i64 x16) == bal_3) (
   NN root_1 fun a17 =>
   Store1 a17 (.int .i8 (IntKind.wrap .i8 (subI .i64 0 bal_3))) <|
   NN p5 fun a18 =>
   Store1 a18 (.int .i8 0) <|
   F81_J1 k p8) (
   NN root_1 fun a19 =>
   Store1 a19 (.int .i8 0) <|
   NN p5 fun a20 =>
   Store1 a20 (.int .i8 (IntKind.wrap .i8 bal_3)) <|
   F81_J1 k p8))
theorem F81_eq (k : Value → W) (root_1 : Option Addr) (dir_2 : Int) (bal_3 : Int) : compF Go.Proofs.Try.prog Go.Proofs.Try.f81 [] (Go.Proofs.Try.f81.body.getD .skip) [.pointer root_1, .int .i64 dir_2, .int .i64 bal_3] k = F81 k root_1 dir_2 bal_3 := by kernel_rfl
theorem F81_calls {root_1 : Option Addr} {dir_2 : Int} {bal_3 : Int} {w : World} {R : Ending → World → Prop} (h : F81 (fun v w => R (.returned v) w) root_1 dir_2 bal_3 w) : Calls Go.Proofs.Try.prog 81 #[.pointer root_1, .int .i64 dir_2, .int .i64 bal_3] w R :=
  calls_of_compF noNum follows [] (f := 81) (fn := Go.Proofs.Try.f81) (body := Go.Proofs.Try.f81.body.getD .skip) (args := [.pointer root_1, .int .i64 dir_2, .int .i64 bal_3]) rfl rfl (Nat.le_of_ble_eq_true rfl) ((congrFun (F81_eq _ root_1 dir_2 bal_3) w).mpr h)
theorem F81_call {root_1 : Option Addr} {dir_2 : Int} {bal_3 : Int} {w : World} {g : Fn W (RTy.leaves (.tup []))} (h : F81 (fun v => Back (.tup []) g (.returned v)) root_1 dir_2 bal_3 w) : CallT Go.Proofs.Try.prog 81 [.pointer root_1, .int .i64 dir_2, .int .i64 bal_3] (.tup []) g w := F81_calls h

/-! ## avl.doubleRotate -/
def F82 (k : Value → W) (parent_1 : Option Addr) (dir_2 : Int) : W :=
 CallT Go.Proofs.Try.prog 80 [.int .i64 dir_2] (.s (.one (.int .i64))) fun x3 =>
 Drw <|
 NN parent_1 fun a4 =>
 Req (0 ≤ x3 ∧ x3 < (2 : Int)) <|
 LoadT .ptr ((a4.add 1).add x3.toNat) fun p5 =>
 NN parent_1 fun a6 =>
 CallT Go.Proofs.Try.prog 79 [.pointer p5, .int .i64 x3] (.s (.one .ptr)) fun p7 =>
 Req (0 ≤ x3 ∧ x3 < (2 : Int)) <|
 Store1 ((a6.add 1).add x3.toNat) (.pointer p7) <|
 CallT Go.Proofs.Try.prog 79 [.pointer parent_1, .int .i64 dir_2] (.s (.one .ptr)) fun p8 =>
 k (.pointer p8)
theorem F82_eq (k : Value → W) (parent_1 : Option Addr) (dir_2 : Int) : compF Go.Proofs.Try.prog Go.Proofs.Try.f82 [] (Go.Proofs.Try.f82.body.getD .skip) [.pointer parent_1, .int .i64 dir_2] k = F82 k parent_1 dir_2 := by kernel_rfl
theorem F82_calls {parent_1 : Option Addr} {dir_2 : Int} {w : World} {R : Ending → World → Prop} (h : F82 (fun v w => R (.returned v) w) parent_1 dir_2 w) : Calls Go.Proofs.Try.prog 82 #[.pointer parent_1, .int .i64 dir_2] w R :=
  calls_of_compF noNum follows [] (f := 82) (fn := Go.Proofs.Try.f82) (body := Go.Proofs.Try.f82.body.getD .skip) (args := [.pointer parent_1, .int .i64 dir_2]) rfl rfl (Nat.le_of_ble_eq_true rfl) ((congrFun (F82_eq _ parent_1 dir_2) w).mpr h)
theorem F82_call {parent_1 : Option Addr} {dir_2 : Int} {w : World} {g : Fn W (RTy.leaves (.s (.one .ptr)))} (h : F82 (fun v => Back (.s (.one .ptr)) g (.returned v)) parent_1 dir_2 w) : CallT Go.Proofs.Try.prog 82 [.pointer parent_1, .int .i64 dir_2] (.s (.one .ptr)) g w := F82_calls h

/-! ## avl.insertBalance -/
def F73_J1 (k : Value → W) (root_5 : Option Addr) (dir_6 : Int) (n_7 : Option Addr) (bal_8 : Int) : W :=
 NN n_7 fun a9 =>
 LoadT (.int .i8) a9 fun x10 =>
 BIf (x10 == bal_8) (
  NN root_5 fun a11 =>
  Store1 a11 (.int .i8 0) <|
  NN n_7 fun a12 =>
  Store1 a12 (.int .i8 0) <|
  CallT Go.Proofs.Try.prog 80 [.int .i64 dir_6] (.s (.one (.int .i64))) fun x13 =>
  CallT Go.Proofs.Try.prog 79 [.pointer root_5, .int .i64 x13] (.s (.one .ptr)) fun p14 =>
  k (.pointer p14)) (
  CallT Go.Proofs.Try.prog 81 [.pointer root_5, .int .i64 dir_6, .int .i64 (IntKind.wrap .i64 bal_8)] (.tup []) <|
  CallT Go.Proofs.Try.prog 80 [.int .i64 dir_6] (.s (.one (.int .i64))) fun x15 =>
  CallT Go.Proofs.Try.prog 82 [.pointer root_5, .int .i64 x15] (.s (.one .ptr)) fun p16 =>
  k (.pointer p16))
def F73 (k : Value → W) (root_1 : Option Addr) (dir_2 : Int) : W :=
 NN root_1 fun a3 =>
 Req (0 ≤ dir_2 ∧ dir_2 < (2 : Int)) <|
 LoadT .ptr ((a3.add 1).add dir_2.toNat) fun p4 =>
 BIf (dir_2 == 0) (
  F73_J1 k root_1 dir_2 p4 (-1)) (
  F73_J1 k root_1 dir_2 p4 1)
theorem F73_eq (k : Value → W) (root_1 : Option Addr) (dir_2 : Int) : compF Go.Proofs.Try.prog Go.Proofs.Try.f73 [] (Go.Proofs.Try.f73.body.getD .skip) [.pointer root_1, .int .i64 dir_2] k = F73 k root_1 dir_2 := by kernel_rfl
theorem F73_calls {root_1 : Option Addr} {dir_2 : Int} {w : World} {R : Ending → World → Prop} (h : F73 (fun v w => R (.returned v) w) root_1 dir_2 w) : Calls Go.Proofs.Try.prog 73 #[.pointer root_1, .int .i64 dir_2] w R :=
  calls_of_compF noNum follows [] (f := 73) (fn := Go.Proofs.Try.f73) (body := Go.Proofs.Try.f73.body.getD .skip) (args := [.pointer root_1, .int .i64 dir_2]) rfl rfl (Nat.le_of_ble_eq_true rfl) ((congrFun (F73_eq _ root_1 dir_2) w).mpr h)
theorem F73_call {root_1 : Option Addr} {dir_2 : Int} {w : World} {g : Fn W (RTy.leaves (.s (.one .ptr)))} (h : F73 (fun v => Back (.s (.one .ptr)) g (.returned v)) root_1 dir_2 w) : CallT Go.Proofs.Try.prog 73 [.pointer root_1, .int .i64 dir_2] (.s (.one .ptr)) g w := F73_calls h

/-! ## avl.intFromBool -/
def F74 (k : Value → W) (value_1 : Bool) : W :=
 BIf value_1 (
  k (.int .i64 1)) (
  k (.int .i64 0))
theorem F74_eq (k : Value → W) (value_1 : Bool) : compF Go.Proofs.Try.prog Go.Proofs.Try.f74 [] (Go.Proofs.Try.f74.body.getD .skip) [.bool value_1] k = F74 k value_1 := by kernel_rfl
theorem F74_calls {value_1 : Bool} {w : World} {R : Ending → World → Prop} (h : F74 (fun v w => R (.returned v) w) value_1 w) : Calls Go.Proofs.Try.prog 74 #[.bool value_1] w R :=
  calls_of_compF noNum follows [] (f := 74) (fn := Go.Proofs.Try.f74) (body := Go.Proofs.Try.f74.body.getD .skip) (args := [.bool value_1]) rfl rfl (Nat.le_of_ble_eq_true rfl) ((congrFun (F74_eq _ value_1) w).mpr h)
theorem F74_call {value_1 : Bool} {w : World} {g : Fn W (RTy.leaves (.s (.one (.int .i64))))} (h : F74 (fun v => Back (.s (.one (.int .i64))) g (.returned v)) value_1 w) : CallT Go.Proofs.Try.prog 74 [.bool value_1] (.s (.one (.int .i64))) g w := F74_calls h

/-! ## avl.normalizeComparison -/
def F71 (k : Value → W) (i_1 : Int) : W :=
 BIf (decide (i_1 < 0)) (
  k (.int .i64 1)) (
  BIf (decide (i_1 > 0)) (
   k (.int .i64 0)) (
   k (.int .i64 (-1))))
theorem F71_eq (k : Value → W) (i_1 : Int) : compF Go.Proofs.Try.prog Go.Proofs.Try.f71 [] (Go.Proofs.Try.f71.body.getD .skip) [.int .i64 i_1] k = F71 k i_1 := by kernel_rfl
theorem F71_calls {i_1 : Int} {w : World} {R : Ending → World → Prop} (h : F71 (fun v w => R (.returned v) w) i_1 w) : Calls Go.Proofs.Try.prog 71 #[.int .i64 i_1] w R :=
  calls_of_compF noNum follows [] (f := 71) (fn := Go.Proofs.Try.f71) (body := Go.Proofs.Try.f71.body.getD .skip) (args := [.int .i64 i_1]) rfl rfl (Nat.le_of_ble_eq_true rfl) ((congrFun (F71_eq _ i_1) w).mpr h)
theorem F71_call {i_1 : Int} {w : World} {g : Fn W (RTy.leaves (.s (.one (.int .i64))))} (h : F71 (fun v => Back (.s (.one (.int .i64))) g (.returned v)) i_1 w) : CallT Go.Proofs.Try.prog 71 [.int .i64 i_1] (.s (.one (.int .i64))) g w := F71_calls h

/-! ## avl.Immutable).resetDummy -/
def F70 (k : Value → W) (immutable_1 : Option Addr) : W :=
 Drw <|
 NN immutable_1 fun a2 =>
 Req (0 ≤ (0 : Int) ∧ (0 : Int) < (2 : Int)) <|
 NN immutable_1 fun a3 =>
 Store1 (((a2.add 2).add 1).add ((0 : Int).toNat)) (.pointer none) <|
 Req (0 ≤ (1 : Int) ∧ (1 : Int) < (2 : Int)) <|
 Store1 (((a3.add 2).add 1).add ((1 : Int).toNat)) (.pointer none) <|
 NN immutable_1 fun a4 =>
 Store1 (a4.add 2) (.int .i8 0) <|
 k (.tuple #[])
theorem F70_eq (k : Value → W) (immutable_1 : Option Addr) : compF Go.Proofs.Try.prog Go.Proofs.Try.f70 [] (Go.Proofs.Try.f70.body.getD .skip) [.pointer immutable_1] k = F70 k immutable_1 := by kernel_rfl
theorem F70_calls {immutable_1 : Option Addr} {w : World} {R : Ending → World → Prop} (h : F70 (fun v w => R (.returned v) w) immutable_1 w) : Calls Go.Proofs.Try.prog 70 #[.pointer immutable_1] w R :=
  calls_of_compF noNum follows [] (f := 70) (fn := Go.Proofs.Try.f70) (body := Go.Proofs.Try.f70.body.getD .skip) (args := [.pointer immutable_1]) rfl rfl (Nat.le_of_ble_eq_true rfl) ((congrFun (F70_eq _ immutable_1) w).mpr h)
theorem F70_call {immutable_1 : Option Addr} {w : World} {g : Fn W (RTy.leaves (.tup []))} (h : F70 (fun v => Back (.tup []) g (.returned v)) immutable_1 w) : CallT Go.Proofs.Try.prog 70 [.pointer immutable_1] (.tup []) g w := F70_calls h

/-! ## avl.newNode -/
def F69 (k : Value → W) (entry_1 : Value) : W :=
 Req (oneC entry_1 = true) <|
 New [.int .i8 0, .pointer none, .pointer none, entry_1] 119 fun n2 =>
 k (.pointer (some ⟨n2, 0, none⟩))
theorem F69_eq (k : Value → W) (entry_1 : Value) : compF Go.Proofs.Try.prog Go.Proofs.Try.f69 [] (Go.Proofs.Try.f69.body.getD .skip) [entry_1] k = F69 k entry_1 := by kernel_rfl
theorem F69_calls {entry_1 : Value} {w : World} {R : Ending → World → Prop} (h : F69 (fun v w => R (.returned v) w) entry_1 w) : Calls Go.Proofs.Try.prog 69 #[entry_1] w R :=
  calls_of_compF noNum follows [] (f := 69) (fn := Go.Proofs.Try.f69) (body := Go.Proofs.Try.f69.body.getD .skip) (args := [entry_1]) rfl rfl (Nat.le_of_ble_eq_true rfl) ((congrFun (F69_eq _ entry_1) w).mpr h)
theorem F69_call {entry_1 : Value} {w : World} {g : Fn W (RTy.leaves (.s (.one .ptr)))} (h : F69 (fun v => Back (.s (.one .ptr)) g (.returned v)) entry_1 w) : CallT Go.Proofs.Try.prog 69 [entry_1] (.s (.one .ptr)) g w := F69_calls h

/-! ## avl.node).copy -/
def F68 (k : Value → W) (n_1 : Option Addr) : W :=
 Drw <|
 NN n_1 fun a2 =>
 LoadT (.int .i8) a2 fun x3 =>
 NN n_1 fun a4 =>
 Req (0 ≤ (0 : Int) ∧ (0 : Int) < (2 : Int)) <|
 LoadT .ptr ((a4.add 1).add ((0 : Int).toNat)) fun p5 =>
 NN n_1 fun a6 =>
 Req (0 ≤ (1 : Int) ∧ (1 : Int) < (2 : Int)) <|
 LoadT .ptr ((a6.add 1).add ((1 : Int).toNat)) fun p7 =>
 NN n_1 fun a8 =>
 LoadT .any (a8.add 3) fun v9 =>
 Req (oneC v9 = true) <|
 New [.int .i8 x3, .pointer p5, .pointer p7, v9] 119 fun n10 =>
 Chk1 (a8.add 3) v9 <|
 Chk1 ((a6.add 1).add ((1 : Int).toNat)) (.pointer p7) <|
 Chk1 ((a4.add 1).add ((0 : Int).toNat)) (.pointer p5) <|
 Chk1 a2 (.int .i8 x3) <|
 k (.pointer (some ⟨n10, 0, none⟩))
theorem F68_eq (k : Value → W) (n_1 : Option Addr) : compF Go.Proofs.Try.prog Go.Proofs.Try.f68 [] (Go.Proofs.Try.f68.body.getD .skip) [.pointer n_1] k = F68 k n_1 := by kernel_rfl
theorem F68_calls {n_1 : Option Addr} {w : World} {R : Ending → World → Prop} (h : F68 (fun v w => R (.returned v) w) n_1 w) : Calls Go.Proofs.Try.prog 68 #[.pointer n_1] w R :=
  calls_of_compF noNum follows [] (f := 68) (fn := Go.Proofs.Try.f68) (body := Go.Proofs.Try.f68.body.getD .skip) (args := [.pointer n_1]) rfl rfl (Nat.le_of_ble_eq_true rfl) ((congrFun (F68_eq _ n_1) w).mpr h)
theorem F68_call {n_1 : Option Addr} {w : World} {g : Fn W (RTy.leaves (.s (.one .ptr)))} (h : F68 (fun v => Back (.s (.one .ptr)) g (.returned v)) n_1 w) : CallT Go.Proofs.Try.prog 68 [.pointer n_1] (.s (.one .ptr)) g w := F68_calls h

/-! ## avl.Immutable).copy -/
def F59_J1 (k : Value → W) (immutable_7 : Option Addr) (root_8 : Option Addr) : W :=
 Drw <|
 NN immutable_7 fun a9 =>
 LoadT (.int .u64) (a9.add 1) fun x10 =>
 CallT Go.Proofs.Try.prog 69 [.nilIface] (.s (.one .ptr)) fun p11 =>
 Chk1 (a9.add 1) (.int .u64 x10) <|
 NN p11 fun a12 =>
 LoadT (.int .i8) (a12.add 0) fun x13 =>
 LoadT .ptr (a12.add 1) fun p14 =>
 LoadT .ptr (a12.add 2) fun p15 =>
 LoadT .any (a12.add 3) fun v16 =>
 New [.pointer root_8, .int .u64 x10, .int .i8 x13, .pointer p14, .pointer p15, v16] 121 fun n17 =>
 Chk1 (a12.add 0) (.int .i8 x13) <|
 Chk1 (a12.add 1) (.pointer p14) <|
 Chk1 (a12.add 2) (.pointer p15) <|
 Chk1 (a12.add 3) v16 <|
 Chk1 (a9.add 1) (.int .u64 x10) <|
 k (.pointer (some ⟨n17, 0, none⟩))
def F59 (k : Value → W) (immutable_1 : Option Addr) : W :=
 NN immutable_1 fun a2 =>
 LoadT .ptr a2 fun p3 =>
 BIf (!p3.isNone) (
  NN immutable_1 fun a4 =>
  LoadT .ptr a4 fun p5 =>
  CallT Go.Proofs.Try.prog 68 [.pointer p5] (.s (.one .ptr)) fun p6 =>
  F59_J1 k immutable_1 p6) (
  F59_J1 k immutable_1 none)
theorem F59_eq (k : Value → W) (immutable_1 : Option Addr) : compF Go.Proofs.Try.prog Go.Proofs.Try.f59 [] (Go.Proofs.Try.f59.body.getD .skip) [.pointer immutable_1] k = F59 k immutable_1 := by kernel_rfl
theorem F59_calls {immutable_1 : Option Addr} {w : World} {R : Ending → World → Prop} (h : F59 (fun v w => R (.returned v) w) immutable_1 w) : Calls Go.Proofs.Try.prog 59 #[.pointer immutable_1] w R :=
  calls_of_compF noNum follows [] (f := 59) (fn := Go.Proofs.Try.f59) (body := Go.Proofs.Try.f59.body.getD .skip) (args := [.pointer immutable_1]) rfl rfl (Nat.le_of_ble_eq_true rfl) ((congrFun (F59_eq _ immutable_1) w).mpr h)
theorem F59_call {immutable_1 : Option Addr} {w : World} {g : Fn W (RTy.leaves (.s (.one .ptr)))} (h : F59 (fun v => Back (.s (.one .ptr)) g (.returned v)) immutable_1 w) : CallT Go.Proofs.Try.prog 59 [.pointer immutable_1] (.s (.one .ptr)) g w := F59_calls h

/-! ## avl.Immutable).init -/
def F58 (k : Value → W) (immutable_1 : Option Addr) : W :=
 NN immutable_1 fun a2 =>
 Store1 ((a2.add 2).add 0) (.int .i8 0) <|
 Store1 ((a2.add 2).add 1) (.pointer none) <|
 Store1 ((a2.add 2).add 2) (.pointer none) <|
 Store1 ((a2.add 2).add 3) .nilIface <|
 k (.tuple #[])
theorem F58_eq (k : Value → W) (immutable_1 : Option Addr) : compF Go.Proofs.Try.prog Go.Proofs.Try.f58 [] (Go.Proofs.Try.f58.body.getD .skip) [.pointer immutable_1] k = F58 k immutable_1 := by kernel_rfl
theorem F58_calls {immutable_1 : Option Addr} {w : World} {R : Ending → World → Prop} (h : F58 (fun v w => R (.returned v) w) immutable_1 w) : Calls Go.Proofs.Try.prog 58 #[.pointer immutable_1] w R :=
  calls_of_compF noNum follows [] (f := 58) (fn := Go.Proofs.Try.f58) (body := Go.Proofs.Try.f58.body.getD .skip) (args := [.pointer immutable_1]) rfl rfl (Nat.le_of_ble_eq_true rfl) ((congrFun (F58_eq _ immutable_1) w).mpr h)
theorem F58_call {immutable_1 : Option Addr} {w : World} {g : Fn W (RTy.leaves (.tup []))} (h : F58 (fun v => Back (.tup []) g (.returned v)) immutable_1 w) : CallT Go.Proofs.Try.prog 58 [.pointer immutable_1] (.tup []) g w := F58_calls h

/-! ## avl.NewImmutable -/
def F42 (k : Value → W) : W :=
 New [.pointer none, .int .u64 0, .int .i8 0, .pointer none, .pointer none, .nilIface] 121 fun n1 =>
 CallT Go.Proofs.Try.prog 58 [.pointer (some ⟨n1, 0, none⟩)] (.tup []) <|
 k (.pointer (some ⟨n1, 0, none⟩))
theorem F42_eq (k : Value → W) : compF Go.Proofs.Try.prog Go.Proofs.Try.f42 [] (Go.Proofs.Try.f42.body.getD .skip) [] k = F42 k  := by kernel_rfl
theorem F42_calls {w : World} {R : Ending → World → Prop} (h : F42 (fun v w => R (.returned v) w)  w) : Calls Go.Proofs.Try.prog 42 #[] w R :=
  calls_of_compF noNum follows [] (f := 42) (fn := Go.Proofs.Try.f42) (body := Go.Proofs.Try.f42.body.getD .skip) (args := []) rfl rfl (Nat.le_of_ble_eq_true rfl) ((congrFun (F42_eq _ ) w).mpr h)
theorem F42_call {w : World} {g : Fn W (RTy.leaves (.s (.one .ptr)))} (h : F42 (fun v => Back (.s (.one .ptr)) g (.returned v))  w) : CallT Go.Proofs.Try.prog 42 [] (.s (.one .ptr)) g w := F42_calls h

/-! ## avl.Immutable).get -/
def F46_L1 (k : Value → W) (again7 : Value → Option Addr → W) (entry_5 : Value) (n_6 : Option Addr) : W :=
 BIf (!n_6.isNone) (
  NN n_6 fun a8 =>
  LoadT .any (a8.add 3) fun v9 =>
  NextT Go.Proofs.Try.prog (callMethod v9 "Compare" [entry_5].toArray) (.s (.one (.int .i64))) fun x10 =>
  BIf (x10 == 0) (
   NN n_6 fun a11 =>
   LoadT .any (a11.add 3) fun v12 =>
   k v12) (
   BIf (decide (x10 > 0)) (
    NN n_6 fun a13 =>
    Req (0 ≤ (0 : Int) ∧ (0 : Int) < (2 : Int)) <|
    LoadT .ptr ((a13.add 1).add ((0 : Int).toNat)) fun p14 =>
    again7 entry_5 p14) (
    BIf (decide (x10 < 0)) (
     NN n_6 fun a15 =>
     Req (0 ≤ (1 : Int) ∧ (1 : Int) < (2 : Int)) <|
     LoadT .ptr ((a15.add 1).add ((1 : Int).toNat)) fun p16 =>
     again7 entry_5 p16) (
     again7 entry_5 n_6)))) (
  k .nilIface)
theorem F46_L1_rule {k : Value → W} (I : Value → Option Addr → W) (μ : Value → Option Addr → World → Nat)
  (hr : ∀ (entry_5 : Value) (n_6 : Option Addr) (w : World), I entry_5 n_6 w → F46_L1 k (fun entry_5' n_6' w' => I entry_5' n_6' w' ∧ μ entry_5' n_6' w' < μ entry_5 n_6 w) entry_5 n_6 w)
  {w : World} {entry_5 : Value} {n_6 : Option Addr} (h : I entry_5 n_6 w) : Loop [.any, .ptr] (F46_L1 k) entry_5 n_6 w :=
  Loop_intro (ts := [.any, .ptr]) (s := (entry_5, n_6, ())) (fun s w => I s.1 s.2.1 w) (fun s w => μ s.1 s.2.1 w) h (fun s w h => hr s.1 s.2.1 w h)
def F46 (k : Value → W) (immutable_1 : Option Addr) (entry_2 : Value) : W :=
 NN immutable_1 fun a3 =>
 LoadT .ptr a3 fun p4 =>
 Loop [.any, .ptr] (F46_L1 k) entry_2 p4
theorem F46_eq (k : Value → W) (immutable_1 : Option Addr) (entry_2 : Value) : compF Go.Proofs.Try.prog Go.Proofs.Try.f46 [(3, [(1, .any), (5, .ptr)])] (Go.Proofs.Try.f46.body.getD .skip) [.pointer immutable_1, entry_2] k = F46 k immutable_1 entry_2 := by kernel_rfl
theorem F46_calls {immutable_1 : Option Addr} {entry_2 : Value} {w : World} {R : Ending → World → Prop} (h : F46 (fun v w => R (.returned v) w) immutable_1 entry_2 w) : Calls Go.Proofs.Try.prog 46 #[.pointer immutable_1, entry_2] w R :=
  calls_of_compF noNum follows [(3, [(1, .any), (5, .ptr)])] (f := 46) (fn := Go.Proofs.Try.f46) (body := Go.Proofs.Try.f46.body.getD .skip) (args := [.pointer immutable_1, entry_2]) rfl rfl (Nat.le_of_ble_eq_true rfl) ((congrFun (F46_eq _ immutable_1 entry_2) w).mpr h)
theorem F46_call {immutable_1 : Option Addr} {entry_2 : Value} {w : World} {g : Fn W (RTy.leaves (.s (.one .any)))} (h : F46 (fun v => Back (.s (.one .any)) g (.returned v)) immutable_1 entry_2 w) : CallT Go.Proofs.Try.prog 46 [.pointer immutable_1, entry_2] (.s (.one .any)) g w := F46_calls h

/-! ## avl.Immutable).Get -/
def F28_L1 (k : Value → W) (again9 : Option Addr → Option Addr → Nat → Nat → Option Addr → Nat → Nat → Int → Int → W) (immutable_4 : Option Addr) (result_5p : Option Addr) (result_5l : Nat) (result_5c : Nat) (s6p : Option Addr) (s6l : Nat) (s6c : Nat) (x7 : Int) (x8 : Int) : W :=
 BIf (decide (x8 < x7)) (
  NN s6p fun a10 =>
  Req (0 ≤ x8 ∧ x8 < ((s6l : Nat) : Int)) <|
  LoadT .any (a10.add x8.toNat) fun v11 =>
  CallT Go.Proofs.Try.prog 46 [.pointer immutable_4, v11] (.s (.one .any)) fun v12 =>
  RawT Go.Proofs.Try.prog (Instr.buildSlice 71 1 [(0, v12)].toArray) (.s (.one .slice)) fun s13p s13l s13c =>
  NextT Go.Proofs.Try.prog (builtin .append #[71, 71] 71 [false, false].toArray [.slice result_5p result_5l result_5c, .slice s13p s13l s13c].toArray) (.s (.one .slice)) fun s14p s14l s14c =>
  again9 immutable_4 s14p s14l s14c s6p s6l s6c x7 (addI .i64 x8 1)) (
  k (.slice result_5p result_5l result_5c))
theorem F28_L1_rule {k : Value → W} (I : Option Addr → Option Addr → Nat → Nat → Option Addr → Nat → Nat → Int → Int → W) (μ : Option Addr → Option Addr → Nat → Nat → Option Addr → Nat → Nat → Int → Int → World → Nat)
  (hr : ∀ (immutable_4 : Option Addr) (result_5p : Option Addr) (result_5l : Nat) (result_5c : Nat) (s6p : Option Addr) (s6l : Nat) (s6c : Nat) (x7 : Int) (x8 : Int) (w : World), I immutable_4 result_5p result_5l result_5c s6p s6l s6c x7 x8 w → F28_L1 k (fun immutable_4' result_5p' result_5l' result_5c' s6p' s6l' s6c' x7' x8' w' => I immutable_4' result_5p' result_5l' result_5c' s6p' s6l' s6c' x7' x8' w' ∧ μ immutable_4' result_5p' result_5l' result_5c' s6p' s6l' s6c' x7' x8' w' < μ immutable_4 result_5p result_5l result_5c s6p s6l s6c x7 x8 w) immutable_4 result_5p result_5l result_5c s6p s6l s6c x7 x8 w)
  {w : World} {immutable_4 : Option Addr} {result_5p : Option Addr} {result_5l : Nat} {result_5c : Nat} {s6p : Option Addr} {s6l : Nat} {s6c : Nat} {x7 : Int} {x8 : Int} (h : I immutable_4 result_5p result_5l result_5c s6p s6l s6c x7 x8 w) : Loop [.ptr, .slice, .slice, (.int .i64), (.int .i64)] (F28_L1 k) immutable_4 result_5p result_5l result_5c s6p s6l s6c x7 x8 w :=
  Loop_intro (ts := [.ptr, .slice, .slice, (.int .i64), (.int .i64)]) (s := (immutable_4, (result_5p, result_5l, result_5c), (s6p, s6l, s6c), x7, x8, ())) (fun s w => I s.1 s.2.1.1 s.2.1.2.1 s.2.1.2.2 s.2.2.1.1 s.2.2.1.2.1 s.2.2.1.2.2 s.2.2.2.1 s.2.2.2.2.1 w) (fun s w => μ s.1 s.2.1.1 s.2.1.2.1 s.2.1.2.2 s.2.2.1.1 s.2.2.1.2.1 s.2.2.1.2.2 s.2.2.2.1 s.2.2.2.2.1 w) h (fun s w h => hr s.1 s.2.1.1 s.2.1.2.1 s.2.1.2.2 s.2.2.1.1 s.2.2.1.2.1 s.2.2.1.2.2 s.2.2.2.1 s.2.2.2.2.1 w h)
def F28 (k : Value → W) (immutable_1 : Option Addr) (entries_2p : Option Addr) (entries_2l : Nat) (entries_2c : Nat) : W :=
 RawT Go.Proofs.Try.prog (Instr.makeSlice 71 (.int .i64 0) (.int .i64 ((entries_2l : Nat) : Int))) (.s (.one .slice)) fun s3p s3l s3c =>
 Loop [.ptr, .slice, .slice, (.int .i64), (.int .i64)] (F28_L1 k) immutable_1 s3p s3l s3c entries_2p entries_2l entries_2c ((entries_2l : Nat) : Int) 0
theorem F28_eq (k : Value → W) (immutable_1 : Option Addr) (entries_2p : Option Addr) (entries_2l : Nat) (entries_2c : Nat) : compF Go.Proofs.Try.prog Go.Proofs.Try.f28 [(3, [(0, .ptr), (5, .slice), (11, .slice), (12, (.int .i64)), (13, (.int .i64))])] (Go.Proofs.Try.f28.body.getD .skip) [.pointer immutable_1, .slice entries_2p entries_2l entries_2c] k = F28 k immutable_1 entries_2p entries_2l entries_2c := by kernel_rfl
theorem F28_calls {immutable_1 : Option Addr} {entries_2p : Option Addr} {entries_2l : Nat} {entries_2c : Nat} {w : World} {R : Ending → World → Prop} (h : F28 (fun v w => R (.returned v) w) immutable_1 entries_2p entries_2l entries_2c w) : Calls Go.Proofs.Try.prog 28 #[.pointer immutable_1, .slice entries_2p entries_2l entries_2c] w R :=
  calls_of_compF noNum follows [(3, [(0, .ptr), (5, .slice), (11, .slice), (12, (.int .i64)), (13, (.int .i64))])] (f := 28) (fn := Go.Proofs.Try.f28) (body := Go.Proofs.Try.f28.body.getD .skip) (args := [.pointer immutable_1, .slice entries_2p entries_2l entries_2c]) rfl rfl (Nat.le_of_ble_eq_true rfl) ((congrFun (F28_eq _ immutable_1 entries_2p entries_2l entries_2c) w).mpr h)
theorem F28_call {immutable_1 : Option Addr} {entries_2p : Option Addr} {entries_2l : Nat} {entries_2c : Nat} {w : World} {g : Fn W (RTy.leaves (.s (.one .slice)))} (h : F28 (fun v => Back (.s (.one .slice)) g (.returned v)) immutable_1 entries_2p entries_2l entries_2c w) : CallT Go.Proofs.Try.prog 28 [.pointer immutable_1, .slice entries_2p entries_2l entries_2c] (.s (.one .slice)) g w := F28_calls h

/-! ## avl.Immutable).Len -/
def F45 (k : Value → W) (immutable_1 : Option Addr) : W :=
 NN immutable_1 fun a2 =>
 LoadT (.int .u64) (a2.add 1) fun x3 =>
 k (.int .u64 x3)
theorem F45_eq (k : Value → W) (immutable_1 : Option Addr) : compF Go.Proofs.Try.prog Go.Proofs.Try.f45 [] (Go.Proofs.Try.f45.body.getD .skip) [.pointer immutable_1] k = F45 k immutable_1 := by kernel_rfl
theorem F45_calls {immutable_1 : Option Addr} {w : World} {R : Ending → World → Prop} (h : F45 (fun v w => R (.returned v) w) immutable_1 w) : Calls Go.Proofs.Try.prog 45 #[.pointer immutable_1] w R :=
  calls_of_compF noNum follows [] (f := 45) (fn := Go.Proofs.Try.f45) (body := Go.Proofs.Try.f45.body.getD .skip) (args := [.pointer immutable_1]) rfl rfl (Nat.le_of_ble_eq_true rfl) ((congrFun (F45_eq _ immutable_1) w).mpr h)
theorem F45_call {immutable_1 : Option Addr} {w : World} {g : Fn W (RTy.leaves (.s (.one (.int .u64))))} (h : F45 (fun v => Back (.s (.one (.int .u64))) g (.returned v)) immutable_1 w) : CallT Go.Proofs.Try.prog 45 [.pointer immutable_1] (.s (.one (.int .u64))) g w := F45_calls h

/-! ## math.Abs -/
def F72 (k : Value → W) (x_1 : Nat) : W :=
 NextT Go.Proofs.Try.prog (callFunc 78 [.float .f64 x_1].toArray) (.s (.one (.int .u64))) fun x2 =>
 NextT Go.Proofs.Try.prog (callFunc 77 [.int .u64 (andNotI .u64 x2 9223372036854775808)].toArray) (.s (.one (.float .f64))) fun x3 =>
 k (.float .f64 x3)
theorem F72_eq (k : Value → W) (x_1 : Nat) : compF Go.Proofs.Try.prog Go.Proofs.Try.f72 [] (Go.Proofs.Try.f72.body.getD .skip) [.float .f64 x_1] k = F72 k x_1 := by kernel_rfl
theorem F72_calls {x_1 : Nat} {w : World} {R : Ending → World → Prop} (h : F72 (fun v w => R (.returned v) w) x_1 w) : Calls Go.Proofs.Try.prog 72 #[.float .f64 x_1] w R :=
  calls_of_compF noNum follows [] (f := 72) (fn := Go.Proofs.Try.f72) (body := Go.Proofs.Try.f72.body.getD .skip) (args := [.float .f64 x_1]) rfl rfl (Nat.le_of_ble_eq_true rfl) ((congrFun (F72_eq _ x_1) w).mpr h)
theorem F72_call {x_1 : Nat} {w : World} {g : Fn W (RTy.leaves (.s (.one (.float .f64))))} (h : F72 (fun v => Back (.s (.one (.float .f64))) g (.returned v)) x_1 w) : CallT Go.Proofs.Try.prog 72 [.float .f64 x_1] (.s (.one (.float .f64))) g w := F72_calls h

/-! ## avl.Immutable).insert -/
def F60_J3 (k : Value → W) (again64 : Option Addr → Value → Addr → Option Addr → Option Addr → Option Addr → Option Addr → W) (immutable_72 : Option Addr) (entry_73 : Value) (dummy_74 : Addr) (p_75 : Option Addr) (s_76 : Option Addr) (q_77 : Option Addr) (normalized_78 : Int) (helper_79 : Option Addr) : W :=
 NN p_75 fun a80 =>
 Req (0 ≤ normalized_78 ∧ normalized_78 < (2 : Int)) <|
 LoadT .ptr ((a80.add 1).add normalized_78.toNat) fun p81 =>
 again64 immutable_72 entry_73 dummy_74 p81 s_76 q_77 helper_79
def F60_J4 (k : Value → W) (immutable_94 : Option Addr) (dummy_95 : Addr) (s_96 : Option Addr) (q_97 : Option Addr) (helper_98 : Option Addr) : W :=
 Req (0 ≤ (1 : Int) ∧ (1 : Int) < (2 : Int)) <|
 LoadT .ptr ((dummy_95.add 1).add ((1 : Int).toNat)) fun p99 =>
 RawS Go.Proofs.Try.prog (binS .eql 115 (.tmp 191) (.tmp 194) (.pointer q_97) (.pointer p99)) (.s (.one .bool)) fun b100 =>
 BIf b100 (
  NN immutable_94 fun a101 =>
  Store1 a101 (.pointer s_96) <|
  k .nilIface) (
  Drw <|
  NN helper_98 fun a102 =>
  Req (0 ≤ (1 : Int) ∧ (1 : Int) < (2 : Int)) <|
  LoadT .ptr ((a102.add 1).add ((1 : Int).toNat)) fun p103 =>
  NN helper_98 fun a104 =>
  RawS Go.Proofs.Try.prog (binS .eql 115 (.tmp 205) (.tmp 206) (.pointer p103) (.pointer q_97)) (.s (.one .bool)) fun b105 =>
  CallT Go.Proofs.Try.prog 74 [.bool b105] (.s (.one (.int .i64))) fun x106 =>
  Chk1 ((a102.add 1).add ((1 : Int).toNat)) (.pointer p103) <|
  Req (0 ≤ x106 ∧ x106 < (2 : Int)) <|
  Store1 ((a104.add 1).add x106.toNat) (.pointer s_96) <|
  k .nilIface)
def F60_L2 (k : Value → W) (again64 : Option Addr → Value → Addr → Option Addr → Option Addr → Option Addr → Option Addr → W) (immutable_57 : Option Addr) (entry_58 : Value) (dummy_59 : Addr) (p_60 : Option Addr) (s_61 : Option Addr) (q_62 : Option Addr) (helper_63 : Option Addr) : W :=
 RawS Go.Proofs.Try.prog (binS .neq 115 (.tmp 141) (.tmp 142) (.pointer p_60) (.pointer q_62)) (.s (.one .bool)) fun b65 =>
 BIf b65 (
  NN p_60 fun a66 =>
  LoadT .any (a66.add 3) fun v67 =>
  NextT Go.Proofs.Try.prog (callMethod v67 "Compare" [entry_58].toArray) (.s (.one (.int .i64))) fun x68 =>
  CallT Go.Proofs.Try.prog 71 [.int .i64 x68] (.s (.one (.int .i64))) fun x69 =>
  BIf (x69 == 0) (
   NN p_60 fun a70 =>
   LoadT (.int .i8) a70 fun x71 =>
   Store1 a70 (.int .i8 (subI .i8 x71 1)) <|
   F60_J3 k again64 immutable_57 entry_58 dummy_59 p_60 s_61 q_62 x69 helper_63) (
   NN p_60 fun a82 =>
   LoadT (.int .i8) a82 fun x83 =>
   Store1 a82 (.int .i8 (addI .i8 x83 1)) <|
   F60_J3 k again64 immutable_57 entry_58 dummy_59 p_60 s_61 q_62 x69 helper_63)) (
  NN s_61 fun a84 =>
  LoadT (.int .i8) a84 fun x85 =>
  RawT Go.Proofs.Try.prog (convert 116 132 (.int .i8 x85)) (.s (.one (.float .f64))) fun x86 =>
  CallT Go.Proofs.Try.prog 72 [.float .f64 x86] (.s (.one (.float .f64))) fun x87 =>
  RawS Go.Proofs.Try.prog (binS .gtr 132 (.tmp 179) (.const (.float .f64 4607182418800017408)) (.float .f64 x87) (.float .f64 4607182418800017408)) (.s (.one .bool)) fun b88 =>
  BIf b88 (
   NN s_61 fun a89 =>
   LoadT .any (a89.add 3) fun v90 =>
   NextT Go.Proofs.Try.prog (callMethod v90 "Compare" [entry_58].toArray) (.s (.one (.int .i64))) fun x91 =>
   CallT Go.Proofs.Try.prog 71 [.int .i64 x91] (.s (.one (.int .i64))) fun x92 =>
   CallT Go.Proofs.Try.prog 73 [.pointer s_61, .int .i64 x92] (.s (.one .ptr)) fun p93 =>
   F60_J4 k immutable_57 dummy_59 p93 s_61 helper_63) (
   F60_J4 k immutable_57 dummy_59 s_61 s_61 helper_63))
theorem F60_L2_rule {k : Value → W} (I : Option Addr → Value → Addr → Option Addr → Option Addr → Option Addr → Option Addr → W) (μ : Option Addr → Value → Addr → Option Addr → Option Addr → Option Addr → Option Addr → World → Nat)
  (hr : ∀ (immutable_57 : Option Addr) (entry_58 : Value) (dummy_59 : Addr) (p_60 : Option Addr) (s_61 : Option Addr) (q_62 : Option Addr) (helper_63 : Option Addr) (w : World), I immutable_57 entry_58 dummy_59 p_60 s_61 q_62 helper_63 w → F60_L2 k (fun immutable_57' entry_58' dummy_59' p_60' s_61' q_62' helper_63' w' => I immutable_57' entry_58' dummy_59' p_60' s_61' q_62' helper_63' w' ∧ μ immutable_57' entry_58' dummy_59' p_60' s_61' q_62' helper_63' w' < μ immutable_57 entry_58 dummy_59 p_60 s_61 q_62 helper_63 w) immutable_57 entry_58 dummy_59 p_60 s_61 q_62 helper_63 w)
  {w : World} {immutable_57 : Option Addr} {entry_58 : Value} {dummy_59 : Addr} {p_60 : Option Addr} {s_61 : Option Addr} {q_62 : Option Addr} {helper_63 : Option Addr} (h : I immutable_57 entry_58 dummy_59 p_60 s_61 q_62 helper_63 w) : Loop [.ptr, .any, .addr, .ptr, .ptr, .ptr, .ptr] (F60_L2 k) immutable_57 entry_58 dummy_59 p_60 s_61 q_62 helper_63 w :=
  Loop_intro (ts := [.ptr, .any, .addr, .ptr, .ptr, .ptr, .ptr]) (s := (immutable_57, entry_58, dummy_59, p_60, s_61, q_62, helper_63, ())) (fun s w => I s.1 s.2.1 s.2.2.1 s.2.2.2.1 s.2.2.2.2.1 s.2.2.2.2.2.1 s.2.2.2.2.2.2.1 w) (fun s w => μ s.1 s.2.1 s.2.2.1 s.2.2.2.1 s.2.2.2.2.1 s.2.2.2.2.2.1 s.2.2.2.2.2.2.1 w) h (fun s w h => hr s.1 s.2.1 s.2.2.1 s.2.2.2.1 s.2.2.2.2.1 s.2.2.2.2.2.1 s.2.2.2.2.2.2.1 w h)
def F60_J2 (k : Value → W) (immutable_44 : Option Addr) (entry_45 : Value) (dummy_46 : Addr) (p_47 : Option Addr) (s_48 : Option Addr) (normalized_49 : Int) (helper_50 : Option Addr) : W :=
 NN immutable_44 fun a51 =>
 LoadT (.int .u64) (a51.add 1) fun x52 =>
 Store1 (a51.add 1) (.int .u64 (addI .u64 x52 1)) <|
 CallT Go.Proofs.Try.prog 69 [entry_45] (.s (.one .ptr)) fun p53 =>
 NN p_47 fun a54 =>
 Req (0 ≤ normalized_49 ∧ normalized_49 < (2 : Int)) <|
 Store1 ((a54.add 1).add normalized_49.toNat) (.pointer p53) <|
 Req (0 ≤ (1 : Int) ∧ (1 : Int) < (2 : Int)) <|
 LoadT .ptr ((dummy_46.add 1).add ((1 : Int).toNat)) fun p55 =>
 NN immutable_44 fun a56 =>
 Store1 a56 (.pointer p55) <|
 Loop [.ptr, .any, .addr, .ptr, .ptr, .ptr, .ptr] (F60_L2 k) immutable_44 entry_45 dummy_46 s_48 s_48 p53 helper_50
def F60_J1 (k : Value → W) (again25 : Option Addr → Value → Addr → Option Addr → Option Addr → Option Addr → W) (immutable_36 : Option Addr) (entry_37 : Value) (dummy_38 : Addr) (p_39 : Option Addr) (s_40 : Option Addr) (q_41 : Option Addr) (normalized_42 : Int) (helper_43 : Option Addr) : W :=
 BIf q_41.isNone (
  F60_J2 k immutable_36 entry_37 dummy_38 p_39 s_40 normalized_42 helper_43) (
  NN q_41 fun a107 =>
  LoadT (.int .i8) a107 fun x108 =>
  BIf (x108 != 0) (
   again25 immutable_36 entry_37 dummy_38 q_41 q_41 p_39) (
   again25 immutable_36 entry_37 dummy_38 q_41 s_40 helper_43))
def F60_L1 (k : Value → W) (again25 : Option Addr → Value → Addr → Option Addr → Option Addr → Option Addr → W) (immutable_19 : Option Addr) (entry_20 : Value) (dummy_21 : Addr) (p_22 : Option Addr) (s_23 : Option Addr) (helper_24 : Option Addr) : W :=
 NN p_22 fun a26 =>
 LoadT .any (a26.add 3) fun v27 =>
 NextT Go.Proofs.Try.prog (callMethod v27 "Compare" [entry_20].toArray) (.s (.one (.int .i64))) fun x28 =>
 CallT Go.Proofs.Try.prog 71 [.int .i64 x28] (.s (.one (.int .i64))) fun x29 =>
 BIf (decide (x28 > 0)) (
  NN p_22 fun a30 =>
  Req (0 ≤ (0 : Int) ∧ (0 : Int) < (2 : Int)) <|
  LoadT .ptr ((a30.add 1).add ((0 : Int).toNat)) fun p31 =>
  BIf (!p31.isNone) (
   NN p_22 fun a32 =>
   Req (0 ≤ (0 : Int) ∧ (0 : Int) < (2 : Int)) <|
   LoadT .ptr ((a32.add 1).add ((0 : Int).toNat)) fun p33 =>
   CallT Go.Proofs.Try.prog 68 [.pointer p33] (.s (.one .ptr)) fun p34 =>
   NN p_22 fun a35 =>
   Req (0 ≤ (0 : Int) ∧ (0 : Int) < (2 : Int)) <|
   Store1 ((a35.add 1).add ((0 : Int).toNat)) (.pointer p34) <|
   F60_J1 k again25 immutable_19 entry_20 dummy_21 p_22 s_23 p34 x29 helper_24) (
   F60_J1 k again25 immutable_19 entry_20 dummy_21 p_22 s_23 none x29 helper_24)) (
  BIf (decide (x28 < 0)) (
   NN p_22 fun a109 =>
   Req (0 ≤ (1 : Int) ∧ (1 : Int) < (2 : Int)) <|
   LoadT .ptr ((a109.add 1).add ((1 : Int).toNat)) fun p110 =>
   BIf (!p110.isNone) (
    NN p_22 fun a111 =>
    Req (0 ≤ (1 : Int) ∧ (1 : Int) < (2 : Int)) <|
    LoadT .ptr ((a111.add 1).add ((1 : Int).toNat)) fun p112 =>
    CallT Go.Proofs.Try.prog 68 [.pointer p112] (.s (.one .ptr)) fun p113 =>
    NN p_22 fun a114 =>
    Req (0 ≤ (1 : Int) ∧ (1 : Int) < (2 : Int)) <|
    Store1 ((a114.add 1).add ((1 : Int).toNat)) (.pointer p113) <|
    F60_J1 k again25 immutable_19 entry_20 dummy_21 p_22 s_23 p113 x29 helper_24) (
    F60_J1 k again25 immutable_19 entry_20 dummy_21 p_22 s_23 none x29 helper_24)) (
   NN p_22 fun a115 =>
   LoadT .any (a115.add 3) fun v116 =>
   NN p_22 fun a117 =>
   Req (oneC entry_20 = true) <|
   Store1 (a117.add 3) entry_20 <|
   k v116))
theorem F60_L1_rule {k : Value → W} (I : Option Addr → Value → Addr → Option Addr → Option Addr → Option Addr → W) (μ : Option Addr → Value → Addr → Option Addr → Option Addr → Option Addr → World → Nat)
  (hr : ∀ (immutable_19 : Option Addr) (entry_20 : Value) (dummy_21 : Addr) (p_22 : Option Addr) (s_23 : Option Addr) (helper_24 : Option Addr) (w : World), I immutable_19 entry_20 dummy_21 p_22 s_23 helper_24 w → F60_L1 k (fun immutable_19' entry_20' dummy_21' p_22' s_23' helper_24' w' => I immutable_19' entry_20' dummy_21' p_22' s_23' helper_24' w' ∧ μ immutable_19' entry_20' dummy_21' p_22' s_23' helper_24' w' < μ immutable_19 entry_20 dummy_21 p_22 s_23 helper_24 w) immutable_19 entry_20 dummy_21 p_22 s_23 helper_24 w)
  {w : World} {immutable_19 : Option Addr} {entry_20 : Value} {dummy_21 : Addr} {p_22 : Option Addr} {s_23 : Option Addr} {helper_24 : Option Addr} (h : I immutable_19 entry_20 dummy_21 p_22 s_23 helper_24 w) : Loop [.ptr, .any, .addr, .ptr, .ptr, .ptr] (F60_L1 k) immutable_19 entry_20 dummy_21 p_22 s_23 helper_24 w :=
  Loop_intro (ts := [.ptr, .any, .addr, .ptr, .ptr, .ptr]) (s := (immutable_19, entry_20, dummy_21, p_22, s_23, helper_24, ())) (fun s w => I s.1 s.2.1 s.2.2.1 s.2.2.2.1 s.2.2.2.2.1 s.2.2.2.2.2.1 w) (fun s w => μ s.1 s.2.1 s.2.2.1 s.2.2.2.1 s.2.2.2.2.1 s.2.2.2.2.2.1 w) h (fun s w h => hr s.1 s.2.1 s.2.2.1 s.2.2.2.1 s.2.2.2.2.1 s.2.2.2.2.2.1 w h)
def F60 (k : Value → W) (immutable_1 : Option Addr) (entry_2 : Value) : W :=
 NN immutable_1 fun a3 =>
 LoadT .ptr a3 fun p4 =>
 BIf p4.isNone (
  CallT Go.Proofs.Try.prog 69 [entry_2] (.s (.one .ptr)) fun p5 =>
  NN immutable_1 fun a6 =>
  Store1 a6 (.pointer p5) <|
  NN immutable_1 fun a7 =>
  LoadT (.int .u64) (a7.add 1) fun x8 =>
  Store1 (a7.add 1) (.int .u64 (addI .u64 x8 1)) <|
  k .nilIface) (
  CallT Go.Proofs.Try.prog 70 [.pointer immutable_1] (.tup []) <|
  NN immutable_1 fun a9 =>
  LoadT (.int .i8) ((a9.add 2).add 0) fun x10 =>
  LoadT .ptr ((a9.add 2).add 1) fun p11 =>
  LoadT .ptr ((a9.add 2).add 2) fun p12 =>
  LoadT .any ((a9.add 2).add 3) fun v13 =>
  New [.int .i8 0, .pointer none, .pointer none, .nilIface] 119 fun n14 =>
  Store1 ⟨n14, 0, none⟩ (.int .i8 x10) <|
  Store1 ⟨n14, 1, none⟩ (.pointer p11) <|
  Store1 ⟨n14, 2, none⟩ (.pointer p12) <|
  Store1 ⟨n14, 3, none⟩ v13 <|
  Drw <|
  NN immutable_1 fun a15 =>
  LoadT .ptr a15 fun p16 =>
  Req (0 ≤ (1 : Int) ∧ (1 : Int) < (2 : Int)) <|
  Store1 ((⟨n14, 1, none⟩ : Addr).add ((1 : Int).toNat)) (.pointer p16) <|
  Drw <|
  Req (0 ≤ (1 : Int) ∧ (1 : Int) < (2 : Int)) <|
  LoadT .ptr ((⟨n14, 1, none⟩ : Addr).add ((1 : Int).toNat)) fun p17 =>
  Req (0 ≤ (1 : Int) ∧ (1 : Int) < (2 : Int)) <|
  LoadT .ptr ((⟨n14, 1, none⟩ : Addr).add ((1 : Int).toNat)) fun p18 =>
  Loop [.ptr, .any, .addr, .ptr, .ptr, .ptr] (F60_L1 k) immutable_1 entry_2 ⟨n14, 0, none⟩ p18 p17 (some ⟨n14, 0, none⟩))
theorem F60_eq (k : Value → W) (immutable_1 : Option Addr) (entry_2 : Value) : compF Go.Proofs.Try.prog Go.Proofs.Try.f60 [(12, [(0, .ptr), (1, .any), (5, .addr), (6, .ptr), (7, .ptr), (11, .ptr)]), (37, [(0, .ptr), (1, .any), (5, .addr), (6, .ptr), (7, .ptr), (8, .ptr), (11, .ptr)])] (Go.Proofs.Try.f60.body.getD .skip) [.pointer immutable_1, entry_2] k = F60 k immutable_1 entry_2 := by kernel_rfl
theorem F60_calls {immutable_1 : Option Addr} {entry_2 : Value} {w : World} {R : Ending → World → Prop} (h : F60 (fun v w => R (.returned v) w) immutable_1 entry_2 w) : Calls Go.Proofs.Try.prog 60 #[.pointer immutable_1, entry_2] w R :=
  calls_of_compF noNum follows [(12, [(0, .ptr), (1, .any), (5, .addr), (6, .ptr), (7, .ptr), (11, .ptr)]), (37, [(0, .ptr), (1, .any), (5, .addr), (6, .ptr), (7, .ptr), (8, .ptr), (11, .ptr)])] (f := 60) (fn := Go.Proofs.Try.f60) (body := Go.Proofs.Try.f60.body.getD .skip) (args := [.pointer immutable_1, entry_2]) rfl rfl (Nat.le_of_ble_eq_true rfl) ((congrFun (F60_eq _ immutable_1 entry_2) w).mpr h)
theorem F60_call {immutable_1 : Option Addr} {entry_2 : Value} {w : World} {g : Fn W (RTy.leaves (.s (.one .any)))} (h : F60 (fun v => Back (.s (.one .any)) g (.returned v)) immutable_1 entry_2 w) : CallT Go.Proofs.Try.prog 60 [.pointer immutable_1, entry_2] (.s (.one .any)) g w := F60_calls h

/-! ## avl.Immutable).Insert -/
def F43_L1 (k : Value → W) (again11 : Option Addr → Nat → Nat → Option Addr → Option Addr → Nat → Nat → Int → Int → W) (overwritten_6p : Option Addr) (overwritten_6l : Nat) (overwritten_6c : Nat) (cp_7 : Option Addr) (s8p : Option Addr) (s8l : Nat) (s8c : Nat) (x9 : Int) (x10 : Int) : W :=
 BIf (decide (x10 < x9)) (
  NN s8p fun a12 =>
  Req (0 ≤ x10 ∧ x10 < ((s8l : Nat) : Int)) <|
  LoadT .any (a12.add x10.toNat) fun v13 =>
  CallT Go.Proofs.Try.prog 60 [.pointer cp_7, v13] (.s (.one .any)) fun v14 =>
  RawT Go.Proofs.Try.prog (Instr.buildSlice 71 1 [(0, v14)].toArray) (.s (.one .slice)) fun s15p s15l s15c =>
  NextT Go.Proofs.Try.prog (builtin .append #[71, 71] 71 [false, false].toArray [.slice overwritten_6p overwritten_6l overwritten_6c, .slice s15p s15l s15c].toArray) (.s (.one .slice)) fun s16p s16l s16c =>
  again11 s16p s16l s16c cp_7 s8p s8l s8c x9 (addI .i64 x10 1)) (
  k (.tuple #[.pointer cp_7, .slice overwritten_6p overwritten_6l overwritten_6c]))
theorem F43_L1_rule {k : Value → W} (I : Option Addr → Nat → Nat → Option Addr → Option Addr → Nat → Nat → Int → Int → W) (μ : Option Addr → Nat → Nat → Option Addr → Option Addr → Nat → Nat → Int → Int → World → Nat)
  (hr : ∀ (overwritten_6p : Option Addr) (overwritten_6l : Nat) (overwritten_6c : Nat) (cp_7 : Option Addr) (s8p : Option Addr) (s8l : Nat) (s8c : Nat) (x9 : Int) (x10 : Int) (w : World), I overwritten_6p overwritten_6l overwritten_6c cp_7 s8p s8l s8c x9 x10 w → F43_L1 k (fun overwritten_6p' overwritten_6l' overwritten_6c' cp_7' s8p' s8l' s8c' x9' x10' w' => I overwritten_6p' overwritten_6l' overwritten_6c' cp_7' s8p' s8l' s8c' x9' x10' w' ∧ μ overwritten_6p' overwritten_6l' overwritten_6c' cp_7' s8p' s8l' s8c' x9' x10' w' < μ overwritten_6p overwritten_6l overwritten_6c cp_7 s8p s8l s8c x9 x10 w) overwritten_6p overwritten_6l overwritten_6c cp_7 s8p s8l s8c x9 x10 w)
  {w : World} {overwritten_6p : Option Addr} {overwritten_6l : Nat} {overwritten_6c : Nat} {cp_7 : Option Addr} {s8p : Option Addr} {s8l : Nat} {s8c : Nat} {x9 : Int} {x10 : Int} (h : I overwritten_6p overwritten_6l overwritten_6c cp_7 s8p s8l s8c x9 x10 w) : Loop [.slice, .ptr, .slice, (.int .i64), (.int .i64)] (F43_L1 k) overwritten_6p overwritten_6l overwritten_6c cp_7 s8p s8l s8c x9 x10 w :=
  Loop_intro (ts := [.slice, .ptr, .slice, (.int .i64), (.int .i64)]) (s := ((overwritten_6p, overwritten_6l, overwritten_6c), cp_7, (s8p, s8l, s8c), x9, x10, ())) (fun s w => I s.1.1 s.1.2.1 s.1.2.2 s.2.1 s.2.2.1.1 s.2.2.1.2.1 s.2.2.1.2.2 s.2.2.2.1 s.2.2.2.2.1 w) (fun s w => μ s.1.1 s.1.2.1 s.1.2.2 s.2.1 s.2.2.1.1 s.2.2.1.2.1 s.2.2.1.2.2 s.2.2.2.1 s.2.2.2.2.1 w) h (fun s w h => hr s.1.1 s.1.2.1 s.1.2.2 s.2.1 s.2.2.1.1 s.2.2.1.2.1 s.2.2.1.2.2 s.2.2.2.1 s.2.2.2.2.1 w h)
def F43 (k : Value → W) (immutable_1 : Option Addr) (entries_2p : Option Addr) (entries_2l : Nat) (entries_2c : Nat) : W :=
 BIf (((entries_2l : Nat) : Int) == 0) (
  RawT Go.Proofs.Try.prog (Instr.buildSlice 71 0 [].toArray) (.s (.one .slice)) fun s3p s3l s3c =>
  k (.tuple #[.pointer immutable_1, .slice s3p s3l s3c])) (
  RawT Go.Proofs.Try.prog (Instr.makeSlice 71 (.int .i64 0) (.int .i64 ((entries_2l : Nat) : Int))) (.s (.one .slice)) fun s4p s4l s4c =>
  CallT Go.Proofs.Try.prog 59 [.pointer immutable_1] (.s (.one .ptr)) fun p5 =>
  Loop [.slice, .ptr, .slice, (.int .i64), (.int .i64)] (F43_L1 k) s4p s4l s4c p5 entries_2p entries_2l entries_2c ((entries_2l : Nat) : Int) 0)
theorem F43_eq (k : Value → W) (immutable_1 : Option Addr) (entries_2p : Option Addr) (entries_2l : Nat) (entries_2c : Nat) : compF Go.Proofs.Try.prog Go.Proofs.Try.f43 [(6, [(6, .slice), (7, .ptr), (20, .slice), (21, (.int .i64)), (22, (.int .i64))])] (Go.Proofs.Try.f43.body.getD .skip) [.pointer immutable_1, .slice entries_2p entries_2l entries_2c] k = F43 k immutable_1 entries_2p entries_2l entries_2c := by kernel_rfl
theorem F43_calls {immutable_1 : Option Addr} {entries_2p : Option Addr} {entries_2l : Nat} {entries_2c : Nat} {w : World} {R : Ending → World → Prop} (h : F43 (fun v w => R (.returned v) w) immutable_1 entries_2p entries_2l entries_2c w) : Calls Go.Proofs.Try.prog 43 #[.pointer immutable_1, .slice entries_2p entries_2l entries_2c] w R :=
  calls_of_compF noNum follows [(6, [(6, .slice), (7, .ptr), (20, .slice), (21, (.int .i64)), (22, (.int .i64))])] (f := 43) (fn := Go.Proofs.Try.f43) (body := Go.Proofs.Try.f43.body.getD .skip) (args := [.pointer immutable_1, .slice entries_2p entries_2l entries_2c]) rfl rfl (Nat.le_of_ble_eq_true rfl) ((congrFun (F43_eq _ immutable_1 entries_2p entries_2l entries_2c) w).mpr h)
theorem F43_call {immutable_1 : Option Addr} {entries_2p : Option Addr} {entries_2l : Nat} {entries_2c : Nat} {w : World} {g : Fn W (RTy.leaves (.tup [(.one .ptr), (.one .slice)]))} (h : F43 (fun v => Back (.tup [(.one .ptr), (.one .slice)]) g (.returned v)) immutable_1 entries_2p entries_2l entries_2c w) : CallT Go.Proofs.Try.prog 43 [.pointer immutable_1, .slice entries_2p entries_2l entries_2c] (.tup [(.one .ptr), (.one .slice)]) g w := F43_calls h

/-! ## avl.removeBalance -/
def F75_J1 (k : Value → W) (root_10 : Option Addr) (dir_11 : Int) (done_12 : Option Addr) (n_13 : Option Addr) (bal_14 : Int) : W :=
 NN n_13 fun a15 =>
 LoadT (.int .i8) a15 fun x16 =>
 BIf (x16 == (subI .i8 0 bal_14)) (
  NN root_10 fun a17 =>
  Store1 a17 (.int .i8 0) <|
  NN n_13 fun a18 =>
  Store1 a18 (.int .i8 0) <|
  CallT Go.Proofs.Try.prog 79 [.pointer root_10, .int .i64 dir_11] (.s (.one .ptr)) fun p19 =>
  k (.pointer p19)) (
  NN n_13 fun a20 =>
  LoadT (.int .i8) a20 fun x21 =>
  BIf (x21 == bal_14) (
   CallT Go.Proofs.Try.prog 80 [.int .i64 dir_11] (.s (.one (.int .i64))) fun x22 =>
   CallT Go.Proofs.Try.prog 81 [.pointer root_10, .int .i64 x22, .int .i64 (IntKind.wrap .i64 (subI .i8 0 bal_14))] (.tup []) <|
   CallT Go.Proofs.Try.prog 82 [.pointer root_10, .int .i64 dir_11] (.s (.one .ptr)) fun p23 =>
   k (.pointer p23)) (
   NN root_10 fun a24 =>
   Store1 a24 (.int .i8 (subI .i8 0 bal_14)) <|
   NN n_13 fun a25 =>
   Store1 a25 (.int .i8 bal_14) <|
   CallT Go.Proofs.Try.prog 79 [.pointer root_10, .int .i64 dir_11] (.s (.one .ptr)) fun p26 =>
   NN done_12 fun a27 =>
   Store1 a27 (.int .i64 1) <|
   k (.pointer p26)))
def F75 (k : Value → W) (root_1 : Option Addr) (dir_2 : Int) (done_3 : Option Addr) : W :=
 Drw <|
 NN root_1 fun a4 =>
 CallT Go.Proofs.Try.prog 80 [.int .i64 dir_2] (.s (.one (.int .i64))) fun x5 =>
 Req (0 ≤ x5 ∧ x5 < (2 : Int)) <|
 LoadT .ptr ((a4.add 1).add x5.toNat) fun p6 =>
 CallT Go.Proofs.Try.prog 68 [.pointer p6] (.s (.one .ptr)) fun p7 =>
 Drw <|
 NN root_1 fun a8 =>
 CallT Go.Proofs.Try.prog 80 [.int .i64 dir_2] (.s (.one (.int .i64))) fun x9 =>
 Req (0 ≤ x9 ∧ x9 < (2 : Int)) <|
 Store1 ((a8.add 1).add x9.toNat) (.pointer p7) <|
 BIf (dir_2 == 0) (
  F75_J1 k root_1 dir_2 done_3 p7 (-1)) (
  F75_J1 k root_1 dir_2 done_3 p7 1)
theorem F75_eq (k : Value → W) (root_1 : Option Addr) (dir_2 : Int) (done_3 : Option Addr) : compF Go.Proofs.Try.prog Go.Proofs.Try.f75 [] (Go.Proofs.Try.f75.body.getD .skip) [.pointer root_1, .int .i64 dir_2, .pointer done_3] k = F75 k root_1 dir_2 done_3 := by kernel_rfl
theorem F75_calls {root_1 : Option Addr} {dir_2 : Int} {done_3 : Option Addr} {w : World} {R : Ending → World → Prop} (h : F75 (fun v w => R (.returned v) w) root_1 dir_2 done_3 w) : Calls Go.Proofs.Try.prog 75 #[.pointer root_1, .int .i64 dir_2, .pointer done_3] w R :=
  calls_of_compF noNum follows [] (f := 75) (fn := Go.Proofs.Try.f75) (body := Go.Proofs.Try.f75.body.getD .skip) (args := [.pointer root_1, .int .i64 dir_2, .pointer done_3]) rfl rfl (Nat.le_of_ble_eq_true rfl) ((congrFun (F75_eq _ root_1 dir_2 done_3) w).mpr h)
theorem F75_call {root_1 : Option Addr} {dir_2 : Int} {done_3 : Option Addr} {w : World} {g : Fn W (RTy.leaves (.s (.one .ptr)))} (h : F75 (fun v => Back (.s (.one .ptr)) g (.returned v)) root_1 dir_2 done_3 w) : CallT Go.Proofs.Try.prog 75 [.pointer root_1, .int .i64 dir_2, .pointer done_3] (.s (.one .ptr)) g w := F75_calls h

/-! ## avl.Immutable).delete -/
def F61_J3 (k : Value → W) (again83 : Option Addr → Option Addr → Nat → Nat → Int → Addr → Option Addr → Nat → Nat → Value → W) (immutable_91 : Option Addr) (cache_92p : Option Addr) (cache_92l : Nat) (cache_92c : Nat) (top_93 : Int) (done_94 : Addr) (dirs_95p : Option Addr) (dirs_95l : Nat) (dirs_95c : Nat) (oldEntry_96 : Value) : W :=
 NN cache_92p fun a97 =>
 Req (0 ≤ top_93 ∧ top_93 < ((cache_92l : Nat) : Int)) <|
 LoadT .ptr (a97.add top_93.toNat) fun p98 =>
 NN p98 fun a99 =>
 LoadT (.int .i8) a99 fun x100 =>
 RawT Go.Proofs.Try.prog (convert 116 132 (.int .i8 x100)) (.s (.one (.float .f64))) fun x101 =>
 CallT Go.Proofs.Try.prog 72 [.float .f64 x101] (.s (.one (.float .f64))) fun x102 =>
 RawS Go.Proofs.Try.prog (binS .eql 132 (.tmp 293) (.const (.float .f64 4607182418800017408)) (.float .f64 x102) (.float .f64 4607182418800017408)) (.s (.one .bool)) fun b103 =>
 BIf b103 (
  k oldEntry_96) (
  NN cache_92p fun a104 =>
  Req (0 ≤ top_93 ∧ top_93 < ((cache_92l : Nat) : Int)) <|
  LoadT .ptr (a104.add top_93.toNat) fun p105 =>
  NN p105 fun a106 =>
  LoadT (.int .i8) a106 fun x107 =>
  RawT Go.Proofs.Try.prog (convert 116 132 (.int .i8 x107)) (.s (.one (.float .f64))) fun x108 =>
  CallT Go.Proofs.Try.prog 72 [.float .f64 x108] (.s (.one (.float .f64))) fun x109 =>
  RawS Go.Proofs.Try.prog (binS .gtr 132 (.tmp 303) (.const (.float .f64 4607182418800017408)) (.float .f64 x109) (.float .f64 4607182418800017408)) (.s (.one .bool)) fun b110 =>
  BIf b110 (
   Drw <|
   NN cache_92p fun a111 =>
   Req (0 ≤ top_93 ∧ top_93 < ((cache_92l : Nat) : Int)) <|
   LoadT .ptr (a111.add top_93.toNat) fun p112 =>
   NN dirs_95p fun a113 =>
   Req (0 ≤ top_93 ∧ top_93 < ((dirs_95l : Nat) : Int)) <|
   LoadT (.int .i64) (a113.add top_93.toNat) fun x114 =>
   CallT Go.Proofs.Try.prog 75 [.pointer p112, .int .i64 x114, .pointer (some done_94)] (.s (.one .ptr)) fun p115 =>
   NN cache_92p fun a116 =>
   Req (0 ≤ top_93 ∧ top_93 < ((cache_92l : Nat) : Int)) <|
   Store1 (a116.add top_93.toNat) (.pointer p115) <|
   BIf (top_93 != 0) (
    Drw <|
    NN cache_92p fun a117 =>
    Req (0 ≤ subI .i64 top_93 1 ∧ subI .i64 top_93 1 < ((cache_92l : Nat) : Int)) <|
    LoadT .ptr (a117.add ((subI .i64 top_93 1).toNat)) fun p118 =>
    NN dirs_95p fun a119 =>
    Req (0 ≤ subI .i64 top_93 1 ∧ subI .i64 top_93 1 < ((dirs_95l : Nat) : Int)) <|
    LoadT (.int .i64) (a119.add ((subI .i64 top_93 1).toNat)) fun x120 =>
    NN cache_92p fun a121 =>
    Req (0 ≤ top_93 ∧ top_93 < ((cache_92l : Nat) : Int)) <|
    LoadT .ptr (a121.add top_93.toNat) fun p122 =>
    NN p118 fun a123 =>
    Req (0 ≤ x120 ∧ x120 < (2 : Int)) <|
    Store1 ((a123.add 1).add x120.toNat) (.pointer p122) <|
    again83 immutable_91 cache_92p cache_92l cache_92c top_93 done_94 dirs_95p dirs_95l dirs_95c oldEntry_96) (
    NN cache_92p fun a124 =>
    Req (0 ≤ (0 : Int) ∧ (0 : Int) < ((cache_92l : Nat) : Int)) <|
    LoadT .ptr (a124.add ((0 : Int).toNat)) fun p125 =>
    NN immutable_91 fun a126 =>
    Store1 a126 (.pointer p125) <|
    again83 immutable_91 cache_92p cache_92l cache_92c top_93 done_94 dirs_95p dirs_95l dirs_95c oldEntry_96)) (
   again83 immutable_91 cache_92p cache_92l cache_92c top_93 done_94 dirs_95p dirs_95l dirs_95c oldEntry_96))
def F61_L3 (k : Value → W) (again83 : Option Addr → Option Addr → Nat → Nat → Int → Addr → Option Addr → Nat → Nat → Value → W) (immutable_77 : Option Addr) (cache_78p : Option Addr) (cache_78l : Nat) (cache_78c : Nat) (top_79 : Int) (done_80 : Addr) (dirs_81p : Option Addr) (dirs_81l : Nat) (dirs_81c : Nat) (oldEntry_82 : Value) : W :=
 BIf (decide ((subI .i64 top_79 1) ≥ 0)) (
  LoadT (.int .i64) done_80 fun x84 =>
  BIf (x84 == 0) (
   NN dirs_81p fun a85 =>
   Req (0 ≤ subI .i64 top_79 1 ∧ subI .i64 top_79 1 < ((dirs_81l : Nat) : Int)) <|
   LoadT (.int .i64) (a85.add ((subI .i64 top_79 1).toNat)) fun x86 =>
   BIf (x86 != 0) (
    NN cache_78p fun a87 =>
    Req (0 ≤ subI .i64 top_79 1 ∧ subI .i64 top_79 1 < ((cache_78l : Nat) : Int)) <|
    LoadT .ptr (a87.add ((subI .i64 top_79 1).toNat)) fun p88 =>
    NN p88 fun a89 =>
    LoadT (.int .i8) a89 fun x90 =>
    Store1 a89 (.int .i8 (subI .i8 x90 1)) <|
    F61_J3 k again83 immutable_77 cache_78p cache_78l cache_78c (subI .i64 top_79 1) done_80 dirs_81p dirs_81l dirs_81c oldEntry_82) (
    NN cache_78p fun a127 =>
    Req (0 ≤ subI .i64 top_79 1 ∧ subI .i64 top_79 1 < ((cache_78l : Nat) : Int)) <|
    LoadT .ptr (a127.add ((subI .i64 top_79 1).toNat)) fun p128 =>
    NN p128 fun a129 =>
    LoadT (.int .i8) a129 fun x130 =>
    Store1 a129 (.int .i8 (addI .i8 x130 1)) <|
    F61_J3 k again83 immutable_77 cache_78p cache_78l cache_78c (subI .i64 top_79 1) done_80 dirs_81p dirs_81l dirs_81c oldEntry_82)) (
   k oldEntry_82)) (
  k oldEntry_82)
theorem F61_L3_rule {k : Value → W} (I : Option Addr → Option Addr → Nat → Nat → Int → Addr → Option Addr → Nat → Nat → Value → W) (μ : Option Addr → Option Addr → Nat → Nat → Int → Addr → Option Addr → Nat → Nat → Value → World → Nat)
  (hr : ∀ (immutable_77 : Option Addr) (cache_78p : Option Addr) (cache_78l : Nat) (cache_78c : Nat) (top_79 : Int) (done_80 : Addr) (dirs_81p : Option Addr) (dirs_81l : Nat) (dirs_81c : Nat) (oldEntry_82 : Value) (w : World), I immutable_77 cache_78p cache_78l cache_78c top_79 done_80 dirs_81p dirs_81l dirs_81c oldEntry_82 w → F61_L3 k (fun immutable_77' cache_78p' cache_78l' cache_78c' top_79' done_80' dirs_81p' dirs_81l' dirs_81c' oldEntry_82' w' => I immutable_77' cache_78p' cache_78l' cache_78c' top_79' done_80' dirs_81p' dirs_81l' dirs_81c' oldEntry_82' w' ∧ μ immutable_77' cache_78p' cache_78l' cache_78c' top_79' done_80' dirs_81p' dirs_81l' dirs_81c' oldEntry_82' w' < μ immutable_77 cache_78p cache_78l cache_78c top_79 done_80 dirs_81p dirs_81l dirs_81c oldEntry_82 w) immutable_77 cache_78p cache_78l cache_78c top_79 done_80 dirs_81p dirs_81l dirs_81c oldEntry_82 w)
  {w : World} {immutable_77 : Option Addr} {cache_78p : Option Addr} {cache_78l : Nat} {cache_78c : Nat} {top_79 : Int} {done_80 : Addr} {dirs_81p : Option Addr} {dirs_81l : Nat} {dirs_81c : Nat} {oldEntry_82 : Value} (h : I immutable_77 cache_78p cache_78l cache_78c top_79 done_80 dirs_81p dirs_81l dirs_81c oldEntry_82 w) : Loop [.ptr, .slice, (.int .i64), .addr, .slice, .any] (F61_L3 k) immutable_77 cache_78p cache_78l cache_78c top_79 done_80 dirs_81p dirs_81l dirs_81c oldEntry_82 w :=
  Loop_intro (ts := [.ptr, .slice, (.int .i64), .addr, .slice, .any]) (s := (immutable_77, (cache_78p, cache_78l, cache_78c), top_79, done_80, (dirs_81p, dirs_81l, dirs_81c), oldEntry_82, ())) (fun s w => I s.1 s.2.1.1 s.2.1.2.1 s.2.1.2.2 s.2.2.1 s.2.2.2.1 s.2.2.2.2.1.1 s.2.2.2.2.1.2.1 s.2.2.2.2.1.2.2 s.2.2.2.2.2.1 w) (fun s w => μ s.1 s.2.1.1 s.2.1.2.1 s.2.1.2.2 s.2.2.1 s.2.2.2.1 s.2.2.2.2.1.1 s.2.2.2.2.1.2.1 s.2.2.2.2.1.2.2 s.2.2.2.2.2.1 w) h (fun s w h => hr s.1 s.2.1.1 s.2.1.2.1 s.2.1.2.2 s.2.2.1 s.2.2.2.1 s.2.2.2.2.1.1 s.2.2.2.2.1.2.1 s.2.2.2.2.1.2.2 s.2.2.2.2.2.1 w h)
def F61_J2 (k : Value → W) (immutable_71 : Option Addr) (cache_72p : Option Addr) (cache_72l : Nat) (cache_72c : Nat) (top_73 : Int) (done_74 : Addr) (dirs_75p : Option Addr) (dirs_75l : Nat) (dirs_75c : Nat) (oldEntry_76 : Value) : W :=
 Loop [.ptr, .slice, (.int .i64), .addr, .slice, .any] (F61_L3 k) immutable_71 cache_72p cache_72l cache_72c top_73 done_74 dirs_75p dirs_75l dirs_75c oldEntry_76
def F61_J4 (k : Value → W) (immutable_162 : Option Addr) (cache_163p : Option Addr) (cache_163l : Nat) (cache_163c : Nat) (it_164 : Option Addr) (top_165 : Int) (done_166 : Addr) (dirs_167p : Option Addr) (dirs_167l : Nat) (dirs_167c : Nat) (oldEntry_168 : Value) (heir_169 : Option Addr) : W :=
 Drw <|
 NN cache_163p fun a170 =>
 Req (0 ≤ subI .i64 top_165 1 ∧ subI .i64 top_165 1 < ((cache_163l : Nat) : Int)) <|
 LoadT .ptr (a170.add ((subI .i64 top_165 1).toNat)) fun p171 =>
 NN cache_163p fun a172 =>
 Req (0 ≤ subI .i64 top_165 1 ∧ subI .i64 top_165 1 < ((cache_163l : Nat) : Int)) <|
 LoadT .ptr (a172.add ((subI .i64 top_165 1).toNat)) fun p173 =>
 NN heir_169 fun a174 =>
 Req (0 ≤ (1 : Int) ∧ (1 : Int) < (2 : Int)) <|
 LoadT .ptr ((a174.add 1).add ((1 : Int).toNat)) fun p175 =>
 NN p171 fun a176 =>
 RawS Go.Proofs.Try.prog (binS .eql 115 (.tmp 239) (.tmp 240) (.pointer p173) (.pointer it_164)) (.s (.one .bool)) fun b177 =>
 Chk1 ((a174.add 1).add ((1 : Int).toNat)) (.pointer p175) <|
 Chk1 (a170.add ((subI .i64 top_165 1).toNat)) (.pointer p171) <|
 CallT Go.Proofs.Try.prog 74 [.bool b177] (.s (.one (.int .i64))) fun x178 =>
 Chk1 ((a174.add 1).add ((1 : Int).toNat)) (.pointer p175) <|
 Chk1 (a172.add ((subI .i64 top_165 1).toNat)) (.pointer p173) <|
 Chk1 (a170.add ((subI .i64 top_165 1).toNat)) (.pointer p171) <|
 Req (0 ≤ x178 ∧ x178 < (2 : Int)) <|
 Store1 ((a176.add 1).add x178.toNat) (.pointer p175) <|
 F61_J2 k immutable_162 cache_163p cache_163l cache_163c top_165 done_166 dirs_167p dirs_167l dirs_167c oldEntry_168
def F61_L4 (k : Value → W) (again147 : Option Addr → Option Addr → Nat → Nat → Option Addr → Int → Addr → Option Addr → Nat → Nat → Value → Int → Option Addr → W) (immutable_138 : Option Addr) (cache_139p : Option Addr) (cache_139l : Nat) (cache_139c : Nat) (it_140 : Option Addr) (top_141 : Int) (done_142 : Addr) (dirs_143p : Option Addr) (dirs_143l : Nat) (dirs_143c : Nat) (oldEntry_144 : Value) (oldTop_145 : Int) (heir_146 : Option Addr) : W :=
 NN heir_146 fun a148 =>
 Req (0 ≤ (0 : Int) ∧ (0 : Int) < (2 : Int)) <|
 LoadT .ptr ((a148.add 1).add ((0 : Int).toNat)) fun p149 =>
 BIf (!p149.isNone) (
  NN dirs_143p fun a150 =>
  Req (0 ≤ top_141 ∧ top_141 < ((dirs_143l : Nat) : Int)) <|
  Store1 (a150.add top_141.toNat) (.int .i64 0) <|
  NN cache_139p fun a151 =>
  Req (0 ≤ top_141 ∧ top_141 < ((cache_139l : Nat) : Int)) <|
  Store1 (a151.add top_141.toNat) (.pointer heir_146) <|
  NN heir_146 fun a152 =>
  Req (0 ≤ (0 : Int) ∧ (0 : Int) < (2 : Int)) <|
  LoadT .ptr ((a152.add 1).add ((0 : Int).toNat)) fun p153 =>
  again147 immutable_138 cache_139p cache_139l cache_139c it_140 (addI .i64 top_141 1) done_142 dirs_143p dirs_143l dirs_143c oldEntry_144 oldTop_145 p153) (
  NN heir_146 fun a154 =>
  LoadT .any (a154.add 3) fun v155 =>
  NN it_140 fun a156 =>
  Req (oneC v155 = true) <|
  Store1 (a156.add 3) v155 <|
  BIf (oldTop_145 != 0) (
   Drw <|
   NN cache_139p fun a157 =>
   Req (0 ≤ subI .i64 oldTop_145 1 ∧ subI .i64 oldTop_145 1 < ((cache_139l : Nat) : Int)) <|
   LoadT .ptr (a157.add ((subI .i64 oldTop_145 1).toNat)) fun p158 =>
   NN dirs_143p fun a159 =>
   Req (0 ≤ subI .i64 oldTop_145 1 ∧ subI .i64 oldTop_145 1 < ((dirs_143l : Nat) : Int)) <|
   LoadT (.int .i64) (a159.add ((subI .i64 oldTop_145 1).toNat)) fun x160 =>
   NN p158 fun a161 =>
   Req (0 ≤ x160 ∧ x160 < (2 : Int)) <|
   Store1 ((a161.add 1).add x160.toNat) (.pointer it_140) <|
   F61_J4 k immutable_138 cache_139p cache_139l cache_139c it_140 top_141 done_142 dirs_143p dirs_143l dirs_143c oldEntry_144 heir_146) (
   NN immutable_138 fun a179 =>
   Store1 a179 (.pointer it_140) <|
   F61_J4 k immutable_138 cache_139p cache_139l cache_139c it_140 top_141 done_142 dirs_143p dirs_143l dirs_143c oldEntry_144 heir_146))
theorem F61_L4_rule {k : Value → W} (I : Option Addr → Option Addr → Nat → Nat → Option Addr → Int → Addr → Option Addr → Nat → Nat → Value → Int → Option Addr → W) (μ : Option Addr → Option Addr → Nat → Nat → Option Addr → Int → Addr → Option Addr → Nat → Nat → Value → Int → Option Addr → World → Nat)
  (hr : ∀ (immutable_138 : Option Addr) (cache_139p : Option Addr) (cache_139l : Nat) (cache_139c : Nat) (it_140 : Option Addr) (top_141 : Int) (done_142 : Addr) (dirs_143p : Option Addr) (dirs_143l : Nat) (dirs_143c : Nat) (oldEntry_144 : Value) (oldTop_145 : Int) (heir_146 : Option Addr) (w : World), I immutable_138 cache_139p cache_139l cache_139c it_140 top_141 done_142 dirs_143p dirs_143l dirs_143c oldEntry_144 oldTop_145 heir_146 w → F61_L4 k (fun immutable_138' cache_139p' cache_139l' cache_139c' it_140' top_141' done_142' dirs_143p' dirs_143l' dirs_143c' oldEntry_144' oldTop_145' heir_146' w' => I immutable_138' cache_139p' cache_139l' cache_139c' it_140' top_141' done_142' dirs_143p' dirs_143l' dirs_143c' oldEntry_144' oldTop_145' heir_146' w' ∧ μ immutable_138' cache_139p' cache_139l' cache_139c' it_140' top_141' done_142' dirs_143p' dirs_143l' dirs_143c' oldEntry_144' oldTop_145' heir_146' w' < μ immutable_138 cache_139p cache_139l cache_139c it_140 top_141 done_142 dirs_143p dirs_143l dirs_143c oldEntry_144 oldTop_145 heir_146 w) immutable_138 cache_139p cache_139l cache_139c it_140 top_141 done_142 dirs_143p dirs_143l dirs_143c oldEntry_144 oldTop_145 heir_146 w)
  {w : World} {immutable_138 : Option Addr} {cache_139p : Option Addr} {cache_139l : Nat} {cache_139c : Nat} {it_140 : Option Addr} {top_141 : Int} {done_142 : Addr} {dirs_143p : Option Addr} {dirs_143l : Nat} {dirs_143c : Nat} {oldEntry_144 : Value} {oldTop_145 : Int} {heir_146 : Option Addr} (h : I immutable_138 cache_139p cache_139l cache_139c it_140 top_141 done_142 dirs_143p dirs_143l dirs_143c oldEntry_144 oldTop_145 heir_146 w) : Loop [.ptr, .slice, .ptr, (.int .i64), .addr, .slice, .any, (.int .i64), .ptr] (F61_L4 k) immutable_138 cache_139p cache_139l cache_139c it_140 top_141 done_142 dirs_143p dirs_143l dirs_143c oldEntry_144 oldTop_145 heir_146 w :=
  Loop_intro (ts := [.ptr, .slice, .ptr, (.int .i64), .addr, .slice, .any, (.int .i64), .ptr]) (s := (immutable_138, (cache_139p, cache_139l, cache_139c), it_140, top_141, done_142, (dirs_143p, dirs_143l, dirs_143c), oldEntry_144, oldTop_145, heir_146, ())) (fun s w => I s.1 s.2.1.1 s.2.1.2.1 s.2.1.2.2 s.2.2.1 s.2.2.2.1 s.2.2.2.2.1 s.2.2.2.2.2.1.1 s.2.2.2.2.2.1.2.1 s.2.2.2.2.2.1.2.2 s.2.2.2.2.2.2.1 s.2.2.2.2.2.2.2.1 s.2.2.2.2.2.2.2.2.1 w) (fun s w => μ s.1 s.2.1.1 s.2.1.2.1 s.2.1.2.2 s.2.2.1 s.2.2.2.1 s.2.2.2.2.1 s.2.2.2.2.2.1.1 s.2.2.2.2.2.1.2.1 s.2.2.2.2.2.1.2.2 s.2.2.2.2.2.2.1 s.2.2.2.2.2.2.2.1 s.2.2.2.2.2.2.2.2.1 w) h (fun s w h => hr s.1 s.2.1.1 s.2.1.2.1 s.2.1.2.2 s.2.2.1 s.2.2.2.1 s.2.2.2.2.1 s.2.2.2.2.2.1.1 s.2.2.2.2.2.1.2.1 s.2.2.2.2.2.1.2.2 s.2.2.2.2.2.2.1 s.2.2.2.2.2.2.2.1 s.2.2.2.2.2.2.2.2.1 w h)
def F61_J1 (k : Value → W) (immutable_52 : Option Addr) (cache_53p : Option Addr) (cache_53l : Nat) (cache_53c : Nat) (it_54 : Option Addr) (top_55 : Int) (done_56 : Addr) (dirs_57p : Option Addr) (dirs_57l : Nat) (dirs_57c : Nat) (oldEntry_58 : Value) (oldTop_59 : Int) (b60 : Bool) : W :=
 BIf b60 (
  NN it_54 fun a61 =>
  Req (0 ≤ (0 : Int) ∧ (0 : Int) < (2 : Int)) <|
  LoadT .ptr ((a61.add 1).add ((0 : Int).toNat)) fun p62 =>
  CallT Go.Proofs.Try.prog 74 [.bool p62.isNone] (.s (.one (.int .i64))) fun x63 =>
  BIf (top_55 != 0) (
   Drw <|
   NN cache_53p fun a64 =>
   Req (0 ≤ subI .i64 top_55 1 ∧ subI .i64 top_55 1 < ((cache_53l : Nat) : Int)) <|
   LoadT .ptr (a64.add ((subI .i64 top_55 1).toNat)) fun p65 =>
   NN dirs_57p fun a66 =>
   Req (0 ≤ subI .i64 top_55 1 ∧ subI .i64 top_55 1 < ((dirs_57l : Nat) : Int)) <|
   LoadT (.int .i64) (a66.add ((subI .i64 top_55 1).toNat)) fun x67 =>
   NN it_54 fun a68 =>
   Req (0 ≤ x63 ∧ x63 < (2 : Int)) <|
   LoadT .ptr ((a68.add 1).add x63.toNat) fun p69 =>
   NN p65 fun a70 =>
   Req (0 ≤ x67 ∧ x67 < (2 : Int)) <|
   Store1 ((a70.add 1).add x67.toNat) (.pointer p69) <|
   F61_J2 k immutable_52 cache_53p cache_53l cache_53c top_55 done_56 dirs_57p dirs_57l dirs_57c oldEntry_58) (
   NN it_54 fun a131 =>
   Req (0 ≤ x63 ∧ x63 < (2 : Int)) <|
   LoadT .ptr ((a131.add 1).add x63.toNat) fun p132 =>
   NN immutable_52 fun a133 =>
   Store1 a133 (.pointer p132) <|
   F61_J2 k immutable_52 cache_53p cache_53l cache_53c top_55 done_56 dirs_57p dirs_57l dirs_57c oldEntry_58)) (
  NN it_54 fun a134 =>
  Req (0 ≤ (1 : Int) ∧ (1 : Int) < (2 : Int)) <|
  LoadT .ptr ((a134.add 1).add ((1 : Int).toNat)) fun p135 =>
  NN dirs_57p fun a136 =>
  Req (0 ≤ top_55 ∧ top_55 < ((dirs_57l : Nat) : Int)) <|
  Store1 (a136.add top_55.toNat) (.int .i64 1) <|
  NN cache_53p fun a137 =>
  Req (0 ≤ top_55 ∧ top_55 < ((cache_53l : Nat) : Int)) <|
  Store1 (a137.add top_55.toNat) (.pointer it_54) <|
  Loop [.ptr, .slice, .ptr, (.int .i64), .addr, .slice, .any, (.int .i64), .ptr] (F61_L4 k) immutable_52 cache_53p cache_53l cache_53c it_54 (addI .i64 top_55 1) done_56 dirs_57p dirs_57l dirs_57c oldEntry_58 oldTop_59 p135)
def F61_L2 (k : Value → W) (again33 : Option Addr → Option Addr → Nat → Nat → Option Addr → Int → Addr → Option Addr → Nat → Nat → Value → Int → W) (immutable_25 : Option Addr) (cache_26p : Option Addr) (cache_26l : Nat) (cache_26c : Nat) (it_27 : Option Addr) (top_28 : Int) (done_29 : Addr) (dirs_30p : Option Addr) (dirs_30l : Nat) (dirs_30c : Nat) (oldEntry_31 : Value) (i_32 : Int) : W :=
 BIf (decide (i_32 < top_28)) (
  NN cache_26p fun a34 =>
  Req (0 ≤ i_32 ∧ i_32 < ((cache_26l : Nat) : Int)) <|
  LoadT .ptr (a34.add i_32.toNat) fun p35 =>
  Drw <|
  NN dirs_30p fun a36 =>
  Req (0 ≤ i_32 ∧ i_32 < ((dirs_30l : Nat) : Int)) <|
  LoadT (.int .i64) (a36.add i_32.toNat) fun x37 =>
  NN p35 fun a38 =>
  Req (0 ≤ x37 ∧ x37 < (2 : Int)) <|
  LoadT .ptr ((a38.add 1).add x37.toNat) fun p39 =>
  BIf (!p39.isNone) (
   Drw <|
   NN dirs_30p fun a40 =>
   Req (0 ≤ i_32 ∧ i_32 < ((dirs_30l : Nat) : Int)) <|
   LoadT (.int .i64) (a40.add i_32.toNat) fun x41 =>
   NN p35 fun a42 =>
   Req (0 ≤ x41 ∧ x41 < (2 : Int)) <|
   LoadT .ptr ((a42.add 1).add x41.toNat) fun p43 =>
   CallT Go.Proofs.Try.prog 68 [.pointer p43] (.s (.one .ptr)) fun p44 =>
   Chk1 (a40.add i_32.toNat) (.int .i64 x41) <|
   Drw <|
   NN dirs_30p fun a45 =>
   Req (0 ≤ i_32 ∧ i_32 < ((dirs_30l : Nat) : Int)) <|
   LoadT (.int .i64) (a45.add i_32.toNat) fun x46 =>
   NN p35 fun a47 =>
   Req (0 ≤ x46 ∧ x46 < (2 : Int)) <|
   Store1 ((a47.add 1).add x46.toNat) (.pointer p44) <|
   BIf (i_32 != (subI .i64 top_28 1)) (
    NN cache_26p fun a48 =>
    Req (0 ≤ addI .i64 i_32 1 ∧ addI .i64 i_32 1 < ((cache_26l : Nat) : Int)) <|
    Store1 (a48.add ((addI .i64 i_32 1).toNat)) (.pointer p44) <|
    again33 immutable_25 cache_26p cache_26l cache_26c it_27 top_28 done_29 dirs_30p dirs_30l dirs_30c oldEntry_31 (addI .i64 i_32 1)) (
    again33 immutable_25 cache_26p cache_26l cache_26c it_27 top_28 done_29 dirs_30p dirs_30l dirs_30c oldEntry_31 (addI .i64 i_32 1))) (
   again33 immutable_25 cache_26p cache_26l cache_26c it_27 top_28 done_29 dirs_30p dirs_30l dirs_30c oldEntry_31 (addI .i64 i_32 1))) (
  CallT Go.Proofs.Try.prog 68 [.pointer it_27] (.s (.one .ptr)) fun p49 =>
  NN p49 fun a50 =>
  Req (0 ≤ (0 : Int) ∧ (0 : Int) < (2 : Int)) <|
  LoadT .ptr ((a50.add 1).add ((0 : Int).toNat)) fun p51 =>
  BIf p51.isNone (
   F61_J1 k immutable_25 cache_26p cache_26l cache_26c p49 top_28 done_29 dirs_30p dirs_30l dirs_30c oldEntry_31 top_28 true) (
   NN p49 fun a180 =>
   Req (0 ≤ (1 : Int) ∧ (1 : Int) < (2 : Int)) <|
   LoadT .ptr ((a180.add 1).add ((1 : Int).toNat)) fun p181 =>
   F61_J1 k immutable_25 cache_26p cache_26l cache_26c p49 top_28 done_29 dirs_30p dirs_30l dirs_30c oldEntry_31 top_28 p181.isNone))
theorem F61_L2_rule {k : Value → W} (I : Option Addr → Option Addr → Nat → Nat → Option Addr → Int → Addr → Option Addr → Nat → Nat → Value → Int → W) (μ : Option Addr → Option Addr → Nat → Nat → Option Addr → Int → Addr → Option Addr → Nat → Nat → Value → Int → World → Nat)
  (hr : ∀ (immutable_25 : Option Addr) (cache_26p : Option Addr) (cache_26l : Nat) (cache_26c : Nat) (it_27 : Option Addr) (top_28 : Int) (done_29 : Addr) (dirs_30p : Option Addr) (dirs_30l : Nat) (dirs_30c : Nat) (oldEntry_31 : Value) (i_32 : Int) (w : World), I immutable_25 cache_26p cache_26l cache_26c it_27 top_28 done_29 dirs_30p dirs_30l dirs_30c oldEntry_31 i_32 w → F61_L2 k (fun immutable_25' cache_26p' cache_26l' cache_26c' it_27' top_28' done_29' dirs_30p' dirs_30l' dirs_30c' oldEntry_31' i_32' w' => I immutable_25' cache_26p' cache_26l' cache_26c' it_27' top_28' done_29' dirs_30p' dirs_30l' dirs_30c' oldEntry_31' i_32' w' ∧ μ immutable_25' cache_26p' cache_26l' cache_26c' it_27' top_28' done_29' dirs_30p' dirs_30l' dirs_30c' oldEntry_31' i_32' w' < μ immutable_25 cache_26p cache_26l cache_26c it_27 top_28 done_29 dirs_30p dirs_30l dirs_30c oldEntry_31 i_32 w) immutable_25 cache_26p cache_26l cache_26c it_27 top_28 done_29 dirs_30p dirs_30l dirs_30c oldEntry_31 i_32 w)
  {w : World} {immutable_25 : Option Addr} {cache_26p : Option Addr} {cache_26l : Nat} {cache_26c : Nat} {it_27 : Option Addr} {top_28 : Int} {done_29 : Addr} {dirs_30p : Option Addr} {dirs_30l : Nat} {dirs_30c : Nat} {oldEntry_31 : Value} {i_32 : Int} (h : I immutable_25 cache_26p cache_26l cache_26c it_27 top_28 done_29 dirs_30p dirs_30l dirs_30c oldEntry_31 i_32 w) : Loop [.ptr, .slice, .ptr, (.int .i64), .addr, .slice, .any, (.int .i64)] (F61_L2 k) immutable_25 cache_26p cache_26l cache_26c it_27 top_28 done_29 dirs_30p dirs_30l dirs_30c oldEntry_31 i_32 w :=
  Loop_intro (ts := [.ptr, .slice, .ptr, (.int .i64), .addr, .slice, .any, (.int .i64)]) (s := (immutable_25, (cache_26p, cache_26l, cache_26c), it_27, top_28, done_29, (dirs_30p, dirs_30l, dirs_30c), oldEntry_31, i_32, ())) (fun s w => I s.1 s.2.1.1 s.2.1.2.1 s.2.1.2.2 s.2.2.1 s.2.2.2.1 s.2.2.2.2.1 s.2.2.2.2.2.1.1 s.2.2.2.2.2.1.2.1 s.2.2.2.2.2.1.2.2 s.2.2.2.2.2.2.1 s.2.2.2.2.2.2.2.1 w) (fun s w => μ s.1 s.2.1.1 s.2.1.2.1 s.2.1.2.2 s.2.2.1 s.2.2.2.1 s.2.2.2.2.1 s.2.2.2.2.2.1.1 s.2.2.2.2.2.1.2.1 s.2.2.2.2.2.1.2.2 s.2.2.2.2.2.2.1 s.2.2.2.2.2.2.2.1 w) h (fun s w h => hr s.1 s.2.1.1 s.2.1.2.1 s.2.1.2.2 s.2.2.1 s.2.2.2.1 s.2.2.2.2.1 s.2.2.2.2.2.1.1 s.2.2.2.2.2.1.2.1 s.2.2.2.2.2.1.2.2 s.2.2.2.2.2.2.1 s.2.2.2.2.2.2.2.1 w h)
def F61_L1 (k : Value → W) (again17 : Option Addr → Value → Option Addr → Nat → Nat → Option Addr → Int → Addr → Option Addr → Nat → Nat → W) (immutable_10 : Option Addr) (entry_11 : Value) (cache_12p : Option Addr) (cache_12l : Nat) (cache_12c : Nat) (it_13 : Option Addr) (top_14 : Int) (done_15 : Addr) (dirs_16p : Option Addr) (dirs_16l : Nat) (dirs_16c : Nat) : W :=
 BIf it_13.isNone (
  k .nilIface) (
  NN it_13 fun a18 =>
  LoadT .any (a18.add 3) fun v19 =>
  NextT Go.Proofs.Try.prog (callMethod v19 "Compare" [entry_11].toArray) (.s (.one (.int .i64))) fun x20 =>
  BIf (x20 == 0) (
   NN immutable_10 fun a21 =>
   LoadT (.int .u64) (a21.add 1) fun x22 =>
   Store1 (a21.add 1) (.int .u64 (subI .u64 x22 1)) <|
   NN it_13 fun a23 =>
   LoadT .any (a23.add 3) fun v24 =>
   Loop [.ptr, .slice, .ptr, (.int .i64), .addr, .slice, .any, (.int .i64)] (F61_L2 k) immutable_10 cache_12p cache_12l cache_12c it_13 top_14 done_15 dirs_16p dirs_16l dirs_16c v24 0) (
   CallT Go.Proofs.Try.prog 71 [.int .i64 x20] (.s (.one (.int .i64))) fun x182 =>
   NN dirs_16p fun a183 =>
   Req (0 ≤ top_14 ∧ top_14 < ((dirs_16l : Nat) : Int)) <|
   Store1 (a183.add top_14.toNat) (.int .i64 x182) <|
   NN cache_12p fun a184 =>
   Req (0 ≤ top_14 ∧ top_14 < ((cache_12l : Nat) : Int)) <|
   Store1 (a184.add top_14.toNat) (.pointer it_13) <|
   NN it_13 fun a185 =>
   Req (0 ≤ x182 ∧ x182 < (2 : Int)) <|
   LoadT .ptr ((a185.add 1).add x182.toNat) fun p186 =>
   again17 immutable_10 entry_11 cache_12p cache_12l cache_12c p186 (addI .i64 top_14 1) done_15 dirs_16p dirs_16l dirs_16c))
theorem F61_L1_rule {k : Value → W} (I : Option Addr → Value → Option Addr → Nat → Nat → Option Addr → Int → Addr → Option Addr → Nat → Nat → W) (μ : Option Addr → Value → Option Addr → Nat → Nat → Option Addr → Int → Addr → Option Addr → Nat → Nat → World → Nat)
  (hr : ∀ (immutable_10 : Option Addr) (entry_11 : Value) (cache_12p : Option Addr) (cache_12l : Nat) (cache_12c : Nat) (it_13 : Option Addr) (top_14 : Int) (done_15 : Addr) (dirs_16p : Option Addr) (dirs_16l : Nat) (dirs_16c : Nat) (w : World), I immutable_10 entry_11 cache_12p cache_12l cache_12c it_13 top_14 done_15 dirs_16p dirs_16l dirs_16c w → F61_L1 k (fun immutable_10' entry_11' cache_12p' cache_12l' cache_12c' it_13' top_14' done_15' dirs_16p' dirs_16l' dirs_16c' w' => I immutable_10' entry_11' cache_12p' cache_12l' cache_12c' it_13' top_14' done_15' dirs_16p' dirs_16l' dirs_16c' w' ∧ μ immutable_10' entry_11' cache_12p' cache_12l' cache_12c' it_13' top_14' done_15' dirs_16p' dirs_16l' dirs_16c' w' < μ immutable_10 entry_11 cache_12p cache_12l cache_12c it_13 top_14 done_15 dirs_16p dirs_16l dirs_16c w) immutable_10 entry_11 cache_12p cache_12l cache_12c it_13 top_14 done_15 dirs_16p dirs_16l dirs_16c w)
  {w : World} {immutable_10 : Option Addr} {entry_11 : Value} {cache_12p : Option Addr} {cache_12l : Nat} {cache_12c : Nat} {it_13 : Option Addr} {top_14 : Int} {done_15 : Addr} {dirs_16p : Option Addr} {dirs_16l : Nat} {dirs_16c : Nat} (h : I immutable_10 entry_11 cache_12p cache_12l cache_12c it_13 top_14 done_15 dirs_16p dirs_16l dirs_16c w) : Loop [.ptr, .any, .slice, .ptr, (.int .i64), .addr, .slice] (F61_L1 k) immutable_10 entry_11 cache_12p cache_12l cache_12c it_13 top_14 done_15 dirs_16p dirs_16l dirs_16c w :=
  Loop_intro (ts := [.ptr, .any, .slice, .ptr, (.int .i64), .addr, .slice]) (s := (immutable_10, entry_11, (cache_12p, cache_12l, cache_12c), it_13, top_14, done_15, (dirs_16p, dirs_16l, dirs_16c), ())) (fun s w => I s.1 s.2.1 s.2.2.1.1 s.2.2.1.2.1 s.2.2.1.2.2 s.2.2.2.1 s.2.2.2.2.1 s.2.2.2.2.2.1 s.2.2.2.2.2.2.1.1 s.2.2.2.2.2.2.1.2.1 s.2.2.2.2.2.2.1.2.2 w) (fun s w => μ s.1 s.2.1 s.2.2.1.1 s.2.2.1.2.1 s.2.2.1.2.2 s.2.2.2.1 s.2.2.2.2.1 s.2.2.2.2.2.1 s.2.2.2.2.2.2.1.1 s.2.2.2.2.2.2.1.2.1 s.2.2.2.2.2.2.1.2.2 w) h (fun s w h => hr s.1 s.2.1 s.2.2.1.1 s.2.2.1.2.1 s.2.2.1.2.2 s.2.2.2.1 s.2.2.2.2.1 s.2.2.2.2.2.1 s.2.2.2.2.2.2.1.1 s.2.2.2.2.2.2.1.2.1 s.2.2.2.2.2.2.1.2.2 w h)
def F61 (k : Value → W) (immutable_1 : Option Addr) (entry_2 : Value) : W :=
 NN immutable_1 fun a3 =>
 LoadT .ptr a3 fun p4 =>
 BIf p4.isNone (
  k .nilIface) (
  RawT Go.Proofs.Try.prog (Instr.makeSlice 137 (.int .i64 64) (.int .i64 64)) (.s (.one .slice)) fun s5p s5l s5c =>
  New [.int .i64 0] 3 fun n6 =>
  RawT Go.Proofs.Try.prog (Instr.makeSlice 24 (.int .i64 64) (.int .i64 64)) (.s (.one .slice)) fun s7p s7l s7c =>
  NN immutable_1 fun a8 =>
  LoadT .ptr a8 fun p9 =>
  Loop [.ptr, .any, .slice, .ptr, (.int .i64), .addr, .slice] (F61_L1 k) immutable_1 entry_2 s5p s5l s5c p9 0 ⟨n6, 0, none⟩ s7p s7l s7c)
theorem F61_eq (k : Value → W) (immutable_1 : Option Addr) (entry_2 : Value) : compF Go.Proofs.Try.prog Go.Proofs.Try.f61 [(9, [(0, .ptr), (1, .any), (5, .slice), (6, .ptr), (9, (.int .i64)), (10, .addr), (13, .slice)]), (21, [(0, .ptr), (5, .slice), (6, .ptr), (9, (.int .i64)), (10, .addr), (13, .slice), (14, .any), (15, (.int .i64))]), (50, [(0, .ptr), (5, .slice), (9, (.int .i64)), (10, .addr), (13, .slice), (14, .any)]), (40, [(0, .ptr), (5, .slice), (6, .ptr), (9, (.int .i64)), (10, .addr), (13, .slice), (14, .any), (16, (.int .i64)), (17, .ptr)])] (Go.Proofs.Try.f61.body.getD .skip) [.pointer immutable_1, entry_2] k = F61 k immutable_1 entry_2 := by kernel_rfl
theorem F61_calls {immutable_1 : Option Addr} {entry_2 : Value} {w : World} {R : Ending → World → Prop} (h : F61 (fun v w => R (.returned v) w) immutable_1 entry_2 w) : Calls Go.Proofs.Try.prog 61 #[.pointer immutable_1, entry_2] w R :=
  calls_of_compF noNum follows [(9, [(0, .ptr), (1, .any), (5, .slice), (6, .ptr), (9, (.int .i64)), (10, .addr), (13, .slice)]), (21, [(0, .ptr), (5, .slice), (6, .ptr), (9, (.int .i64)), (10, .addr), (13, .slice), (14, .any), (15, (.int .i64))]), (50, [(0, .ptr), (5, .slice), (9, (.int .i64)), (10, .addr), (13, .slice), (14, .any)]), (40, [(0, .ptr), (5, .slice), (6, .ptr), (9, (.int .i64)), (10, .addr), (13, .slice), (14, .any), (16, (.int .i64)), (17, .ptr)])] (f := 61) (fn := Go.Proofs.Try.f61) (body := Go.Proofs.Try.f61.body.getD .skip) (args := [.pointer immutable_1, entry_2]) rfl rfl (Nat.le_of_ble_eq_true rfl) ((congrFun (F61_eq _ immutable_1 entry_2) w).mpr h)
theorem F61_call {immutable_1 : Option Addr} {entry_2 : Value} {w : World} {g : Fn W (RTy.leaves (.s (.one .any)))} (h : F61 (fun v => Back (.s (.one .any)) g (.returned v)) immutable_1 entry_2 w) : CallT Go.Proofs.Try.prog 61 [.pointer immutable_1, entry_2] (.s (.one .any)) g w := F61_calls h

/-! ## avl.Immutable).Delete -/
def F44_L1 (k : Value → W) (again11 : Option Addr → Nat → Nat → Option Addr → Option Addr → Nat → Nat → Int → Int → W) (deleted_6p : Option Addr) (deleted_6l : Nat) (deleted_6c : Nat) (cp_7 : Option Addr) (s8p : Option Addr) (s8l : Nat) (s8c : Nat) (x9 : Int) (x10 : Int) : W :=
 BIf (decide (x10 < x9)) (
  NN s8p fun a12 =>
  Req (0 ≤ x10 ∧ x10 < ((s8l : Nat) : Int)) <|
  LoadT .any (a12.add x10.toNat) fun v13 =>
  CallT Go.Proofs.Try.prog 61 [.pointer cp_7, v13] (.s (.one .any)) fun v14 =>
  RawT Go.Proofs.Try.prog (Instr.buildSlice 71 1 [(0, v14)].toArray) (.s (.one .slice)) fun s15p s15l s15c =>
  NextT Go.Proofs.Try.prog (builtin .append #[71, 71] 71 [false, false].toArray [.slice deleted_6p deleted_6l deleted_6c, .slice s15p s15l s15c].toArray) (.s (.one .slice)) fun s16p s16l s16c =>
  again11 s16p s16l s16c cp_7 s8p s8l s8c x9 (addI .i64 x10 1)) (
  k (.tuple #[.pointer cp_7, .slice deleted_6p deleted_6l deleted_6c]))
theorem F44_L1_rule {k : Value → W} (I : Option Addr → Nat → Nat → Option Addr → Option Addr → Nat → Nat → Int → Int → W) (μ : Option Addr → Nat → Nat → Option Addr → Option Addr → Nat → Nat → Int → Int → World → Nat)
  (hr : ∀ (deleted_6p : Option Addr) (deleted_6l : Nat) (deleted_6c : Nat) (cp_7 : Option Addr) (s8p : Option Addr) (s8l : Nat) (s8c : Nat) (x9 : Int) (x10 : Int) (w : World), I deleted_6p deleted_6l deleted_6c cp_7 s8p s8l s8c x9 x10 w → F44_L1 k (fun deleted_6p' deleted_6l' deleted_6c' cp_7' s8p' s8l' s8c' x9' x10' w' => I deleted_6p' deleted_6l' deleted_6c' cp_7' s8p' s8l' s8c' x9' x10' w' ∧ μ deleted_6p' deleted_6l' deleted_6c' cp_7' s8p' s8l' s8c' x9' x10' w' < μ deleted_6p deleted_6l deleted_6c cp_7 s8p s8l s8c x9 x10 w) deleted_6p deleted_6l deleted_6c cp_7 s8p s8l s8c x9 x10 w)
  {w : World} {deleted_6p : Option Addr} {deleted_6l : Nat} {deleted_6c : Nat} {cp_7 : Option Addr} {s8p : Option Addr} {s8l : Nat} {s8c : Nat} {x9 : Int} {x10 : Int} (h : I deleted_6p deleted_6l deleted_6c cp_7 s8p s8l s8c x9 x10 w) : Loop [.slice, .ptr, .slice, (.int .i64), (.int .i64)] (F44_L1 k) deleted_6p deleted_6l deleted_6c cp_7 s8p s8l s8c x9 x10 w :=
  Loop_intro (ts := [.slice, .ptr, .slice, (.int .i64), (.int .i64)]) (s := ((deleted_6p, deleted_6l, deleted_6c), cp_7, (s8p, s8l, s8c), x9, x10, ())) (fun s w => I s.1.1 s.1.2.1 s.1.2.2 s.2.1 s.2.2.1.1 s.2.2.1.2.1 s.2.2.1.2.2 s.2.2.2.1 s.2.2.2.2.1 w) (fun s w => μ s.1.1 s.1.2.1 s.1.2.2 s.2.1 s.2.2.1.1 s.2.2.1.2.1 s.2.2.1.2.2 s.2.2.2.1 s.2.2.2.2.1 w) h (fun s w h => hr s.1.1 s.1.2.1 s.1.2.2 s.2.1 s.2.2.1.1 s.2.2.1.2.1 s.2.2.1.2.2 s.2.2.2.1 s.2.2.2.2.1 w h)
def F44 (k : Value → W) (immutable_1 : Option Addr) (entries_2p : Option Addr) (entries_2l : Nat) (entries_2c : Nat) : W :=
 BIf (((entries_2l : Nat) : Int) == 0) (
  RawT Go.Proofs.Try.prog (Instr.buildSlice 71 0 [].toArray) (.s (.one .slice)) fun s3p s3l s3c =>
  k (.tuple #[.pointer immutable_1, .slice s3p s3l s3c])) (
  RawT Go.Proofs.Try.prog (Instr.makeSlice 71 (.int .i64 0) (.int .i64 ((entries_2l : Nat) : Int))) (.s (.one .slice)) fun s4p s4l s4c =>
  CallT Go.Proofs.Try.prog 59 [.pointer immutable_1] (.s (.one .ptr)) fun p5 =>
  Loop [.slice, .ptr, .slice, (.int .i64), (.int .i64)] (F44_L1 k) s4p s4l s4c p5 entries_2p entries_2l entries_2c ((entries_2l : Nat) : Int) 0)
theorem F44_eq (k : Value → W) (immutable_1 : Option Addr) (entries_2p : Option Addr) (entries_2l : Nat) (entries_2c : Nat) : compF Go.Proofs.Try.prog Go.Proofs.Try.f44 [(6, [(6, .slice), (7, .ptr), (20, .slice), (21, (.int .i64)), (22, (.int .i64))])] (Go.Proofs.Try.f44.body.getD .skip) [.pointer immutable_1, .slice entries_2p entries_2l entries_2c] k = F44 k immutable_1 entries_2p entries_2l entries_2c := by kernel_rfl
theorem F44_calls {immutable_1 : Option Addr} {entries_2p : Option Addr} {entries_2l : Nat} {entries_2c : Nat} {w : World} {R : Ending → World → Prop} (h : F44 (fun v w => R (.returned v) w) immutable_1 entries_2p entries_2l entries_2c w) : Calls Go.Proofs.Try.prog 44 #[.pointer immutable_1, .slice entries_2p entries_2l entries_2c] w R :=
  calls_of_compF noNum follows [(6, [(6, .slice), (7, .ptr), (20, .slice), (21, (.int .i64)), (22, (.int .i64))])] (f := 44) (fn := Go.Proofs.Try.f44) (body := Go.Proofs.Try.f44.body.getD .skip) (args := [.pointer immutable_1, .slice entries_2p entries_2l entries_2c]) rfl rfl (Nat.le_of_ble_eq_true rfl) ((congrFun (F44_eq _ immutable_1 entries_2p entries_2l entries_2c) w).mpr h)
theorem F44_call {immutable_1 : Option Addr} {entries_2p : Option Addr} {entries_2l : Nat} {entries_2c : Nat} {w : World} {g : Fn W (RTy.leaves (.tup [(.one .ptr), (.one .slice)]))} (h : F44 (fun v => Back (.tup [(.one .ptr), (.one .slice)]) g (.returned v)) immutable_1 entries_2p entries_2l entries_2c w) : CallT Go.Proofs.Try.prog 44 [.pointer immutable_1, .slice entries_2p entries_2l entries_2c] (.tup [(.one .ptr), (.one .slice)]) g w := F44_calls h

end Go.Proofs.Ytokejbejoegnnaa.E
