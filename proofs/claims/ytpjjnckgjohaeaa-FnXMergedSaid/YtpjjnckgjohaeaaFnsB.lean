/-
  Printed by this session's own program eng.py out of Lean's print of the loaded functions: what each function's body asks, in the engine's words; each is checked against the program by the kernel.
-/
import Derived.Test.YtpjjnckgjohaeaaEng
import Derived.Test.YtpjjnckgjohaeaaFnsA
namespace Go.Proofs.Ytpjjnckgjohaeaa.E
open Go
set_option linter.unusedVariables false
set_option maxRecDepth 100000
/-! ## slice.Int64Slice).Search$1 -/
def F35 (k : Value → W) (i_1 : Int) (a2 : Addr) (a3 : Addr) : W :=
 Drw <|
 LoadT .slice a2 fun s4p s4l s4c =>
 NN s4p fun a5 =>
 Req (0 ≤ i_1 ∧ i_1 < ((s4l : Nat) : Int)) <|
 LoadT (.int .i64) (a5.add i_1.toNat) fun x6 =>
 LoadT (.int .i64) a3 fun x7 =>
 k (.bool (decide (x6 ≥ x7)))
theorem F35_eq (k : Value → W) (i_1 : Int) (a2 : Addr) (a3 : Addr) : compF Go.Proofs.Try.prog Go.Proofs.Try.f35 [] (Go.Proofs.Try.f35.body.getD .skip) [.int .i64 i_1, .pointer (some a2), .pointer (some a3)] k = F35 k i_1 a2 a3 := by kernel_rfl
theorem F35_calls {i_1 : Int} {a2 : Addr} {a3 : Addr} {w : World} {R : Ending → World → Prop} (h : F35 (fun v w => R (.returned v) w) i_1 a2 a3 w) : Calls Go.Proofs.Try.prog 35 #[.int .i64 i_1, .pointer (some a2), .pointer (some a3)] w R :=
  calls_of_compF noNum follows [] (f := 35) (fn := Go.Proofs.Try.f35) (body := Go.Proofs.Try.f35.body.getD .skip) (args := [.int .i64 i_1, .pointer (some a2), .pointer (some a3)]) rfl rfl (Nat.le_of_ble_eq_true rfl) ((congrFun (F35_eq _ i_1 a2 a3) w).mpr h)
theorem F35_call {i_1 : Int} {a2 : Addr} {a3 : Addr} {w : World} {g : Fn W (RTy.leaves (.s (.one .bool)))} (h : F35 (fun v => Back (.s (.one .bool)) g (.returned v)) i_1 a2 a3 w) : CallT Go.Proofs.Try.prog 35 [.int .i64 i_1, .pointer (some a2), .pointer (some a3)] (.s (.one .bool)) g w := F35_calls h

/-! ## slice.Int64Slice).Len -/
def F101 (k : Value → W) (s_1p : Option Addr) (s_1l : Nat) (s_1c : Nat) : W :=
 k (.int .i64 ((s_1l : Nat) : Int))
theorem F101_eq (k : Value → W) (s_1p : Option Addr) (s_1l : Nat) (s_1c : Nat) : compF Go.Proofs.Try.prog Go.Proofs.Try.f101 [] (Go.Proofs.Try.f101.body.getD .skip) [.slice s_1p s_1l s_1c] k = F101 k s_1p s_1l s_1c := by kernel_rfl
theorem F101_calls {s_1p : Option Addr} {s_1l : Nat} {s_1c : Nat} {w : World} {R : Ending → World → Prop} (h : F101 (fun v w => R (.returned v) w) s_1p s_1l s_1c w) : Calls Go.Proofs.Try.prog 101 #[.slice s_1p s_1l s_1c] w R :=
  calls_of_compF noNum follows [] (f := 101) (fn := Go.Proofs.Try.f101) (body := Go.Proofs.Try.f101.body.getD .skip) (args := [.slice s_1p s_1l s_1c]) rfl rfl (Nat.le_of_ble_eq_true rfl) ((congrFun (F101_eq _ s_1p s_1l s_1c) w).mpr h)
theorem F101_call {s_1p : Option Addr} {s_1l : Nat} {s_1c : Nat} {w : World} {g : Fn W (RTy.leaves (.s (.one (.int .i64))))} (h : F101 (fun v => Back (.s (.one (.int .i64))) g (.returned v)) s_1p s_1l s_1c w) : CallT Go.Proofs.Try.prog 101 [.slice s_1p s_1l s_1c] (.s (.one (.int .i64))) g w := F101_calls h

/-! ## slice.Int64Slice).Less -/
def F102 (k : Value → W) (s_1p : Option Addr) (s_1l : Nat) (s_1c : Nat) (i_2 : Int) (j_3 : Int) : W :=
 Drw <|
 NN s_1p fun a4 =>
 Req (0 ≤ i_2 ∧ i_2 < ((s_1l : Nat) : Int)) <|
 LoadT (.int .i64) (a4.add i_2.toNat) fun x5 =>
 NN s_1p fun a6 =>
 Req (0 ≤ j_3 ∧ j_3 < ((s_1l : Nat) : Int)) <|
 LoadT (.int .i64) (a6.add j_3.toNat) fun x7 =>
 k (.bool (decide (x5 < x7)))
theorem F102_eq (k : Value → W) (s_1p : Option Addr) (s_1l : Nat) (s_1c : Nat) (i_2 : Int) (j_3 : Int) : compF Go.Proofs.Try.prog Go.Proofs.Try.f102 [] (Go.Proofs.Try.f102.body.getD .skip) [.slice s_1p s_1l s_1c, .int .i64 i_2, .int .i64 j_3] k = F102 k s_1p s_1l s_1c i_2 j_3 := by kernel_rfl
theorem F102_calls {s_1p : Option Addr} {s_1l : Nat} {s_1c : Nat} {i_2 : Int} {j_3 : Int} {w : World} {R : Ending → World → Prop} (h : F102 (fun v w => R (.returned v) w) s_1p s_1l s_1c i_2 j_3 w) : Calls Go.Proofs.Try.prog 102 #[.slice s_1p s_1l s_1c, .int .i64 i_2, .int .i64 j_3] w R :=
  calls_of_compF noNum follows [] (f := 102) (fn := Go.Proofs.Try.f102) (body := Go.Proofs.Try.f102.body.getD .skip) (args := [.slice s_1p s_1l s_1c, .int .i64 i_2, .int .i64 j_3]) rfl rfl (Nat.le_of_ble_eq_true rfl) ((congrFun (F102_eq _ s_1p s_1l s_1c i_2 j_3) w).mpr h)
theorem F102_call {s_1p : Option Addr} {s_1l : Nat} {s_1c : Nat} {i_2 : Int} {j_3 : Int} {w : World} {g : Fn W (RTy.leaves (.s (.one .bool)))} (h : F102 (fun v => Back (.s (.one .bool)) g (.returned v)) s_1p s_1l s_1c i_2 j_3 w) : CallT Go.Proofs.Try.prog 102 [.slice s_1p s_1l s_1c, .int .i64 i_2, .int .i64 j_3] (.s (.one .bool)) g w := F102_calls h

/-! ## slice.Int64Slice).Swap -/
def F103 (k : Value → W) (s_1p : Option Addr) (s_1l : Nat) (s_1c : Nat) (i_2 : Int) (j_3 : Int) : W :=
 Drw <|
 NN s_1p fun a4 =>
 Req (0 ≤ j_3 ∧ j_3 < ((s_1l : Nat) : Int)) <|
 LoadT (.int .i64) (a4.add j_3.toNat) fun x5 =>
 NN s_1p fun a6 =>
 Req (0 ≤ i_2 ∧ i_2 < ((s_1l : Nat) : Int)) <|
 LoadT (.int .i64) (a6.add i_2.toNat) fun x7 =>
 NN s_1p fun a8 =>
 Req (0 ≤ i_2 ∧ i_2 < ((s_1l : Nat) : Int)) <|
 Store1 (a8.add i_2.toNat) (.int .i64 x5) <|
 NN s_1p fun a9 =>
 Req (0 ≤ j_3 ∧ j_3 < ((s_1l : Nat) : Int)) <|
 Store1 (a9.add j_3.toNat) (.int .i64 x7) <|
 k (.tuple #[])
theorem F103_eq (k : Value → W) (s_1p : Option Addr) (s_1l : Nat) (s_1c : Nat) (i_2 : Int) (j_3 : Int) : compF Go.Proofs.Try.prog Go.Proofs.Try.f103 [] (Go.Proofs.Try.f103.body.getD .skip) [.slice s_1p s_1l s_1c, .int .i64 i_2, .int .i64 j_3] k = F103 k s_1p s_1l s_1c i_2 j_3 := by kernel_rfl
theorem F103_calls {s_1p : Option Addr} {s_1l : Nat} {s_1c : Nat} {i_2 : Int} {j_3 : Int} {w : World} {R : Ending → World → Prop} (h : F103 (fun v w => R (.returned v) w) s_1p s_1l s_1c i_2 j_3 w) : Calls Go.Proofs.Try.prog 103 #[.slice s_1p s_1l s_1c, .int .i64 i_2, .int .i64 j_3] w R :=
  calls_of_compF noNum follows [] (f := 103) (fn := Go.Proofs.Try.f103) (body := Go.Proofs.Try.f103.body.getD .skip) (args := [.slice s_1p s_1l s_1c, .int .i64 i_2, .int .i64 j_3]) rfl rfl (Nat.le_of_ble_eq_true rfl) ((congrFun (F103_eq _ s_1p s_1l s_1c i_2 j_3) w).mpr h)
theorem F103_call {s_1p : Option Addr} {s_1l : Nat} {s_1c : Nat} {i_2 : Int} {j_3 : Int} {w : World} {g : Fn W (RTy.leaves (.tup []))} (h : F103 (fun v => Back (.tup []) g (.returned v)) s_1p s_1l s_1c i_2 j_3 w) : CallT Go.Proofs.Try.prog 103 [.slice s_1p s_1l s_1c, .int .i64 i_2, .int .i64 j_3] (.tup []) g w := F103_calls h

end Go.Proofs.Ytpjjnckgjohaeaa.E
