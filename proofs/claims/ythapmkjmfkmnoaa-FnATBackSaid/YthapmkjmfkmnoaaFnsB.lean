/-
  Printed by this session's own program eng.py out of Lean's print of the loaded functions: what each function's body asks, in the engine's words; each is checked against the program by the kernel.
-/
import Derived.Test.YthapmkjmfkmnoaaEng
import Derived.Test.YthapmkjmfkmnoaaFnsA
namespace Go.Proofs.Ythapmkjmfkmnoaa.E
open Go
set_option linter.unusedVariables false
set_option maxRecDepth 100000
/-! ## augmentedtree.intervalOverlaps -/
def F54_L1 (k : Value → W) (again18 : Option Addr → Value → Int → Int → W) (n_14 : Option Addr) (interval_15 : Value) (maxDimension_16 : Int) (i_17 : Int) : W :=
 BIf (decide (i_17 ≤ maxDimension_16)) (
  NN n_14 fun a19 =>
  LoadT .any a19 fun v20 =>
  NextT Go.Proofs.Try.prog (callMethod v20 "OverlapsAtDimension" [interval_15, .int .u64 i_17].toArray) (.s (.one .bool)) fun b21 =>
  BIf (!b21) (
   k (.bool false)) (
   again18 n_14 interval_15 maxDimension_16 (addI .u64 i_17 1))) (
  k (.bool true))
theorem F54_L1_rule {k : Value → W} (I : Option Addr → Value → Int → Int → W) (μ : Option Addr → Value → Int → Int → World → Nat)
  (hr : ∀ (n_14 : Option Addr) (interval_15 : Value) (maxDimension_16 : Int) (i_17 : Int) (w : World), I n_14 interval_15 maxDimension_16 i_17 w → F54_L1 k (fun n_14' interval_15' maxDimension_16' i_17' w' => I n_14' interval_15' maxDimension_16' i_17' w' ∧ μ n_14' interval_15' maxDimension_16' i_17' w' < μ n_14 interval_15 maxDimension_16 i_17 w) n_14 interval_15 maxDimension_16 i_17 w)
  {w : World} {n_14 : Option Addr} {interval_15 : Value} {maxDimension_16 : Int} {i_17 : Int} (h : I n_14 interval_15 maxDimension_16 i_17 w) : Loop [.ptr, .any, (.int .u64), (.int .u64)] (F54_L1 k) n_14 interval_15 maxDimension_16 i_17 w :=
  Loop_intro (ts := [.ptr, .any, (.int .u64), (.int .u64)]) (s := (n_14, interval_15, maxDimension_16, i_17, ())) (fun s w => I s.1 s.2.1 s.2.2.1 s.2.2.2.1 w) (fun s w => μ s.1 s.2.1 s.2.2.1 s.2.2.2.1 w) h (fun s w h => hr s.1 s.2.1 s.2.2.1 s.2.2.2.1 w h)
def F54 (k : Value → W) (n_1 : Option Addr) (low_2 : Int) (high_3 : Int) (interval_4 : Value) (maxDimension_5 : Int) : W :=
 Drw <|
 NN n_1 fun a6 =>
 LoadT .any a6 fun v7 =>
 NN n_1 fun a8 =>
 LoadT .any a8 fun v9 =>
 NextT Go.Proofs.Try.prog (callMethod v7 "HighAtDimension" [.int .u64 1].toArray) (.s (.one (.int .i64))) fun x10 =>
 Chk1 a8 v9 <|
 NextT Go.Proofs.Try.prog (callMethod v9 "LowAtDimension" [.int .u64 1].toArray) (.s (.one (.int .i64))) fun x11 =>
 Chk1 a6 v7 <|
 CallT Go.Proofs.Try.prog 53 [.int .i64 x10, .int .i64 high_3, .int .i64 x11, .int .i64 low_2] (.s (.one .bool)) fun b12 =>
 Chk1 a8 v9 <|
 Chk1 a6 v7 <|
 BIf (!b12) (
  k (.bool false)) (
  IfaceNil interval_4 fun b13 =>
  BIf b13 (
   k (.bool true)) (
   Loop [.ptr, .any, (.int .u64), (.int .u64)] (F54_L1 k) n_1 interval_4 maxDimension_5 2))
theorem F54_eq (k : Value → W) (n_1 : Option Addr) (low_2 : Int) (high_3 : Int) (interval_4 : Value) (maxDimension_5 : Int) : compF Go.Proofs.Try.prog Go.Proofs.Try.f54 [(6, [(0, .ptr), (3, .any), (4, (.int .u64)), (11, (.int .u64))])] (Go.Proofs.Try.f54.body.getD .skip) [.pointer n_1, .int .i64 low_2, .int .i64 high_3, interval_4, .int .u64 maxDimension_5] k = F54 k n_1 low_2 high_3 interval_4 maxDimension_5 := by kernel_rfl
theorem F54_calls {n_1 : Option Addr} {low_2 : Int} {high_3 : Int} {interval_4 : Value} {maxDimension_5 : Int} {w : World} {R : Ending → World → Prop} (h : F54 (fun v w => R (.returned v) w) n_1 low_2 high_3 interval_4 maxDimension_5 w) : Calls Go.Proofs.Try.prog 54 #[.pointer n_1, .int .i64 low_2, .int .i64 high_3, interval_4, .int .u64 maxDimension_5] w R :=
  calls_of_compF noNum follows [(6, [(0, .ptr), (3, .any), (4, (.int .u64)), (11, (.int .u64))])] (f := 54) (fn := Go.Proofs.Try.f54) (body := Go.Proofs.Try.f54.body.getD .skip) (args := [.pointer n_1, .int .i64 low_2, .int .i64 high_3, interval_4, .int .u64 maxDimension_5]) rfl rfl (Nat.le_of_ble_eq_true rfl) ((congrFun (F54_eq _ n_1 low_2 high_3 interval_4 maxDimension_5) w).mpr h)
theorem F54_call {n_1 : Option Addr} {low_2 : Int} {high_3 : Int} {interval_4 : Value} {maxDimension_5 : Int} {w : World} {g : Fn W (RTy.leaves (.s (.one .bool)))} (h : F54 (fun v => Back (.s (.one .bool)) g (.returned v)) n_1 low_2 high_3 interval_4 maxDimension_5 w) : CallT Go.Proofs.Try.prog 54 [.pointer n_1, .int .i64 low_2, .int .i64 high_3, interval_4, .int .u64 maxDimension_5] (.s (.one .bool)) g w := F54_calls h

/-! ## augmentedtree.node).query -/
def F43_J4 (k : Value → W) (n_51 : Option Addr) (low_52 : Int) (high_53 : Int) (interval_54 : Value) (maxDimension_55 : Int) (fn_56 : Value) (b57 : Bool) : W :=
 BIf b57 (
  NN n_51 fun a58 =>
  Req (0 ≤ (1 : Int) ∧ (1 : Int) < (2 : Int)) <|
  LoadT .ptr ((a58.add 3).add ((1 : Int).toNat)) fun p59 =>
  CallT Go.Proofs.Try.prog 43 [.pointer p59, .int .i64 low_52, .int .i64 high_53, interval_54, .int .u64 maxDimension_55, fn_56] (.tup []) <|
  k (.tuple #[])) (
  k (.tuple #[]))
def F43_J3 (k : Value → W) (n_34 : Option Addr) (low_35 : Int) (high_36 : Int) (interval_37 : Value) (maxDimension_38 : Int) (fn_39 : Value) : W :=
 Drw <|
 NN n_34 fun a40 =>
 Req (0 ≤ (1 : Int) ∧ (1 : Int) < (2 : Int)) <|
 LoadT .ptr ((a40.add 3).add ((1 : Int).toNat)) fun p41 =>
 BIf (!p41.isNone) (
  NN n_34 fun a42 =>
  Req (0 ≤ (1 : Int) ∧ (1 : Int) < (2 : Int)) <|
  LoadT .ptr ((a42.add 3).add ((1 : Int).toNat)) fun p43 =>
  NN p43 fun a44 =>
  LoadT (.int .i64) (a44.add 1) fun x45 =>
  NN n_34 fun a46 =>
  Req (0 ≤ (1 : Int) ∧ (1 : Int) < (2 : Int)) <|
  LoadT .ptr ((a46.add 3).add ((1 : Int).toNat)) fun p47 =>
  NN p47 fun a48 =>
  LoadT (.int .i64) (a48.add 2) fun x49 =>
  CallT Go.Proofs.Try.prog 53 [.int .i64 x45, .int .i64 high_36, .int .i64 x49, .int .i64 low_35] (.s (.one .bool)) fun b50 =>
  Chk1 ((a46.add 3).add ((1 : Int).toNat)) (.pointer p47) <|
  Chk1 ((a42.add 3).add ((1 : Int).toNat)) (.pointer p43) <|
  Chk1 ((a40.add 3).add ((1 : Int).toNat)) (.pointer p41) <|
  F43_J4 k n_34 low_35 high_36 interval_37 maxDimension_38 fn_39 b50) (
  F43_J4 k n_34 low_35 high_36 interval_37 maxDimension_38 fn_39 false)
def F43_J2 (k : Value → W) (n_27 : Option Addr) (low_28 : Int) (high_29 : Int) (interval_30 : Value) (maxDimension_31 : Int) (fn_32 : Value) : W :=
 CallT Go.Proofs.Try.prog 54 [.pointer n_27, .int .i64 low_28, .int .i64 high_29, interval_30, .int .u64 maxDimension_31] (.s (.one .bool)) fun b33 =>
 BIf b33 (
  NextT Go.Proofs.Try.prog (callV fn_32 [.pointer n_27].toArray) (.tup []) <|
  F43_J3 k n_27 low_28 high_29 interval_30 maxDimension_31 fn_32) (
  F43_J3 k n_27 low_28 high_29 interval_30 maxDimension_31 fn_32)
def F43_J1 (k : Value → W) (n_18 : Option Addr) (low_19 : Int) (high_20 : Int) (interval_21 : Value) (maxDimension_22 : Int) (fn_23 : Value) (b24 : Bool) : W :=
 BIf b24 (
  NN n_18 fun a25 =>
  Req (0 ≤ (0 : Int) ∧ (0 : Int) < (2 : Int)) <|
  LoadT .ptr ((a25.add 3).add ((0 : Int).toNat)) fun p26 =>
  CallT Go.Proofs.Try.prog 43 [.pointer p26, .int .i64 low_19, .int .i64 high_20, interval_21, .int .u64 maxDimension_22, fn_23] (.tup []) <|
  F43_J2 k n_18 low_19 high_20 interval_21 maxDimension_22 fn_23) (
  F43_J2 k n_18 low_19 high_20 interval_21 maxDimension_22 fn_23)
def F43 (k : Value → W) (n_1 : Option Addr) (low_2 : Int) (high_3 : Int) (interval_4 : Value) (maxDimension_5 : Int) (fn_6 : Value) : W :=
 Drw <|
 NN n_1 fun a7 =>
 Req (0 ≤ (0 : Int) ∧ (0 : Int) < (2 : Int)) <|
 LoadT .ptr ((a7.add 3).add ((0 : Int).toNat)) fun p8 =>
 BIf (!p8.isNone) (
  NN n_1 fun a9 =>
  Req (0 ≤ (0 : Int) ∧ (0 : Int) < (2 : Int)) <|
  LoadT .ptr ((a9.add 3).add ((0 : Int).toNat)) fun p10 =>
  NN p10 fun a11 =>
  LoadT (.int .i64) (a11.add 1) fun x12 =>
  NN n_1 fun a13 =>
  Req (0 ≤ (0 : Int) ∧ (0 : Int) < (2 : Int)) <|
  LoadT .ptr ((a13.add 3).add ((0 : Int).toNat)) fun p14 =>
  NN p14 fun a15 =>
  LoadT (.int .i64) (a15.add 2) fun x16 =>
  CallT Go.Proofs.Try.prog 53 [.int .i64 x12, .int .i64 high_3, .int .i64 x16, .int .i64 low_2] (.s (.one .bool)) fun b17 =>
  Chk1 ((a13.add 3).add ((0 : Int).toNat)) (.pointer p14) <|
  Chk1 ((a9.add 3).add ((0 : Int).toNat)) (.pointer p10) <|
  Chk1 ((a7.add 3).add ((0 : Int).toNat)) (.pointer p8) <|
  F43_J1 k n_1 low_2 high_3 interval_4 maxDimension_5 fn_6 b17) (
  F43_J1 k n_1 low_2 high_3 interval_4 maxDimension_5 fn_6 false)
theorem F43_eq (k : Value → W) (n_1 : Option Addr) (low_2 : Int) (high_3 : Int) (interval_4 : Value) (maxDimension_5 : Int) (fn_6 : Value) : compF Go.Proofs.Try.prog Go.Proofs.Try.f43 [] (Go.Proofs.Try.f43.body.getD .skip) [.pointer n_1, .int .i64 low_2, .int .i64 high_3, interval_4, .int .u64 maxDimension_5, fn_6] k = F43 k n_1 low_2 high_3 interval_4 maxDimension_5 fn_6 := by kernel_rfl
theorem F43_calls {n_1 : Option Addr} {low_2 : Int} {high_3 : Int} {interval_4 : Value} {maxDimension_5 : Int} {fn_6 : Value} {w : World} {R : Ending → World → Prop} (h : F43 (fun v w => R (.returned v) w) n_1 low_2 high_3 interval_4 maxDimension_5 fn_6 w) : Calls Go.Proofs.Try.prog 43 #[.pointer n_1, .int .i64 low_2, .int .i64 high_3, interval_4, .int .u64 maxDimension_5, fn_6] w R :=
  calls_of_compF noNum follows [] (f := 43) (fn := Go.Proofs.Try.f43) (body := Go.Proofs.Try.f43.body.getD .skip) (args := [.pointer n_1, .int .i64 low_2, .int .i64 high_3, interval_4, .int .u64 maxDimension_5, fn_6]) rfl rfl (Nat.le_of_ble_eq_true rfl) ((congrFun (F43_eq _ n_1 low_2 high_3 interval_4 maxDimension_5 fn_6) w).mpr h)
theorem F43_call {n_1 : Option Addr} {low_2 : Int} {high_3 : Int} {interval_4 : Value} {maxDimension_5 : Int} {fn_6 : Value} {w : World} {g : Fn W (RTy.leaves (.tup []))} (h : F43 (fun v => Back (.tup []) g (.returned v)) n_1 low_2 high_3 interval_4 maxDimension_5 fn_6 w) : CallT Go.Proofs.Try.prog 43 [.pointer n_1, .int .i64 low_2, .int .i64 high_3, interval_4, .int .u64 maxDimension_5, fn_6] (.tup []) g w := F43_calls h

/-! ## augmentedtree.node).adjustRanges -/
def F42_L1 (k : Value → W) (again4 : Option Addr → Int → W) (n_2 : Option Addr) (i_3 : Int) : W :=
 BIf (decide (i_3 ≤ 1)) (
  NN n_2 fun a5 =>
  Req (0 ≤ i_3 ∧ i_3 < (2 : Int)) <|
  LoadT .ptr ((a5.add 3).add i_3.toNat) fun p6 =>
  BIf (!p6.isNone) (
   NN n_2 fun a7 =>
   Req (0 ≤ i_3 ∧ i_3 < (2 : Int)) <|
   LoadT .ptr ((a7.add 3).add i_3.toNat) fun p8 =>
   CallT Go.Proofs.Try.prog 42 [.pointer p8] (.tup []) <|
   again4 n_2 (addI .i64 i_3 1)) (
   again4 n_2 (addI .i64 i_3 1))) (
  CallT Go.Proofs.Try.prog 52 [.pointer n_2] (.tup []) <|
  k (.tuple #[]))
theorem F42_L1_rule {k : Value → W} (I : Option Addr → Int → W) (μ : Option Addr → Int → World → Nat)
  (hr : ∀ (n_2 : Option Addr) (i_3 : Int) (w : World), I n_2 i_3 w → F42_L1 k (fun n_2' i_3' w' => I n_2' i_3' w' ∧ μ n_2' i_3' w' < μ n_2 i_3 w) n_2 i_3 w)
  {w : World} {n_2 : Option Addr} {i_3 : Int} (h : I n_2 i_3 w) : Loop [.ptr, (.int .i64)] (F42_L1 k) n_2 i_3 w :=
  Loop_intro (ts := [.ptr, (.int .i64)]) (s := (n_2, i_3, ())) (fun s w => I s.1 s.2.1 w) (fun s w => μ s.1 s.2.1 w) h (fun s w h => hr s.1 s.2.1 w h)
def F42 (k : Value → W) (n_1 : Option Addr) : W :=
 Loop [.ptr, (.int .i64)] (F42_L1 k) n_1 0
theorem F42_eq (k : Value → W) (n_1 : Option Addr) : compF Go.Proofs.Try.prog Go.Proofs.Try.f42 [(1, [(0, .ptr), (2, (.int .i64))])] (Go.Proofs.Try.f42.body.getD .skip) [.pointer n_1] k = F42 k n_1 := by kernel_rfl
theorem F42_calls {n_1 : Option Addr} {w : World} {R : Ending → World → Prop} (h : F42 (fun v w => R (.returned v) w) n_1 w) : Calls Go.Proofs.Try.prog 42 #[.pointer n_1] w R :=
  calls_of_compF noNum follows [(1, [(0, .ptr), (2, (.int .i64))])] (f := 42) (fn := Go.Proofs.Try.f42) (body := Go.Proofs.Try.f42.body.getD .skip) (args := [.pointer n_1]) rfl rfl (Nat.le_of_ble_eq_true rfl) ((congrFun (F42_eq _ n_1) w).mpr h)
theorem F42_call {n_1 : Option Addr} {w : World} {g : Fn W (RTy.leaves (.tup []))} (h : F42 (fun v => Back (.tup []) g (.returned v)) n_1 w) : CallT Go.Proofs.Try.prog 42 [.pointer n_1] (.tup []) g w := F42_calls h

/-! ## augmentedtree.tree).Query$1 -/
def F44 (k : Value → W) (node_1 : Option Addr) (a2 : Addr) : W :=
 Drw <|
 LoadT .slice a2 fun s3p s3l s3c =>
 NN node_1 fun a4 =>
 LoadT .any a4 fun v5 =>
 RawT Go.Proofs.Try.prog (Instr.buildSlice 64 1 [(0, v5)].toArray) (.s (.one .slice)) fun s6p s6l s6c =>
 Chk1 a2 (.slice s3p s3l s3c) <|
 NextT Go.Proofs.Try.prog (builtin .append #[64, 64] 64 [false, false].toArray [.slice s3p s3l s3c, .slice s6p s6l s6c].toArray) (.s (.one .slice)) fun s7p s7l s7c =>
 Chk1 a4 v5 <|
 Store1 a2 (.slice s7p s7l s7c) <|
 k (.tuple #[])
theorem F44_eq (k : Value → W) (node_1 : Option Addr) (a2 : Addr) : compF Go.Proofs.Try.prog Go.Proofs.Try.f44 [] (Go.Proofs.Try.f44.body.getD .skip) [.pointer node_1, .pointer (some a2)] k = F44 k node_1 a2 := by kernel_rfl
theorem F44_calls {node_1 : Option Addr} {a2 : Addr} {w : World} {R : Ending → World → Prop} (h : F44 (fun v w => R (.returned v) w) node_1 a2 w) : Calls Go.Proofs.Try.prog 44 #[.pointer node_1, .pointer (some a2)] w R :=
  calls_of_compF noNum follows [] (f := 44) (fn := Go.Proofs.Try.f44) (body := Go.Proofs.Try.f44.body.getD .skip) (args := [.pointer node_1, .pointer (some a2)]) rfl rfl (Nat.le_of_ble_eq_true rfl) ((congrFun (F44_eq _ node_1 a2) w).mpr h)
theorem F44_call {node_1 : Option Addr} {a2 : Addr} {w : World} {g : Fn W (RTy.leaves (.tup []))} (h : F44 (fun v => Back (.tup []) g (.returned v)) node_1 a2 w) : CallT Go.Proofs.Try.prog 44 [.pointer node_1, .pointer (some a2)] (.tup []) g w := F44_calls h

/-! ## augmentedtree.tree).Query -/
def F37 (k : Value → W) (tree_1 : Option Addr) (interval_2 : Value) : W :=
 NN tree_1 fun a3 =>
 LoadT .ptr a3 fun p4 =>
 BIf p4.isNone (
  k (.slice none 0 0)) (
  RawT Go.Proofs.Try.prog (Instr.makeSlice 64 (.int .i64 0) (.int .i64 10)) (.s (.one .slice)) fun s5p s5l s5c =>
  New [.slice none 0 0] 64 fun n6 =>
  Store1 ⟨n6, 0, none⟩ (.slice s5p s5l s5c) <|
  NextT Go.Proofs.Try.prog (callMethod interval_2 "LowAtDimension" [.int .u64 1].toArray) (.s (.one (.int .i64))) fun x7 =>
  NextT Go.Proofs.Try.prog (callMethod interval_2 "HighAtDimension" [.int .u64 1].toArray) (.s (.one (.int .i64))) fun x8 =>
  Drw <|
  NN tree_1 fun a9 =>
  LoadT .ptr a9 fun p10 =>
  NN tree_1 fun a11 =>
  LoadT (.int .u64) (a11.add 1) fun x12 =>
  CallT Go.Proofs.Try.prog 43 [.pointer p10, .int .i64 x7, .int .i64 x8, interval_2, .int .u64 x12, .func (.func 44) #[] #[.pointer (some ⟨n6, 0, none⟩)]] (.tup []) <|
  LoadT .slice ⟨n6, 0, none⟩ fun s13p s13l s13c =>
  k (.slice s13p s13l s13c))
theorem F37_eq (k : Value → W) (tree_1 : Option Addr) (interval_2 : Value) : compF Go.Proofs.Try.prog Go.Proofs.Try.f37 [] (Go.Proofs.Try.f37.body.getD .skip) [.pointer tree_1, interval_2] k = F37 k tree_1 interval_2 := by kernel_rfl
theorem F37_calls {tree_1 : Option Addr} {interval_2 : Value} {w : World} {R : Ending → World → Prop} (h : F37 (fun v w => R (.returned v) w) tree_1 interval_2 w) : Calls Go.Proofs.Try.prog 37 #[.pointer tree_1, interval_2] w R :=
  calls_of_compF noNum follows [] (f := 37) (fn := Go.Proofs.Try.f37) (body := Go.Proofs.Try.f37.body.getD .skip) (args := [.pointer tree_1, interval_2]) rfl rfl (Nat.le_of_ble_eq_true rfl) ((congrFun (F37_eq _ tree_1 interval_2) w).mpr h)
theorem F37_call {tree_1 : Option Addr} {interval_2 : Value} {w : World} {g : Fn W (RTy.leaves (.s (.one .slice)))} (h : F37 (fun v => Back (.s (.one .slice)) g (.returned v)) tree_1 interval_2 w) : CallT Go.Proofs.Try.prog 37 [.pointer tree_1, interval_2] (.s (.one .slice)) g w := F37_calls h

/-! ## augmentedtree.tree).Len -/
def F36 (k : Value → W) (tree_1 : Option Addr) : W :=
 NN tree_1 fun a2 =>
 LoadT (.int .u64) (a2.add 2) fun x3 =>
 k (.int .u64 x3)
theorem F36_eq (k : Value → W) (tree_1 : Option Addr) : compF Go.Proofs.Try.prog Go.Proofs.Try.f36 [] (Go.Proofs.Try.f36.body.getD .skip) [.pointer tree_1] k = F36 k tree_1 := by kernel_rfl
theorem F36_calls {tree_1 : Option Addr} {w : World} {R : Ending → World → Prop} (h : F36 (fun v w => R (.returned v) w) tree_1 w) : Calls Go.Proofs.Try.prog 36 #[.pointer tree_1] w R :=
  calls_of_compF noNum follows [] (f := 36) (fn := Go.Proofs.Try.f36) (body := Go.Proofs.Try.f36.body.getD .skip) (args := [.pointer tree_1]) rfl rfl (Nat.le_of_ble_eq_true rfl) ((congrFun (F36_eq _ tree_1) w).mpr h)
theorem F36_call {tree_1 : Option Addr} {w : World} {g : Fn W (RTy.leaves (.s (.one (.int .u64))))} (h : F36 (fun v => Back (.s (.one (.int .u64))) g (.returned v)) tree_1 w) : CallT Go.Proofs.Try.prog 36 [.pointer tree_1] (.s (.one (.int .u64))) g w := F36_calls h

/-! ## augmentedtree.tree).add -/
def F40_J6 (k : Value → W) (tree_131 : Option Addr) (dummy_132 : Addr) : W :=
 Req (0 ≤ (1 : Int) ∧ (1 : Int) < (2 : Int)) <|
 LoadT .ptr ((dummy_132.add 3).add ((1 : Int).toNat)) fun p133 =>
 NN tree_131 fun a134 =>
 Store1 a134 (.pointer p133) <|
 NN tree_131 fun a135 =>
 LoadT .ptr a135 fun p136 =>
 NN p136 fun a137 =>
 Store1 (a137.add 5) (.bool false) <|
 k (.tuple #[])
def F40_J7 (k : Value → W) (again43 : Option Addr → Value → Addr → Option Addr → Option Addr → Option Addr → Int → Int → Int → Int → Int → Int → Option Addr → W) (tree_145 : Option Addr) (iv_146 : Value) (dummy_147 : Addr) (parent_148 : Option Addr) (node_149 : Option Addr) (dir_150 : Int) (last_151 : Int) (otherLast_152 : Int) (id_153 : Int) (max_154 : Int) (ivLow_155 : Int) (helper_156 : Option Addr) : W :=
 Drw <|
 NN node_149 fun a157 =>
 Req (0 ≤ dir_150 ∧ dir_150 < (2 : Int)) <|
 LoadT .ptr ((a157.add 3).add dir_150.toNat) fun p158 =>
 again43 tree_145 iv_146 dummy_147 node_149 parent_148 p158 dir_150 last_151 otherLast_152 id_153 max_154 ivLow_155 helper_156
def F40_J5 (k : Value → W) (again43 : Option Addr → Value → Addr → Option Addr → Option Addr → Option Addr → Int → Int → Int → Int → Int → Int → Option Addr → W) (tree_118 : Option Addr) (iv_119 : Value) (dummy_120 : Addr) (parent_121 : Option Addr) (grandParent_122 : Option Addr) (node_123 : Option Addr) (dir_124 : Int) (id_125 : Int) (max_126 : Int) (ivLow_127 : Int) (helper_128 : Option Addr) : W :=
 NN node_123 fun a129 =>
 LoadT (.int .u64) (a129.add 6) fun x130 =>
 BIf (x130 == id_125) (
  F40_J6 k tree_118 dummy_120) (
  CallT Go.Proofs.Try.prog 50 [.int .i64 dir_124] (.s (.one (.int .i64))) fun x138 =>
  Drw <|
  NN node_123 fun a139 =>
  LoadT .any a139 fun v140 =>
  NN node_123 fun a141 =>
  LoadT (.int .u64) (a141.add 6) fun x142 =>
  NextT Go.Proofs.Try.prog (callMethod v140 "LowAtDimension" [.int .u64 1].toArray) (.s (.one (.int .i64))) fun x143 =>
  Chk1 (a141.add 6) (.int .u64 x142) <|
  CallT Go.Proofs.Try.prog 51 [.int .i64 x143, .int .i64 ivLow_127, .int .u64 x142, .int .u64 id_125] (.s (.one (.int .i64))) fun x144 =>
  Chk1 a139 v140 <|
  BIf (!grandParent_122.isNone) (
   F40_J7 k again43 tree_118 iv_119 dummy_120 parent_121 node_123 x144 dir_124 x138 id_125 max_126 ivLow_127 grandParent_122) (
   F40_J7 k again43 tree_118 iv_119 dummy_120 parent_121 node_123 x144 dir_124 x138 id_125 max_126 ivLow_127 helper_128))
def F40_J4 (k : Value → W) (again43 : Option Addr → Value → Addr → Option Addr → Option Addr → Option Addr → Int → Int → Int → Int → Int → Int → Option Addr → W) (tree_95 : Option Addr) (iv_96 : Value) (dummy_97 : Addr) (parent_98 : Option Addr) (grandParent_99 : Option Addr) (node_100 : Option Addr) (dir_101 : Int) (last_102 : Int) (otherLast_103 : Int) (id_104 : Int) (max_105 : Int) (ivLow_106 : Int) (helper_107 : Option Addr) (b108 : Bool) : W :=
 BIf b108 (
  NN helper_107 fun a109 =>
  Req (0 ≤ (1 : Int) ∧ (1 : Int) < (2 : Int)) <|
  LoadT .ptr ((a109.add 3).add ((1 : Int).toNat)) fun p110 =>
  RawS Go.Proofs.Try.prog (binS .eql 68 (.tmp 147) (.tmp 148) (.pointer p110) (.pointer grandParent_99)) (.s (.one .bool)) fun b111 =>
  CallT Go.Proofs.Try.prog 47 [.bool b111] (.s (.one (.int .i64))) fun x112 =>
  NN parent_98 fun a113 =>
  Req (0 ≤ last_102 ∧ last_102 < (2 : Int)) <|
  LoadT .ptr ((a113.add 3).add last_102.toNat) fun p114 =>
  RawS Go.Proofs.Try.prog (binS .eql 68 (.tmp 151) (.tmp 157) (.pointer node_100) (.pointer p114)) (.s (.one .bool)) fun b115 =>
  BIf b115 (
   Drw <|
   NN helper_107 fun a116 =>
   CallT Go.Proofs.Try.prog 48 [.pointer grandParent_99, .int .i64 otherLast_103] (.s (.one .ptr)) fun p117 =>
   Req (0 ≤ x112 ∧ x112 < (2 : Int)) <|
   Store1 ((a116.add 3).add x112.toNat) (.pointer p117) <|
   F40_J5 k again43 tree_95 iv_96 dummy_97 parent_98 grandParent_99 node_100 dir_101 id_104 max_105 ivLow_106 helper_107) (
   Drw <|
   NN helper_107 fun a159 =>
   CallT Go.Proofs.Try.prog 49 [.pointer grandParent_99, .int .i64 otherLast_103] (.s (.one .ptr)) fun p160 =>
   Req (0 ≤ x112 ∧ x112 < (2 : Int)) <|
   Store1 ((a159.add 3).add x112.toNat) (.pointer p160) <|
   F40_J5 k again43 tree_95 iv_96 dummy_97 parent_98 grandParent_99 node_100 dir_101 id_104 max_105 ivLow_106 helper_107)) (
  F40_J5 k again43 tree_95 iv_96 dummy_97 parent_98 grandParent_99 node_100 dir_101 id_104 max_105 ivLow_106 helper_107)
def F40_J3 (k : Value → W) (again43 : Option Addr → Value → Addr → Option Addr → Option Addr → Option Addr → Int → Int → Int → Int → Int → Int → Option Addr → W) (tree_80 : Option Addr) (iv_81 : Value) (dummy_82 : Addr) (parent_83 : Option Addr) (grandParent_84 : Option Addr) (node_85 : Option Addr) (dir_86 : Int) (last_87 : Int) (otherLast_88 : Int) (id_89 : Int) (max_90 : Int) (ivLow_91 : Int) (helper_92 : Option Addr) : W :=
 CallT Go.Proofs.Try.prog 46 [.pointer parent_83] (.s (.one .bool)) fun b93 =>
 BIf b93 (
  CallT Go.Proofs.Try.prog 46 [.pointer node_85] (.s (.one .bool)) fun b94 =>
  F40_J4 k again43 tree_80 iv_81 dummy_82 parent_83 grandParent_84 node_85 dir_86 last_87 otherLast_88 id_89 max_90 ivLow_91 helper_92 b94) (
  F40_J4 k again43 tree_80 iv_81 dummy_82 parent_83 grandParent_84 node_85 dir_86 last_87 otherLast_88 id_89 max_90 ivLow_91 helper_92 false)
def F40_J2 (k : Value → W) (again43 : Option Addr → Value → Addr → Option Addr → Option Addr → Option Addr → Int → Int → Int → Int → Int → Int → Option Addr → W) (tree_64 : Option Addr) (iv_65 : Value) (dummy_66 : Addr) (parent_67 : Option Addr) (grandParent_68 : Option Addr) (node_69 : Option Addr) (dir_70 : Int) (last_71 : Int) (otherLast_72 : Int) (id_73 : Int) (max_74 : Int) (ivLow_75 : Int) (helper_76 : Option Addr) : W :=
 NN node_69 fun a77 =>
 LoadT (.int .i64) (a77.add 2) fun x78 =>
 BIf (decide (ivLow_75 < x78)) (
  NN node_69 fun a79 =>
  Store1 (a79.add 2) (.int .i64 ivLow_75) <|
  F40_J3 k again43 tree_64 iv_65 dummy_66 parent_67 grandParent_68 node_69 dir_70 last_71 otherLast_72 id_73 max_74 ivLow_75 helper_76) (
  F40_J3 k again43 tree_64 iv_65 dummy_66 parent_67 grandParent_68 node_69 dir_70 last_71 otherLast_72 id_73 max_74 ivLow_75 helper_76)
def F40_J1 (k : Value → W) (again43 : Option Addr → Value → Addr → Option Addr → Option Addr → Option Addr → Int → Int → Int → Int → Int → Int → Option Addr → W) (tree_48 : Option Addr) (iv_49 : Value) (dummy_50 : Addr) (parent_51 : Option Addr) (grandParent_52 : Option Addr) (node_53 : Option Addr) (dir_54 : Int) (last_55 : Int) (otherLast_56 : Int) (id_57 : Int) (max_58 : Int) (ivLow_59 : Int) (helper_60 : Option Addr) : W :=
 NN node_53 fun a61 =>
 LoadT (.int .i64) (a61.add 1) fun x62 =>
 BIf (decide (max_58 > x62)) (
  NN node_53 fun a63 =>
  Store1 (a63.add 1) (.int .i64 max_58) <|
  F40_J2 k again43 tree_48 iv_49 dummy_50 parent_51 grandParent_52 node_53 dir_54 last_55 otherLast_56 id_57 max_58 ivLow_59 helper_60) (
  F40_J2 k again43 tree_48 iv_49 dummy_50 parent_51 grandParent_52 node_53 dir_54 last_55 otherLast_56 id_57 max_58 ivLow_59 helper_60)
def F40_J8 (k : Value → W) (again43 : Option Addr → Value → Addr → Option Addr → Option Addr → Option Addr → Int → Int → Int → Int → Int → Int → Option Addr → W) (tree_167 : Option Addr) (iv_168 : Value) (dummy_169 : Addr) (parent_170 : Option Addr) (grandParent_171 : Option Addr) (node_172 : Option Addr) (dir_173 : Int) (last_174 : Int) (otherLast_175 : Int) (id_176 : Int) (max_177 : Int) (ivLow_178 : Int) (helper_179 : Option Addr) (b180 : Bool) : W :=
 BIf b180 (
  NN node_172 fun a181 =>
  Store1 (a181.add 5) (.bool true) <|
  NN node_172 fun a182 =>
  Req (0 ≤ (0 : Int) ∧ (0 : Int) < (2 : Int)) <|
  LoadT .ptr ((a182.add 3).add ((0 : Int).toNat)) fun p183 =>
  NN p183 fun a184 =>
  Store1 (a184.add 5) (.bool false) <|
  NN node_172 fun a185 =>
  Req (0 ≤ (1 : Int) ∧ (1 : Int) < (2 : Int)) <|
  LoadT .ptr ((a185.add 3).add ((1 : Int).toNat)) fun p186 =>
  NN p186 fun a187 =>
  Store1 (a187.add 5) (.bool false) <|
  F40_J1 k again43 tree_167 iv_168 dummy_169 parent_170 grandParent_171 node_172 dir_173 last_174 otherLast_175 id_176 max_177 ivLow_178 helper_179) (
  F40_J1 k again43 tree_167 iv_168 dummy_169 parent_170 grandParent_171 node_172 dir_173 last_174 otherLast_175 id_176 max_177 ivLow_178 helper_179)
def F40_L1 (k : Value → W) (again43 : Option Addr → Value → Addr → Option Addr → Option Addr → Option Addr → Int → Int → Int → Int → Int → Int → Option Addr → W) (tree_30 : Option Addr) (iv_31 : Value) (dummy_32 : Addr) (parent_33 : Option Addr) (grandParent_34 : Option Addr) (node_35 : Option Addr) (dir_36 : Int) (last_37 : Int) (otherLast_38 : Int) (id_39 : Int) (max_40 : Int) (ivLow_41 : Int) (helper_42 : Option Addr) : W :=
 BIf node_35.isNone (
  CallT Go.Proofs.Try.prog 45 [iv_31, .int .i64 ivLow_41, .int .i64 max_40, .int .u64 1] (.s (.one .ptr)) fun p44 =>
  NN parent_33 fun a45 =>
  Req (0 ≤ dir_36 ∧ dir_36 < (2 : Int)) <|
  Store1 ((a45.add 3).add dir_36.toNat) (.pointer p44) <|
  NN tree_30 fun a46 =>
  LoadT (.int .u64) (a46.add 2) fun x47 =>
  Store1 (a46.add 2) (.int .u64 (addI .u64 x47 1)) <|
  F40_J1 k again43 tree_30 iv_31 dummy_32 parent_33 grandParent_34 p44 dir_36 last_37 otherLast_38 id_39 max_40 ivLow_41 helper_42) (
  NN node_35 fun a161 =>
  Req (0 ≤ (0 : Int) ∧ (0 : Int) < (2 : Int)) <|
  LoadT .ptr ((a161.add 3).add ((0 : Int).toNat)) fun p162 =>
  CallT Go.Proofs.Try.prog 46 [.pointer p162] (.s (.one .bool)) fun b163 =>
  BIf b163 (
   NN node_35 fun a164 =>
   Req (0 ≤ (1 : Int) ∧ (1 : Int) < (2 : Int)) <|
   LoadT .ptr ((a164.add 3).add ((1 : Int).toNat)) fun p165 =>
   CallT Go.Proofs.Try.prog 46 [.pointer p165] (.s (.one .bool)) fun b166 =>
   F40_J8 k again43 tree_30 iv_31 dummy_32 parent_33 grandParent_34 node_35 dir_36 last_37 otherLast_38 id_39 max_40 ivLow_41 helper_42 b166) (
   F40_J8 k again43 tree_30 iv_31 dummy_32 parent_33 grandParent_34 node_35 dir_36 last_37 otherLast_38 id_39 max_40 ivLow_41 helper_42 false))
theorem F40_L1_rule {k : Value → W} (I : Option Addr → Value → Addr → Option Addr → Option Addr → Option Addr → Int → Int → Int → Int → Int → Int → Option Addr → W) (μ : Option Addr → Value → Addr → Option Addr → Option Addr → Option Addr → Int → Int → Int → Int → Int → Int → Option Addr → World → Nat)
  (hr : ∀ (tree_30 : Option Addr) (iv_31 : Value) (dummy_32 : Addr) (parent_33 : Option Addr) (grandParent_34 : Option Addr) (node_35 : Option Addr) (dir_36 : Int) (last_37 : Int) (otherLast_38 : Int) (id_39 : Int) (max_40 : Int) (ivLow_41 : Int) (helper_42 : Option Addr) (w : World), I tree_30 iv_31 dummy_32 parent_33 grandParent_34 node_35 dir_36 last_37 otherLast_38 id_39 max_40 ivLow_41 helper_42 w → F40_L1 k (fun tree_30' iv_31' dummy_32' parent_33' grandParent_34' node_35' dir_36' last_37' otherLast_38' id_39' max_40' ivLow_41' helper_42' w' => I tree_30' iv_31' dummy_32' parent_33' grandParent_34' node_35' dir_36' last_37' otherLast_38' id_39' max_40' ivLow_41' helper_42' w' ∧ μ tree_30' iv_31' dummy_32' parent_33' grandParent_34' node_35' dir_36' last_37' otherLast_38' id_39' max_40' ivLow_41' helper_42' w' < μ tree_30 iv_31 dummy_32 parent_33 grandParent_34 node_35 dir_36 last_37 otherLast_38 id_39 max_40 ivLow_41 helper_42 w) tree_30 iv_31 dummy_32 parent_33 grandParent_34 node_35 dir_36 last_37 otherLast_38 id_39 max_40 ivLow_41 helper_42 w)
  {w : World} {tree_30 : Option Addr} {iv_31 : Value} {dummy_32 : Addr} {parent_33 : Option Addr} {grandParent_34 : Option Addr} {node_35 : Option Addr} {dir_36 : Int} {last_37 : Int} {otherLast_38 : Int} {id_39 : Int} {max_40 : Int} {ivLow_41 : Int} {helper_42 : Option Addr} (h : I tree_30 iv_31 dummy_32 parent_33 grandParent_34 node_35 dir_36 last_37 otherLast_38 id_39 max_40 ivLow_41 helper_42 w) : Loop [.ptr, .any, .addr, .ptr, .ptr, .ptr, (.int .i64), (.int .i64), (.int .i64), (.int .u64), (.int .i64), (.int .i64), .ptr] (F40_L1 k) tree_30 iv_31 dummy_32 parent_33 grandParent_34 node_35 dir_36 last_37 otherLast_38 id_39 max_40 ivLow_41 helper_42 w :=
  Loop_intro (ts := [.ptr, .any, .addr, .ptr, .ptr, .ptr, (.int .i64), (.int .i64), (.int .i64), (.int .u64), (.int .i64), (.int .i64), .ptr]) (s := (tree_30, iv_31, dummy_32, parent_33, grandParent_34, node_35, dir_36, last_37, otherLast_38, id_39, max_40, ivLow_41, helper_42, ())) (fun s w => I s.1 s.2.1 s.2.2.1 s.2.2.2.1 s.2.2.2.2.1 s.2.2.2.2.2.1 s.2.2.2.2.2.2.1 s.2.2.2.2.2.2.2.1 s.2.2.2.2.2.2.2.2.1 s.2.2.2.2.2.2.2.2.2.1 s.2.2.2.2.2.2.2.2.2.2.1 s.2.2.2.2.2.2.2.2.2.2.2.1 s.2.2.2.2.2.2.2.2.2.2.2.2.1 w) (fun s w => μ s.1 s.2.1 s.2.2.1 s.2.2.2.1 s.2.2.2.2.1 s.2.2.2.2.2.1 s.2.2.2.2.2.2.1 s.2.2.2.2.2.2.2.1 s.2.2.2.2.2.2.2.2.1 s.2.2.2.2.2.2.2.2.2.1 s.2.2.2.2.2.2.2.2.2.2.1 s.2.2.2.2.2.2.2.2.2.2.2.1 s.2.2.2.2.2.2.2.2.2.2.2.2.1 w) h (fun s w h => hr s.1 s.2.1 s.2.2.1 s.2.2.2.1 s.2.2.2.2.1 s.2.2.2.2.2.1 s.2.2.2.2.2.2.1 s.2.2.2.2.2.2.2.1 s.2.2.2.2.2.2.2.2.1 s.2.2.2.2.2.2.2.2.2.1 s.2.2.2.2.2.2.2.2.2.2.1 s.2.2.2.2.2.2.2.2.2.2.2.1 s.2.2.2.2.2.2.2.2.2.2.2.2.1 w h)
def F40 (k : Value → W) (tree_1 : Option Addr) (iv_2 : Value) : W :=
 NN tree_1 fun a3 =>
 LoadT .ptr a3 fun p4 =>
 BIf p4.isNone (
  NextT Go.Proofs.Try.prog (callMethod iv_2 "LowAtDimension" [.int .u64 1].toArray) (.s (.one (.int .i64))) fun x5 =>
  NextT Go.Proofs.Try.prog (callMethod iv_2 "HighAtDimension" [.int .u64 1].toArray) (.s (.one (.int .i64))) fun x6 =>
  CallT Go.Proofs.Try.prog 45 [iv_2, .int .i64 x5, .int .i64 x6, .int .u64 1] (.s (.one .ptr)) fun p7 =>
  NN tree_1 fun a8 =>
  Store1 a8 (.pointer p7) <|
  NN tree_1 fun a9 =>
  LoadT .ptr a9 fun p10 =>
  NN p10 fun a11 =>
  Store1 (a11.add 5) (.bool false) <|
  NN tree_1 fun a12 =>
  LoadT (.int .u64) (a12.add 2) fun x13 =>
  Store1 (a12.add 2) (.int .u64 (addI .u64 x13 1)) <|
  k (.tuple #[])) (
  CallT Go.Proofs.Try.prog 39 [.pointer tree_1] (.tup []) <|
  NN tree_1 fun a14 =>
  LoadT .any ((a14.add 3).add 0) fun v15 =>
  LoadT (.int .i64) ((a14.add 3).add 1) fun x16 =>
  LoadT (.int .i64) ((a14.add 3).add 2) fun x17 =>
  LoadT .ptr ((a14.add 3).add 3) fun p18 =>
  LoadT .ptr ((a14.add 3).add 4) fun p19 =>
  LoadT .bool ((a14.add 3).add 5) fun b20 =>
  LoadT (.int .u64) ((a14.add 3).add 6) fun x21 =>
  New [.nilIface, .int .i64 0, .int .i64 0, .pointer none, .pointer none, .bool false, .int .u64 0] 71 fun n22 =>
  Store1 ⟨n22, 0, none⟩ v15 <|
  Store1 ⟨n22, 1, none⟩ (.int .i64 x16) <|
  Store1 ⟨n22, 2, none⟩ (.int .i64 x17) <|
  Store1 ⟨n22, 3, none⟩ (.pointer p18) <|
  Store1 ⟨n22, 4, none⟩ (.pointer p19) <|
  Store1 ⟨n22, 5, none⟩ (.bool b20) <|
  Store1 ⟨n22, 6, none⟩ (.int .u64 x21) <|
  NN tree_1 fun a23 =>
  LoadT .ptr a23 fun p24 =>
  NextT Go.Proofs.Try.prog (callMethod iv_2 "ID" [].toArray) (.s (.one (.int .u64))) fun x25 =>
  NextT Go.Proofs.Try.prog (callMethod iv_2 "HighAtDimension" [.int .u64 1].toArray) (.s (.one (.int .i64))) fun x26 =>
  NextT Go.Proofs.Try.prog (callMethod iv_2 "LowAtDimension" [.int .u64 1].toArray) (.s (.one (.int .i64))) fun x27 =>
  Drw <|
  NN tree_1 fun a28 =>
  LoadT .ptr a28 fun p29 =>
  Req (0 ≤ (1 : Int) ∧ (1 : Int) < (2 : Int)) <|
  Store1 ((⟨n22, 3, none⟩ : Addr).add ((1 : Int).toNat)) (.pointer p29) <|
  Loop [.ptr, .any, .addr, .ptr, .ptr, .ptr, (.int .i64), (.int .i64), (.int .i64), (.int .u64), (.int .i64), (.int .i64), .ptr] (F40_L1 k) tree_1 iv_2 ⟨n22, 0, none⟩ none none p24 0 0 1 x25 x26 x27 (some ⟨n22, 0, none⟩))
theorem F40_eq (k : Value → W) (tree_1 : Option Addr) (iv_2 : Value) : compF Go.Proofs.Try.prog Go.Proofs.Try.f40 [(15, [(0, .ptr), (1, .any), (4, .addr), (5, .ptr), (6, .ptr), (7, .ptr), (8, (.int .i64)), (9, (.int .i64)), (10, (.int .i64)), (11, (.int .u64)), (12, (.int .i64)), (13, (.int .i64)), (14, .ptr)])] (Go.Proofs.Try.f40.body.getD .skip) [.pointer tree_1, iv_2] k = F40 k tree_1 iv_2 := by kernel_rfl
theorem F40_calls {tree_1 : Option Addr} {iv_2 : Value} {w : World} {R : Ending → World → Prop} (h : F40 (fun v w => R (.returned v) w) tree_1 iv_2 w) : Calls Go.Proofs.Try.prog 40 #[.pointer tree_1, iv_2] w R :=
  calls_of_compF noNum follows [(15, [(0, .ptr), (1, .any), (4, .addr), (5, .ptr), (6, .ptr), (7, .ptr), (8, (.int .i64)), (9, (.int .i64)), (10, (.int .i64)), (11, (.int .u64)), (12, (.int .i64)), (13, (.int .i64)), (14, .ptr)])] (f := 40) (fn := Go.Proofs.Try.f40) (body := Go.Proofs.Try.f40.body.getD .skip) (args := [.pointer tree_1, iv_2]) rfl rfl (Nat.le_of_ble_eq_true rfl) ((congrFun (F40_eq _ tree_1 iv_2) w).mpr h)
theorem F40_call {tree_1 : Option Addr} {iv_2 : Value} {w : World} {g : Fn W (RTy.leaves (.tup []))} (h : F40 (fun v => Back (.tup []) g (.returned v)) tree_1 iv_2 w) : CallT Go.Proofs.Try.prog 40 [.pointer tree_1, iv_2] (.tup []) g w := F40_calls h

/-! ## augmentedtree.tree).Add -/
def F34_L1 (k : Value → W) (again7 : Option Addr → Option Addr → Nat → Nat → Int → Int → W) (tree_3 : Option Addr) (s4p : Option Addr) (s4l : Nat) (s4c : Nat) (x5 : Int) (x6 : Int) : W :=
 BIf (decide (x6 < x5)) (
  NN s4p fun a8 =>
  Req (0 ≤ x6 ∧ x6 < ((s4l : Nat) : Int)) <|
  LoadT .any (a8.add x6.toNat) fun v9 =>
  CallT Go.Proofs.Try.prog 40 [.pointer tree_3, v9] (.tup []) <|
  again7 tree_3 s4p s4l s4c x5 (addI .i64 x6 1)) (
  k (.tuple #[]))
theorem F34_L1_rule {k : Value → W} (I : Option Addr → Option Addr → Nat → Nat → Int → Int → W) (μ : Option Addr → Option Addr → Nat → Nat → Int → Int → World → Nat)
  (hr : ∀ (tree_3 : Option Addr) (s4p : Option Addr) (s4l : Nat) (s4c : Nat) (x5 : Int) (x6 : Int) (w : World), I tree_3 s4p s4l s4c x5 x6 w → F34_L1 k (fun tree_3' s4p' s4l' s4c' x5' x6' w' => I tree_3' s4p' s4l' s4c' x5' x6' w' ∧ μ tree_3' s4p' s4l' s4c' x5' x6' w' < μ tree_3 s4p s4l s4c x5 x6 w) tree_3 s4p s4l s4c x5 x6 w)
  {w : World} {tree_3 : Option Addr} {s4p : Option Addr} {s4l : Nat} {s4c : Nat} {x5 : Int} {x6 : Int} (h : I tree_3 s4p s4l s4c x5 x6 w) : Loop [.ptr, .slice, (.int .i64), (.int .i64)] (F34_L1 k) tree_3 s4p s4l s4c x5 x6 w :=
  Loop_intro (ts := [.ptr, .slice, (.int .i64), (.int .i64)]) (s := (tree_3, (s4p, s4l, s4c), x5, x6, ())) (fun s w => I s.1 s.2.1.1 s.2.1.2.1 s.2.1.2.2 s.2.2.1 s.2.2.2.1 w) (fun s w => μ s.1 s.2.1.1 s.2.1.2.1 s.2.1.2.2 s.2.2.1 s.2.2.2.1 w) h (fun s w h => hr s.1 s.2.1.1 s.2.1.2.1 s.2.1.2.2 s.2.2.1 s.2.2.2.1 w h)
def F34 (k : Value → W) (tree_1 : Option Addr) (intervals_2p : Option Addr) (intervals_2l : Nat) (intervals_2c : Nat) : W :=
 Loop [.ptr, .slice, (.int .i64), (.int .i64)] (F34_L1 k) tree_1 intervals_2p intervals_2l intervals_2c ((intervals_2l : Nat) : Int) 0
theorem F34_eq (k : Value → W) (tree_1 : Option Addr) (intervals_2p : Option Addr) (intervals_2l : Nat) (intervals_2c : Nat) : compF Go.Proofs.Try.prog Go.Proofs.Try.f34 [(1, [(0, .ptr), (6, .slice), (7, (.int .i64)), (8, (.int .i64))])] (Go.Proofs.Try.f34.body.getD .skip) [.pointer tree_1, .slice intervals_2p intervals_2l intervals_2c] k = F34 k tree_1 intervals_2p intervals_2l intervals_2c := by kernel_rfl
theorem F34_calls {tree_1 : Option Addr} {intervals_2p : Option Addr} {intervals_2l : Nat} {intervals_2c : Nat} {w : World} {R : Ending → World → Prop} (h : F34 (fun v w => R (.returned v) w) tree_1 intervals_2p intervals_2l intervals_2c w) : Calls Go.Proofs.Try.prog 34 #[.pointer tree_1, .slice intervals_2p intervals_2l intervals_2c] w R :=
  calls_of_compF noNum follows [(1, [(0, .ptr), (6, .slice), (7, (.int .i64)), (8, (.int .i64))])] (f := 34) (fn := Go.Proofs.Try.f34) (body := Go.Proofs.Try.f34.body.getD .skip) (args := [.pointer tree_1, .slice intervals_2p intervals_2l intervals_2c]) rfl rfl (Nat.le_of_ble_eq_true rfl) ((congrFun (F34_eq _ tree_1 intervals_2p intervals_2l intervals_2c) w).mpr h)
theorem F34_call {tree_1 : Option Addr} {intervals_2p : Option Addr} {intervals_2l : Nat} {intervals_2c : Nat} {w : World} {g : Fn W (RTy.leaves (.tup []))} (h : F34 (fun v => Back (.tup []) g (.returned v)) tree_1 intervals_2p intervals_2l intervals_2c w) : CallT Go.Proofs.Try.prog 34 [.pointer tree_1, .slice intervals_2p intervals_2l intervals_2c] (.tup []) g w := F34_calls h

end Go.Proofs.Ythapmkjmfkmnoaa.E
