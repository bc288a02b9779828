/-
  Printed by this session's own program eng.py out of Lean's print of the loaded functions: what each function's body asks, in the engine's words; each is checked against the program by the kernel.
-/
import Derived.Test.YtfokodpnoiilbaaGreatEng
import Derived.Test.YtfokodpnoiilbaaGreatFnsA
namespace Go.Proofs.YtfokodpnoiilbaaGreat.E
open Go
set_option linter.unusedVariables false
set_option maxRecDepth 100000
/-! ## rangetree.orderedNodes).get -/
def F109 (k : Value → W) (nodes_1p : Option Addr) (nodes_1l : Nat) (nodes_1c : Nat) (value_2 : Int) : W :=
 CallT Go.Proofs.Tryz.prog 111 [.slice nodes_1p nodes_1l nodes_1c, .int .i64 value_2] (.s (.one (.int .i64))) fun x3 =>
 BIf (x3 == ((nodes_1l : Nat) : Int)) (
  k (.tuple #[.pointer none, .int .i64 x3])) (
  NN nodes_1p fun a4 =>
  Req (0 ≤ x3 ∧ x3 < ((nodes_1l : Nat) : Int)) <|
  LoadT .ptr (a4.add x3.toNat) fun p5 =>
  NN p5 fun a6 =>
  LoadT (.int .i64) a6 fun x7 =>
  BIf (x7 == value_2) (
   NN nodes_1p fun a8 =>
   Req (0 ≤ x3 ∧ x3 < ((nodes_1l : Nat) : Int)) <|
   LoadT .ptr (a8.add x3.toNat) fun p9 =>
   k (.tuple #[.pointer p9, .int .i64 x3])) (
   k (.tuple #[.pointer none, .int .i64 x3])))
theorem F109_eq (k : Value → W) (nodes_1p : Option Addr) (nodes_1l : Nat) (nodes_1c : Nat) (value_2 : Int) : compF Go.Proofs.Tryz.prog Go.Proofs.Tryz.f109 [] (Go.Proofs.Tryz.f109.body.getD .skip) [.slice nodes_1p nodes_1l nodes_1c, .int .i64 value_2] k = F109 k nodes_1p nodes_1l nodes_1c value_2 := by kernel_rfl
theorem F109_calls {nodes_1p : Option Addr} {nodes_1l : Nat} {nodes_1c : Nat} {value_2 : Int} {w : World} {R : Ending → World → Prop} (h : F109 (fun v w => R (.returned v) w) nodes_1p nodes_1l nodes_1c value_2 w) : Calls Go.Proofs.Tryz.prog 109 #[.slice nodes_1p nodes_1l nodes_1c, .int .i64 value_2] w R :=
  calls_of_compF noNum follows [] (f := 109) (fn := Go.Proofs.Tryz.f109) (body := Go.Proofs.Tryz.f109.body.getD .skip) (args := [.slice nodes_1p nodes_1l nodes_1c, .int .i64 value_2]) rfl rfl (Nat.le_of_ble_eq_true rfl) ((congrFun (F109_eq _ nodes_1p nodes_1l nodes_1c value_2) w).mpr h)
theorem F109_call {nodes_1p : Option Addr} {nodes_1l : Nat} {nodes_1c : Nat} {value_2 : Int} {w : World} {g : Fn W (RTy.leaves (.tup [(.one .ptr), (.one (.int .i64))]))} (h : F109 (fun v => Back (.tup [(.one .ptr), (.one (.int .i64))]) g (.returned v)) nodes_1p nodes_1l nodes_1c value_2 w) : CallT Go.Proofs.Tryz.prog 109 [.slice nodes_1p nodes_1l nodes_1c, .int .i64 value_2] (.tup [(.one .ptr), (.one (.int .i64))]) g w := F109_calls h

/-! ## rangetree.orderedNodes).deleteAt -/
def F110 (k : Value → W) (nodes_1 : Option Addr) (i_2 : Int) : W :=
 NN nodes_1 fun a3 =>
 LoadT .slice a3 fun s4p s4l s4c =>
 BIf (decide (i_2 ≥ ((s4l : Nat) : Int))) (
  k (.pointer none)) (
  NN nodes_1 fun a5 =>
  LoadT .slice a5 fun s6p s6l s6c =>
  NN s6p fun a7 =>
  Req (0 ≤ i_2 ∧ i_2 < ((s6l : Nat) : Int)) <|
  LoadT .ptr (a7.add i_2.toNat) fun p8 =>
  Drw <|
  NN nodes_1 fun a9 =>
  LoadT .slice a9 fun s10p s10l s10c =>
  Req (0 ≤ i_2 ∧ i_2 ≤ ((s10l : Nat) : Int)) <|
  NN nodes_1 fun a11 =>
  LoadT .slice a11 fun s12p s12l s12c =>
  Req (0 ≤ addI .i64 i_2 1 ∧ addI .i64 i_2 1 ≤ ((s12l : Nat) : Int)) <|
  NextT Go.Proofs.Tryz.prog (builtin .copy #[95, 95] 3 [false, false].toArray [.slice (sliceA s10p i_2.toNat s10c 1) (s10l - i_2.toNat) (s10c - i_2.toNat), .slice (sliceA s12p ((addI .i64 i_2 1).toNat) s12c 1) (s12l - ((addI .i64 i_2 1).toNat)) (s12c - ((addI .i64 i_2 1).toNat))].toArray) (.s (.one (.int .i64))) fun x13 =>
  Chk1 a11 (.slice s12p s12l s12c) <|
  Chk1 a9 (.slice s10p s10l s10c) <|
  Drw <|
  NN nodes_1 fun a14 =>
  LoadT .slice a14 fun s15p s15l s15c =>
  NN nodes_1 fun a16 =>
  LoadT .slice a16 fun s17p s17l s17c =>
  NN s15p fun a18 =>
  Req (0 ≤ subI .i64 ((s17l : Nat) : Int) 1 ∧ subI .i64 ((s17l : Nat) : Int) 1 < ((s15l : Nat) : Int)) <|
  Store1 (a18.add ((subI .i64 ((s17l : Nat) : Int) 1).toNat)) (.pointer none) <|
  Drw <|
  NN nodes_1 fun a19 =>
  LoadT .slice a19 fun s20p s20l s20c =>
  NN nodes_1 fun a21 =>
  LoadT .slice a21 fun s22p s22l s22c =>
  Req (0 ≤ subI .i64 ((s22l : Nat) : Int) 1 ∧ subI .i64 ((s22l : Nat) : Int) 1 ≤ ((s20c : Nat) : Int)) <|
  NN nodes_1 fun a23 =>
  Store1 a23 (.slice (sliceA s20p 0 s20c 1) (((subI .i64 ((s22l : Nat) : Int) 1).toNat) - 0) (s20c - 0)) <|
  k (.pointer p8))
theorem F110_eq (k : Value → W) (nodes_1 : Option Addr) (i_2 : Int) : compF Go.Proofs.Tryz.prog Go.Proofs.Tryz.f110 [] (Go.Proofs.Tryz.f110.body.getD .skip) [.pointer nodes_1, .int .i64 i_2] k = F110 k nodes_1 i_2 := by kernel_rfl
theorem F110_calls {nodes_1 : Option Addr} {i_2 : Int} {w : World} {R : Ending → World → Prop} (h : F110 (fun v w => R (.returned v) w) nodes_1 i_2 w) : Calls Go.Proofs.Tryz.prog 110 #[.pointer nodes_1, .int .i64 i_2] w R :=
  calls_of_compF noNum follows [] (f := 110) (fn := Go.Proofs.Tryz.f110) (body := Go.Proofs.Tryz.f110.body.getD .skip) (args := [.pointer nodes_1, .int .i64 i_2]) rfl rfl (Nat.le_of_ble_eq_true rfl) ((congrFun (F110_eq _ nodes_1 i_2) w).mpr h)
theorem F110_call {nodes_1 : Option Addr} {i_2 : Int} {w : World} {g : Fn W (RTy.leaves (.s (.one .ptr)))} (h : F110 (fun v => Back (.s (.one .ptr)) g (.returned v)) nodes_1 i_2 w) : CallT Go.Proofs.Tryz.prog 110 [.pointer nodes_1, .int .i64 i_2] (.s (.one .ptr)) g w := F110_calls h

/-! ## rangetree.orderedTree).get -/
def F99_L1 (k : Value → W) (again9 : Option Addr → Value → Option Addr → Nat → Nat → Int → W) (ot_5 : Option Addr) (entry_6 : Value) (on_7p : Option Addr) (on_7l : Nat) (on_7c : Nat) (i_8 : Int) : W :=
 NN ot_5 fun a10 =>
 LoadT (.int .u64) (a10.add 2) fun x11 =>
 BIf (decide (i_8 ≤ x11)) (
  NextT Go.Proofs.Tryz.prog (callMethod entry_6 "ValueAtDimension" [.int .u64 i_8].toArray) (.s (.one (.int .i64))) fun x12 =>
  CallT Go.Proofs.Tryz.prog 109 [.slice on_7p on_7l on_7c, .int .i64 x12] (.tup [(.one .ptr), (.one (.int .i64))]) fun p13 x14 =>
  BIf p13.isNone (
   k .nilIface) (
   NN ot_5 fun a15 =>
   LoadT (.int .u64) (a15.add 2) fun x16 =>
   BIf (i_8 == x16) (
    NN p13 fun a17 =>
    LoadT .any (a17.add 1) fun v18 =>
    k v18) (
    NN p13 fun a19 =>
    LoadT .slice (a19.add 2) fun s20p s20l s20c =>
    again9 ot_5 entry_6 s20p s20l s20c (addI .u64 i_8 1)))) (
  k .nilIface)
theorem F99_L1_rule {k : Value → W} (I : Option Addr → Value → Option Addr → Nat → Nat → Int → W) (μ : Option Addr → Value → Option Addr → Nat → Nat → Int → World → Nat)
  (hr : ∀ (ot_5 : Option Addr) (entry_6 : Value) (on_7p : Option Addr) (on_7l : Nat) (on_7c : Nat) (i_8 : Int) (w : World), I ot_5 entry_6 on_7p on_7l on_7c i_8 w → F99_L1 k (fun ot_5' entry_6' on_7p' on_7l' on_7c' i_8' w' => I ot_5' entry_6' on_7p' on_7l' on_7c' i_8' w' ∧ μ ot_5' entry_6' on_7p' on_7l' on_7c' i_8' w' < μ ot_5 entry_6 on_7p on_7l on_7c i_8 w) ot_5 entry_6 on_7p on_7l on_7c i_8 w)
  {w : World} {ot_5 : Option Addr} {entry_6 : Value} {on_7p : Option Addr} {on_7l : Nat} {on_7c : Nat} {i_8 : Int} (h : I ot_5 entry_6 on_7p on_7l on_7c i_8 w) : Loop [.ptr, .any, .slice, (.int .u64)] (F99_L1 k) ot_5 entry_6 on_7p on_7l on_7c i_8 w :=
  Loop_intro (ts := [.ptr, .any, .slice, (.int .u64)]) (s := (ot_5, entry_6, (on_7p, on_7l, on_7c), i_8, ())) (fun s w => I s.1 s.2.1 s.2.2.1.1 s.2.2.1.2.1 s.2.2.1.2.2 s.2.2.2.1 w) (fun s w => μ s.1 s.2.1 s.2.2.1.1 s.2.2.1.2.1 s.2.2.1.2.2 s.2.2.2.1 w) h (fun s w h => hr s.1 s.2.1 s.2.2.1.1 s.2.2.1.2.1 s.2.2.1.2.2 s.2.2.2.1 w h)
def F99 (k : Value → W) (ot_1 : Option Addr) (entry_2 : Value) : W :=
 NN ot_1 fun a3 =>
 LoadT .slice a3 fun s4p s4l s4c =>
 Loop [.ptr, .any, .slice, (.int .u64)] (F99_L1 k) ot_1 entry_2 s4p s4l s4c 1
theorem F99_eq (k : Value → W) (ot_1 : Option Addr) (entry_2 : Value) : compF Go.Proofs.Tryz.prog Go.Proofs.Tryz.f99 [(3, [(0, .ptr), (1, .any), (5, .slice), (6, (.int .u64))])] (Go.Proofs.Tryz.f99.body.getD .skip) [.pointer ot_1, entry_2] k = F99 k ot_1 entry_2 := by kernel_rfl
theorem F99_calls {ot_1 : Option Addr} {entry_2 : Value} {w : World} {R : Ending → World → Prop} (h : F99 (fun v w => R (.returned v) w) ot_1 entry_2 w) : Calls Go.Proofs.Tryz.prog 99 #[.pointer ot_1, entry_2] w R :=
  calls_of_compF noNum follows [(3, [(0, .ptr), (1, .any), (5, .slice), (6, (.int .u64))])] (f := 99) (fn := Go.Proofs.Tryz.f99) (body := Go.Proofs.Tryz.f99.body.getD .skip) (args := [.pointer ot_1, entry_2]) rfl rfl (Nat.le_of_ble_eq_true rfl) ((congrFun (F99_eq _ ot_1 entry_2) w).mpr h)
theorem F99_call {ot_1 : Option Addr} {entry_2 : Value} {w : World} {g : Fn W (RTy.leaves (.s (.one .any)))} (h : F99 (fun v => Back (.s (.one .any)) g (.returned v)) ot_1 entry_2 w) : CallT Go.Proofs.Tryz.prog 99 [.pointer ot_1, entry_2] (.s (.one .any)) g w := F99_calls h

/-! ## rangetree.orderedTree).Get -/
def F90_L1 (k : Value → W) (again9 : Option Addr → Option Addr → Nat → Nat → Option Addr → Nat → Nat → Int → Int → W) (ot_4 : Option Addr) (result_5p : Option Addr) (result_5l : Nat) (result_5c : Nat) (s6p : Option Addr) (s6l : Nat) (s6c : Nat) (x7 : Int) (x8 : Int) : W :=
 BIf (decide (x8 < x7)) (
  NN s6p fun a10 =>
  Req (0 ≤ x8 ∧ x8 < ((s6l : Nat) : Int)) <|
  LoadT .any (a10.add x8.toNat) fun v11 =>
  CallT Go.Proofs.Tryz.prog 99 [.pointer ot_4, v11] (.s (.one .any)) fun v12 =>
  RawT Go.Proofs.Tryz.prog (Instr.buildSlice 70 1 [(0, v12)].toArray) (.s (.one .slice)) fun s13p s13l s13c =>
  NextT Go.Proofs.Tryz.prog (builtin .append #[70, 70] 70 [false, false].toArray [.slice result_5p result_5l result_5c, .slice s13p s13l s13c].toArray) (.s (.one .slice)) fun s14p s14l s14c =>
  again9 ot_4 s14p s14l s14c s6p s6l s6c x7 (addI .i64 x8 1)) (
  k (.slice result_5p result_5l result_5c))
theorem F90_L1_rule {k : Value → W} (I : Option Addr → Option Addr → Nat → Nat → Option Addr → Nat → Nat → Int → Int → W) (μ : Option Addr → Option Addr → Nat → Nat → Option Addr → Nat → Nat → Int → Int → World → Nat)
  (hr : ∀ (ot_4 : Option Addr) (result_5p : Option Addr) (result_5l : Nat) (result_5c : Nat) (s6p : Option Addr) (s6l : Nat) (s6c : Nat) (x7 : Int) (x8 : Int) (w : World), I ot_4 result_5p result_5l result_5c s6p s6l s6c x7 x8 w → F90_L1 k (fun ot_4' result_5p' result_5l' result_5c' s6p' s6l' s6c' x7' x8' w' => I ot_4' result_5p' result_5l' result_5c' s6p' s6l' s6c' x7' x8' w' ∧ μ ot_4' result_5p' result_5l' result_5c' s6p' s6l' s6c' x7' x8' w' < μ ot_4 result_5p result_5l result_5c s6p s6l s6c x7 x8 w) ot_4 result_5p result_5l result_5c s6p s6l s6c x7 x8 w)
  {w : World} {ot_4 : Option Addr} {result_5p : Option Addr} {result_5l : Nat} {result_5c : Nat} {s6p : Option Addr} {s6l : Nat} {s6c : Nat} {x7 : Int} {x8 : Int} (h : I ot_4 result_5p result_5l result_5c s6p s6l s6c x7 x8 w) : Loop [.ptr, .slice, .slice, (.int .i64), (.int .i64)] (F90_L1 k) ot_4 result_5p result_5l result_5c s6p s6l s6c x7 x8 w :=
  Loop_intro (ts := [.ptr, .slice, .slice, (.int .i64), (.int .i64)]) (s := (ot_4, (result_5p, result_5l, result_5c), (s6p, s6l, s6c), x7, x8, ())) (fun s w => I s.1 s.2.1.1 s.2.1.2.1 s.2.1.2.2 s.2.2.1.1 s.2.2.1.2.1 s.2.2.1.2.2 s.2.2.2.1 s.2.2.2.2.1 w) (fun s w => μ s.1 s.2.1.1 s.2.1.2.1 s.2.1.2.2 s.2.2.1.1 s.2.2.1.2.1 s.2.2.1.2.2 s.2.2.2.1 s.2.2.2.2.1 w) h (fun s w h => hr s.1 s.2.1.1 s.2.1.2.1 s.2.1.2.2 s.2.2.1.1 s.2.2.1.2.1 s.2.2.1.2.2 s.2.2.2.1 s.2.2.2.2.1 w h)
def F90 (k : Value → W) (ot_1 : Option Addr) (entries_2p : Option Addr) (entries_2l : Nat) (entries_2c : Nat) : W :=
 RawT Go.Proofs.Tryz.prog (Instr.makeSlice 70 (.int .i64 0) (.int .i64 ((entries_2l : Nat) : Int))) (.s (.one .slice)) fun s3p s3l s3c =>
 Loop [.ptr, .slice, .slice, (.int .i64), (.int .i64)] (F90_L1 k) ot_1 s3p s3l s3c entries_2p entries_2l entries_2c ((entries_2l : Nat) : Int) 0
theorem F90_eq (k : Value → W) (ot_1 : Option Addr) (entries_2p : Option Addr) (entries_2l : Nat) (entries_2c : Nat) : compF Go.Proofs.Tryz.prog Go.Proofs.Tryz.f90 [(3, [(0, .ptr), (5, .slice), (11, .slice), (12, (.int .i64)), (13, (.int .i64))])] (Go.Proofs.Tryz.f90.body.getD .skip) [.pointer ot_1, .slice entries_2p entries_2l entries_2c] k = F90 k ot_1 entries_2p entries_2l entries_2c := by kernel_rfl
theorem F90_calls {ot_1 : Option Addr} {entries_2p : Option Addr} {entries_2l : Nat} {entries_2c : Nat} {w : World} {R : Ending → World → Prop} (h : F90 (fun v w => R (.returned v) w) ot_1 entries_2p entries_2l entries_2c w) : Calls Go.Proofs.Tryz.prog 90 #[.pointer ot_1, .slice entries_2p entries_2l entries_2c] w R :=
  calls_of_compF noNum follows [(3, [(0, .ptr), (5, .slice), (11, .slice), (12, (.int .i64)), (13, (.int .i64))])] (f := 90) (fn := Go.Proofs.Tryz.f90) (body := Go.Proofs.Tryz.f90.body.getD .skip) (args := [.pointer ot_1, .slice entries_2p entries_2l entries_2c]) rfl rfl (Nat.le_of_ble_eq_true rfl) ((congrFun (F90_eq _ ot_1 entries_2p entries_2l entries_2c) w).mpr h)
theorem F90_call {ot_1 : Option Addr} {entries_2p : Option Addr} {entries_2l : Nat} {entries_2c : Nat} {w : World} {g : Fn W (RTy.leaves (.s (.one .slice)))} (h : F90 (fun v => Back (.s (.one .slice)) g (.returned v)) ot_1 entries_2p entries_2l entries_2c w) : CallT Go.Proofs.Tryz.prog 90 [.pointer ot_1, .slice entries_2p entries_2l entries_2c] (.s (.one .slice)) g w := F90_calls h

/-! ## rangetree.orderedTree).resetPath -/
def F94 (k : Value → W) (ot_1 : Option Addr) : W :=
 NN ot_1 fun a2 =>
 LoadT .slice (a2.add 3) fun s3p s3l s3c =>
 Req (0 ≤ (0 : Int) ∧ (0 : Int) ≤ ((s3c : Nat) : Int)) <|
 NN ot_1 fun a4 =>
 Store1 (a4.add 3) (.slice (sliceA s3p 0 s3c 1) (0 - 0) (s3c - 0)) <|
 k (.tuple #[])
theorem F94_eq (k : Value → W) (ot_1 : Option Addr) : compF Go.Proofs.Tryz.prog Go.Proofs.Tryz.f94 [] (Go.Proofs.Tryz.f94.body.getD .skip) [.pointer ot_1] k = F94 k ot_1 := by kernel_rfl
theorem F94_calls {ot_1 : Option Addr} {w : World} {R : Ending → World → Prop} (h : F94 (fun v w => R (.returned v) w) ot_1 w) : Calls Go.Proofs.Tryz.prog 94 #[.pointer ot_1] w R :=
  calls_of_compF noNum follows [] (f := 94) (fn := Go.Proofs.Tryz.f94) (body := Go.Proofs.Tryz.f94.body.getD .skip) (args := [.pointer ot_1]) rfl rfl (Nat.le_of_ble_eq_true rfl) ((congrFun (F94_eq _ ot_1) w).mpr h)
theorem F94_call {ot_1 : Option Addr} {w : World} {g : Fn W (RTy.leaves (.tup []))} (h : F94 (fun v => Back (.tup []) g (.returned v)) ot_1 w) : CallT Go.Proofs.Tryz.prog 94 [.pointer ot_1] (.tup []) g w := F94_calls h

/-! ## rangetree.orderedTree).delete -/
def F98_L2 (k : Value → W) (again31 : Option Addr → Option Addr → Int → W) (ot_28 : Option Addr) (node_29 : Option Addr) (i_30 : Int) : W :=
 BIf (decide (i_30 ≥ 0)) (
  NN ot_28 fun a32 =>
  LoadT .slice (a32.add 3) fun s33p s33l s33c =>
  NN s33p fun a34 =>
  Req (0 ≤ i_30 ∧ i_30 < ((s33l : Nat) : Int)) <|
  LoadT .ptr (a34.add i_30.toNat) fun p35 =>
  Drw <|
  NN p35 fun a36 =>
  LoadT .ptr a36 fun p37 =>
  NN p35 fun a38 =>
  LoadT (.int .i64) (a38.add 1) fun x39 =>
  CallT Go.Proofs.Tryz.prog 110 [.pointer p37, .int .i64 x39] (.s (.one .ptr)) fun p40 =>
  NN p35 fun a41 =>
  LoadT .ptr a41 fun p42 =>
  NN p42 fun a43 =>
  LoadT .slice a43 fun s44p s44l s44c =>
  BIf (decide (((s44l : Nat) : Int) > 0)) (
   k (.pointer node_29)) (
   again31 ot_28 node_29 (subI .i64 i_30 1))) (
  k (.pointer node_29))
theorem F98_L2_rule {k : Value → W} (I : Option Addr → Option Addr → Int → W) (μ : Option Addr → Option Addr → Int → World → Nat)
  (hr : ∀ (ot_28 : Option Addr) (node_29 : Option Addr) (i_30 : Int) (w : World), I ot_28 node_29 i_30 w → F98_L2 k (fun ot_28' node_29' i_30' w' => I ot_28' node_29' i_30' w' ∧ μ ot_28' node_29' i_30' w' < μ ot_28 node_29 i_30 w) ot_28 node_29 i_30 w)
  {w : World} {ot_28 : Option Addr} {node_29 : Option Addr} {i_30 : Int} (h : I ot_28 node_29 i_30 w) : Loop [.ptr, .ptr, (.int .i64)] (F98_L2 k) ot_28 node_29 i_30 w :=
  Loop_intro (ts := [.ptr, .ptr, (.int .i64)]) (s := (ot_28, node_29, i_30, ())) (fun s w => I s.1 s.2.1 s.2.2.1 w) (fun s w => μ s.1 s.2.1 s.2.2.1 w) h (fun s w h => hr s.1 s.2.1 s.2.2.1 w h)
def F98_L1 (k : Value → W) (again9 : Option Addr → Value → Option Addr → Addr → Int → W) (ot_4 : Option Addr) (entry_5 : Value) (node_6 : Option Addr) (list_7 : Addr) (i_8 : Int) : W :=
 NN ot_4 fun a10 =>
 LoadT (.int .u64) (a10.add 2) fun x11 =>
 BIf (decide (i_8 ≤ x11)) (
  NextT Go.Proofs.Tryz.prog (callMethod entry_5 "ValueAtDimension" [.int .u64 i_8].toArray) (.s (.one (.int .i64))) fun x12 =>
  LoadT .slice list_7 fun s13p s13l s13c =>
  CallT Go.Proofs.Tryz.prog 109 [.slice s13p s13l s13c, .int .i64 x12] (.tup [(.one .ptr), (.one (.int .i64))]) fun p14 x15 =>
  BIf p14.isNone (
   k (.pointer none)) (
   New [.pointer (some list_7), .int .i64 x15] 190 fun n16 =>
   NN ot_4 fun a17 =>
   LoadT .slice (a17.add 3) fun s18p s18l s18c =>
   RawT Go.Proofs.Tryz.prog (Instr.buildSlice 93 1 [(0, .pointer (some ⟨n16, 0, none⟩))].toArray) (.s (.one .slice)) fun s19p s19l s19c =>
   NextT Go.Proofs.Tryz.prog (builtin .append #[93, 93] 93 [false, false].toArray [.slice s18p s18l s18c, .slice s19p s19l s19c].toArray) (.s (.one .slice)) fun s20p s20l s20c =>
   NN ot_4 fun a21 =>
   Store1 (a21.add 3) (.slice s20p s20l s20c) <|
   NN p14 fun a22 =>
   again9 ot_4 entry_5 p14 (a22.add 2) (addI .u64 i_8 1))) (
  NN ot_4 fun a23 =>
  LoadT (.int .u64) (a23.add 1) fun x24 =>
  Store1 (a23.add 1) (.int .u64 (subI .u64 x24 1)) <|
  NN ot_4 fun a25 =>
  LoadT .slice (a25.add 3) fun s26p s26l s26c =>
  Bind (subI .i64 ((s26l : Nat) : Int) 1 : Int) fun i_27 =>
  Loop [.ptr, .ptr, (.int .i64)] (F98_L2 k) ot_4 node_6 i_27)
theorem F98_L1_rule {k : Value → W} (I : Option Addr → Value → Option Addr → Addr → Int → W) (μ : Option Addr → Value → Option Addr → Addr → Int → World → Nat)
  (hr : ∀ (ot_4 : Option Addr) (entry_5 : Value) (node_6 : Option Addr) (list_7 : Addr) (i_8 : Int) (w : World), I ot_4 entry_5 node_6 list_7 i_8 w → F98_L1 k (fun ot_4' entry_5' node_6' list_7' i_8' w' => I ot_4' entry_5' node_6' list_7' i_8' w' ∧ μ ot_4' entry_5' node_6' list_7' i_8' w' < μ ot_4 entry_5 node_6 list_7 i_8 w) ot_4 entry_5 node_6 list_7 i_8 w)
  {w : World} {ot_4 : Option Addr} {entry_5 : Value} {node_6 : Option Addr} {list_7 : Addr} {i_8 : Int} (h : I ot_4 entry_5 node_6 list_7 i_8 w) : Loop [.ptr, .any, .ptr, .addr, (.int .u64)] (F98_L1 k) ot_4 entry_5 node_6 list_7 i_8 w :=
  Loop_intro (ts := [.ptr, .any, .ptr, .addr, (.int .u64)]) (s := (ot_4, entry_5, node_6, list_7, i_8, ())) (fun s w => I s.1 s.2.1 s.2.2.1 s.2.2.2.1 s.2.2.2.2.1 w) (fun s w => μ s.1 s.2.1 s.2.2.1 s.2.2.2.1 s.2.2.2.2.1 w) h (fun s w h => hr s.1 s.2.1 s.2.2.1 s.2.2.2.1 s.2.2.2.2.1 w h)
def F98 (k : Value → W) (ot_1 : Option Addr) (entry_2 : Value) : W :=
 CallT Go.Proofs.Tryz.prog 94 [.pointer ot_1] (.tup []) <|
 NN ot_1 fun a3 =>
 Loop [.ptr, .any, .ptr, .addr, (.int .u64)] (F98_L1 k) ot_1 entry_2 none a3 1
theorem F98_eq (k : Value → W) (ot_1 : Option Addr) (entry_2 : Value) : compF Go.Proofs.Tryz.prog Go.Proofs.Tryz.f98 [(6, [(0, .ptr), (1, .any), (6, .ptr), (7, .addr), (8, (.int .u64))]), (17, [(0, .ptr), (6, .ptr), (11, (.int .i64))])] (Go.Proofs.Tryz.f98.body.getD .skip) [.pointer ot_1, entry_2] k = F98 k ot_1 entry_2 := by kernel_rfl
theorem F98_calls {ot_1 : Option Addr} {entry_2 : Value} {w : World} {R : Ending → World → Prop} (h : F98 (fun v w => R (.returned v) w) ot_1 entry_2 w) : Calls Go.Proofs.Tryz.prog 98 #[.pointer ot_1, entry_2] w R :=
  calls_of_compF noNum follows [(6, [(0, .ptr), (1, .any), (6, .ptr), (7, .addr), (8, (.int .u64))]), (17, [(0, .ptr), (6, .ptr), (11, (.int .i64))])] (f := 98) (fn := Go.Proofs.Tryz.f98) (body := Go.Proofs.Tryz.f98.body.getD .skip) (args := [.pointer ot_1, entry_2]) rfl rfl (Nat.le_of_ble_eq_true rfl) ((congrFun (F98_eq _ ot_1 entry_2) w).mpr h)
theorem F98_call {ot_1 : Option Addr} {entry_2 : Value} {w : World} {g : Fn W (RTy.leaves (.s (.one .ptr)))} (h : F98 (fun v => Back (.s (.one .ptr)) g (.returned v)) ot_1 entry_2 w) : CallT Go.Proofs.Tryz.prog 98 [.pointer ot_1, entry_2] (.s (.one .ptr)) g w := F98_calls h

/-! ## rangetree.orderedTree).Delete -/
def F89_L1 (k : Value → W) (again9 : Option Addr → Option Addr → Nat → Nat → Option Addr → Nat → Nat → Int → Int → W) (ot_4 : Option Addr) (deletedEntries_5p : Option Addr) (deletedEntries_5l : Nat) (deletedEntries_5c : Nat) (s6p : Option Addr) (s6l : Nat) (s6c : Nat) (x7 : Int) (x8 : Int) : W :=
 BIf (decide (x8 < x7)) (
  NN s6p fun a10 =>
  Req (0 ≤ x8 ∧ x8 < ((s6l : Nat) : Int)) <|
  LoadT .any (a10.add x8.toNat) fun v11 =>
  IfaceNil v11 fun b12 =>
  BIf b12 (
   again9 ot_4 deletedEntries_5p deletedEntries_5l deletedEntries_5c s6p s6l s6c x7 (addI .i64 x8 1)) (
   CallT Go.Proofs.Tryz.prog 98 [.pointer ot_4, v11] (.s (.one .ptr)) fun p13 =>
   BIf (!p13.isNone) (
    NN p13 fun a14 =>
    LoadT .any (a14.add 1) fun v15 =>
    NN deletedEntries_5p fun a16 =>
    Req (0 ≤ x8 ∧ x8 < ((deletedEntries_5l : Nat) : Int)) <|
    Req (oneC v15 = true) <|
    Store1 (a16.add x8.toNat) v15 <|
    again9 ot_4 deletedEntries_5p deletedEntries_5l deletedEntries_5c s6p s6l s6c x7 (addI .i64 x8 1)) (
    again9 ot_4 deletedEntries_5p deletedEntries_5l deletedEntries_5c s6p s6l s6c x7 (addI .i64 x8 1)))) (
  k (.slice deletedEntries_5p deletedEntries_5l deletedEntries_5c))
theorem F89_L1_rule {k : Value → W} (I : Option Addr → Option Addr → Nat → Nat → Option Addr → Nat → Nat → Int → Int → W) (μ : Option Addr → Option Addr → Nat → Nat → Option Addr → Nat → Nat → Int → Int → World → Nat)
  (hr : ∀ (ot_4 : Option Addr) (deletedEntries_5p : Option Addr) (deletedEntries_5l : Nat) (deletedEntries_5c : Nat) (s6p : Option Addr) (s6l : Nat) (s6c : Nat) (x7 : Int) (x8 : Int) (w : World), I ot_4 deletedEntries_5p deletedEntries_5l deletedEntries_5c s6p s6l s6c x7 x8 w → F89_L1 k (fun ot_4' deletedEntries_5p' deletedEntries_5l' deletedEntries_5c' s6p' s6l' s6c' x7' x8' w' => I ot_4' deletedEntries_5p' deletedEntries_5l' deletedEntries_5c' s6p' s6l' s6c' x7' x8' w' ∧ μ ot_4' deletedEntries_5p' deletedEntries_5l' deletedEntries_5c' s6p' s6l' s6c' x7' x8' w' < μ ot_4 deletedEntries_5p deletedEntries_5l deletedEntries_5c s6p s6l s6c x7 x8 w) ot_4 deletedEntries_5p deletedEntries_5l deletedEntries_5c s6p s6l s6c x7 x8 w)
  {w : World} {ot_4 : Option Addr} {deletedEntries_5p : Option Addr} {deletedEntries_5l : Nat} {deletedEntries_5c : Nat} {s6p : Option Addr} {s6l : Nat} {s6c : Nat} {x7 : Int} {x8 : Int} (h : I ot_4 deletedEntries_5p deletedEntries_5l deletedEntries_5c s6p s6l s6c x7 x8 w) : Loop [.ptr, .slice, .slice, (.int .i64), (.int .i64)] (F89_L1 k) ot_4 deletedEntries_5p deletedEntries_5l deletedEntries_5c s6p s6l s6c x7 x8 w :=
  Loop_intro (ts := [.ptr, .slice, .slice, (.int .i64), (.int .i64)]) (s := (ot_4, (deletedEntries_5p, deletedEntries_5l, deletedEntries_5c), (s6p, s6l, s6c), x7, x8, ())) (fun s w => I s.1 s.2.1.1 s.2.1.2.1 s.2.1.2.2 s.2.2.1.1 s.2.2.1.2.1 s.2.2.1.2.2 s.2.2.2.1 s.2.2.2.2.1 w) (fun s w => μ s.1 s.2.1.1 s.2.1.2.1 s.2.1.2.2 s.2.2.1.1 s.2.2.1.2.1 s.2.2.1.2.2 s.2.2.2.1 s.2.2.2.2.1 w) h (fun s w h => hr s.1 s.2.1.1 s.2.1.2.1 s.2.1.2.2 s.2.2.1.1 s.2.2.1.2.1 s.2.2.1.2.2 s.2.2.2.1 s.2.2.2.2.1 w h)
def F89 (k : Value → W) (ot_1 : Option Addr) (entries_2p : Option Addr) (entries_2l : Nat) (entries_2c : Nat) : W :=
 BIf (((entries_2l : Nat) : Int) == 0) (
  k (.slice none 0 0)) (
  RawT Go.Proofs.Tryz.prog (Instr.makeSlice 70 (.int .i64 ((entries_2l : Nat) : Int)) (.int .i64 ((entries_2l : Nat) : Int))) (.s (.one .slice)) fun s3p s3l s3c =>
  Loop [.ptr, .slice, .slice, (.int .i64), (.int .i64)] (F89_L1 k) ot_1 s3p s3l s3c entries_2p entries_2l entries_2c ((entries_2l : Nat) : Int) 0)
theorem F89_eq (k : Value → W) (ot_1 : Option Addr) (entries_2p : Option Addr) (entries_2l : Nat) (entries_2c : Nat) : compF Go.Proofs.Tryz.prog Go.Proofs.Tryz.f89 [(5, [(0, .ptr), (5, .slice), (15, .slice), (16, (.int .i64)), (17, (.int .i64))])] (Go.Proofs.Tryz.f89.body.getD .skip) [.pointer ot_1, .slice entries_2p entries_2l entries_2c] k = F89 k ot_1 entries_2p entries_2l entries_2c := by kernel_rfl
theorem F89_calls {ot_1 : Option Addr} {entries_2p : Option Addr} {entries_2l : Nat} {entries_2c : Nat} {w : World} {R : Ending → World → Prop} (h : F89 (fun v w => R (.returned v) w) ot_1 entries_2p entries_2l entries_2c w) : Calls Go.Proofs.Tryz.prog 89 #[.pointer ot_1, .slice entries_2p entries_2l entries_2c] w R :=
  calls_of_compF noNum follows [(5, [(0, .ptr), (5, .slice), (15, .slice), (16, (.int .i64)), (17, (.int .i64))])] (f := 89) (fn := Go.Proofs.Tryz.f89) (body := Go.Proofs.Tryz.f89.body.getD .skip) (args := [.pointer ot_1, .slice entries_2p entries_2l entries_2c]) rfl rfl (Nat.le_of_ble_eq_true rfl) ((congrFun (F89_eq _ ot_1 entries_2p entries_2l entries_2c) w).mpr h)
theorem F89_call {ot_1 : Option Addr} {entries_2p : Option Addr} {entries_2l : Nat} {entries_2c : Nat} {w : World} {g : Fn W (RTy.leaves (.s (.one .slice)))} (h : F89 (fun v => Back (.s (.one .slice)) g (.returned v)) ot_1 entries_2p entries_2l entries_2c w) : CallT Go.Proofs.Tryz.prog 89 [.pointer ot_1, .slice entries_2p entries_2l entries_2c] (.s (.one .slice)) g w := F89_calls h

end Go.Proofs.YtfokodpnoiilbaaGreat.E
