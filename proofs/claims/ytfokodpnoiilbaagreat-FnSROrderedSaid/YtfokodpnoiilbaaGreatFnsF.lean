/-
  Printed by this session's own program eng.py out of Lean's print of the loaded functions: what each function's body asks, in the engine's words; each is checked against the program by the kernel.
-/
import Derived.Test.YtfokodpnoiilbaaGreatEng
import Derived.Test.YtfokodpnoiilbaaGreatFnsA
namespace Go.Proofs.YtfokodpnoiilbaaGreat.E
open Go
set_option linter.unusedVariables false
set_option maxRecDepth 100000
/-! ## rangetree.isLastDimension -/
def F103 (k : Value → W) (value_1 : Int) (test_2 : Int) : W :=
 Bind (decide (test_2 ≥ value_1)) fun y3 =>
 k (.bool y3)
theorem F103_eq (k : Value → W) (value_1 : Int) (test_2 : Int) : compF Go.Proofs.Tryz.prog Go.Proofs.Tryz.f103 [] (Go.Proofs.Tryz.f103.body.getD .skip) [.int .u64 value_1, .int .u64 test_2] k = F103 k value_1 test_2 := by kernel_rfl
theorem F103_calls {value_1 : Int} {test_2 : Int} {w : World} {R : Ending → World → Prop} (h : F103 (fun v w => R (.returned v) w) value_1 test_2 w) : Calls Go.Proofs.Tryz.prog 103 #[.int .u64 value_1, .int .u64 test_2] w R :=
  calls_of_compF noNum follows [] (f := 103) (fn := Go.Proofs.Tryz.f103) (body := Go.Proofs.Tryz.f103.body.getD .skip) (args := [.int .u64 value_1, .int .u64 test_2]) rfl rfl (Nat.le_of_ble_eq_true rfl) ((congrFun (F103_eq _ value_1 test_2) w).mpr h)
theorem F103_call {value_1 : Int} {test_2 : Int} {w : World} {g : Fn W (RTy.leaves (.s (.one .bool)))} (h : F103 (fun v => Back (.s (.one .bool)) g (.returned v)) value_1 test_2 w) : CallT Go.Proofs.Tryz.prog 103 [.int .u64 value_1, .int .u64 test_2] (.s (.one .bool)) g w := F103_calls h

/-! ## rangetree.newNode -/
def F105 (k : Value → W) (value_1 : Int) (entry_2 : Value) (needNextDimension_3 : Bool) : W :=
 New [.int .i64 0, .nilIface, .slice none 0 0] 175 fun n4 =>
 Store1 ⟨n4, 0, none⟩ (.int .i64 value_1) <|
 BIf needNextDimension_3 (
  RawT Go.Proofs.Tryz.prog (Instr.makeSlice 95 (.int .i64 0) (.int .i64 10)) (.s (.one .slice)) fun s5p s5l s5c =>
  Store1 ⟨n4, 2, none⟩ (.slice s5p s5l s5c) <|
  k (.pointer (some ⟨n4, 0, none⟩))) (
  Req (oneC entry_2 = true) <|
  Store1 ⟨n4, 1, none⟩ entry_2 <|
  k (.pointer (some ⟨n4, 0, none⟩)))
theorem F105_eq (k : Value → W) (value_1 : Int) (entry_2 : Value) (needNextDimension_3 : Bool) : compF Go.Proofs.Tryz.prog Go.Proofs.Tryz.f105 [] (Go.Proofs.Tryz.f105.body.getD .skip) [.int .i64 value_1, entry_2, .bool needNextDimension_3] k = F105 k value_1 entry_2 needNextDimension_3 := by kernel_rfl
theorem F105_calls {value_1 : Int} {entry_2 : Value} {needNextDimension_3 : Bool} {w : World} {R : Ending → World → Prop} (h : F105 (fun v w => R (.returned v) w) value_1 entry_2 needNextDimension_3 w) : Calls Go.Proofs.Tryz.prog 105 #[.int .i64 value_1, entry_2, .bool needNextDimension_3] w R :=
  calls_of_compF noNum follows [] (f := 105) (fn := Go.Proofs.Tryz.f105) (body := Go.Proofs.Tryz.f105.body.getD .skip) (args := [.int .i64 value_1, entry_2, .bool needNextDimension_3]) rfl rfl (Nat.le_of_ble_eq_true rfl) ((congrFun (F105_eq _ value_1 entry_2 needNextDimension_3) w).mpr h)
theorem F105_call {value_1 : Int} {entry_2 : Value} {needNextDimension_3 : Bool} {w : World} {g : Fn W (RTy.leaves (.s (.one .ptr)))} (h : F105 (fun v => Back (.s (.one .ptr)) g (.returned v)) value_1 entry_2 needNextDimension_3 w) : CallT Go.Proofs.Tryz.prog 105 [.int .i64 value_1, entry_2, .bool needNextDimension_3] (.s (.one .ptr)) g w := F105_calls h

/-! ## rangetree.NewEntries -/
def F101 (k : Value → W) : W :=
 RawT Go.Proofs.Tryz.prog (Instr.makeSlice 70 (.int .i64 0) (.int .i64 10)) (.s (.one .slice)) fun s1p s1l s1c =>
 k (.slice s1p s1l s1c)
theorem F101_eq (k : Value → W) : compF Go.Proofs.Tryz.prog Go.Proofs.Tryz.f101 [] (Go.Proofs.Tryz.f101.body.getD .skip) [] k = F101 k  := by kernel_rfl
theorem F101_calls {w : World} {R : Ending → World → Prop} (h : F101 (fun v w => R (.returned v) w)  w) : Calls Go.Proofs.Tryz.prog 101 #[] w R :=
  calls_of_compF noNum follows [] (f := 101) (fn := Go.Proofs.Tryz.f101) (body := Go.Proofs.Tryz.f101.body.getD .skip) (args := []) rfl rfl (Nat.le_of_ble_eq_true rfl) ((congrFun (F101_eq _ ) w).mpr h)
theorem F101_call {w : World} {g : Fn W (RTy.leaves (.s (.one .slice)))} (h : F101 (fun v => Back (.s (.one .slice)) g (.returned v))  w) : CallT Go.Proofs.Tryz.prog 101 [] (.s (.one .slice)) g w := F101_calls h

/-! ## rangetree.orderedNodes).search -/
def F111 (k : Value → W) (nodes_1p : Option Addr) (nodes_1l : Nat) (nodes_1c : Nat) (value_2 : Int) : W :=
 New [.slice nodes_1p nodes_1l nodes_1c] 95 fun n3 =>
 New [.int .i64 value_2] 2 fun n4 =>
 LoadT .slice ⟨n3, 0, none⟩ fun s5p s5l s5c =>
 CallT Go.Proofs.Tryz.prog 114 [.int .i64 ((s5l : Nat) : Int), .func (.func 115) #[] #[.pointer (some ⟨n3, 0, none⟩), .pointer (some ⟨n4, 0, none⟩)]] (.s (.one (.int .i64))) fun x6 =>
 k (.int .i64 x6)
theorem F111_eq (k : Value → W) (nodes_1p : Option Addr) (nodes_1l : Nat) (nodes_1c : Nat) (value_2 : Int) : compF Go.Proofs.Tryz.prog Go.Proofs.Tryz.f111 [] (Go.Proofs.Tryz.f111.body.getD .skip) [.slice nodes_1p nodes_1l nodes_1c, .int .i64 value_2] k = F111 k nodes_1p nodes_1l nodes_1c value_2 := by kernel_rfl
theorem F111_calls {nodes_1p : Option Addr} {nodes_1l : Nat} {nodes_1c : Nat} {value_2 : Int} {w : World} {R : Ending → World → Prop} (h : F111 (fun v w => R (.returned v) w) nodes_1p nodes_1l nodes_1c value_2 w) : Calls Go.Proofs.Tryz.prog 111 #[.slice nodes_1p nodes_1l nodes_1c, .int .i64 value_2] w R :=
  calls_of_compF noNum follows [] (f := 111) (fn := Go.Proofs.Tryz.f111) (body := Go.Proofs.Tryz.f111.body.getD .skip) (args := [.slice nodes_1p nodes_1l nodes_1c, .int .i64 value_2]) rfl rfl (Nat.le_of_ble_eq_true rfl) ((congrFun (F111_eq _ nodes_1p nodes_1l nodes_1c value_2) w).mpr h)
theorem F111_call {nodes_1p : Option Addr} {nodes_1l : Nat} {nodes_1c : Nat} {value_2 : Int} {w : World} {g : Fn W (RTy.leaves (.s (.one (.int .i64))))} (h : F111 (fun v => Back (.s (.one (.int .i64))) g (.returned v)) nodes_1p nodes_1l nodes_1c value_2 w) : CallT Go.Proofs.Tryz.prog 111 [.slice nodes_1p nodes_1l nodes_1c, .int .i64 value_2] (.s (.one (.int .i64))) g w := F111_calls h

/-! ## rangetree.orderedNodes).search$1 -/
def F115 (k : Value → W) (i_1 : Int) (a2 : Addr) (a3 : Addr) : W :=
 Drw <|
 LoadT .slice a2 fun s4p s4l s4c =>
 NN s4p fun a5 =>
 Req (0 ≤ i_1 ∧ i_1 < ((s4l : Nat) : Int)) <|
 LoadT .ptr (a5.add i_1.toNat) fun p6 =>
 NN p6 fun a7 =>
 LoadT (.int .i64) a7 fun x8 =>
 LoadT (.int .i64) a3 fun x9 =>
 k (.bool (decide (x8 ≥ x9)))
theorem F115_eq (k : Value → W) (i_1 : Int) (a2 : Addr) (a3 : Addr) : compF Go.Proofs.Tryz.prog Go.Proofs.Tryz.f115 [] (Go.Proofs.Tryz.f115.body.getD .skip) [.int .i64 i_1, .pointer (some a2), .pointer (some a3)] k = F115 k i_1 a2 a3 := by kernel_rfl
theorem F115_calls {i_1 : Int} {a2 : Addr} {a3 : Addr} {w : World} {R : Ending → World → Prop} (h : F115 (fun v w => R (.returned v) w) i_1 a2 a3 w) : Calls Go.Proofs.Tryz.prog 115 #[.int .i64 i_1, .pointer (some a2), .pointer (some a3)] w R :=
  calls_of_compF noNum follows [] (f := 115) (fn := Go.Proofs.Tryz.f115) (body := Go.Proofs.Tryz.f115.body.getD .skip) (args := [.int .i64 i_1, .pointer (some a2), .pointer (some a3)]) rfl rfl (Nat.le_of_ble_eq_true rfl) ((congrFun (F115_eq _ i_1 a2 a3) w).mpr h)
theorem F115_call {i_1 : Int} {a2 : Addr} {a3 : Addr} {w : World} {g : Fn W (RTy.leaves (.s (.one .bool)))} (h : F115 (fun v => Back (.s (.one .bool)) g (.returned v)) i_1 a2 a3 w) : CallT Go.Proofs.Tryz.prog 115 [.int .i64 i_1, .pointer (some a2), .pointer (some a3)] (.s (.one .bool)) g w := F115_calls h

/-! ## sort.Search -/
def F114_L1 (k : Value → W) (again6 : Value → Int → Int → W) (f_3 : Value) (i_4 : Int) (j_5 : Int) : W :=
 BIf (decide (i_4 < j_5)) (
  Bind (IntKind.wrap .i64 (shrI .u64 (IntKind.wrap .u64 (addI .i64 i_4 j_5)) 1) : Int) fun h_7 =>
  NextT Go.Proofs.Tryz.prog (callV f_3 [.int .i64 h_7].toArray) (.s (.one .bool)) fun b8 =>
  BIf (!b8) (
   again6 f_3 (addI .i64 h_7 1) j_5) (
   again6 f_3 i_4 h_7)) (
  k (.int .i64 i_4))
theorem F114_L1_rule {k : Value → W} (I : Value → Int → Int → W) (μ : Value → Int → Int → World → Nat)
  (hr : ∀ (f_3 : Value) (i_4 : Int) (j_5 : Int) (w : World), I f_3 i_4 j_5 w → F114_L1 k (fun f_3' i_4' j_5' w' => I f_3' i_4' j_5' w' ∧ μ f_3' i_4' j_5' w' < μ f_3 i_4 j_5 w) f_3 i_4 j_5 w)
  {w : World} {f_3 : Value} {i_4 : Int} {j_5 : Int} (h : I f_3 i_4 j_5 w) : Loop [.any, (.int .i64), (.int .i64)] (F114_L1 k) f_3 i_4 j_5 w :=
  Loop_intro (ts := [.any, (.int .i64), (.int .i64)]) (s := (f_3, i_4, j_5, ())) (fun s w => I s.1 s.2.1 s.2.2.1 w) (fun s w => μ s.1 s.2.1 s.2.2.1 w) h (fun s w h => hr s.1 s.2.1 s.2.2.1 w h)
def F114 (k : Value → W) (n_1 : Int) (f_2 : Value) : W :=
 Loop [.any, (.int .i64), (.int .i64)] (F114_L1 k) f_2 0 n_1
theorem F114_eq (k : Value → W) (n_1 : Int) (f_2 : Value) : compF Go.Proofs.Tryz.prog Go.Proofs.Tryz.f114 [(2, [(1, .any), (5, (.int .i64)), (6, (.int .i64))])] (Go.Proofs.Tryz.f114.body.getD .skip) [.int .i64 n_1, f_2] k = F114 k n_1 f_2 := by kernel_rfl
theorem F114_calls {n_1 : Int} {f_2 : Value} {w : World} {R : Ending → World → Prop} (h : F114 (fun v w => R (.returned v) w) n_1 f_2 w) : Calls Go.Proofs.Tryz.prog 114 #[.int .i64 n_1, f_2] w R :=
  calls_of_compF noNum follows [(2, [(1, .any), (5, (.int .i64)), (6, (.int .i64))])] (f := 114) (fn := Go.Proofs.Tryz.f114) (body := Go.Proofs.Tryz.f114.body.getD .skip) (args := [.int .i64 n_1, f_2]) rfl rfl (Nat.le_of_ble_eq_true rfl) ((congrFun (F114_eq _ n_1 f_2) w).mpr h)
theorem F114_call {n_1 : Int} {f_2 : Value} {w : World} {g : Fn W (RTy.leaves (.s (.one (.int .i64))))} (h : F114 (fun v => Back (.s (.one (.int .i64))) g (.returned v)) n_1 f_2 w) : CallT Go.Proofs.Tryz.prog 114 [.int .i64 n_1, f_2] (.s (.one (.int .i64))) g w := F114_calls h

/-! ## rangetree.orderedNodes).add -/
def F104 (k : Value → W) (nodes_1 : Option Addr) (node_2 : Option Addr) : W :=
 Drw <|
 NN nodes_1 fun a3 =>
 LoadT .slice a3 fun s4p s4l s4c =>
 NN node_2 fun a5 =>
 LoadT (.int .i64) a5 fun x6 =>
 CallT Go.Proofs.Tryz.prog 111 [.slice s4p s4l s4c, .int .i64 x6] (.s (.one (.int .i64))) fun x7 =>
 CallT Go.Proofs.Tryz.prog 113 [.pointer nodes_1, .int .i64 x7, .pointer node_2] (.s (.one .ptr)) fun p8 =>
 k (.pointer p8)
theorem F104_eq (k : Value → W) (nodes_1 : Option Addr) (node_2 : Option Addr) : compF Go.Proofs.Tryz.prog Go.Proofs.Tryz.f104 [] (Go.Proofs.Tryz.f104.body.getD .skip) [.pointer nodes_1, .pointer node_2] k = F104 k nodes_1 node_2 := by kernel_rfl
theorem F104_calls {nodes_1 : Option Addr} {node_2 : Option Addr} {w : World} {R : Ending → World → Prop} (h : F104 (fun v w => R (.returned v) w) nodes_1 node_2 w) : Calls Go.Proofs.Tryz.prog 104 #[.pointer nodes_1, .pointer node_2] w R :=
  calls_of_compF noNum follows [] (f := 104) (fn := Go.Proofs.Tryz.f104) (body := Go.Proofs.Tryz.f104.body.getD .skip) (args := [.pointer nodes_1, .pointer node_2]) rfl rfl (Nat.le_of_ble_eq_true rfl) ((congrFun (F104_eq _ nodes_1 node_2) w).mpr h)
theorem F104_call {nodes_1 : Option Addr} {node_2 : Option Addr} {w : World} {g : Fn W (RTy.leaves (.s (.one .ptr)))} (h : F104 (fun v => Back (.s (.one .ptr)) g (.returned v)) nodes_1 node_2 w) : CallT Go.Proofs.Tryz.prog 104 [.pointer nodes_1, .pointer node_2] (.s (.one .ptr)) g w := F104_calls h

/-! ## rangetree.orderedNodes).addAt -/
def F113 (k : Value → W) (nodes_1 : Option Addr) (i_2 : Int) (node_3 : Option Addr) : W :=
 NN nodes_1 fun a4 =>
 LoadT .slice a4 fun s5p s5l s5c =>
 BIf (i_2 == ((s5l : Nat) : Int)) (
  NN nodes_1 fun a6 =>
  LoadT .slice a6 fun s7p s7l s7c =>
  RawT Go.Proofs.Tryz.prog (Instr.buildSlice 95 1 [(0, .pointer node_3)].toArray) (.s (.one .slice)) fun s8p s8l s8c =>
  NextT Go.Proofs.Tryz.prog (builtin .append #[95, 95] 95 [false, false].toArray [.slice s7p s7l s7c, .slice s8p s8l s8c].toArray) (.s (.one .slice)) fun s9p s9l s9c =>
  NN nodes_1 fun a10 =>
  Store1 a10 (.slice s9p s9l s9c) <|
  k (.pointer none)) (
  Drw <|
  NN nodes_1 fun a11 =>
  LoadT .slice a11 fun s12p s12l s12c =>
  NN s12p fun a13 =>
  Req (0 ≤ i_2 ∧ i_2 < ((s12l : Nat) : Int)) <|
  LoadT .ptr (a13.add i_2.toNat) fun p14 =>
  NN p14 fun a15 =>
  LoadT (.int .i64) a15 fun x16 =>
  NN node_3 fun a17 =>
  LoadT (.int .i64) a17 fun x18 =>
  BIf (x16 == x18) (
   NN nodes_1 fun a19 =>
   LoadT .slice a19 fun s20p s20l s20c =>
   NN s20p fun a21 =>
   Req (0 ≤ i_2 ∧ i_2 < ((s20l : Nat) : Int)) <|
   LoadT .ptr (a21.add i_2.toNat) fun p22 =>
   NN nodes_1 fun a23 =>
   LoadT .slice a23 fun s24p s24l s24c =>
   NN s24p fun a25 =>
   Req (0 ≤ i_2 ∧ i_2 < ((s24l : Nat) : Int)) <|
   Store1 (a25.add i_2.toNat) (.pointer node_3) <|
   k (.pointer p22)) (
   NN nodes_1 fun a26 =>
   LoadT .slice a26 fun s27p s27l s27c =>
   RawT Go.Proofs.Tryz.prog (Instr.buildSlice 95 1 [(0, .pointer none)].toArray) (.s (.one .slice)) fun s28p s28l s28c =>
   NextT Go.Proofs.Tryz.prog (builtin .append #[95, 95] 95 [false, false].toArray [.slice s27p s27l s27c, .slice s28p s28l s28c].toArray) (.s (.one .slice)) fun s29p s29l s29c =>
   NN nodes_1 fun a30 =>
   Store1 a30 (.slice s29p s29l s29c) <|
   Drw <|
   NN nodes_1 fun a31 =>
   LoadT .slice a31 fun s32p s32l s32c =>
   Req (0 ≤ addI .i64 i_2 1 ∧ addI .i64 i_2 1 ≤ ((s32l : Nat) : Int)) <|
   NN nodes_1 fun a33 =>
   LoadT .slice a33 fun s34p s34l s34c =>
   Req (0 ≤ i_2 ∧ i_2 ≤ ((s34l : Nat) : Int)) <|
   NextT Go.Proofs.Tryz.prog (builtin .copy #[95, 95] 3 [false, false].toArray [.slice (sliceA s32p ((addI .i64 i_2 1).toNat) s32c 1) (s32l - ((addI .i64 i_2 1).toNat)) (s32c - ((addI .i64 i_2 1).toNat)), .slice (sliceA s34p i_2.toNat s34c 1) (s34l - i_2.toNat) (s34c - i_2.toNat)].toArray) (.s (.one (.int .i64))) fun x35 =>
   Chk1 a33 (.slice s34p s34l s34c) <|
   Chk1 a31 (.slice s32p s32l s32c) <|
   NN nodes_1 fun a36 =>
   LoadT .slice a36 fun s37p s37l s37c =>
   NN s37p fun a38 =>
   Req (0 ≤ i_2 ∧ i_2 < ((s37l : Nat) : Int)) <|
   Store1 (a38.add i_2.toNat) (.pointer node_3) <|
   k (.pointer none)))
theorem F113_eq (k : Value → W) (nodes_1 : Option Addr) (i_2 : Int) (node_3 : Option Addr) : compF Go.Proofs.Tryz.prog Go.Proofs.Tryz.f113 [] (Go.Proofs.Tryz.f113.body.getD .skip) [.pointer nodes_1, .int .i64 i_2, .pointer node_3] k = F113 k nodes_1 i_2 node_3 := by kernel_rfl
theorem F113_calls {nodes_1 : Option Addr} {i_2 : Int} {node_3 : Option Addr} {w : World} {R : Ending → World → Prop} (h : F113 (fun v w => R (.returned v) w) nodes_1 i_2 node_3 w) : Calls Go.Proofs.Tryz.prog 113 #[.pointer nodes_1, .int .i64 i_2, .pointer node_3] w R :=
  calls_of_compF noNum follows [] (f := 113) (fn := Go.Proofs.Tryz.f113) (body := Go.Proofs.Tryz.f113.body.getD .skip) (args := [.pointer nodes_1, .int .i64 i_2, .pointer node_3]) rfl rfl (Nat.le_of_ble_eq_true rfl) ((congrFun (F113_eq _ nodes_1 i_2 node_3) w).mpr h)
theorem F113_call {nodes_1 : Option Addr} {i_2 : Int} {node_3 : Option Addr} {w : World} {g : Fn W (RTy.leaves (.s (.one .ptr)))} (h : F113 (fun v => Back (.s (.one .ptr)) g (.returned v)) nodes_1 i_2 node_3 w) : CallT Go.Proofs.Tryz.prog 113 [.pointer nodes_1, .int .i64 i_2, .pointer node_3] (.s (.one .ptr)) g w := F113_calls h

/-! ## rangetree.orderedNodes).getOrAdd -/
def F106 (k : Value → W) (nodes_1 : Option Addr) (entry_2 : Value) (dimension_3 : Int) (lastDimension_4 : Int) : W :=
 CallT Go.Proofs.Tryz.prog 103 [.int .u64 lastDimension_4, .int .u64 dimension_3] (.s (.one .bool)) fun b5 =>
 NextT Go.Proofs.Tryz.prog (callMethod entry_2 "ValueAtDimension" [.int .u64 dimension_3].toArray) (.s (.one (.int .i64))) fun x6 =>
 NN nodes_1 fun a7 =>
 LoadT .slice a7 fun s8p s8l s8c =>
 CallT Go.Proofs.Tryz.prog 111 [.slice s8p s8l s8c, .int .i64 x6] (.s (.one (.int .i64))) fun x9 =>
 NN nodes_1 fun a10 =>
 LoadT .slice a10 fun s11p s11l s11c =>
 BIf (x9 == ((s11l : Nat) : Int)) (
  CallT Go.Proofs.Tryz.prog 105 [.int .i64 x6, entry_2, .bool (!b5)] (.s (.one .ptr)) fun p12 =>
  NN nodes_1 fun a13 =>
  LoadT .slice a13 fun s14p s14l s14c =>
  RawT Go.Proofs.Tryz.prog (Instr.buildSlice 95 1 [(0, .pointer p12)].toArray) (.s (.one .slice)) fun s15p s15l s15c =>
  NextT Go.Proofs.Tryz.prog (builtin .append #[95, 95] 95 [false, false].toArray [.slice s14p s14l s14c, .slice s15p s15l s15c].toArray) (.s (.one .slice)) fun s16p s16l s16c =>
  NN nodes_1 fun a17 =>
  Store1 a17 (.slice s16p s16l s16c) <|
  k (.tuple #[.pointer p12, .bool true])) (
  NN nodes_1 fun a18 =>
  LoadT .slice a18 fun s19p s19l s19c =>
  NN s19p fun a20 =>
  Req (0 ≤ x9 ∧ x9 < ((s19l : Nat) : Int)) <|
  LoadT .ptr (a20.add x9.toNat) fun p21 =>
  NN p21 fun a22 =>
  LoadT (.int .i64) a22 fun x23 =>
  BIf (x23 == x6) (
   NN nodes_1 fun a24 =>
   LoadT .slice a24 fun s25p s25l s25c =>
   NN s25p fun a26 =>
   Req (0 ≤ x9 ∧ x9 < ((s25l : Nat) : Int)) <|
   LoadT .ptr (a26.add x9.toNat) fun p27 =>
   k (.tuple #[.pointer p27, .bool false])) (
   CallT Go.Proofs.Tryz.prog 105 [.int .i64 x6, entry_2, .bool (!b5)] (.s (.one .ptr)) fun p28 =>
   NN nodes_1 fun a29 =>
   LoadT .slice a29 fun s30p s30l s30c =>
   RawT Go.Proofs.Tryz.prog (Instr.buildSlice 95 1 [(0, .pointer none)].toArray) (.s (.one .slice)) fun s31p s31l s31c =>
   NextT Go.Proofs.Tryz.prog (builtin .append #[95, 95] 95 [false, false].toArray [.slice s30p s30l s30c, .slice s31p s31l s31c].toArray) (.s (.one .slice)) fun s32p s32l s32c =>
   NN nodes_1 fun a33 =>
   Store1 a33 (.slice s32p s32l s32c) <|
   Drw <|
   NN nodes_1 fun a34 =>
   LoadT .slice a34 fun s35p s35l s35c =>
   Req (0 ≤ addI .i64 x9 1 ∧ addI .i64 x9 1 ≤ ((s35l : Nat) : Int)) <|
   NN nodes_1 fun a36 =>
   LoadT .slice a36 fun s37p s37l s37c =>
   Req (0 ≤ x9 ∧ x9 ≤ ((s37l : Nat) : Int)) <|
   NextT Go.Proofs.Tryz.prog (builtin .copy #[95, 95] 3 [false, false].toArray [.slice (sliceA s35p ((addI .i64 x9 1).toNat) s35c 1) (s35l - ((addI .i64 x9 1).toNat)) (s35c - ((addI .i64 x9 1).toNat)), .slice (sliceA s37p x9.toNat s37c 1) (s37l - x9.toNat) (s37c - x9.toNat)].toArray) (.s (.one (.int .i64))) fun x38 =>
   Chk1 a36 (.slice s37p s37l s37c) <|
   Chk1 a34 (.slice s35p s35l s35c) <|
   NN nodes_1 fun a39 =>
   LoadT .slice a39 fun s40p s40l s40c =>
   NN s40p fun a41 =>
   Req (0 ≤ x9 ∧ x9 < ((s40l : Nat) : Int)) <|
   Store1 (a41.add x9.toNat) (.pointer p28) <|
   k (.tuple #[.pointer p28, .bool true])))
theorem F106_eq (k : Value → W) (nodes_1 : Option Addr) (entry_2 : Value) (dimension_3 : Int) (lastDimension_4 : Int) : compF Go.Proofs.Tryz.prog Go.Proofs.Tryz.f106 [] (Go.Proofs.Tryz.f106.body.getD .skip) [.pointer nodes_1, entry_2, .int .u64 dimension_3, .int .u64 lastDimension_4] k = F106 k nodes_1 entry_2 dimension_3 lastDimension_4 := by kernel_rfl
theorem F106_calls {nodes_1 : Option Addr} {entry_2 : Value} {dimension_3 : Int} {lastDimension_4 : Int} {w : World} {R : Ending → World → Prop} (h : F106 (fun v w => R (.returned v) w) nodes_1 entry_2 dimension_3 lastDimension_4 w) : Calls Go.Proofs.Tryz.prog 106 #[.pointer nodes_1, entry_2, .int .u64 dimension_3, .int .u64 lastDimension_4] w R :=
  calls_of_compF noNum follows [] (f := 106) (fn := Go.Proofs.Tryz.f106) (body := Go.Proofs.Tryz.f106.body.getD .skip) (args := [.pointer nodes_1, entry_2, .int .u64 dimension_3, .int .u64 lastDimension_4]) rfl rfl (Nat.le_of_ble_eq_true rfl) ((congrFun (F106_eq _ nodes_1 entry_2 dimension_3 lastDimension_4) w).mpr h)
theorem F106_call {nodes_1 : Option Addr} {entry_2 : Value} {dimension_3 : Int} {lastDimension_4 : Int} {w : World} {g : Fn W (RTy.leaves (.tup [(.one .ptr), (.one .bool)]))} (h : F106 (fun v => Back (.tup [(.one .ptr), (.one .bool)]) g (.returned v)) nodes_1 entry_2 dimension_3 lastDimension_4 w) : CallT Go.Proofs.Tryz.prog 106 [.pointer nodes_1, entry_2, .int .u64 dimension_3, .int .u64 lastDimension_4] (.tup [(.one .ptr), (.one .bool)]) g w := F106_calls h

/-! ## rangetree.orderedNodes).apply -/
def F107_L1 (k : Value → W) (again10 : Option Addr → Nat → Nat → Int → Value → Int → W) (nodes_6p : Option Addr) (nodes_6l : Nat) (nodes_6c : Nat) (high_7 : Int) (fn_8 : Value) (index_9 : Int) : W :=
 BIf (decide (index_9 < ((nodes_6l : Nat) : Int))) (
  NN nodes_6p fun a11 =>
  Req (0 ≤ index_9 ∧ index_9 < ((nodes_6l : Nat) : Int)) <|
  LoadT .ptr (a11.add index_9.toNat) fun p12 =>
  NN p12 fun a13 =>
  LoadT (.int .i64) a13 fun x14 =>
  BIf (decide (x14 > high_7)) (
   k (.bool true)) (
   NN nodes_6p fun a15 =>
   Req (0 ≤ index_9 ∧ index_9 < ((nodes_6l : Nat) : Int)) <|
   LoadT .ptr (a15.add index_9.toNat) fun p16 =>
   NextT Go.Proofs.Tryz.prog (callV fn_8 [.pointer p16].toArray) (.s (.one .bool)) fun b17 =>
   BIf (!b17) (
    k (.bool false)) (
    again10 nodes_6p nodes_6l nodes_6c high_7 fn_8 (addI .i64 index_9 1)))) (
  k (.bool true))
theorem F107_L1_rule {k : Value → W} (I : Option Addr → Nat → Nat → Int → Value → Int → W) (μ : Option Addr → Nat → Nat → Int → Value → Int → World → Nat)
  (hr : ∀ (nodes_6p : Option Addr) (nodes_6l : Nat) (nodes_6c : Nat) (high_7 : Int) (fn_8 : Value) (index_9 : Int) (w : World), I nodes_6p nodes_6l nodes_6c high_7 fn_8 index_9 w → F107_L1 k (fun nodes_6p' nodes_6l' nodes_6c' high_7' fn_8' index_9' w' => I nodes_6p' nodes_6l' nodes_6c' high_7' fn_8' index_9' w' ∧ μ nodes_6p' nodes_6l' nodes_6c' high_7' fn_8' index_9' w' < μ nodes_6p nodes_6l nodes_6c high_7 fn_8 index_9 w) nodes_6p nodes_6l nodes_6c high_7 fn_8 index_9 w)
  {w : World} {nodes_6p : Option Addr} {nodes_6l : Nat} {nodes_6c : Nat} {high_7 : Int} {fn_8 : Value} {index_9 : Int} (h : I nodes_6p nodes_6l nodes_6c high_7 fn_8 index_9 w) : Loop [.slice, (.int .i64), .any, (.int .i64)] (F107_L1 k) nodes_6p nodes_6l nodes_6c high_7 fn_8 index_9 w :=
  Loop_intro (ts := [.slice, (.int .i64), .any, (.int .i64)]) (s := ((nodes_6p, nodes_6l, nodes_6c), high_7, fn_8, index_9, ())) (fun s w => I s.1.1 s.1.2.1 s.1.2.2 s.2.1 s.2.2.1 s.2.2.2.1 w) (fun s w => μ s.1.1 s.1.2.1 s.1.2.2 s.2.1 s.2.2.1 s.2.2.2.1 w) h (fun s w h => hr s.1.1 s.1.2.1 s.1.2.2 s.2.1 s.2.2.1 s.2.2.2.1 w h)
def F107 (k : Value → W) (nodes_1p : Option Addr) (nodes_1l : Nat) (nodes_1c : Nat) (low_2 : Int) (high_3 : Int) (fn_4 : Value) : W :=
 CallT Go.Proofs.Tryz.prog 111 [.slice nodes_1p nodes_1l nodes_1c, .int .i64 low_2] (.s (.one (.int .i64))) fun x5 =>
 BIf (x5 == ((nodes_1l : Nat) : Int)) (
  k (.bool true)) (
  Loop [.slice, (.int .i64), .any, (.int .i64)] (F107_L1 k) nodes_1p nodes_1l nodes_1c high_3 fn_4 x5)
theorem F107_eq (k : Value → W) (nodes_1p : Option Addr) (nodes_1l : Nat) (nodes_1c : Nat) (low_2 : Int) (high_3 : Int) (fn_4 : Value) : compF Go.Proofs.Tryz.prog Go.Proofs.Tryz.f107 [(4, [(0, .slice), (2, (.int .i64)), (3, .any), (9, (.int .i64))])] (Go.Proofs.Tryz.f107.body.getD .skip) [.slice nodes_1p nodes_1l nodes_1c, .int .i64 low_2, .int .i64 high_3, fn_4] k = F107 k nodes_1p nodes_1l nodes_1c low_2 high_3 fn_4 := by kernel_rfl
theorem F107_calls {nodes_1p : Option Addr} {nodes_1l : Nat} {nodes_1c : Nat} {low_2 : Int} {high_3 : Int} {fn_4 : Value} {w : World} {R : Ending → World → Prop} (h : F107 (fun v w => R (.returned v) w) nodes_1p nodes_1l nodes_1c low_2 high_3 fn_4 w) : Calls Go.Proofs.Tryz.prog 107 #[.slice nodes_1p nodes_1l nodes_1c, .int .i64 low_2, .int .i64 high_3, fn_4] w R :=
  calls_of_compF noNum follows [(4, [(0, .slice), (2, (.int .i64)), (3, .any), (9, (.int .i64))])] (f := 107) (fn := Go.Proofs.Tryz.f107) (body := Go.Proofs.Tryz.f107.body.getD .skip) (args := [.slice nodes_1p nodes_1l nodes_1c, .int .i64 low_2, .int .i64 high_3, fn_4]) rfl rfl (Nat.le_of_ble_eq_true rfl) ((congrFun (F107_eq _ nodes_1p nodes_1l nodes_1c low_2 high_3 fn_4) w).mpr h)
theorem F107_call {nodes_1p : Option Addr} {nodes_1l : Nat} {nodes_1c : Nat} {low_2 : Int} {high_3 : Int} {fn_4 : Value} {w : World} {g : Fn W (RTy.leaves (.s (.one .bool)))} (h : F107 (fun v => Back (.s (.one .bool)) g (.returned v)) nodes_1p nodes_1l nodes_1c low_2 high_3 fn_4 w) : CallT Go.Proofs.Tryz.prog 107 [.slice nodes_1p nodes_1l nodes_1c, .int .i64 low_2, .int .i64 high_3, fn_4] (.s (.one .bool)) g w := F107_calls h

/-! ## rangetree.orderedTree).apply$1 -/
def F108 (k : Value → W) (n_1 : Option Addr) (a2 : Addr) (a3 : Addr) (a4 : Addr) (a5 : Addr) : W :=
 Drw <|
 LoadT .ptr a2 fun p6 =>
 NN n_1 fun a7 =>
 LoadT .slice (a7.add 2) fun s8p s8l s8c =>
 LoadT .any a3 fun v9 =>
 LoadT (.int .u64) a4 fun x10 =>
 LoadT .any a5 fun v11 =>
 CallT Go.Proofs.Tryz.prog 96 [.pointer p6, .slice s8p s8l s8c, v9, .int .u64 (addI .u64 x10 1), v11] (.s (.one .bool)) fun b12 =>
 Chk1 a4 (.int .u64 x10) <|
 BIf (!b12) (
  k (.bool false)) (
  k (.bool true))
theorem F108_eq (k : Value → W) (n_1 : Option Addr) (a2 : Addr) (a3 : Addr) (a4 : Addr) (a5 : Addr) : compF Go.Proofs.Tryz.prog Go.Proofs.Tryz.f108 [] (Go.Proofs.Tryz.f108.body.getD .skip) [.pointer n_1, .pointer (some a2), .pointer (some a3), .pointer (some a4), .pointer (some a5)] k = F108 k n_1 a2 a3 a4 a5 := by kernel_rfl
theorem F108_calls {n_1 : Option Addr} {a2 : Addr} {a3 : Addr} {a4 : Addr} {a5 : Addr} {w : World} {R : Ending → World → Prop} (h : F108 (fun v w => R (.returned v) w) n_1 a2 a3 a4 a5 w) : Calls Go.Proofs.Tryz.prog 108 #[.pointer n_1, .pointer (some a2), .pointer (some a3), .pointer (some a4), .pointer (some a5)] w R :=
  calls_of_compF noNum follows [] (f := 108) (fn := Go.Proofs.Tryz.f108) (body := Go.Proofs.Tryz.f108.body.getD .skip) (args := [.pointer n_1, .pointer (some a2), .pointer (some a3), .pointer (some a4), .pointer (some a5)]) rfl rfl (Nat.le_of_ble_eq_true rfl) ((congrFun (F108_eq _ n_1 a2 a3 a4 a5) w).mpr h)
theorem F108_call {n_1 : Option Addr} {a2 : Addr} {a3 : Addr} {a4 : Addr} {a5 : Addr} {w : World} {g : Fn W (RTy.leaves (.s (.one .bool)))} (h : F108 (fun v => Back (.s (.one .bool)) g (.returned v)) n_1 a2 a3 a4 a5 w) : CallT Go.Proofs.Tryz.prog 108 [.pointer n_1, .pointer (some a2), .pointer (some a3), .pointer (some a4), .pointer (some a5)] (.s (.one .bool)) g w := F108_calls h

/-! ## rangetree.orderedTree).apply -/
def F96 (k : Value → W) (ot_1 : Option Addr) (list_2p : Option Addr) (list_2l : Nat) (list_2c : Nat) (interval_3 : Value) (dimension_4 : Int) (fn_5 : Value) : W :=
 New [.pointer ot_1] 81 fun n6 =>
 Req (oneC interval_3 = true) <|
 New [interval_3] 84 fun n7 =>
 New [.int .u64 dimension_4] 29 fun n8 =>
 Req (oneC fn_5 = true) <|
 New [fn_5] 177 fun n9 =>
 Drw <|
 LoadT .any ⟨n7, 0, none⟩ fun v10 =>
 LoadT (.int .u64) ⟨n8, 0, none⟩ fun x11 =>
 LoadT .any ⟨n7, 0, none⟩ fun v12 =>
 LoadT (.int .u64) ⟨n8, 0, none⟩ fun x13 =>
 NextT Go.Proofs.Tryz.prog (callMethod v10 "LowAtDimension" [.int .u64 x11].toArray) (.s (.one (.int .i64))) fun x14 =>
 Chk1 ⟨n8, 0, none⟩ (.int .u64 x13) <|
 Chk1 ⟨n7, 0, none⟩ v12 <|
 NextT Go.Proofs.Tryz.prog (callMethod v12 "HighAtDimension" [.int .u64 x13].toArray) (.s (.one (.int .i64))) fun x15 =>
 Chk1 ⟨n8, 0, none⟩ (.int .u64 x11) <|
 Chk1 ⟨n7, 0, none⟩ v10 <|
 Drw <|
 LoadT .ptr ⟨n6, 0, none⟩ fun p16 =>
 NN p16 fun a17 =>
 LoadT (.int .u64) (a17.add 2) fun x18 =>
 LoadT (.int .u64) ⟨n8, 0, none⟩ fun x19 =>
 CallT Go.Proofs.Tryz.prog 103 [.int .u64 x18, .int .u64 x19] (.s (.one .bool)) fun b20 =>
 Chk1 ⟨n6, 0, none⟩ (.pointer p16) <|
 BIf b20 (
  LoadT .any ⟨n9, 0, none⟩ fun v21 =>
  CallT Go.Proofs.Tryz.prog 107 [.slice list_2p list_2l list_2c, .int .i64 x14, .int .i64 x15, v21] (.s (.one .bool)) fun b22 =>
  BIf (!b22) (
   k (.bool false)) (
   k (.bool true))) (
  CallT Go.Proofs.Tryz.prog 107 [.slice list_2p list_2l list_2c, .int .i64 x14, .int .i64 x15, .func (.func 108) #[] #[.pointer (some ⟨n6, 0, none⟩), .pointer (some ⟨n7, 0, none⟩), .pointer (some ⟨n8, 0, none⟩), .pointer (some ⟨n9, 0, none⟩)]] (.s (.one .bool)) fun b23 =>
  BIf (!b23) (
   k (.bool false)) (
   k (.bool true)))
theorem F96_eq (k : Value → W) (ot_1 : Option Addr) (list_2p : Option Addr) (list_2l : Nat) (list_2c : Nat) (interval_3 : Value) (dimension_4 : Int) (fn_5 : Value) : compF Go.Proofs.Tryz.prog Go.Proofs.Tryz.f96 [] (Go.Proofs.Tryz.f96.body.getD .skip) [.pointer ot_1, .slice list_2p list_2l list_2c, interval_3, .int .u64 dimension_4, fn_5] k = F96 k ot_1 list_2p list_2l list_2c interval_3 dimension_4 fn_5 := by kernel_rfl
theorem F96_calls {ot_1 : Option Addr} {list_2p : Option Addr} {list_2l : Nat} {list_2c : Nat} {interval_3 : Value} {dimension_4 : Int} {fn_5 : Value} {w : World} {R : Ending → World → Prop} (h : F96 (fun v w => R (.returned v) w) ot_1 list_2p list_2l list_2c interval_3 dimension_4 fn_5 w) : Calls Go.Proofs.Tryz.prog 96 #[.pointer ot_1, .slice list_2p list_2l list_2c, interval_3, .int .u64 dimension_4, fn_5] w R :=
  calls_of_compF noNum follows [] (f := 96) (fn := Go.Proofs.Tryz.f96) (body := Go.Proofs.Tryz.f96.body.getD .skip) (args := [.pointer ot_1, .slice list_2p list_2l list_2c, interval_3, .int .u64 dimension_4, fn_5]) rfl rfl (Nat.le_of_ble_eq_true rfl) ((congrFun (F96_eq _ ot_1 list_2p list_2l list_2c interval_3 dimension_4 fn_5) w).mpr h)
theorem F96_call {ot_1 : Option Addr} {list_2p : Option Addr} {list_2l : Nat} {list_2c : Nat} {interval_3 : Value} {dimension_4 : Int} {fn_5 : Value} {w : World} {g : Fn W (RTy.leaves (.s (.one .bool)))} (h : F96 (fun v => Back (.s (.one .bool)) g (.returned v)) ot_1 list_2p list_2l list_2c interval_3 dimension_4 fn_5 w) : CallT Go.Proofs.Tryz.prog 96 [.pointer ot_1, .slice list_2p list_2l list_2c, interval_3, .int .u64 dimension_4, fn_5] (.s (.one .bool)) g w := F96_calls h

/-! ## rangetree.orderedTree).Apply$1 -/
def F97 (k : Value → W) (n_1 : Option Addr) (a2 : Addr) : W :=
 Drw <|
 LoadT .any a2 fun v3 =>
 NN n_1 fun a4 =>
 LoadT .any (a4.add 1) fun v5 =>
 NextT Go.Proofs.Tryz.prog (callV v3 [v5].toArray) (.s (.one .bool)) fun b6 =>
 k (.bool b6)
theorem F97_eq (k : Value → W) (n_1 : Option Addr) (a2 : Addr) : compF Go.Proofs.Tryz.prog Go.Proofs.Tryz.f97 [] (Go.Proofs.Tryz.f97.body.getD .skip) [.pointer n_1, .pointer (some a2)] k = F97 k n_1 a2 := by kernel_rfl
theorem F97_calls {n_1 : Option Addr} {a2 : Addr} {w : World} {R : Ending → World → Prop} (h : F97 (fun v w => R (.returned v) w) n_1 a2 w) : Calls Go.Proofs.Tryz.prog 97 #[.pointer n_1, .pointer (some a2)] w R :=
  calls_of_compF noNum follows [] (f := 97) (fn := Go.Proofs.Tryz.f97) (body := Go.Proofs.Tryz.f97.body.getD .skip) (args := [.pointer n_1, .pointer (some a2)]) rfl rfl (Nat.le_of_ble_eq_true rfl) ((congrFun (F97_eq _ n_1 a2) w).mpr h)
theorem F97_call {n_1 : Option Addr} {a2 : Addr} {w : World} {g : Fn W (RTy.leaves (.s (.one .bool)))} (h : F97 (fun v => Back (.s (.one .bool)) g (.returned v)) n_1 a2 w) : CallT Go.Proofs.Tryz.prog 97 [.pointer n_1, .pointer (some a2)] (.s (.one .bool)) g w := F97_calls h

/-! ## rangetree.orderedTree).Query$1 -/
def F102 (k : Value → W) (n_1 : Option Addr) (a2 : Addr) : W :=
 Drw <|
 LoadT .slice a2 fun s3p s3l s3c =>
 NN n_1 fun a4 =>
 LoadT .any (a4.add 1) fun v5 =>
 RawT Go.Proofs.Tryz.prog (Instr.buildSlice 70 1 [(0, v5)].toArray) (.s (.one .slice)) fun s6p s6l s6c =>
 Chk1 a2 (.slice s3p s3l s3c) <|
 NextT Go.Proofs.Tryz.prog (builtin .append #[70, 70] 70 [false, false].toArray [.slice s3p s3l s3c, .slice s6p s6l s6c].toArray) (.s (.one .slice)) fun s7p s7l s7c =>
 Chk1 (a4.add 1) v5 <|
 Store1 a2 (.slice s7p s7l s7c) <|
 k (.bool true)
theorem F102_eq (k : Value → W) (n_1 : Option Addr) (a2 : Addr) : compF Go.Proofs.Tryz.prog Go.Proofs.Tryz.f102 [] (Go.Proofs.Tryz.f102.body.getD .skip) [.pointer n_1, .pointer (some a2)] k = F102 k n_1 a2 := by kernel_rfl
theorem F102_calls {n_1 : Option Addr} {a2 : Addr} {w : World} {R : Ending → World → Prop} (h : F102 (fun v w => R (.returned v) w) n_1 a2 w) : Calls Go.Proofs.Tryz.prog 102 #[.pointer n_1, .pointer (some a2)] w R :=
  calls_of_compF noNum follows [] (f := 102) (fn := Go.Proofs.Tryz.f102) (body := Go.Proofs.Tryz.f102.body.getD .skip) (args := [.pointer n_1, .pointer (some a2)]) rfl rfl (Nat.le_of_ble_eq_true rfl) ((congrFun (F102_eq _ n_1 a2) w).mpr h)
theorem F102_call {n_1 : Option Addr} {a2 : Addr} {w : World} {g : Fn W (RTy.leaves (.s (.one .bool)))} (h : F102 (fun v => Back (.s (.one .bool)) g (.returned v)) n_1 a2 w) : CallT Go.Proofs.Tryz.prog 102 [.pointer n_1, .pointer (some a2)] (.s (.one .bool)) g w := F102_calls h

/-! ## rangetree.orderedTree).add -/
def F95_L1 (k : Value → W) (again8 : Option Addr → Value → Addr → Int → W) (ot_4 : Option Addr) (entry_5 : Value) (list_6 : Addr) (i_7 : Int) : W :=
 NN ot_4 fun a9 =>
 LoadT (.int .u64) (a9.add 2) fun x10 =>
 BIf (decide (i_7 ≤ x10)) (
  NN ot_4 fun a11 =>
  LoadT (.int .u64) (a11.add 2) fun x12 =>
  CallT Go.Proofs.Tryz.prog 103 [.int .u64 x12, .int .u64 i_7] (.s (.one .bool)) fun b13 =>
  BIf b13 (
   NextT Go.Proofs.Tryz.prog (callMethod entry_5 "ValueAtDimension" [.int .u64 i_7].toArray) (.s (.one (.int .i64))) fun x14 =>
   CallT Go.Proofs.Tryz.prog 105 [.int .i64 x14, entry_5, .bool false] (.s (.one .ptr)) fun p15 =>
   CallT Go.Proofs.Tryz.prog 104 [.pointer (some list_6), .pointer p15] (.s (.one .ptr)) fun p16 =>
   BIf p16.isNone (
    NN ot_4 fun a17 =>
    LoadT (.int .u64) (a17.add 1) fun x18 =>
    Store1 (a17.add 1) (.int .u64 (addI .u64 x18 1)) <|
    k (.pointer p16)) (
    k (.pointer p16))) (
   NN ot_4 fun a19 =>
   LoadT (.int .u64) (a19.add 2) fun x20 =>
   CallT Go.Proofs.Tryz.prog 106 [.pointer (some list_6), entry_5, .int .u64 i_7, .int .u64 x20] (.tup [(.one .ptr), (.one .bool)]) fun p21 b22 =>
   NN p21 fun a23 =>
   again8 ot_4 entry_5 (a23.add 2) (addI .u64 i_7 1))) (
  k (.pointer none))
theorem F95_L1_rule {k : Value → W} (I : Option Addr → Value → Addr → Int → W) (μ : Option Addr → Value → Addr → Int → World → Nat)
  (hr : ∀ (ot_4 : Option Addr) (entry_5 : Value) (list_6 : Addr) (i_7 : Int) (w : World), I ot_4 entry_5 list_6 i_7 w → F95_L1 k (fun ot_4' entry_5' list_6' i_7' w' => I ot_4' entry_5' list_6' i_7' w' ∧ μ ot_4' entry_5' list_6' i_7' w' < μ ot_4 entry_5 list_6 i_7 w) ot_4 entry_5 list_6 i_7 w)
  {w : World} {ot_4 : Option Addr} {entry_5 : Value} {list_6 : Addr} {i_7 : Int} (h : I ot_4 entry_5 list_6 i_7 w) : Loop [.ptr, .any, .addr, (.int .u64)] (F95_L1 k) ot_4 entry_5 list_6 i_7 w :=
  Loop_intro (ts := [.ptr, .any, .addr, (.int .u64)]) (s := (ot_4, entry_5, list_6, i_7, ())) (fun s w => I s.1 s.2.1 s.2.2.1 s.2.2.2.1 w) (fun s w => μ s.1 s.2.1 s.2.2.1 s.2.2.2.1 w) h (fun s w h => hr s.1 s.2.1 s.2.2.1 s.2.2.2.1 w h)
def F95 (k : Value → W) (ot_1 : Option Addr) (entry_2 : Value) : W :=
 NN ot_1 fun a3 =>
 Loop [.ptr, .any, .addr, (.int .u64)] (F95_L1 k) ot_1 entry_2 a3 1
theorem F95_eq (k : Value → W) (ot_1 : Option Addr) (entry_2 : Value) : compF Go.Proofs.Tryz.prog Go.Proofs.Tryz.f95 [(4, [(0, .ptr), (1, .any), (6, .addr), (7, (.int .u64))])] (Go.Proofs.Tryz.f95.body.getD .skip) [.pointer ot_1, entry_2] k = F95 k ot_1 entry_2 := by kernel_rfl
theorem F95_calls {ot_1 : Option Addr} {entry_2 : Value} {w : World} {R : Ending → World → Prop} (h : F95 (fun v w => R (.returned v) w) ot_1 entry_2 w) : Calls Go.Proofs.Tryz.prog 95 #[.pointer ot_1, entry_2] w R :=
  calls_of_compF noNum follows [(4, [(0, .ptr), (1, .any), (6, .addr), (7, (.int .u64))])] (f := 95) (fn := Go.Proofs.Tryz.f95) (body := Go.Proofs.Tryz.f95.body.getD .skip) (args := [.pointer ot_1, entry_2]) rfl rfl (Nat.le_of_ble_eq_true rfl) ((congrFun (F95_eq _ ot_1 entry_2) w).mpr h)
theorem F95_call {ot_1 : Option Addr} {entry_2 : Value} {w : World} {g : Fn W (RTy.leaves (.s (.one .ptr)))} (h : F95 (fun v => Back (.s (.one .ptr)) g (.returned v)) ot_1 entry_2 w) : CallT Go.Proofs.Tryz.prog 95 [.pointer ot_1, entry_2] (.s (.one .ptr)) g w := F95_calls h

/-! ## rangetree.orderedTree).Add -/
def F87_L1 (k : Value → W) (again9 : Option Addr → Option Addr → Nat → Nat → Option Addr → Nat → Nat → Int → Int → W) (ot_4 : Option Addr) (overwrittens_5p : Option Addr) (overwrittens_5l : Nat) (overwrittens_5c : Nat) (s6p : Option Addr) (s6l : Nat) (s6c : Nat) (x7 : Int) (x8 : Int) : W :=
 BIf (decide (x8 < x7)) (
  NN s6p fun a10 =>
  Req (0 ≤ x8 ∧ x8 < ((s6l : Nat) : Int)) <|
  LoadT .any (a10.add x8.toNat) fun v11 =>
  IfaceNil v11 fun b12 =>
  BIf b12 (
   again9 ot_4 overwrittens_5p overwrittens_5l overwrittens_5c s6p s6l s6c x7 (addI .i64 x8 1)) (
   CallT Go.Proofs.Tryz.prog 95 [.pointer ot_4, v11] (.s (.one .ptr)) fun p13 =>
   BIf (!p13.isNone) (
    NN p13 fun a14 =>
    LoadT .any (a14.add 1) fun v15 =>
    NN overwrittens_5p fun a16 =>
    Req (0 ≤ x8 ∧ x8 < ((overwrittens_5l : Nat) : Int)) <|
    Req (oneC v15 = true) <|
    Store1 (a16.add x8.toNat) v15 <|
    again9 ot_4 overwrittens_5p overwrittens_5l overwrittens_5c s6p s6l s6c x7 (addI .i64 x8 1)) (
    again9 ot_4 overwrittens_5p overwrittens_5l overwrittens_5c s6p s6l s6c x7 (addI .i64 x8 1)))) (
  k (.slice overwrittens_5p overwrittens_5l overwrittens_5c))
theorem F87_L1_rule {k : Value → W} (I : Option Addr → Option Addr → Nat → Nat → Option Addr → Nat → Nat → Int → Int → W) (μ : Option Addr → Option Addr → Nat → Nat → Option Addr → Nat → Nat → Int → Int → World → Nat)
  (hr : ∀ (ot_4 : Option Addr) (overwrittens_5p : Option Addr) (overwrittens_5l : Nat) (overwrittens_5c : Nat) (s6p : Option Addr) (s6l : Nat) (s6c : Nat) (x7 : Int) (x8 : Int) (w : World), I ot_4 overwrittens_5p overwrittens_5l overwrittens_5c s6p s6l s6c x7 x8 w → F87_L1 k (fun ot_4' overwrittens_5p' overwrittens_5l' overwrittens_5c' s6p' s6l' s6c' x7' x8' w' => I ot_4' overwrittens_5p' overwrittens_5l' overwrittens_5c' s6p' s6l' s6c' x7' x8' w' ∧ μ ot_4' overwrittens_5p' overwrittens_5l' overwrittens_5c' s6p' s6l' s6c' x7' x8' w' < μ ot_4 overwrittens_5p overwrittens_5l overwrittens_5c s6p s6l s6c x7 x8 w) ot_4 overwrittens_5p overwrittens_5l overwrittens_5c s6p s6l s6c x7 x8 w)
  {w : World} {ot_4 : Option Addr} {overwrittens_5p : Option Addr} {overwrittens_5l : Nat} {overwrittens_5c : Nat} {s6p : Option Addr} {s6l : Nat} {s6c : Nat} {x7 : Int} {x8 : Int} (h : I ot_4 overwrittens_5p overwrittens_5l overwrittens_5c s6p s6l s6c x7 x8 w) : Loop [.ptr, .slice, .slice, (.int .i64), (.int .i64)] (F87_L1 k) ot_4 overwrittens_5p overwrittens_5l overwrittens_5c s6p s6l s6c x7 x8 w :=
  Loop_intro (ts := [.ptr, .slice, .slice, (.int .i64), (.int .i64)]) (s := (ot_4, (overwrittens_5p, overwrittens_5l, overwrittens_5c), (s6p, s6l, s6c), x7, x8, ())) (fun s w => I s.1 s.2.1.1 s.2.1.2.1 s.2.1.2.2 s.2.2.1.1 s.2.2.1.2.1 s.2.2.1.2.2 s.2.2.2.1 s.2.2.2.2.1 w) (fun s w => μ s.1 s.2.1.1 s.2.1.2.1 s.2.1.2.2 s.2.2.1.1 s.2.2.1.2.1 s.2.2.1.2.2 s.2.2.2.1 s.2.2.2.2.1 w) h (fun s w h => hr s.1 s.2.1.1 s.2.1.2.1 s.2.1.2.2 s.2.2.1.1 s.2.2.1.2.1 s.2.2.1.2.2 s.2.2.2.1 s.2.2.2.2.1 w h)
def F87 (k : Value → W) (ot_1 : Option Addr) (entries_2p : Option Addr) (entries_2l : Nat) (entries_2c : Nat) : W :=
 BIf (((entries_2l : Nat) : Int) == 0) (
  k (.slice none 0 0)) (
  RawT Go.Proofs.Tryz.prog (Instr.makeSlice 70 (.int .i64 ((entries_2l : Nat) : Int)) (.int .i64 ((entries_2l : Nat) : Int))) (.s (.one .slice)) fun s3p s3l s3c =>
  Loop [.ptr, .slice, .slice, (.int .i64), (.int .i64)] (F87_L1 k) ot_1 s3p s3l s3c entries_2p entries_2l entries_2c ((entries_2l : Nat) : Int) 0)
theorem F87_eq (k : Value → W) (ot_1 : Option Addr) (entries_2p : Option Addr) (entries_2l : Nat) (entries_2c : Nat) : compF Go.Proofs.Tryz.prog Go.Proofs.Tryz.f87 [(5, [(0, .ptr), (5, .slice), (15, .slice), (16, (.int .i64)), (17, (.int .i64))])] (Go.Proofs.Tryz.f87.body.getD .skip) [.pointer ot_1, .slice entries_2p entries_2l entries_2c] k = F87 k ot_1 entries_2p entries_2l entries_2c := by kernel_rfl
theorem F87_calls {ot_1 : Option Addr} {entries_2p : Option Addr} {entries_2l : Nat} {entries_2c : Nat} {w : World} {R : Ending → World → Prop} (h : F87 (fun v w => R (.returned v) w) ot_1 entries_2p entries_2l entries_2c w) : Calls Go.Proofs.Tryz.prog 87 #[.pointer ot_1, .slice entries_2p entries_2l entries_2c] w R :=
  calls_of_compF noNum follows [(5, [(0, .ptr), (5, .slice), (15, .slice), (16, (.int .i64)), (17, (.int .i64))])] (f := 87) (fn := Go.Proofs.Tryz.f87) (body := Go.Proofs.Tryz.f87.body.getD .skip) (args := [.pointer ot_1, .slice entries_2p entries_2l entries_2c]) rfl rfl (Nat.le_of_ble_eq_true rfl) ((congrFun (F87_eq _ ot_1 entries_2p entries_2l entries_2c) w).mpr h)
theorem F87_call {ot_1 : Option Addr} {entries_2p : Option Addr} {entries_2l : Nat} {entries_2c : Nat} {w : World} {g : Fn W (RTy.leaves (.s (.one .slice)))} (h : F87 (fun v => Back (.s (.one .slice)) g (.returned v)) ot_1 entries_2p entries_2l entries_2c w) : CallT Go.Proofs.Tryz.prog 87 [.pointer ot_1, .slice entries_2p entries_2l entries_2c] (.s (.one .slice)) g w := F87_calls h

/-! ## rangetree.orderedTree).Apply -/
def F88 (k : Value → W) (ot_1 : Option Addr) (interval_2 : Value) (fn_3 : Value) : W :=
 Req (oneC fn_3 = true) <|
 New [fn_3] 77 fun n4 =>
 NN ot_1 fun a5 =>
 LoadT .slice a5 fun s6p s6l s6c =>
 CallT Go.Proofs.Tryz.prog 96 [.pointer ot_1, .slice s6p s6l s6c, interval_2, .int .u64 1, .func (.func 97) #[] #[.pointer (some ⟨n4, 0, none⟩)]] (.s (.one .bool)) fun b7 =>
 k (.tuple #[])
theorem F88_eq (k : Value → W) (ot_1 : Option Addr) (interval_2 : Value) (fn_3 : Value) : compF Go.Proofs.Tryz.prog Go.Proofs.Tryz.f88 [] (Go.Proofs.Tryz.f88.body.getD .skip) [.pointer ot_1, interval_2, fn_3] k = F88 k ot_1 interval_2 fn_3 := by kernel_rfl
theorem F88_calls {ot_1 : Option Addr} {interval_2 : Value} {fn_3 : Value} {w : World} {R : Ending → World → Prop} (h : F88 (fun v w => R (.returned v) w) ot_1 interval_2 fn_3 w) : Calls Go.Proofs.Tryz.prog 88 #[.pointer ot_1, interval_2, fn_3] w R :=
  calls_of_compF noNum follows [] (f := 88) (fn := Go.Proofs.Tryz.f88) (body := Go.Proofs.Tryz.f88.body.getD .skip) (args := [.pointer ot_1, interval_2, fn_3]) rfl rfl (Nat.le_of_ble_eq_true rfl) ((congrFun (F88_eq _ ot_1 interval_2 fn_3) w).mpr h)
theorem F88_call {ot_1 : Option Addr} {interval_2 : Value} {fn_3 : Value} {w : World} {g : Fn W (RTy.leaves (.tup []))} (h : F88 (fun v => Back (.tup []) g (.returned v)) ot_1 interval_2 fn_3 w) : CallT Go.Proofs.Tryz.prog 88 [.pointer ot_1, interval_2, fn_3] (.tup []) g w := F88_calls h

/-! ## rangetree.orderedTree).Len -/
def F92 (k : Value → W) (ot_1 : Option Addr) : W :=
 NN ot_1 fun a2 =>
 LoadT (.int .u64) (a2.add 1) fun x3 =>
 k (.int .u64 x3)
theorem F92_eq (k : Value → W) (ot_1 : Option Addr) : compF Go.Proofs.Tryz.prog Go.Proofs.Tryz.f92 [] (Go.Proofs.Tryz.f92.body.getD .skip) [.pointer ot_1] k = F92 k ot_1 := by kernel_rfl
theorem F92_calls {ot_1 : Option Addr} {w : World} {R : Ending → World → Prop} (h : F92 (fun v w => R (.returned v) w) ot_1 w) : Calls Go.Proofs.Tryz.prog 92 #[.pointer ot_1] w R :=
  calls_of_compF noNum follows [] (f := 92) (fn := Go.Proofs.Tryz.f92) (body := Go.Proofs.Tryz.f92.body.getD .skip) (args := [.pointer ot_1]) rfl rfl (Nat.le_of_ble_eq_true rfl) ((congrFun (F92_eq _ ot_1) w).mpr h)
theorem F92_call {ot_1 : Option Addr} {w : World} {g : Fn W (RTy.leaves (.s (.one (.int .u64))))} (h : F92 (fun v => Back (.s (.one (.int .u64))) g (.returned v)) ot_1 w) : CallT Go.Proofs.Tryz.prog 92 [.pointer ot_1] (.s (.one (.int .u64))) g w := F92_calls h

/-! ## rangetree.orderedTree).Query -/
def F93 (k : Value → W) (ot_1 : Option Addr) (interval_2 : Value) : W :=
 CallT Go.Proofs.Tryz.prog 101 [] (.s (.one .slice)) fun s3p s3l s3c =>
 New [.slice none 0 0] 70 fun n4 =>
 Store1 ⟨n4, 0, none⟩ (.slice s3p s3l s3c) <|
 NN ot_1 fun a5 =>
 LoadT .slice a5 fun s6p s6l s6c =>
 CallT Go.Proofs.Tryz.prog 96 [.pointer ot_1, .slice s6p s6l s6c, interval_2, .int .u64 1, .func (.func 102) #[] #[.pointer (some ⟨n4, 0, none⟩)]] (.s (.one .bool)) fun b7 =>
 LoadT .slice ⟨n4, 0, none⟩ fun s8p s8l s8c =>
 k (.slice s8p s8l s8c)
theorem F93_eq (k : Value → W) (ot_1 : Option Addr) (interval_2 : Value) : compF Go.Proofs.Tryz.prog Go.Proofs.Tryz.f93 [] (Go.Proofs.Tryz.f93.body.getD .skip) [.pointer ot_1, interval_2] k = F93 k ot_1 interval_2 := by kernel_rfl
theorem F93_calls {ot_1 : Option Addr} {interval_2 : Value} {w : World} {R : Ending → World → Prop} (h : F93 (fun v w => R (.returned v) w) ot_1 interval_2 w) : Calls Go.Proofs.Tryz.prog 93 #[.pointer ot_1, interval_2] w R :=
  calls_of_compF noNum follows [] (f := 93) (fn := Go.Proofs.Tryz.f93) (body := Go.Proofs.Tryz.f93.body.getD .skip) (args := [.pointer ot_1, interval_2]) rfl rfl (Nat.le_of_ble_eq_true rfl) ((congrFun (F93_eq _ ot_1 interval_2) w).mpr h)
theorem F93_call {ot_1 : Option Addr} {interval_2 : Value} {w : World} {g : Fn W (RTy.leaves (.s (.one .slice)))} (h : F93 (fun v => Back (.s (.one .slice)) g (.returned v)) ot_1 interval_2 w) : CallT Go.Proofs.Tryz.prog 93 [.pointer ot_1, interval_2] (.s (.one .slice)) g w := F93_calls h

end Go.Proofs.YtfokodpnoiilbaaGreat.E
