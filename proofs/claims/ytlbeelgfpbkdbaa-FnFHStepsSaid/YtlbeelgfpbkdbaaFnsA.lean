/-
  Printed by this session's own program eng.py out of Lean's print of the loaded functions: what each function's body asks, in the engine's words; each is checked against the program by the kernel.
-/
import Derived.Test.YtlbeelgfpbkdbaaEng
import Derived.Test.YtlbeelgfpbkdbaaProg
namespace Go.Proofs.Ytlbeelgfpbkdbaa.E
open Go
set_option linter.unusedVariables false
set_option maxRecDepth 100000
theorem noNum : NoNum Go.Proofs.Try.prog := noNum_of (by kernel_rfl)
theorem follows : (Go.Proofs.Try.prog).follows .mixedOrders = true := by kernel_rfl

/-! ## laws.dxFew -/
def F6 (k : Value → W) (l_1p : Option Addr) (l_1l : Nat) (l_1c : Nat) : W :=
 BIf (decide (((l_1l : Nat) : Int) > 0)) (
  Bind (decide (((l_1l : Nat) : Int) ≤ 30)) fun y2 =>
  k (.bool y2)) (
  k (.bool false))
theorem F6_eq (k : Value → W) (l_1p : Option Addr) (l_1l : Nat) (l_1c : Nat) : compF Go.Proofs.Try.prog Go.Proofs.Try.f6 [] (Go.Proofs.Try.f6.body.getD .skip) [.slice l_1p l_1l l_1c] k = F6 k l_1p l_1l l_1c := by kernel_rfl
theorem F6_calls {l_1p : Option Addr} {l_1l : Nat} {l_1c : Nat} {w : World} {R : Ending → World → Prop} (h : F6 (fun v w => R (.returned v) w) l_1p l_1l l_1c w) : Calls Go.Proofs.Try.prog 6 #[.slice l_1p l_1l l_1c] w R :=
  calls_of_compF noNum follows [] (f := 6) (fn := Go.Proofs.Try.f6) (body := Go.Proofs.Try.f6.body.getD .skip) (args := [.slice l_1p l_1l l_1c]) rfl rfl (Nat.le_of_ble_eq_true rfl) ((congrFun (F6_eq _ l_1p l_1l l_1c) w).mpr h)
theorem F6_call {l_1p : Option Addr} {l_1l : Nat} {l_1c : Nat} {w : World} {g : Fn W (RTy.leaves (.s (.one .bool)))} (h : F6 (fun v => Back (.s (.one .bool)) g (.returned v)) l_1p l_1l l_1c w) : CallT Go.Proofs.Try.prog 6 [.slice l_1p l_1l l_1c] (.s (.one .bool)) g w := F6_calls h

/-! ## fibheap.NewFloatFibHeap -/
def F13 (k : Value → W) : W :=
 New [.pointer none, .int .u64 0] 45 fun n1 =>
 Store1 ⟨n1, 0, none⟩ (.pointer none) <|
 Store1 ⟨n1, 1, none⟩ (.int .u64 0) <|
 LoadT .ptr ⟨n1, 0, none⟩ fun p2 =>
 LoadT (.int .u64) ⟨n1, 1, none⟩ fun x3 =>
 k (.agg #[.pointer p2, .int .u64 x3])
theorem F13_eq (k : Value → W) : compF Go.Proofs.Try.prog Go.Proofs.Try.f13 [] (Go.Proofs.Try.f13.body.getD .skip) [] k = F13 k  := by kernel_rfl
theorem F13_calls {w : World} {R : Ending → World → Prop} (h : F13 (fun v w => R (.returned v) w)  w) : Calls Go.Proofs.Try.prog 13 #[] w R :=
  calls_of_compF noNum follows [] (f := 13) (fn := Go.Proofs.Try.f13) (body := Go.Proofs.Try.f13.body.getD .skip) (args := []) rfl rfl (Nat.le_of_ble_eq_true rfl) ((congrFun (F13_eq _ ) w).mpr h)
theorem F13_call {w : World} {g : Fn W (RTy.leaves (.s (.agg [.ptr, (.int .u64)])))} (h : F13 (fun v => Back (.s (.agg [.ptr, (.int .u64)])) g (.returned v))  w) : CallT Go.Proofs.Try.prog 13 [] (.s (.agg [.ptr, (.int .u64)])) g w := F13_calls h

/-! ## fibheap.FloatingFibonacciHeap).IsEmpty -/
def F16 (k : Value → W) (heap_1 : Option Addr) : W :=
 NN heap_1 fun a2 =>
 LoadT (.int .u64) (a2.add 1) fun x3 =>
 k (.bool (x3 == 0))
theorem F16_eq (k : Value → W) (heap_1 : Option Addr) : compF Go.Proofs.Try.prog Go.Proofs.Try.f16 [] (Go.Proofs.Try.f16.body.getD .skip) [.pointer heap_1] k = F16 k heap_1 := by kernel_rfl
theorem F16_calls {heap_1 : Option Addr} {w : World} {R : Ending → World → Prop} (h : F16 (fun v w => R (.returned v) w) heap_1 w) : Calls Go.Proofs.Try.prog 16 #[.pointer heap_1] w R :=
  calls_of_compF noNum follows [] (f := 16) (fn := Go.Proofs.Try.f16) (body := Go.Proofs.Try.f16.body.getD .skip) (args := [.pointer heap_1]) rfl rfl (Nat.le_of_ble_eq_true rfl) ((congrFun (F16_eq _ heap_1) w).mpr h)
theorem F16_call {heap_1 : Option Addr} {w : World} {g : Fn W (RTy.leaves (.s (.one .bool)))} (h : F16 (fun v => Back (.s (.one .bool)) g (.returned v)) heap_1 w) : CallT Go.Proofs.Try.prog 16 [.pointer heap_1] (.s (.one .bool)) g w := F16_calls h

/-! ## fibheap.newEntry -/
def F25 (k : Value → W) (priority_1 : Nat) : W :=
 New [.int .i64 0, .bool false, .pointer none, .pointer none, .pointer none, .pointer none, .float .f64 0] 69 fun n2 =>
 Store1 ⟨n2, 0, none⟩ (.int .i64 0) <|
 Store1 ⟨n2, 1, none⟩ (.bool false) <|
 Store1 ⟨n2, 4, none⟩ (.pointer none) <|
 Store1 ⟨n2, 5, none⟩ (.pointer none) <|
 Store1 ⟨n2, 2, none⟩ (.pointer (some ⟨n2, 0, none⟩)) <|
 Store1 ⟨n2, 3, none⟩ (.pointer (some ⟨n2, 0, none⟩)) <|
 Store1 ⟨n2, 6, none⟩ (.float .f64 priority_1) <|
 k (.pointer (some ⟨n2, 0, none⟩))
theorem F25_eq (k : Value → W) (priority_1 : Nat) : compF Go.Proofs.Try.prog Go.Proofs.Try.f25 [] (Go.Proofs.Try.f25.body.getD .skip) [.float .f64 priority_1] k = F25 k priority_1 := by kernel_rfl
theorem F25_calls {priority_1 : Nat} {w : World} {R : Ending → World → Prop} (h : F25 (fun v w => R (.returned v) w) priority_1 w) : Calls Go.Proofs.Try.prog 25 #[.float .f64 priority_1] w R :=
  calls_of_compF noNum follows [] (f := 25) (fn := Go.Proofs.Try.f25) (body := Go.Proofs.Try.f25.body.getD .skip) (args := [.float .f64 priority_1]) rfl rfl (Nat.le_of_ble_eq_true rfl) ((congrFun (F25_eq _ priority_1) w).mpr h)
theorem F25_call {priority_1 : Nat} {w : World} {g : Fn W (RTy.leaves (.s (.one .ptr)))} (h : F25 (fun v => Back (.s (.one .ptr)) g (.returned v)) priority_1 w) : CallT Go.Proofs.Try.prog 25 [.float .f64 priority_1] (.s (.one .ptr)) g w := F25_calls h

/-! ## fibheap.mergeLists -/
def F26_J3 (k : Value → W) (one_9 : Option Addr) (two_10 : Option Addr) (b11 : Bool) : W :=
 BIf b11 (
  k (.pointer two_10)) (
  NN one_9 fun a12 =>
  LoadT .ptr (a12.add 2) fun p13 =>
  NN two_10 fun a14 =>
  LoadT .ptr (a14.add 2) fun p15 =>
  NN one_9 fun a16 =>
  Store1 (a16.add 2) (.pointer p15) <|
  NN one_9 fun a17 =>
  LoadT .ptr (a17.add 2) fun p18 =>
  NN p18 fun a19 =>
  Store1 (a19.add 3) (.pointer one_9) <|
  NN two_10 fun a20 =>
  Store1 (a20.add 2) (.pointer p13) <|
  NN two_10 fun a21 =>
  LoadT .ptr (a21.add 2) fun p22 =>
  NN p22 fun a23 =>
  Store1 (a23.add 3) (.pointer two_10) <|
  Drw <|
  NN one_9 fun a24 =>
  LoadT (.float .f64) (a24.add 6) fun x25 =>
  NN two_10 fun a26 =>
  LoadT (.float .f64) (a26.add 6) fun x27 =>
  RawS Go.Proofs.Try.prog (binS .lss 56 (.tmp 58) (.tmp 62) (.float .f64 x25) (.float .f64 x27)) (.s (.one .bool)) fun b28 =>
  BIf b28 (
   k (.pointer one_9)) (
   k (.pointer two_10)))
def F26_J2 (k : Value → W) (one_6 : Option Addr) (two_7 : Option Addr) (b8 : Bool) : W :=
 BIf b8 (
  k (.pointer one_6)) (
  BIf one_6.isNone (
   F26_J3 k one_6 two_7 (!two_7.isNone)) (
   F26_J3 k one_6 two_7 false))
def F26_J1 (k : Value → W) (one_3 : Option Addr) (two_4 : Option Addr) (b5 : Bool) : W :=
 BIf b5 (
  k (.pointer none)) (
  BIf (!one_3.isNone) (
   F26_J2 k one_3 two_4 two_4.isNone) (
   F26_J2 k one_3 two_4 false))
def F26 (k : Value → W) (one_1 : Option Addr) (two_2 : Option Addr) : W :=
 BIf one_1.isNone (
  F26_J1 k one_1 two_2 two_2.isNone) (
  F26_J1 k one_1 two_2 false)
theorem F26_eq (k : Value → W) (one_1 : Option Addr) (two_2 : Option Addr) : compF Go.Proofs.Try.prog Go.Proofs.Try.f26 [] (Go.Proofs.Try.f26.body.getD .skip) [.pointer one_1, .pointer two_2] k = F26 k one_1 two_2 := by kernel_rfl
theorem F26_calls {one_1 : Option Addr} {two_2 : Option Addr} {w : World} {R : Ending → World → Prop} (h : F26 (fun v w => R (.returned v) w) one_1 two_2 w) : Calls Go.Proofs.Try.prog 26 #[.pointer one_1, .pointer two_2] w R :=
  calls_of_compF noNum follows [] (f := 26) (fn := Go.Proofs.Try.f26) (body := Go.Proofs.Try.f26.body.getD .skip) (args := [.pointer one_1, .pointer two_2]) rfl rfl (Nat.le_of_ble_eq_true rfl) ((congrFun (F26_eq _ one_1 two_2) w).mpr h)
theorem F26_call {one_1 : Option Addr} {two_2 : Option Addr} {w : World} {g : Fn W (RTy.leaves (.s (.one .ptr)))} (h : F26 (fun v => Back (.s (.one .ptr)) g (.returned v)) one_1 two_2 w) : CallT Go.Proofs.Try.prog 26 [.pointer one_1, .pointer two_2] (.s (.one .ptr)) g w := F26_calls h

/-! ## fibheap.FloatingFibonacciHeap).Enqueue -/
def F17 (k : Value → W) (heap_1 : Option Addr) (priority_2 : Nat) : W :=
 CallT Go.Proofs.Try.prog 25 [.float .f64 priority_2] (.s (.one .ptr)) fun p3 =>
 NN heap_1 fun a4 =>
 LoadT .ptr a4 fun p5 =>
 CallT Go.Proofs.Try.prog 26 [.pointer p5, .pointer p3] (.s (.one .ptr)) fun p6 =>
 NN heap_1 fun a7 =>
 Store1 a7 (.pointer p6) <|
 NN heap_1 fun a8 =>
 LoadT (.int .u64) (a8.add 1) fun x9 =>
 Store1 (a8.add 1) (.int .u64 (addI .u64 x9 1)) <|
 k (.pointer p3)
theorem F17_eq (k : Value → W) (heap_1 : Option Addr) (priority_2 : Nat) : compF Go.Proofs.Try.prog Go.Proofs.Try.f17 [] (Go.Proofs.Try.f17.body.getD .skip) [.pointer heap_1, .float .f64 priority_2] k = F17 k heap_1 priority_2 := by kernel_rfl
theorem F17_calls {heap_1 : Option Addr} {priority_2 : Nat} {w : World} {R : Ending → World → Prop} (h : F17 (fun v w => R (.returned v) w) heap_1 priority_2 w) : Calls Go.Proofs.Try.prog 17 #[.pointer heap_1, .float .f64 priority_2] w R :=
  calls_of_compF noNum follows [] (f := 17) (fn := Go.Proofs.Try.f17) (body := Go.Proofs.Try.f17.body.getD .skip) (args := [.pointer heap_1, .float .f64 priority_2]) rfl rfl (Nat.le_of_ble_eq_true rfl) ((congrFun (F17_eq _ heap_1 priority_2) w).mpr h)
theorem F17_call {heap_1 : Option Addr} {priority_2 : Nat} {w : World} {g : Fn W (RTy.leaves (.s (.one .ptr)))} (h : F17 (fun v => Back (.s (.one .ptr)) g (.returned v)) heap_1 priority_2 w) : CallT Go.Proofs.Try.prog 17 [.pointer heap_1, .float .f64 priority_2] (.s (.one .ptr)) g w := F17_calls h

/-! ## fibheap.FloatingFibonacciHeap).Min -/
def F19 (k : Value → W) (heap_1 : Option Addr) : W :=
 CallT Go.Proofs.Try.prog 16 [.pointer heap_1] (.s (.one .bool)) fun b2 =>
 BIf b2 (
  k (.tuple #[.pointer none, .iface 70 (.string ⟨#[84, 114, 121, 105, 110, 103, 32, 116, 111, 32, 103, 101, 116, 32, 109, 105, 110, 105, 109, 117, 109, 32, 101, 108, 101, 109, 101, 110, 116, 32, 111, 102, 32, 101, 109, 112, 116, 121, 32, 104, 101, 97, 112]⟩)])) (
  NN heap_1 fun a3 =>
  LoadT .ptr a3 fun p4 =>
  k (.tuple #[.pointer p4, .nilIface]))
theorem F19_eq (k : Value → W) (heap_1 : Option Addr) : compF Go.Proofs.Try.prog Go.Proofs.Try.f19 [] (Go.Proofs.Try.f19.body.getD .skip) [.pointer heap_1] k = F19 k heap_1 := by kernel_rfl
theorem F19_calls {heap_1 : Option Addr} {w : World} {R : Ending → World → Prop} (h : F19 (fun v w => R (.returned v) w) heap_1 w) : Calls Go.Proofs.Try.prog 19 #[.pointer heap_1] w R :=
  calls_of_compF noNum follows [] (f := 19) (fn := Go.Proofs.Try.f19) (body := Go.Proofs.Try.f19.body.getD .skip) (args := [.pointer heap_1]) rfl rfl (Nat.le_of_ble_eq_true rfl) ((congrFun (F19_eq _ heap_1) w).mpr h)
theorem F19_call {heap_1 : Option Addr} {w : World} {g : Fn W (RTy.leaves (.tup [(.one .ptr), (.one .any)]))} (h : F19 (fun v => Back (.tup [(.one .ptr), (.one .any)]) g (.returned v)) heap_1 w) : CallT Go.Proofs.Try.prog 19 [.pointer heap_1] (.tup [(.one .ptr), (.one .any)]) g w := F19_calls h

/-! ## fibheap.FloatingFibonacciHeap).DequeueMin -/
def F20_J3 (k : Value → W) (again51 : Option Addr → Option Addr → Option Addr → Nat → Nat → Option Addr → Nat → Nat → Option Addr → W) (heap_52 : Option Addr) (min_53 : Option Addr) (treeSlice_54p : Option Addr) (treeSlice_54l : Nat) (treeSlice_54c : Nat) (toVisit_55p : Option Addr) (toVisit_55l : Nat) (toVisit_55c : Nat) (curr_56 : Option Addr) : W :=
 RawT Go.Proofs.Try.prog (Instr.buildSlice 49 1 [(0, .pointer curr_56)].toArray) (.s (.one .slice)) fun s57p s57l s57c =>
 NextT Go.Proofs.Try.prog (builtin .append #[49, 49] 49 [false, false].toArray [.slice toVisit_55p toVisit_55l toVisit_55c, .slice s57p s57l s57c].toArray) (.s (.one .slice)) fun s58p s58l s58c =>
 NN curr_56 fun a59 =>
 LoadT .ptr (a59.add 2) fun p60 =>
 again51 heap_52 min_53 treeSlice_54p treeSlice_54l treeSlice_54c s58p s58l s58c p60
def F20_J4 (k : Value → W) (again70 : Option Addr → Option Addr → Option Addr → Nat → Nat → Option Addr → Nat → Nat → Int → Int → W) (again80 : Option Addr → Option Addr → Option Addr → Nat → Nat → Option Addr → Option Addr → Nat → Nat → Int → Int → W) (heap_120 : Option Addr) (min_121 : Option Addr) (treeSlice_122p : Option Addr) (treeSlice_122l : Nat) (treeSlice_122c : Nat) (minT_123 : Option Addr) (maxT_124 : Option Addr) (s125p : Option Addr) (s125l : Nat) (s125c : Nat) (x126 : Int) (x127 : Int) : W :=
 Drw <|
 NN maxT_124 fun a128 =>
 LoadT .ptr (a128.add 2) fun p129 =>
 NN maxT_124 fun a130 =>
 LoadT .ptr (a130.add 3) fun p131 =>
 NN p129 fun a132 =>
 Store1 (a132.add 3) (.pointer p131) <|
 Drw <|
 NN maxT_124 fun a133 =>
 LoadT .ptr (a133.add 3) fun p134 =>
 NN maxT_124 fun a135 =>
 LoadT .ptr (a135.add 2) fun p136 =>
 NN p134 fun a137 =>
 Store1 (a137.add 2) (.pointer p136) <|
 NN maxT_124 fun a138 =>
 Store1 (a138.add 3) (.pointer maxT_124) <|
 NN maxT_124 fun a139 =>
 Store1 (a139.add 2) (.pointer maxT_124) <|
 NN minT_123 fun a140 =>
 LoadT .ptr (a140.add 4) fun p141 =>
 CallT Go.Proofs.Try.prog 26 [.pointer p141, .pointer maxT_124] (.s (.one .ptr)) fun p142 =>
 NN minT_123 fun a143 =>
 Store1 (a143.add 4) (.pointer p142) <|
 NN maxT_124 fun a144 =>
 Store1 (a144.add 5) (.pointer minT_123) <|
 NN maxT_124 fun a145 =>
 Store1 (a145.add 1) (.bool false) <|
 NN minT_123 fun a146 =>
 LoadT (.int .i64) a146 fun x147 =>
 Store1 a146 (.int .i64 (addI .i64 x147 1)) <|
 again80 heap_120 min_121 treeSlice_122p treeSlice_122l treeSlice_122c minT_123 s125p s125l s125c x126 x127
def F20_L5 (k : Value → W) (again70 : Option Addr → Option Addr → Option Addr → Nat → Nat → Option Addr → Nat → Nat → Int → Int → W) (again80 : Option Addr → Option Addr → Option Addr → Nat → Nat → Option Addr → Option Addr → Nat → Nat → Int → Int → W) (again88 : Option Addr → Option Addr → Option Addr → Nat → Nat → Option Addr → Option Addr → Nat → Nat → Int → Int → W) (heap_81 : Option Addr) (min_82 : Option Addr) (treeSlice_83p : Option Addr) (treeSlice_83l : Nat) (treeSlice_83c : Nat) (curr_84 : Option Addr) (s85p : Option Addr) (s85l : Nat) (s85c : Nat) (x86 : Int) (x87 : Int) : W :=
 NN curr_84 fun a89 =>
 LoadT (.int .i64) a89 fun x90 =>
 BIf (decide (x90 ≥ ((treeSlice_83l : Nat) : Int))) (
  RawT Go.Proofs.Try.prog (Instr.buildSlice 49 1 [(0, .pointer none)].toArray) (.s (.one .slice)) fun s91p s91l s91c =>
  NextT Go.Proofs.Try.prog (builtin .append #[49, 49] 49 [false, false].toArray [.slice treeSlice_83p treeSlice_83l treeSlice_83c, .slice s91p s91l s91c].toArray) (.s (.one .slice)) fun s92p s92l s92c =>
  again88 heap_81 min_82 s92p s92l s92c curr_84 s85p s85l s85c x86 x87) (
  NN curr_84 fun a93 =>
  LoadT (.int .i64) a93 fun x94 =>
  NN treeSlice_83p fun a95 =>
  Req (0 ≤ x94 ∧ x94 < ((treeSlice_83l : Nat) : Int)) <|
  LoadT .ptr (a95.add x94.toNat) fun p96 =>
  BIf p96.isNone (
   NN curr_84 fun a97 =>
   LoadT (.int .i64) a97 fun x98 =>
   NN treeSlice_83p fun a99 =>
   Req (0 ≤ x98 ∧ x98 < ((treeSlice_83l : Nat) : Int)) <|
   Store1 (a99.add x98.toNat) (.pointer curr_84) <|
   Drw <|
   NN curr_84 fun a100 =>
   LoadT (.float .f64) (a100.add 6) fun x101 =>
   NN heap_81 fun a102 =>
   LoadT .ptr a102 fun p103 =>
   NN p103 fun a104 =>
   LoadT (.float .f64) (a104.add 6) fun x105 =>
   RawS Go.Proofs.Try.prog (binS .leq 56 (.tmp 265) (.tmp 272) (.float .f64 x101) (.float .f64 x105)) (.s (.one .bool)) fun b106 =>
   Chk1 a102 (.pointer p103) <|
   BIf b106 (
    NN heap_81 fun a107 =>
    Store1 a107 (.pointer curr_84) <|
    again70 heap_81 min_82 treeSlice_83p treeSlice_83l treeSlice_83c s85p s85l s85c x86 (addI .i64 x87 1)) (
    again70 heap_81 min_82 treeSlice_83p treeSlice_83l treeSlice_83c s85p s85l s85c x86 (addI .i64 x87 1))) (
   NN curr_84 fun a108 =>
   LoadT (.int .i64) a108 fun x109 =>
   NN treeSlice_83p fun a110 =>
   Req (0 ≤ x109 ∧ x109 < ((treeSlice_83l : Nat) : Int)) <|
   LoadT .ptr (a110.add x109.toNat) fun p111 =>
   NN curr_84 fun a112 =>
   LoadT (.int .i64) a112 fun x113 =>
   NN treeSlice_83p fun a114 =>
   Req (0 ≤ x113 ∧ x113 < ((treeSlice_83l : Nat) : Int)) <|
   Store1 (a114.add x113.toNat) (.pointer none) <|
   Drw <|
   NN p111 fun a115 =>
   LoadT (.float .f64) (a115.add 6) fun x116 =>
   NN curr_84 fun a117 =>
   LoadT (.float .f64) (a117.add 6) fun x118 =>
   RawS Go.Proofs.Try.prog (binS .lss 56 (.tmp 200) (.tmp 204) (.float .f64 x116) (.float .f64 x118)) (.s (.one .bool)) fun b119 =>
   BIf b119 (
    F20_J4 k again70 again80 heap_81 min_82 treeSlice_83p treeSlice_83l treeSlice_83c p111 curr_84 s85p s85l s85c x86 x87) (
    F20_J4 k again70 again80 heap_81 min_82 treeSlice_83p treeSlice_83l treeSlice_83c curr_84 p111 s85p s85l s85c x86 x87)))
theorem F20_L5_rule {k : Value → W} {again70 : Option Addr → Option Addr → Option Addr → Nat → Nat → Option Addr → Nat → Nat → Int → Int → W} {again80 : Option Addr → Option Addr → Option Addr → Nat → Nat → Option Addr → Option Addr → Nat → Nat → Int → Int → W} (I : Option Addr → Option Addr → Option Addr → Nat → Nat → Option Addr → Option Addr → Nat → Nat → Int → Int → W) (μ : Option Addr → Option Addr → Option Addr → Nat → Nat → Option Addr → Option Addr → Nat → Nat → Int → Int → World → Nat)
  (hr : ∀ (heap_81 : Option Addr) (min_82 : Option Addr) (treeSlice_83p : Option Addr) (treeSlice_83l : Nat) (treeSlice_83c : Nat) (curr_84 : Option Addr) (s85p : Option Addr) (s85l : Nat) (s85c : Nat) (x86 : Int) (x87 : Int) (w : World), I heap_81 min_82 treeSlice_83p treeSlice_83l treeSlice_83c curr_84 s85p s85l s85c x86 x87 w → F20_L5 k again70 again80 (fun heap_81' min_82' treeSlice_83p' treeSlice_83l' treeSlice_83c' curr_84' s85p' s85l' s85c' x86' x87' w' => I heap_81' min_82' treeSlice_83p' treeSlice_83l' treeSlice_83c' curr_84' s85p' s85l' s85c' x86' x87' w' ∧ μ heap_81' min_82' treeSlice_83p' treeSlice_83l' treeSlice_83c' curr_84' s85p' s85l' s85c' x86' x87' w' < μ heap_81 min_82 treeSlice_83p treeSlice_83l treeSlice_83c curr_84 s85p s85l s85c x86 x87 w) heap_81 min_82 treeSlice_83p treeSlice_83l treeSlice_83c curr_84 s85p s85l s85c x86 x87 w)
  {w : World} {heap_81 : Option Addr} {min_82 : Option Addr} {treeSlice_83p : Option Addr} {treeSlice_83l : Nat} {treeSlice_83c : Nat} {curr_84 : Option Addr} {s85p : Option Addr} {s85l : Nat} {s85c : Nat} {x86 : Int} {x87 : Int} (h : I heap_81 min_82 treeSlice_83p treeSlice_83l treeSlice_83c curr_84 s85p s85l s85c x86 x87 w) : Loop [.ptr, .ptr, .slice, .ptr, .slice, (.int .i64), (.int .i64)] (F20_L5 k again70 again80) heap_81 min_82 treeSlice_83p treeSlice_83l treeSlice_83c curr_84 s85p s85l s85c x86 x87 w :=
  Loop_intro (ts := [.ptr, .ptr, .slice, .ptr, .slice, (.int .i64), (.int .i64)]) (s := (heap_81, min_82, (treeSlice_83p, treeSlice_83l, treeSlice_83c), curr_84, (s85p, s85l, s85c), x86, x87, ())) (fun s w => I s.1 s.2.1 s.2.2.1.1 s.2.2.1.2.1 s.2.2.1.2.2 s.2.2.2.1 s.2.2.2.2.1.1 s.2.2.2.2.1.2.1 s.2.2.2.2.1.2.2 s.2.2.2.2.2.1 s.2.2.2.2.2.2.1 w) (fun s w => μ s.1 s.2.1 s.2.2.1.1 s.2.2.1.2.1 s.2.2.1.2.2 s.2.2.2.1 s.2.2.2.2.1.1 s.2.2.2.2.1.2.1 s.2.2.2.2.1.2.2 s.2.2.2.2.2.1 s.2.2.2.2.2.2.1 w) h (fun s w h => hr s.1 s.2.1 s.2.2.1.1 s.2.2.1.2.1 s.2.2.1.2.2 s.2.2.2.1 s.2.2.2.2.1.1 s.2.2.2.2.1.2.1 s.2.2.2.2.1.2.2 s.2.2.2.2.2.1 s.2.2.2.2.2.2.1 w h)
def F20_L4 (k : Value → W) (again70 : Option Addr → Option Addr → Option Addr → Nat → Nat → Option Addr → Nat → Nat → Int → Int → W) (again80 : Option Addr → Option Addr → Option Addr → Nat → Nat → Option Addr → Option Addr → Nat → Nat → Int → Int → W) (heap_73 : Option Addr) (min_74 : Option Addr) (treeSlice_75p : Option Addr) (treeSlice_75l : Nat) (treeSlice_75c : Nat) (curr_76 : Option Addr) (s77p : Option Addr) (s77l : Nat) (s77c : Nat) (x78 : Int) (x79 : Int) : W :=
 Loop [.ptr, .ptr, .slice, .ptr, .slice, (.int .i64), (.int .i64)] (F20_L5 k again70 again80) heap_73 min_74 treeSlice_75p treeSlice_75l treeSlice_75c curr_76 s77p s77l s77c x78 x79
theorem F20_L4_rule {k : Value → W} {again70 : Option Addr → Option Addr → Option Addr → Nat → Nat → Option Addr → Nat → Nat → Int → Int → W} (I : Option Addr → Option Addr → Option Addr → Nat → Nat → Option Addr → Option Addr → Nat → Nat → Int → Int → W) (μ : Option Addr → Option Addr → Option Addr → Nat → Nat → Option Addr → Option Addr → Nat → Nat → Int → Int → World → Nat)
  (hr : ∀ (heap_73 : Option Addr) (min_74 : Option Addr) (treeSlice_75p : Option Addr) (treeSlice_75l : Nat) (treeSlice_75c : Nat) (curr_76 : Option Addr) (s77p : Option Addr) (s77l : Nat) (s77c : Nat) (x78 : Int) (x79 : Int) (w : World), I heap_73 min_74 treeSlice_75p treeSlice_75l treeSlice_75c curr_76 s77p s77l s77c x78 x79 w → F20_L4 k again70 (fun heap_73' min_74' treeSlice_75p' treeSlice_75l' treeSlice_75c' curr_76' s77p' s77l' s77c' x78' x79' w' => I heap_73' min_74' treeSlice_75p' treeSlice_75l' treeSlice_75c' curr_76' s77p' s77l' s77c' x78' x79' w' ∧ μ heap_73' min_74' treeSlice_75p' treeSlice_75l' treeSlice_75c' curr_76' s77p' s77l' s77c' x78' x79' w' < μ heap_73 min_74 treeSlice_75p treeSlice_75l treeSlice_75c curr_76 s77p s77l s77c x78 x79 w) heap_73 min_74 treeSlice_75p treeSlice_75l treeSlice_75c curr_76 s77p s77l s77c x78 x79 w)
  {w : World} {heap_73 : Option Addr} {min_74 : Option Addr} {treeSlice_75p : Option Addr} {treeSlice_75l : Nat} {treeSlice_75c : Nat} {curr_76 : Option Addr} {s77p : Option Addr} {s77l : Nat} {s77c : Nat} {x78 : Int} {x79 : Int} (h : I heap_73 min_74 treeSlice_75p treeSlice_75l treeSlice_75c curr_76 s77p s77l s77c x78 x79 w) : Loop [.ptr, .ptr, .slice, .ptr, .slice, (.int .i64), (.int .i64)] (F20_L4 k again70) heap_73 min_74 treeSlice_75p treeSlice_75l treeSlice_75c curr_76 s77p s77l s77c x78 x79 w :=
  Loop_intro (ts := [.ptr, .ptr, .slice, .ptr, .slice, (.int .i64), (.int .i64)]) (s := (heap_73, min_74, (treeSlice_75p, treeSlice_75l, treeSlice_75c), curr_76, (s77p, s77l, s77c), x78, x79, ())) (fun s w => I s.1 s.2.1 s.2.2.1.1 s.2.2.1.2.1 s.2.2.1.2.2 s.2.2.2.1 s.2.2.2.2.1.1 s.2.2.2.2.1.2.1 s.2.2.2.2.1.2.2 s.2.2.2.2.2.1 s.2.2.2.2.2.2.1 w) (fun s w => μ s.1 s.2.1 s.2.2.1.1 s.2.2.1.2.1 s.2.2.1.2.2 s.2.2.2.1 s.2.2.2.2.1.1 s.2.2.2.2.1.2.1 s.2.2.2.2.1.2.2 s.2.2.2.2.2.1 s.2.2.2.2.2.2.1 w) h (fun s w h => hr s.1 s.2.1 s.2.2.1.1 s.2.2.1.2.1 s.2.2.1.2.2 s.2.2.2.1 s.2.2.2.2.1.1 s.2.2.2.2.1.2.1 s.2.2.2.2.1.2.2 s.2.2.2.2.2.1 s.2.2.2.2.2.2.1 w h)
def F20_L3 (k : Value → W) (again70 : Option Addr → Option Addr → Option Addr → Nat → Nat → Option Addr → Nat → Nat → Int → Int → W) (heap_64 : Option Addr) (min_65 : Option Addr) (treeSlice_66p : Option Addr) (treeSlice_66l : Nat) (treeSlice_66c : Nat) (s67p : Option Addr) (s67l : Nat) (s67c : Nat) (x68 : Int) (x69 : Int) : W :=
 BIf (decide (x69 < x68)) (
  NN s67p fun a71 =>
  Req (0 ≤ x69 ∧ x69 < ((s67l : Nat) : Int)) <|
  LoadT .ptr (a71.add x69.toNat) fun p72 =>
  Loop [.ptr, .ptr, .slice, .ptr, .slice, (.int .i64), (.int .i64)] (F20_L4 k again70) heap_64 min_65 treeSlice_66p treeSlice_66l treeSlice_66c p72 s67p s67l s67c x68 x69) (
  k (.tuple #[.pointer min_65, .nilIface]))
theorem F20_L3_rule {k : Value → W} (I : Option Addr → Option Addr → Option Addr → Nat → Nat → Option Addr → Nat → Nat → Int → Int → W) (μ : Option Addr → Option Addr → Option Addr → Nat → Nat → Option Addr → Nat → Nat → Int → Int → World → Nat)
  (hr : ∀ (heap_64 : Option Addr) (min_65 : Option Addr) (treeSlice_66p : Option Addr) (treeSlice_66l : Nat) (treeSlice_66c : Nat) (s67p : Option Addr) (s67l : Nat) (s67c : Nat) (x68 : Int) (x69 : Int) (w : World), I heap_64 min_65 treeSlice_66p treeSlice_66l treeSlice_66c s67p s67l s67c x68 x69 w → F20_L3 k (fun heap_64' min_65' treeSlice_66p' treeSlice_66l' treeSlice_66c' s67p' s67l' s67c' x68' x69' w' => I heap_64' min_65' treeSlice_66p' treeSlice_66l' treeSlice_66c' s67p' s67l' s67c' x68' x69' w' ∧ μ heap_64' min_65' treeSlice_66p' treeSlice_66l' treeSlice_66c' s67p' s67l' s67c' x68' x69' w' < μ heap_64 min_65 treeSlice_66p treeSlice_66l treeSlice_66c s67p s67l s67c x68 x69 w) heap_64 min_65 treeSlice_66p treeSlice_66l treeSlice_66c s67p s67l s67c x68 x69 w)
  {w : World} {heap_64 : Option Addr} {min_65 : Option Addr} {treeSlice_66p : Option Addr} {treeSlice_66l : Nat} {treeSlice_66c : Nat} {s67p : Option Addr} {s67l : Nat} {s67c : Nat} {x68 : Int} {x69 : Int} (h : I heap_64 min_65 treeSlice_66p treeSlice_66l treeSlice_66c s67p s67l s67c x68 x69 w) : Loop [.ptr, .ptr, .slice, .slice, (.int .i64), (.int .i64)] (F20_L3 k) heap_64 min_65 treeSlice_66p treeSlice_66l treeSlice_66c s67p s67l s67c x68 x69 w :=
  Loop_intro (ts := [.ptr, .ptr, .slice, .slice, (.int .i64), (.int .i64)]) (s := (heap_64, min_65, (treeSlice_66p, treeSlice_66l, treeSlice_66c), (s67p, s67l, s67c), x68, x69, ())) (fun s w => I s.1 s.2.1 s.2.2.1.1 s.2.2.1.2.1 s.2.2.1.2.2 s.2.2.2.1.1 s.2.2.2.1.2.1 s.2.2.2.1.2.2 s.2.2.2.2.1 s.2.2.2.2.2.1 w) (fun s w => μ s.1 s.2.1 s.2.2.1.1 s.2.2.1.2.1 s.2.2.1.2.2 s.2.2.2.1.1 s.2.2.2.1.2.1 s.2.2.2.1.2.2 s.2.2.2.2.1 s.2.2.2.2.2.1 w) h (fun s w h => hr s.1 s.2.1 s.2.2.1.1 s.2.2.1.2.1 s.2.2.1.2.2 s.2.2.2.1.1 s.2.2.2.1.2.1 s.2.2.2.1.2.2 s.2.2.2.2.1 s.2.2.2.2.2.1 w h)
def F20_L2 (k : Value → W) (again51 : Option Addr → Option Addr → Option Addr → Nat → Nat → Option Addr → Nat → Nat → Option Addr → W) (heap_46 : Option Addr) (min_47 : Option Addr) (treeSlice_48p : Option Addr) (treeSlice_48l : Nat) (treeSlice_48c : Nat) (toVisit_49p : Option Addr) (toVisit_49l : Nat) (toVisit_49c : Nat) (curr_50 : Option Addr) : W :=
 BIf (((toVisit_49l : Nat) : Int) == 0) (
  F20_J3 k again51 heap_46 min_47 treeSlice_48p treeSlice_48l treeSlice_48c toVisit_49p toVisit_49l toVisit_49c curr_50) (
  NN toVisit_49p fun a61 =>
  Req (0 ≤ (0 : Int) ∧ (0 : Int) < ((toVisit_49l : Nat) : Int)) <|
  LoadT .ptr (a61.add ((0 : Int).toNat)) fun p62 =>
  RawS Go.Proofs.Try.prog (binS .neq 42 (.tmp 141) (.tmp 142) (.pointer p62) (.pointer curr_50)) (.s (.one .bool)) fun b63 =>
  BIf b63 (
   F20_J3 k again51 heap_46 min_47 treeSlice_48p treeSlice_48l treeSlice_48c toVisit_49p toVisit_49l toVisit_49c curr_50) (
   Loop [.ptr, .ptr, .slice, .slice, (.int .i64), (.int .i64)] (F20_L3 k) heap_46 min_47 treeSlice_48p treeSlice_48l treeSlice_48c toVisit_49p toVisit_49l toVisit_49c ((toVisit_49l : Nat) : Int) 0))
theorem F20_L2_rule {k : Value → W} (I : Option Addr → Option Addr → Option Addr → Nat → Nat → Option Addr → Nat → Nat → Option Addr → W) (μ : Option Addr → Option Addr → Option Addr → Nat → Nat → Option Addr → Nat → Nat → Option Addr → World → Nat)
  (hr : ∀ (heap_46 : Option Addr) (min_47 : Option Addr) (treeSlice_48p : Option Addr) (treeSlice_48l : Nat) (treeSlice_48c : Nat) (toVisit_49p : Option Addr) (toVisit_49l : Nat) (toVisit_49c : Nat) (curr_50 : Option Addr) (w : World), I heap_46 min_47 treeSlice_48p treeSlice_48l treeSlice_48c toVisit_49p toVisit_49l toVisit_49c curr_50 w → F20_L2 k (fun heap_46' min_47' treeSlice_48p' treeSlice_48l' treeSlice_48c' toVisit_49p' toVisit_49l' toVisit_49c' curr_50' w' => I heap_46' min_47' treeSlice_48p' treeSlice_48l' treeSlice_48c' toVisit_49p' toVisit_49l' toVisit_49c' curr_50' w' ∧ μ heap_46' min_47' treeSlice_48p' treeSlice_48l' treeSlice_48c' toVisit_49p' toVisit_49l' toVisit_49c' curr_50' w' < μ heap_46 min_47 treeSlice_48p treeSlice_48l treeSlice_48c toVisit_49p toVisit_49l toVisit_49c curr_50 w) heap_46 min_47 treeSlice_48p treeSlice_48l treeSlice_48c toVisit_49p toVisit_49l toVisit_49c curr_50 w)
  {w : World} {heap_46 : Option Addr} {min_47 : Option Addr} {treeSlice_48p : Option Addr} {treeSlice_48l : Nat} {treeSlice_48c : Nat} {toVisit_49p : Option Addr} {toVisit_49l : Nat} {toVisit_49c : Nat} {curr_50 : Option Addr} (h : I heap_46 min_47 treeSlice_48p treeSlice_48l treeSlice_48c toVisit_49p toVisit_49l toVisit_49c curr_50 w) : Loop [.ptr, .ptr, .slice, .slice, .ptr] (F20_L2 k) heap_46 min_47 treeSlice_48p treeSlice_48l treeSlice_48c toVisit_49p toVisit_49l toVisit_49c curr_50 w :=
  Loop_intro (ts := [.ptr, .ptr, .slice, .slice, .ptr]) (s := (heap_46, min_47, (treeSlice_48p, treeSlice_48l, treeSlice_48c), (toVisit_49p, toVisit_49l, toVisit_49c), curr_50, ())) (fun s w => I s.1 s.2.1 s.2.2.1.1 s.2.2.1.2.1 s.2.2.1.2.2 s.2.2.2.1.1 s.2.2.2.1.2.1 s.2.2.2.1.2.2 s.2.2.2.2.1 w) (fun s w => μ s.1 s.2.1 s.2.2.1.1 s.2.2.1.2.1 s.2.2.1.2.2 s.2.2.2.1.1 s.2.2.2.1.2.1 s.2.2.2.1.2.2 s.2.2.2.2.1 w) h (fun s w h => hr s.1 s.2.1 s.2.2.1.1 s.2.2.1.2.1 s.2.2.1.2.2 s.2.2.2.1.1 s.2.2.2.1.2.1 s.2.2.2.1.2.2 s.2.2.2.2.1 w h)
def F20_J2 (k : Value → W) (heap_28 : Option Addr) (min_29 : Option Addr) : W :=
 Drw <|
 NN heap_28 fun a30 =>
 LoadT .ptr a30 fun p31 =>
 NN min_29 fun a32 =>
 LoadT .ptr (a32.add 4) fun p33 =>
 CallT Go.Proofs.Try.prog 26 [.pointer p31, .pointer p33] (.s (.one .ptr)) fun p34 =>
 NN heap_28 fun a35 =>
 Store1 a35 (.pointer p34) <|
 NN heap_28 fun a36 =>
 LoadT .ptr a36 fun p37 =>
 BIf p37.isNone (
  k (.tuple #[.pointer min_29, .nilIface])) (
  NN heap_28 fun a38 =>
  LoadT (.int .u64) (a38.add 1) fun x39 =>
  RawT Go.Proofs.Try.prog (Instr.makeSlice 49 (.int .i64 0) (.int .u64 x39)) (.s (.one .slice)) fun s40p s40l s40c =>
  NN heap_28 fun a41 =>
  LoadT (.int .u64) (a41.add 1) fun x42 =>
  RawT Go.Proofs.Try.prog (Instr.makeSlice 49 (.int .i64 0) (.int .u64 x42)) (.s (.one .slice)) fun s43p s43l s43c =>
  NN heap_28 fun a44 =>
  LoadT .ptr a44 fun p45 =>
  Loop [.ptr, .ptr, .slice, .slice, .ptr] (F20_L2 k) heap_28 min_29 s40p s40l s40c s43p s43l s43c p45)
def F20_L1 (k : Value → W) (again21 : Option Addr → Option Addr → Option Addr → Bool → W) (heap_17 : Option Addr) (min_18 : Option Addr) (curr_19 : Option Addr) (ok_20 : Bool) : W :=
 BIf ok_20 (
  NN curr_19 fun a22 =>
  Store1 (a22.add 5) (.pointer none) <|
  NN curr_19 fun a23 =>
  LoadT .ptr (a23.add 2) fun p24 =>
  NN min_18 fun a25 =>
  LoadT .ptr (a25.add 4) fun p26 =>
  RawS Go.Proofs.Try.prog (binS .neq 42 (.tmp 90) (.tmp 94) (.pointer p24) (.pointer p26)) (.s (.one .bool)) fun b27 =>
  again21 heap_17 min_18 p24 b27) (
  F20_J2 k heap_17 min_18)
theorem F20_L1_rule {k : Value → W} (I : Option Addr → Option Addr → Option Addr → Bool → W) (μ : Option Addr → Option Addr → Option Addr → Bool → World → Nat)
  (hr : ∀ (heap_17 : Option Addr) (min_18 : Option Addr) (curr_19 : Option Addr) (ok_20 : Bool) (w : World), I heap_17 min_18 curr_19 ok_20 w → F20_L1 k (fun heap_17' min_18' curr_19' ok_20' w' => I heap_17' min_18' curr_19' ok_20' w' ∧ μ heap_17' min_18' curr_19' ok_20' w' < μ heap_17 min_18 curr_19 ok_20 w) heap_17 min_18 curr_19 ok_20 w)
  {w : World} {heap_17 : Option Addr} {min_18 : Option Addr} {curr_19 : Option Addr} {ok_20 : Bool} (h : I heap_17 min_18 curr_19 ok_20 w) : Loop [.ptr, .ptr, .ptr, .bool] (F20_L1 k) heap_17 min_18 curr_19 ok_20 w :=
  Loop_intro (ts := [.ptr, .ptr, .ptr, .bool]) (s := (heap_17, min_18, curr_19, ok_20, ())) (fun s w => I s.1 s.2.1 s.2.2.1 s.2.2.2.1 w) (fun s w => μ s.1 s.2.1 s.2.2.1 s.2.2.2.1 w) h (fun s w h => hr s.1 s.2.1 s.2.2.1 s.2.2.2.1 w h)
def F20_J1 (k : Value → W) (heap_11 : Option Addr) (min_12 : Option Addr) : W :=
 NN min_12 fun a13 =>
 LoadT .ptr (a13.add 4) fun p14 =>
 BIf (!p14.isNone) (
  NN min_12 fun a15 =>
  LoadT .ptr (a15.add 4) fun p16 =>
  Loop [.ptr, .ptr, .ptr, .bool] (F20_L1 k) heap_11 min_12 p16 true) (
  F20_J2 k heap_11 min_12)
def F20 (k : Value → W) (heap_1 : Option Addr) : W :=
 CallT Go.Proofs.Try.prog 16 [.pointer heap_1] (.s (.one .bool)) fun b2 =>
 BIf b2 (
  k (.tuple #[.pointer none, .iface 70 (.string ⟨#[67, 97, 110, 110, 111, 116, 32, 100, 101, 113, 117, 101, 117, 101, 32, 109, 105, 110, 105, 109, 117, 109, 32, 111, 102, 32, 101, 109, 112, 116, 121, 32, 104, 101, 97, 112]⟩)])) (
  NN heap_1 fun a3 =>
  LoadT (.int .u64) (a3.add 1) fun x4 =>
  Store1 (a3.add 1) (.int .u64 (subI .u64 x4 1)) <|
  NN heap_1 fun a5 =>
  LoadT .ptr a5 fun p6 =>
  NN p6 fun a7 =>
  LoadT .ptr (a7.add 2) fun p8 =>
  RawS Go.Proofs.Try.prog (binS .eql 42 (.tmp 32) (.tmp 33) (.pointer p8) (.pointer p6)) (.s (.one .bool)) fun b9 =>
  BIf b9 (
   NN heap_1 fun a10 =>
   Store1 a10 (.pointer none) <|
   F20_J1 k heap_1 p6) (
   Drw <|
   NN heap_1 fun a148 =>
   LoadT .ptr a148 fun p149 =>
   NN p149 fun a150 =>
   LoadT .ptr (a150.add 3) fun p151 =>
   NN heap_1 fun a152 =>
   LoadT .ptr a152 fun p153 =>
   NN p153 fun a154 =>
   LoadT .ptr (a154.add 2) fun p155 =>
   NN p151 fun a156 =>
   Store1 (a156.add 2) (.pointer p155) <|
   Drw <|
   NN heap_1 fun a157 =>
   LoadT .ptr a157 fun p158 =>
   NN p158 fun a159 =>
   LoadT .ptr (a159.add 2) fun p160 =>
   NN heap_1 fun a161 =>
   LoadT .ptr a161 fun p162 =>
   NN p162 fun a163 =>
   LoadT .ptr (a163.add 3) fun p164 =>
   NN p160 fun a165 =>
   Store1 (a165.add 3) (.pointer p164) <|
   NN heap_1 fun a166 =>
   LoadT .ptr a166 fun p167 =>
   NN p167 fun a168 =>
   LoadT .ptr (a168.add 2) fun p169 =>
   NN heap_1 fun a170 =>
   Store1 a170 (.pointer p169) <|
   F20_J1 k heap_1 p6))
theorem F20_eq (k : Value → W) (heap_1 : Option Addr) : compF Go.Proofs.Try.prog Go.Proofs.Try.f20 [(13, [(0, .ptr), (4, .ptr), (5, .ptr), (6, .bool)]), (23, [(0, .ptr), (4, .ptr), (7, .slice), (8, .slice), (9, .ptr)]), (27, [(0, .ptr), (4, .ptr), (7, .slice), (153, .slice), (154, (.int .i64)), (155, (.int .i64))]), (29, [(0, .ptr), (4, .ptr), (7, .slice), (11, .ptr), (153, .slice), (154, (.int .i64)), (155, (.int .i64))])] (Go.Proofs.Try.f20.body.getD .skip) [.pointer heap_1] k = F20 k heap_1 := by kernel_rfl
theorem F20_calls {heap_1 : Option Addr} {w : World} {R : Ending → World → Prop} (h : F20 (fun v w => R (.returned v) w) heap_1 w) : Calls Go.Proofs.Try.prog 20 #[.pointer heap_1] w R :=
  calls_of_compF noNum follows [(13, [(0, .ptr), (4, .ptr), (5, .ptr), (6, .bool)]), (23, [(0, .ptr), (4, .ptr), (7, .slice), (8, .slice), (9, .ptr)]), (27, [(0, .ptr), (4, .ptr), (7, .slice), (153, .slice), (154, (.int .i64)), (155, (.int .i64))]), (29, [(0, .ptr), (4, .ptr), (7, .slice), (11, .ptr), (153, .slice), (154, (.int .i64)), (155, (.int .i64))])] (f := 20) (fn := Go.Proofs.Try.f20) (body := Go.Proofs.Try.f20.body.getD .skip) (args := [.pointer heap_1]) rfl rfl (Nat.le_of_ble_eq_true rfl) ((congrFun (F20_eq _ heap_1) w).mpr h)
theorem F20_call {heap_1 : Option Addr} {w : World} {g : Fn W (RTy.leaves (.tup [(.one .ptr), (.one .any)]))} (h : F20 (fun v => Back (.tup [(.one .ptr), (.one .any)]) g (.returned v)) heap_1 w) : CallT Go.Proofs.Try.prog 20 [.pointer heap_1] (.tup [(.one .ptr), (.one .any)]) g w := F20_calls h

/-! ## fibheap.decreaseKeyUnchecked -/
def F28_J2 (k : Value → W) (heap_17 : Option Addr) (node_18 : Option Addr) : W :=
 Drw <|
 NN node_18 fun a19 =>
 LoadT (.float .f64) (a19.add 6) fun x20 =>
 NN heap_17 fun a21 =>
 LoadT .ptr a21 fun p22 =>
 NN p22 fun a23 =>
 LoadT (.float .f64) (a23.add 6) fun x24 =>
 RawS Go.Proofs.Try.prog (binS .leq 56 (.tmp 35) (.tmp 42) (.float .f64 x20) (.float .f64 x24)) (.s (.one .bool)) fun b25 =>
 Chk1 a21 (.pointer p22) <|
 BIf b25 (
  NN heap_17 fun a26 =>
  Store1 a26 (.pointer node_18) <|
  k (.tuple #[])) (
  k (.tuple #[]))
def F28_J1 (k : Value → W) (heap_14 : Option Addr) (node_15 : Option Addr) (b16 : Bool) : W :=
 BIf b16 (
  CallT Go.Proofs.Try.prog 29 [.pointer heap_14, .pointer node_15] (.tup []) <|
  F28_J2 k heap_14 node_15) (
  F28_J2 k heap_14 node_15)
def F28 (k : Value → W) (heap_1 : Option Addr) (node_2 : Option Addr) (priority_3 : Nat) : W :=
 NN node_2 fun a4 =>
 Store1 (a4.add 6) (.float .f64 priority_3) <|
 Drw <|
 NN node_2 fun a5 =>
 LoadT .ptr (a5.add 5) fun p6 =>
 BIf (!p6.isNone) (
  NN node_2 fun a7 =>
  LoadT (.float .f64) (a7.add 6) fun x8 =>
  NN node_2 fun a9 =>
  LoadT .ptr (a9.add 5) fun p10 =>
  NN p10 fun a11 =>
  LoadT (.float .f64) (a11.add 6) fun x12 =>
  RawS Go.Proofs.Try.prog (binS .leq 56 (.tmp 19) (.tmp 26) (.float .f64 x8) (.float .f64 x12)) (.s (.one .bool)) fun b13 =>
  Chk1 (a9.add 5) (.pointer p10) <|
  Chk1 (a5.add 5) (.pointer p6) <|
  F28_J1 k heap_1 node_2 b13) (
  F28_J1 k heap_1 node_2 false)
theorem F28_eq (k : Value → W) (heap_1 : Option Addr) (node_2 : Option Addr) (priority_3 : Nat) : compF Go.Proofs.Try.prog Go.Proofs.Try.f28 [] (Go.Proofs.Try.f28.body.getD .skip) [.pointer heap_1, .pointer node_2, .float .f64 priority_3] k = F28 k heap_1 node_2 priority_3 := by kernel_rfl
theorem F28_calls {heap_1 : Option Addr} {node_2 : Option Addr} {priority_3 : Nat} {w : World} {R : Ending → World → Prop} (h : F28 (fun v w => R (.returned v) w) heap_1 node_2 priority_3 w) : Calls Go.Proofs.Try.prog 28 #[.pointer heap_1, .pointer node_2, .float .f64 priority_3] w R :=
  calls_of_compF noNum follows [] (f := 28) (fn := Go.Proofs.Try.f28) (body := Go.Proofs.Try.f28.body.getD .skip) (args := [.pointer heap_1, .pointer node_2, .float .f64 priority_3]) rfl rfl (Nat.le_of_ble_eq_true rfl) ((congrFun (F28_eq _ heap_1 node_2 priority_3) w).mpr h)
theorem F28_call {heap_1 : Option Addr} {node_2 : Option Addr} {priority_3 : Nat} {w : World} {g : Fn W (RTy.leaves (.tup []))} (h : F28 (fun v => Back (.tup []) g (.returned v)) heap_1 node_2 priority_3 w) : CallT Go.Proofs.Try.prog 28 [.pointer heap_1, .pointer node_2, .float .f64 priority_3] (.tup []) g w := F28_calls h

/-! ## fibheap.FloatingFibonacciHeap).DecreaseKey -/
def F22 (k : Value → W) (heap_1 : Option Addr) (node_2 : Option Addr) (newPriority_3 : Nat) : W :=
 CallT Go.Proofs.Try.prog 16 [.pointer heap_1] (.s (.one .bool)) fun b4 =>
 BIf b4 (
  k (.tuple #[.pointer none, .iface 70 (.string ⟨#[67, 97, 110, 110, 111, 116, 32, 100, 101, 99, 114, 101, 97, 115, 101, 32, 107, 101, 121, 32, 105, 110, 32, 97, 110, 32, 101, 109, 112, 116, 121, 32, 104, 101, 97, 112]⟩)])) (
  BIf node_2.isNone (
   k (.tuple #[.pointer none, .iface 71 (.string ⟨#[67, 97, 110, 110, 111, 116, 32, 100, 101, 99, 114, 101, 97, 115, 101, 32, 107, 101, 121, 58, 32, 103, 105, 118, 101, 110, 32, 110, 111, 100, 101, 32, 105, 115, 32, 110, 105, 108]⟩)])) (
   NN node_2 fun a5 =>
   LoadT (.float .f64) (a5.add 6) fun x6 =>
   RawS Go.Proofs.Try.prog (binS .geq 56 (.tmp 14) (.tmp 18) (.float .f64 newPriority_3) (.float .f64 x6)) (.s (.one .bool)) fun b7 =>
   BIf b7 (
    CallT Go.Proofs.Try.prog 27 [.string ⟨#[84, 104, 101, 32, 103, 105, 118, 101, 110, 32, 110, 101, 119, 32, 112, 114, 105, 111, 114, 105, 116, 121, 32, 105, 115, 32, 108, 97, 114, 103, 101, 114, 32, 116, 104, 97, 110, 32, 111, 114, 32, 101, 113, 117, 97, 108, 32, 116, 111, 32, 116, 104, 101, 32, 111, 108, 100]⟩] (.s (.one .any)) fun v8 =>
    k (.tuple #[.pointer none, v8])) (
    CallT Go.Proofs.Try.prog 28 [.pointer heap_1, .pointer node_2, .float .f64 newPriority_3] (.tup []) <|
    k (.tuple #[.pointer node_2, .nilIface]))))
theorem F22_eq (k : Value → W) (heap_1 : Option Addr) (node_2 : Option Addr) (newPriority_3 : Nat) : compF Go.Proofs.Try.prog Go.Proofs.Try.f22 [] (Go.Proofs.Try.f22.body.getD .skip) [.pointer heap_1, .pointer node_2, .float .f64 newPriority_3] k = F22 k heap_1 node_2 newPriority_3 := by kernel_rfl
theorem F22_calls {heap_1 : Option Addr} {node_2 : Option Addr} {newPriority_3 : Nat} {w : World} {R : Ending → World → Prop} (h : F22 (fun v w => R (.returned v) w) heap_1 node_2 newPriority_3 w) : Calls Go.Proofs.Try.prog 22 #[.pointer heap_1, .pointer node_2, .float .f64 newPriority_3] w R :=
  calls_of_compF noNum follows [] (f := 22) (fn := Go.Proofs.Try.f22) (body := Go.Proofs.Try.f22.body.getD .skip) (args := [.pointer heap_1, .pointer node_2, .float .f64 newPriority_3]) rfl rfl (Nat.le_of_ble_eq_true rfl) ((congrFun (F22_eq _ heap_1 node_2 newPriority_3) w).mpr h)
theorem F22_call {heap_1 : Option Addr} {node_2 : Option Addr} {newPriority_3 : Nat} {w : World} {g : Fn W (RTy.leaves (.tup [(.one .ptr), (.one .any)]))} (h : F22 (fun v => Back (.tup [(.one .ptr), (.one .any)]) g (.returned v)) heap_1 node_2 newPriority_3 w) : CallT Go.Proofs.Try.prog 22 [.pointer heap_1, .pointer node_2, .float .f64 newPriority_3] (.tup [(.one .ptr), (.one .any)]) g w := F22_calls h

/-! ## fibheap.FloatingFibonacciHeap).Size -/
def F15 (k : Value → W) (heap_1 : Option Addr) : W :=
 NN heap_1 fun a2 =>
 LoadT (.int .u64) (a2.add 1) fun x3 =>
 k (.int .u64 x3)
theorem F15_eq (k : Value → W) (heap_1 : Option Addr) : compF Go.Proofs.Try.prog Go.Proofs.Try.f15 [] (Go.Proofs.Try.f15.body.getD .skip) [.pointer heap_1] k = F15 k heap_1 := by kernel_rfl
theorem F15_calls {heap_1 : Option Addr} {w : World} {R : Ending → World → Prop} (h : F15 (fun v w => R (.returned v) w) heap_1 w) : Calls Go.Proofs.Try.prog 15 #[.pointer heap_1] w R :=
  calls_of_compF noNum follows [] (f := 15) (fn := Go.Proofs.Try.f15) (body := Go.Proofs.Try.f15.body.getD .skip) (args := [.pointer heap_1]) rfl rfl (Nat.le_of_ble_eq_true rfl) ((congrFun (F15_eq _ heap_1) w).mpr h)
theorem F15_call {heap_1 : Option Addr} {w : World} {g : Fn W (RTy.leaves (.s (.one (.int .u64))))} (h : F15 (fun v => Back (.s (.one (.int .u64))) g (.returned v)) heap_1 w) : CallT Go.Proofs.Try.prog 15 [.pointer heap_1] (.s (.one (.int .u64))) g w := F15_calls h

/-! ## fibheap.cutNode -/
def F29_J3 (k : Value → W) (node_52 : Option Addr) : W :=
 NN node_52 fun a53 =>
 Store1 (a53.add 5) (.pointer none) <|
 k (.tuple #[])
def F29_J2 (k : Value → W) (heap_34 : Option Addr) (node_35 : Option Addr) : W :=
 NN node_35 fun a36 =>
 LoadT .ptr (a36.add 5) fun p37 =>
 NN p37 fun a38 =>
 LoadT (.int .i64) a38 fun x39 =>
 Store1 a38 (.int .i64 (subI .i64 x39 1)) <|
 NN node_35 fun a40 =>
 Store1 (a40.add 3) (.pointer node_35) <|
 NN node_35 fun a41 =>
 Store1 (a41.add 2) (.pointer node_35) <|
 NN heap_34 fun a42 =>
 LoadT .ptr a42 fun p43 =>
 CallT Go.Proofs.Try.prog 26 [.pointer p43, .pointer node_35] (.s (.one .ptr)) fun p44 =>
 NN heap_34 fun a45 =>
 Store1 a45 (.pointer p44) <|
 NN node_35 fun a46 =>
 LoadT .ptr (a46.add 5) fun p47 =>
 NN p47 fun a48 =>
 LoadT .bool (a48.add 1) fun b49 =>
 BIf b49 (
  NN node_35 fun a50 =>
  LoadT .ptr (a50.add 5) fun p51 =>
  CallT Go.Proofs.Try.prog 29 [.pointer heap_34, .pointer p51] (.tup []) <|
  F29_J3 k node_35) (
  NN node_35 fun a54 =>
  LoadT .ptr (a54.add 5) fun p55 =>
  NN p55 fun a56 =>
  Store1 (a56.add 1) (.bool true) <|
  F29_J3 k node_35)
def F29_J1 (k : Value → W) (heap_19 : Option Addr) (node_20 : Option Addr) : W :=
 NN node_20 fun a21 =>
 LoadT .ptr (a21.add 5) fun p22 =>
 NN p22 fun a23 =>
 LoadT .ptr (a23.add 4) fun p24 =>
 RawS Go.Proofs.Try.prog (binS .eql 42 (.tmp 44) (.tmp 45) (.pointer p24) (.pointer node_20)) (.s (.one .bool)) fun b25 =>
 BIf b25 (
  NN node_20 fun a26 =>
  LoadT .ptr (a26.add 2) fun p27 =>
  RawS Go.Proofs.Try.prog (binS .neq 42 (.tmp 50) (.tmp 51) (.pointer p27) (.pointer node_20)) (.s (.one .bool)) fun b28 =>
  BIf b28 (
   Drw <|
   NN node_20 fun a29 =>
   LoadT .ptr (a29.add 5) fun p30 =>
   NN node_20 fun a31 =>
   LoadT .ptr (a31.add 2) fun p32 =>
   NN p30 fun a33 =>
   Store1 (a33.add 4) (.pointer p32) <|
   F29_J2 k heap_19 node_20) (
   NN node_20 fun a57 =>
   LoadT .ptr (a57.add 5) fun p58 =>
   NN p58 fun a59 =>
   Store1 (a59.add 4) (.pointer none) <|
   F29_J2 k heap_19 node_20)) (
  F29_J2 k heap_19 node_20)
def F29 (k : Value → W) (heap_1 : Option Addr) (node_2 : Option Addr) : W :=
 NN node_2 fun a3 =>
 Store1 (a3.add 1) (.bool false) <|
 NN node_2 fun a4 =>
 LoadT .ptr (a4.add 5) fun p5 =>
 BIf p5.isNone (
  k (.tuple #[])) (
  NN node_2 fun a6 =>
  LoadT .ptr (a6.add 2) fun p7 =>
  RawS Go.Proofs.Try.prog (binS .neq 42 (.tmp 15) (.tmp 16) (.pointer p7) (.pointer node_2)) (.s (.one .bool)) fun b8 =>
  BIf b8 (
   Drw <|
   NN node_2 fun a9 =>
   LoadT .ptr (a9.add 2) fun p10 =>
   NN node_2 fun a11 =>
   LoadT .ptr (a11.add 3) fun p12 =>
   NN p10 fun a13 =>
   Store1 (a13.add 3) (.pointer p12) <|
   Drw <|
   NN node_2 fun a14 =>
   LoadT .ptr (a14.add 3) fun p15 =>
   NN node_2 fun a16 =>
   LoadT .ptr (a16.add 2) fun p17 =>
   NN p15 fun a18 =>
   Store1 (a18.add 2) (.pointer p17) <|
   F29_J1 k heap_1 node_2) (
   F29_J1 k heap_1 node_2))
theorem F29_eq (k : Value → W) (heap_1 : Option Addr) (node_2 : Option Addr) : compF Go.Proofs.Try.prog Go.Proofs.Try.f29 [] (Go.Proofs.Try.f29.body.getD .skip) [.pointer heap_1, .pointer node_2] k = F29 k heap_1 node_2 := by kernel_rfl
theorem F29_calls {heap_1 : Option Addr} {node_2 : Option Addr} {w : World} {R : Ending → World → Prop} (h : F29 (fun v w => R (.returned v) w) heap_1 node_2 w) : Calls Go.Proofs.Try.prog 29 #[.pointer heap_1, .pointer node_2] w R :=
  calls_of_compF noNum follows [] (f := 29) (fn := Go.Proofs.Try.f29) (body := Go.Proofs.Try.f29.body.getD .skip) (args := [.pointer heap_1, .pointer node_2]) rfl rfl (Nat.le_of_ble_eq_true rfl) ((congrFun (F29_eq _ heap_1 node_2) w).mpr h)
theorem F29_call {heap_1 : Option Addr} {node_2 : Option Addr} {w : World} {g : Fn W (RTy.leaves (.tup []))} (h : F29 (fun v => Back (.tup []) g (.returned v)) heap_1 node_2 w) : CallT Go.Proofs.Try.prog 29 [.pointer heap_1, .pointer node_2] (.tup []) g w := F29_calls h

end Go.Proofs.Ytlbeelgfpbkdbaa.E
