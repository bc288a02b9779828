/-
  Printed by this session's own program eng.py out of Lean's print of the loaded functions: what each function's body asks, in the engine's words; each is checked against the program by the kernel.
-/
import Derived.Test.YtmaejciimpnogaaDoorEng
import Derived.Test.YtmaejciimpnogaaDoorFnsA
namespace Go.Proofs.YtmaejciimpnogaaDoor.E
open Go
set_option linter.unusedVariables false
set_option maxRecDepth 100000
/-! ## list.List).Back -/
def F69 (k : Value → W) (l_1 : Option Addr) : W :=
 NN l_1 fun a2 =>
 LoadT (.int .i64) (a2.add 4) fun x3 =>
 BIf (x3 == 0) (
  k (.pointer none)) (
  NN l_1 fun a4 =>
  LoadT .ptr (a4.add 1) fun p5 =>
  k (.pointer p5))
theorem F69_eq (k : Value → W) (l_1 : Option Addr) : compF Go.Proofs.Tryd.prog Go.Proofs.Tryd.f69 [] (Go.Proofs.Tryd.f69.body.getD .skip) [.pointer l_1] k = F69 k l_1 := by kernel_rfl
theorem F69_calls {l_1 : Option Addr} {w : World} {R : Ending → World → Prop} (h : F69 (fun v w => R (.returned v) w) l_1 w) : Calls Go.Proofs.Tryd.prog 69 #[.pointer l_1] w R :=
  calls_of_compF noNum follows [] (f := 69) (fn := Go.Proofs.Tryd.f69) (body := Go.Proofs.Tryd.f69.body.getD .skip) (args := [.pointer l_1]) rfl rfl (Nat.le_of_ble_eq_true rfl) ((congrFun (F69_eq _ l_1) w).mpr h)
theorem F69_call {l_1 : Option Addr} {w : World} {g : Fn W (RTy.leaves (.s (.one .ptr)))} (h : F69 (fun v => Back (.s (.one .ptr)) g (.returned v)) l_1 w) : CallT Go.Proofs.Tryd.prog 69 [.pointer l_1] (.s (.one .ptr)) g w := F69_calls h

/-! ## list.List).remove -/
def F70 (k : Value → W) (l_1 : Option Addr) (e_2 : Option Addr) : W :=
 Drw <|
 NN e_2 fun a3 =>
 LoadT .ptr (a3.add 1) fun p4 =>
 NN e_2 fun a5 =>
 LoadT .ptr a5 fun p6 =>
 NN p4 fun a7 =>
 Store1 a7 (.pointer p6) <|
 Drw <|
 NN e_2 fun a8 =>
 LoadT .ptr a8 fun p9 =>
 NN e_2 fun a10 =>
 LoadT .ptr (a10.add 1) fun p11 =>
 NN p9 fun a12 =>
 Store1 (a12.add 1) (.pointer p11) <|
 NN e_2 fun a13 =>
 Store1 a13 (.pointer none) <|
 NN e_2 fun a14 =>
 Store1 (a14.add 1) (.pointer none) <|
 NN e_2 fun a15 =>
 Store1 (a15.add 2) (.pointer none) <|
 NN l_1 fun a16 =>
 LoadT (.int .i64) (a16.add 4) fun x17 =>
 Store1 (a16.add 4) (.int .i64 (subI .i64 x17 1)) <|
 k (.tuple #[])
theorem F70_eq (k : Value → W) (l_1 : Option Addr) (e_2 : Option Addr) : compF Go.Proofs.Tryd.prog Go.Proofs.Tryd.f70 [] (Go.Proofs.Tryd.f70.body.getD .skip) [.pointer l_1, .pointer e_2] k = F70 k l_1 e_2 := by kernel_rfl
theorem F70_calls {l_1 : Option Addr} {e_2 : Option Addr} {w : World} {R : Ending → World → Prop} (h : F70 (fun v w => R (.returned v) w) l_1 e_2 w) : Calls Go.Proofs.Tryd.prog 70 #[.pointer l_1, .pointer e_2] w R :=
  calls_of_compF noNum follows [] (f := 70) (fn := Go.Proofs.Tryd.f70) (body := Go.Proofs.Tryd.f70.body.getD .skip) (args := [.pointer l_1, .pointer e_2]) rfl rfl (Nat.le_of_ble_eq_true rfl) ((congrFun (F70_eq _ l_1 e_2) w).mpr h)
theorem F70_call {l_1 : Option Addr} {e_2 : Option Addr} {w : World} {g : Fn W (RTy.leaves (.tup []))} (h : F70 (fun v => Back (.tup []) g (.returned v)) l_1 e_2 w) : CallT Go.Proofs.Tryd.prog 70 [.pointer l_1, .pointer e_2] (.tup []) g w := F70_calls h

/-! ## list.List).insert -/
def F36 (k : Value → W) (l_1 : Option Addr) (e_2 : Option Addr) (at_3 : Option Addr) : W :=
 NN e_2 fun a4 =>
 Store1 (a4.add 1) (.pointer at_3) <|
 NN at_3 fun a5 =>
 LoadT .ptr a5 fun p6 =>
 NN e_2 fun a7 =>
 Store1 a7 (.pointer p6) <|
 NN e_2 fun a8 =>
 LoadT .ptr (a8.add 1) fun p9 =>
 NN p9 fun a10 =>
 Store1 a10 (.pointer e_2) <|
 NN e_2 fun a11 =>
 LoadT .ptr a11 fun p12 =>
 NN p12 fun a13 =>
 Store1 (a13.add 1) (.pointer e_2) <|
 NN e_2 fun a14 =>
 Store1 (a14.add 2) (.pointer l_1) <|
 NN l_1 fun a15 =>
 LoadT (.int .i64) (a15.add 4) fun x16 =>
 Store1 (a15.add 4) (.int .i64 (addI .i64 x16 1)) <|
 k (.pointer e_2)
theorem F36_eq (k : Value → W) (l_1 : Option Addr) (e_2 : Option Addr) (at_3 : Option Addr) : compF Go.Proofs.Tryd.prog Go.Proofs.Tryd.f36 [] (Go.Proofs.Tryd.f36.body.getD .skip) [.pointer l_1, .pointer e_2, .pointer at_3] k = F36 k l_1 e_2 at_3 := by kernel_rfl
theorem F36_calls {l_1 : Option Addr} {e_2 : Option Addr} {at_3 : Option Addr} {w : World} {R : Ending → World → Prop} (h : F36 (fun v w => R (.returned v) w) l_1 e_2 at_3 w) : Calls Go.Proofs.Tryd.prog 36 #[.pointer l_1, .pointer e_2, .pointer at_3] w R :=
  calls_of_compF noNum follows [] (f := 36) (fn := Go.Proofs.Tryd.f36) (body := Go.Proofs.Tryd.f36.body.getD .skip) (args := [.pointer l_1, .pointer e_2, .pointer at_3]) rfl rfl (Nat.le_of_ble_eq_true rfl) ((congrFun (F36_eq _ l_1 e_2 at_3) w).mpr h)
theorem F36_call {l_1 : Option Addr} {e_2 : Option Addr} {at_3 : Option Addr} {w : World} {g : Fn W (RTy.leaves (.s (.one .ptr)))} (h : F36 (fun v => Back (.s (.one .ptr)) g (.returned v)) l_1 e_2 at_3 w) : CallT Go.Proofs.Tryd.prog 36 [.pointer l_1, .pointer e_2, .pointer at_3] (.s (.one .ptr)) g w := F36_calls h

/-! ## list.List).insertValue -/
def F31 (k : Value → W) (l_1 : Option Addr) (v_2 : Value) (at_3 : Option Addr) : W :=
 Req (oneC v_2 = true) <|
 New [.pointer none, .pointer none, .pointer none, v_2] 83 fun n4 =>
 CallT Go.Proofs.Tryd.prog 36 [.pointer l_1, .pointer (some ⟨n4, 0, none⟩), .pointer at_3] (.s (.one .ptr)) fun p5 =>
 k (.pointer p5)
theorem F31_eq (k : Value → W) (l_1 : Option Addr) (v_2 : Value) (at_3 : Option Addr) : compF Go.Proofs.Tryd.prog Go.Proofs.Tryd.f31 [] (Go.Proofs.Tryd.f31.body.getD .skip) [.pointer l_1, v_2, .pointer at_3] k = F31 k l_1 v_2 at_3 := by kernel_rfl
theorem F31_calls {l_1 : Option Addr} {v_2 : Value} {at_3 : Option Addr} {w : World} {R : Ending → World → Prop} (h : F31 (fun v w => R (.returned v) w) l_1 v_2 at_3 w) : Calls Go.Proofs.Tryd.prog 31 #[.pointer l_1, v_2, .pointer at_3] w R :=
  calls_of_compF noNum follows [] (f := 31) (fn := Go.Proofs.Tryd.f31) (body := Go.Proofs.Tryd.f31.body.getD .skip) (args := [.pointer l_1, v_2, .pointer at_3]) rfl rfl (Nat.le_of_ble_eq_true rfl) ((congrFun (F31_eq _ l_1 v_2 at_3) w).mpr h)
theorem F31_call {l_1 : Option Addr} {v_2 : Value} {at_3 : Option Addr} {w : World} {g : Fn W (RTy.leaves (.s (.one .ptr)))} (h : F31 (fun v => Back (.s (.one .ptr)) g (.returned v)) l_1 v_2 at_3 w) : CallT Go.Proofs.Tryd.prog 31 [.pointer l_1, v_2, .pointer at_3] (.s (.one .ptr)) g w := F31_calls h

/-! ## list.List).move -/
def F29 (k : Value → W) (l_1 : Option Addr) (e_2 : Option Addr) (at_3 : Option Addr) : W :=
 RawS Go.Proofs.Tryd.prog (binS .eql 75 (.tmp 6) (.tmp 7) (.pointer e_2) (.pointer at_3)) (.s (.one .bool)) fun b4 =>
 BIf b4 (
  k (.tuple #[])) (
  Drw <|
  NN e_2 fun a5 =>
  LoadT .ptr (a5.add 1) fun p6 =>
  NN e_2 fun a7 =>
  LoadT .ptr a7 fun p8 =>
  NN p6 fun a9 =>
  Store1 a9 (.pointer p8) <|
  Drw <|
  NN e_2 fun a10 =>
  LoadT .ptr a10 fun p11 =>
  NN e_2 fun a12 =>
  LoadT .ptr (a12.add 1) fun p13 =>
  NN p11 fun a14 =>
  Store1 (a14.add 1) (.pointer p13) <|
  NN e_2 fun a15 =>
  Store1 (a15.add 1) (.pointer at_3) <|
  NN at_3 fun a16 =>
  LoadT .ptr a16 fun p17 =>
  NN e_2 fun a18 =>
  Store1 a18 (.pointer p17) <|
  NN e_2 fun a19 =>
  LoadT .ptr (a19.add 1) fun p20 =>
  NN p20 fun a21 =>
  Store1 a21 (.pointer e_2) <|
  NN e_2 fun a22 =>
  LoadT .ptr a22 fun p23 =>
  NN p23 fun a24 =>
  Store1 (a24.add 1) (.pointer e_2) <|
  k (.tuple #[]))
theorem F29_eq (k : Value → W) (l_1 : Option Addr) (e_2 : Option Addr) (at_3 : Option Addr) : compF Go.Proofs.Tryd.prog Go.Proofs.Tryd.f29 [] (Go.Proofs.Tryd.f29.body.getD .skip) [.pointer l_1, .pointer e_2, .pointer at_3] k = F29 k l_1 e_2 at_3 := by kernel_rfl
theorem F29_calls {l_1 : Option Addr} {e_2 : Option Addr} {at_3 : Option Addr} {w : World} {R : Ending → World → Prop} (h : F29 (fun v w => R (.returned v) w) l_1 e_2 at_3 w) : Calls Go.Proofs.Tryd.prog 29 #[.pointer l_1, .pointer e_2, .pointer at_3] w R :=
  calls_of_compF noNum follows [] (f := 29) (fn := Go.Proofs.Tryd.f29) (body := Go.Proofs.Tryd.f29.body.getD .skip) (args := [.pointer l_1, .pointer e_2, .pointer at_3]) rfl rfl (Nat.le_of_ble_eq_true rfl) ((congrFun (F29_eq _ l_1 e_2 at_3) w).mpr h)
theorem F29_call {l_1 : Option Addr} {e_2 : Option Addr} {at_3 : Option Addr} {w : World} {g : Fn W (RTy.leaves (.tup []))} (h : F29 (fun v => Back (.tup []) g (.returned v)) l_1 e_2 at_3 w) : CallT Go.Proofs.Tryd.prog 29 [.pointer l_1, .pointer e_2, .pointer at_3] (.tup []) g w := F29_calls h

/-! ## list.List).lazyInit -/
def F30 (k : Value → W) (l_1 : Option Addr) : W :=
 NN l_1 fun a2 =>
 LoadT .ptr a2 fun p3 =>
 BIf p3.isNone (
  CallT Go.Proofs.Tryd.prog 27 [.pointer l_1] (.s (.one .ptr)) fun p4 =>
  k (.tuple #[])) (
  k (.tuple #[]))
theorem F30_eq (k : Value → W) (l_1 : Option Addr) : compF Go.Proofs.Tryd.prog Go.Proofs.Tryd.f30 [] (Go.Proofs.Tryd.f30.body.getD .skip) [.pointer l_1] k = F30 k l_1 := by kernel_rfl
theorem F30_calls {l_1 : Option Addr} {w : World} {R : Ending → World → Prop} (h : F30 (fun v w => R (.returned v) w) l_1 w) : Calls Go.Proofs.Tryd.prog 30 #[.pointer l_1] w R :=
  calls_of_compF noNum follows [] (f := 30) (fn := Go.Proofs.Tryd.f30) (body := Go.Proofs.Tryd.f30.body.getD .skip) (args := [.pointer l_1]) rfl rfl (Nat.le_of_ble_eq_true rfl) ((congrFun (F30_eq _ l_1) w).mpr h)
theorem F30_call {l_1 : Option Addr} {w : World} {g : Fn W (RTy.leaves (.tup []))} (h : F30 (fun v => Back (.tup []) g (.returned v)) l_1 w) : CallT Go.Proofs.Tryd.prog 30 [.pointer l_1] (.tup []) g w := F30_calls h

/-! ## list.List).PushFront -/
def F26 (k : Value → W) (l_1 : Option Addr) (v_2 : Value) : W :=
 CallT Go.Proofs.Tryd.prog 30 [.pointer l_1] (.tup []) <|
 NN l_1 fun a3 =>
 CallT Go.Proofs.Tryd.prog 31 [.pointer l_1, v_2, .pointer (some a3)] (.s (.one .ptr)) fun p4 =>
 k (.pointer p4)
theorem F26_eq (k : Value → W) (l_1 : Option Addr) (v_2 : Value) : compF Go.Proofs.Tryd.prog Go.Proofs.Tryd.f26 [] (Go.Proofs.Tryd.f26.body.getD .skip) [.pointer l_1, v_2] k = F26 k l_1 v_2 := by kernel_rfl
theorem F26_calls {l_1 : Option Addr} {v_2 : Value} {w : World} {R : Ending → World → Prop} (h : F26 (fun v w => R (.returned v) w) l_1 v_2 w) : Calls Go.Proofs.Tryd.prog 26 #[.pointer l_1, v_2] w R :=
  calls_of_compF noNum follows [] (f := 26) (fn := Go.Proofs.Tryd.f26) (body := Go.Proofs.Tryd.f26.body.getD .skip) (args := [.pointer l_1, v_2]) rfl rfl (Nat.le_of_ble_eq_true rfl) ((congrFun (F26_eq _ l_1 v_2) w).mpr h)
theorem F26_call {l_1 : Option Addr} {v_2 : Value} {w : World} {g : Fn W (RTy.leaves (.s (.one .ptr)))} (h : F26 (fun v => Back (.s (.one .ptr)) g (.returned v)) l_1 v_2 w) : CallT Go.Proofs.Tryd.prog 26 [.pointer l_1, v_2] (.s (.one .ptr)) g w := F26_calls h

/-! ## list.List).MoveToFront -/
def F25 (k : Value → W) (l_1 : Option Addr) (e_2 : Option Addr) : W :=
 NN e_2 fun a3 =>
 LoadT .ptr (a3.add 2) fun p4 =>
 RawS Go.Proofs.Tryd.prog (binS .neq 71 (.tmp 7) (.tmp 8) (.pointer p4) (.pointer l_1)) (.s (.one .bool)) fun b5 =>
 BIf b5 (
  k (.tuple #[])) (
  NN l_1 fun a6 =>
  LoadT .ptr a6 fun p7 =>
  RawS Go.Proofs.Tryd.prog (binS .eql 75 (.tmp 15) (.tmp 16) (.pointer p7) (.pointer e_2)) (.s (.one .bool)) fun b8 =>
  BIf b8 (
   k (.tuple #[])) (
   NN l_1 fun a9 =>
   CallT Go.Proofs.Tryd.prog 29 [.pointer l_1, .pointer e_2, .pointer (some a9)] (.tup []) <|
   k (.tuple #[])))
theorem F25_eq (k : Value → W) (l_1 : Option Addr) (e_2 : Option Addr) : compF Go.Proofs.Tryd.prog Go.Proofs.Tryd.f25 [] (Go.Proofs.Tryd.f25.body.getD .skip) [.pointer l_1, .pointer e_2] k = F25 k l_1 e_2 := by kernel_rfl
theorem F25_calls {l_1 : Option Addr} {e_2 : Option Addr} {w : World} {R : Ending → World → Prop} (h : F25 (fun v w => R (.returned v) w) l_1 e_2 w) : Calls Go.Proofs.Tryd.prog 25 #[.pointer l_1, .pointer e_2] w R :=
  calls_of_compF noNum follows [] (f := 25) (fn := Go.Proofs.Tryd.f25) (body := Go.Proofs.Tryd.f25.body.getD .skip) (args := [.pointer l_1, .pointer e_2]) rfl rfl (Nat.le_of_ble_eq_true rfl) ((congrFun (F25_eq _ l_1 e_2) w).mpr h)
theorem F25_call {l_1 : Option Addr} {e_2 : Option Addr} {w : World} {g : Fn W (RTy.leaves (.tup []))} (h : F25 (fun v => Back (.tup []) g (.returned v)) l_1 e_2 w) : CallT Go.Proofs.Tryd.prog 25 [.pointer l_1, .pointer e_2] (.tup []) g w := F25_calls h

/-! ## cache.cache).record -/
def F22 (k : Value → W) (c_1 : Option Addr) (key_2 : ByteArray) : W :=
 NN c_1 fun a3 =>
 LoadT .map (a3.add 2) fun m4 =>
 RawS Go.Proofs.Tryd.prog (Instr.lookup 70 (.map m4) (.string key_2) true) (.tup [(.one .ptr), (.one .bool)]) fun p5 b6 =>
 BIf b6 (
  Drw <|
  NN c_1 fun a7 =>
  LoadT .ptr (a7.add 3) fun p8 =>
  NN p5 fun a9 =>
  LoadT .ptr (a9.add 1) fun p10 =>
  CallT Go.Proofs.Tryd.prog 25 [.pointer p8, .pointer p10] (.tup []) <|
  NN p5 fun a11 =>
  LoadT .ptr (a11.add 1) fun p12 =>
  k (.pointer p12)) (
  NN c_1 fun a13 =>
  LoadT .ptr (a13.add 3) fun p14 =>
  CallT Go.Proofs.Tryd.prog 26 [.pointer p14, .iface 9 (.string key_2)] (.s (.one .ptr)) fun p15 =>
  k (.pointer p15))
theorem F22_eq (k : Value → W) (c_1 : Option Addr) (key_2 : ByteArray) : compF Go.Proofs.Tryd.prog Go.Proofs.Tryd.f22 [] (Go.Proofs.Tryd.f22.body.getD .skip) [.pointer c_1, .string key_2] k = F22 k c_1 key_2 := by kernel_rfl
theorem F22_calls {c_1 : Option Addr} {key_2 : ByteArray} {w : World} {R : Ending → World → Prop} (h : F22 (fun v w => R (.returned v) w) c_1 key_2 w) : Calls Go.Proofs.Tryd.prog 22 #[.pointer c_1, .string key_2] w R :=
  calls_of_compF noNum follows [] (f := 22) (fn := Go.Proofs.Tryd.f22) (body := Go.Proofs.Tryd.f22.body.getD .skip) (args := [.pointer c_1, .string key_2]) rfl rfl (Nat.le_of_ble_eq_true rfl) ((congrFun (F22_eq _ c_1 key_2) w).mpr h)
theorem F22_call {c_1 : Option Addr} {key_2 : ByteArray} {w : World} {g : Fn W (RTy.leaves (.s (.one .ptr)))} (h : F22 (fun v => Back (.s (.one .ptr)) g (.returned v)) c_1 key_2 w) : CallT Go.Proofs.Tryd.prog 22 [.pointer c_1, .string key_2] (.s (.one .ptr)) g w := F22_calls h

/-! ## cache.cache).noop -/
def F21 (k : Value → W) (c_1 : Option Addr) (u2 : ByteArray) : W :=
 k (.pointer none)
theorem F21_eq (k : Value → W) (c_1 : Option Addr) (u2 : ByteArray) : compF Go.Proofs.Tryd.prog Go.Proofs.Tryd.f21 [] (Go.Proofs.Tryd.f21.body.getD .skip) [.pointer c_1, .string u2] k = F21 k c_1 u2 := by kernel_rfl
theorem F21_calls {c_1 : Option Addr} {u2 : ByteArray} {w : World} {R : Ending → World → Prop} (h : F21 (fun v w => R (.returned v) w) c_1 u2 w) : Calls Go.Proofs.Tryd.prog 21 #[.pointer c_1, .string u2] w R :=
  calls_of_compF noNum follows [] (f := 21) (fn := Go.Proofs.Tryd.f21) (body := Go.Proofs.Tryd.f21.body.getD .skip) (args := [.pointer c_1, .string u2]) rfl rfl (Nat.le_of_ble_eq_true rfl) ((congrFun (F21_eq _ c_1 u2) w).mpr h)
theorem F21_call {c_1 : Option Addr} {u2 : ByteArray} {w : World} {g : Fn W (RTy.leaves (.s (.one .ptr)))} (h : F21 (fun v => Back (.s (.one .ptr)) g (.returned v)) c_1 u2 w) : CallT Go.Proofs.Tryd.prog 21 [.pointer c_1, .string u2] (.s (.one .ptr)) g w := F21_calls h

/-! ## cache.EvictionPolicy$1 -/
def F20 (k : Value → W) (c_1 : Option Addr) (a2 : Addr) : W :=
 LoadT (.int .u8) a2 fun x3 =>
 BIf (x3 == 0) (
  NN c_1 fun a4 =>
  Store1 (a4.add 5) (.func (.func 21) #[.pointer c_1] #[]) <|
  NN c_1 fun a5 =>
  Store1 (a5.add 4) (.func (.func 22) #[.pointer c_1] #[]) <|
  k (.tuple #[])) (
  BIf (x3 == 1) (
   NN c_1 fun a6 =>
   Store1 (a6.add 5) (.func (.func 22) #[.pointer c_1] #[]) <|
   NN c_1 fun a7 =>
   Store1 (a7.add 4) (.func (.func 21) #[.pointer c_1] #[]) <|
   k (.tuple #[])) (
   k (.tuple #[])))
theorem F20_eq (k : Value → W) (c_1 : Option Addr) (a2 : Addr) : compF Go.Proofs.Tryd.prog Go.Proofs.Tryd.f20 [] (Go.Proofs.Tryd.f20.body.getD .skip) [.pointer c_1, .pointer (some a2)] k = F20 k c_1 a2 := by kernel_rfl
theorem F20_calls {c_1 : Option Addr} {a2 : Addr} {w : World} {R : Ending → World → Prop} (h : F20 (fun v w => R (.returned v) w) c_1 a2 w) : Calls Go.Proofs.Tryd.prog 20 #[.pointer c_1, .pointer (some a2)] w R :=
  calls_of_compF noNum follows [] (f := 20) (fn := Go.Proofs.Tryd.f20) (body := Go.Proofs.Tryd.f20.body.getD .skip) (args := [.pointer c_1, .pointer (some a2)]) rfl rfl (Nat.le_of_ble_eq_true rfl) ((congrFun (F20_eq _ c_1 a2) w).mpr h)
theorem F20_call {c_1 : Option Addr} {a2 : Addr} {w : World} {g : Fn W (RTy.leaves (.tup []))} (h : F20 (fun v => Back (.tup []) g (.returned v)) c_1 a2 w) : CallT Go.Proofs.Tryd.prog 20 [.pointer c_1, .pointer (some a2)] (.tup []) g w := F20_calls h

/-! ## cache.cached).setElementIfNotNil -/
def F67 (k : Value → W) (c_1 : Option Addr) (element_2 : Option Addr) : W :=
 BIf (!element_2.isNone) (
  NN c_1 fun a3 =>
  Store1 (a3.add 1) (.pointer element_2) <|
  k (.tuple #[])) (
  k (.tuple #[]))
theorem F67_eq (k : Value → W) (c_1 : Option Addr) (element_2 : Option Addr) : compF Go.Proofs.Tryd.prog Go.Proofs.Tryd.f67 [] (Go.Proofs.Tryd.f67.body.getD .skip) [.pointer c_1, .pointer element_2] k = F67 k c_1 element_2 := by kernel_rfl
theorem F67_calls {c_1 : Option Addr} {element_2 : Option Addr} {w : World} {R : Ending → World → Prop} (h : F67 (fun v w => R (.returned v) w) c_1 element_2 w) : Calls Go.Proofs.Tryd.prog 67 #[.pointer c_1, .pointer element_2] w R :=
  calls_of_compF noNum follows [] (f := 67) (fn := Go.Proofs.Tryd.f67) (body := Go.Proofs.Tryd.f67.body.getD .skip) (args := [.pointer c_1, .pointer element_2]) rfl rfl (Nat.le_of_ble_eq_true rfl) ((congrFun (F67_eq _ c_1 element_2) w).mpr h)
theorem F67_call {c_1 : Option Addr} {element_2 : Option Addr} {w : World} {g : Fn W (RTy.leaves (.tup []))} (h : F67 (fun v => Back (.tup []) g (.returned v)) c_1 element_2 w) : CallT Go.Proofs.Tryd.prog 67 [.pointer c_1, .pointer element_2] (.tup []) g w := F67_calls h

/-! ## cache.cache).remove -/
def F65 (k : Value → W) (c_1 : Option Addr) (key_2 : ByteArray) : W :=
 NN c_1 fun a3 =>
 LoadT .map (a3.add 2) fun m4 =>
 RawS Go.Proofs.Tryd.prog (Instr.lookup 70 (.map m4) (.string key_2) true) (.tup [(.one .ptr), (.one .bool)]) fun p5 b6 =>
 BIf b6 (
  NN c_1 fun a7 =>
  LoadT .map (a7.add 2) fun m8 =>
  NextT Go.Proofs.Tryd.prog (builtin .delete #[70, 9] 0 [false, false].toArray [.map m8, .string key_2].toArray) (.tup []) <|
  Drw <|
  NN c_1 fun a9 =>
  LoadT (.int .u64) (a9.add 1) fun x10 =>
  NN p5 fun a11 =>
  LoadT .any a11 fun v12 =>
  NextT Go.Proofs.Tryd.prog (callMethod v12 "Size" [].toArray) (.s (.one (.int .u64))) fun x13 =>
  Chk1 (a9.add 1) (.int .u64 x10) <|
  Store1 (a9.add 1) (.int .u64 (subI .u64 x10 x13)) <|
  Drw <|
  NN c_1 fun a14 =>
  LoadT .ptr (a14.add 3) fun p15 =>
  NN p5 fun a16 =>
  LoadT .ptr (a16.add 1) fun p17 =>
  CallT Go.Proofs.Tryd.prog 68 [.pointer p15, .pointer p17] (.s (.one .any)) fun v18 =>
  k (.tuple #[])) (
  k (.tuple #[]))
theorem F65_eq (k : Value → W) (c_1 : Option Addr) (key_2 : ByteArray) : compF Go.Proofs.Tryd.prog Go.Proofs.Tryd.f65 [] (Go.Proofs.Tryd.f65.body.getD .skip) [.pointer c_1, .string key_2] k = F65 k c_1 key_2 := by kernel_rfl
theorem F65_calls {c_1 : Option Addr} {key_2 : ByteArray} {w : World} {R : Ending → World → Prop} (h : F65 (fun v w => R (.returned v) w) c_1 key_2 w) : Calls Go.Proofs.Tryd.prog 65 #[.pointer c_1, .string key_2] w R :=
  calls_of_compF noNum follows [] (f := 65) (fn := Go.Proofs.Tryd.f65) (body := Go.Proofs.Tryd.f65.body.getD .skip) (args := [.pointer c_1, .string key_2]) rfl rfl (Nat.le_of_ble_eq_true rfl) ((congrFun (F65_eq _ c_1 key_2) w).mpr h)
theorem F65_call {c_1 : Option Addr} {key_2 : ByteArray} {w : World} {g : Fn W (RTy.leaves (.tup []))} (h : F65 (fun v => Back (.tup []) g (.returned v)) c_1 key_2 w) : CallT Go.Proofs.Tryd.prog 65 [.pointer c_1, .string key_2] (.tup []) g w := F65_calls h

/-! ## cache.cache).ensureCapacity -/
def F66_L1 (k : Value → W) (again10 : Option Addr → Int → W) (c_8 : Option Addr) (mustRemove_9 : Int) : W :=
 BIf (decide (mustRemove_9 > 0)) (
  NN c_8 fun a11 =>
  LoadT .ptr (a11.add 3) fun p12 =>
  CallT Go.Proofs.Tryd.prog 69 [.pointer p12] (.s (.one .ptr)) fun p13 =>
  NN p13 fun a14 =>
  LoadT .any (a14.add 3) fun v15 =>
  TAs v15 9 (.s (.one .str)) fun u16 =>
  NN c_8 fun a17 =>
  LoadT .map (a17.add 2) fun m18 =>
  RawS Go.Proofs.Tryd.prog (Instr.lookup 70 (.map m18) (.string u16) false) (.s (.one .ptr)) fun p19 =>
  NN p19 fun a20 =>
  LoadT .any a20 fun v21 =>
  NextT Go.Proofs.Tryd.prog (callMethod v21 "Size" [].toArray) (.s (.one (.int .u64))) fun x22 =>
  Bind (subI .i64 mustRemove_9 (IntKind.wrap .i64 x22) : Int) fun mustRemove_23 =>
  CallT Go.Proofs.Tryd.prog 65 [.pointer c_8, .string u16] (.tup []) <|
  again10 c_8 mustRemove_23) (
  k (.tuple #[]))
theorem F66_L1_rule {k : Value → W} (I : Option Addr → Int → W) (μ : Option Addr → Int → World → Nat)
  (hr : ∀ (c_8 : Option Addr) (mustRemove_9 : Int) (w : World), I c_8 mustRemove_9 w → F66_L1 k (fun c_8' mustRemove_9' w' => I c_8' mustRemove_9' w' ∧ μ c_8' mustRemove_9' w' < μ c_8 mustRemove_9 w) c_8 mustRemove_9 w)
  {w : World} {c_8 : Option Addr} {mustRemove_9 : Int} (h : I c_8 mustRemove_9 w) : Loop [.ptr, (.int .i64)] (F66_L1 k) c_8 mustRemove_9 w :=
  Loop_intro (ts := [.ptr, (.int .i64)]) (s := (c_8, mustRemove_9, ())) (fun s w => I s.1 s.2.1 w) (fun s w => μ s.1 s.2.1 w) h (fun s w h => hr s.1 s.2.1 w h)
def F66 (k : Value → W) (c_1 : Option Addr) (toAdd_2 : Int) : W :=
 Drw <|
 NN c_1 fun a3 =>
 LoadT (.int .u64) (a3.add 1) fun x4 =>
 NN c_1 fun a5 =>
 LoadT (.int .u64) a5 fun x6 =>
 Bind (subI .i64 (IntKind.wrap .i64 (addI .u64 x4 toAdd_2)) (IntKind.wrap .i64 x6) : Int) fun mustRemove_7 =>
 Loop [.ptr, (.int .i64)] (F66_L1 k) c_1 mustRemove_7
theorem F66_eq (k : Value → W) (c_1 : Option Addr) (toAdd_2 : Int) : compF Go.Proofs.Tryd.prog Go.Proofs.Tryd.f66 [(1, [(0, .ptr), (4, (.int .i64))])] (Go.Proofs.Tryd.f66.body.getD .skip) [.pointer c_1, .int .u64 toAdd_2] k = F66 k c_1 toAdd_2 := by kernel_rfl
theorem F66_calls {c_1 : Option Addr} {toAdd_2 : Int} {w : World} {R : Ending → World → Prop} (h : F66 (fun v w => R (.returned v) w) c_1 toAdd_2 w) : Calls Go.Proofs.Tryd.prog 66 #[.pointer c_1, .int .u64 toAdd_2] w R :=
  calls_of_compF noNum follows [(1, [(0, .ptr), (4, (.int .i64))])] (f := 66) (fn := Go.Proofs.Tryd.f66) (body := Go.Proofs.Tryd.f66.body.getD .skip) (args := [.pointer c_1, .int .u64 toAdd_2]) rfl rfl (Nat.le_of_ble_eq_true rfl) ((congrFun (F66_eq _ c_1 toAdd_2) w).mpr h)
theorem F66_call {c_1 : Option Addr} {toAdd_2 : Int} {w : World} {g : Fn W (RTy.leaves (.tup []))} (h : F66 (fun v => Back (.tup []) g (.returned v)) c_1 toAdd_2 w) : CallT Go.Proofs.Tryd.prog 66 [.pointer c_1, .int .u64 toAdd_2] (.tup []) g w := F66_calls h

/-! ## list.List).Remove -/
def F68_J1 (k : Value → W) (e_6 : Option Addr) : W :=
 NN e_6 fun a7 =>
 LoadT .any (a7.add 3) fun v8 =>
 k v8
def F68 (k : Value → W) (l_1 : Option Addr) (e_2 : Option Addr) : W :=
 NN e_2 fun a3 =>
 LoadT .ptr (a3.add 2) fun p4 =>
 RawS Go.Proofs.Tryd.prog (binS .eql 71 (.tmp 8) (.tmp 9) (.pointer p4) (.pointer l_1)) (.s (.one .bool)) fun b5 =>
 BIf b5 (
  CallT Go.Proofs.Tryd.prog 70 [.pointer l_1, .pointer e_2] (.tup []) <|
  F68_J1 k e_2) (
  F68_J1 k e_2)
theorem F68_eq (k : Value → W) (l_1 : Option Addr) (e_2 : Option Addr) : compF Go.Proofs.Tryd.prog Go.Proofs.Tryd.f68 [] (Go.Proofs.Tryd.f68.body.getD .skip) [.pointer l_1, .pointer e_2] k = F68 k l_1 e_2 := by kernel_rfl
theorem F68_calls {l_1 : Option Addr} {e_2 : Option Addr} {w : World} {R : Ending → World → Prop} (h : F68 (fun v w => R (.returned v) w) l_1 e_2 w) : Calls Go.Proofs.Tryd.prog 68 #[.pointer l_1, .pointer e_2] w R :=
  calls_of_compF noNum follows [] (f := 68) (fn := Go.Proofs.Tryd.f68) (body := Go.Proofs.Tryd.f68.body.getD .skip) (args := [.pointer l_1, .pointer e_2]) rfl rfl (Nat.le_of_ble_eq_true rfl) ((congrFun (F68_eq _ l_1 e_2) w).mpr h)
theorem F68_call {l_1 : Option Addr} {e_2 : Option Addr} {w : World} {g : Fn W (RTy.leaves (.s (.one .any)))} (h : F68 (fun v => Back (.s (.one .any)) g (.returned v)) l_1 e_2 w) : CallT Go.Proofs.Tryd.prog 68 [.pointer l_1, .pointer e_2] (.s (.one .any)) g w := F68_calls h

/-! ## cache.cache).Size -/
def F64 (k : Value → W) (c_1 : Option Addr) : W :=
 NN c_1 fun a2 =>
 LoadT (.int .u64) (a2.add 1) fun x3 =>
 k (.int .u64 x3)
theorem F64_eq (k : Value → W) (c_1 : Option Addr) : compF Go.Proofs.Tryd.prog Go.Proofs.Tryd.f64 [] (Go.Proofs.Tryd.f64.body.getD .skip) [.pointer c_1] k = F64 k c_1 := by kernel_rfl
theorem F64_calls {c_1 : Option Addr} {w : World} {R : Ending → World → Prop} (h : F64 (fun v w => R (.returned v) w) c_1 w) : Calls Go.Proofs.Tryd.prog 64 #[.pointer c_1] w R :=
  calls_of_compF noNum follows [] (f := 64) (fn := Go.Proofs.Tryd.f64) (body := Go.Proofs.Tryd.f64.body.getD .skip) (args := [.pointer c_1]) rfl rfl (Nat.le_of_ble_eq_true rfl) ((congrFun (F64_eq _ c_1) w).mpr h)
theorem F64_call {c_1 : Option Addr} {w : World} {g : Fn W (RTy.leaves (.s (.one (.int .u64))))} (h : F64 (fun v => Back (.s (.one (.int .u64))) g (.returned v)) c_1 w) : CallT Go.Proofs.Tryd.prog 64 [.pointer c_1] (.s (.one (.int .u64))) g w := F64_calls h

/-! ## cache.cache).Remove -/
def F63_L1 (k : Value → W) (again7 : Option Addr → Option Addr → Nat → Nat → Int → Int → W) (c_3 : Option Addr) (s4p : Option Addr) (s4l : Nat) (s4c : Nat) (x5 : Int) (x6 : Int) : W :=
 BIf (decide (x6 < x5)) (
  NN s4p fun a8 =>
  Req (0 ≤ x6 ∧ x6 < ((s4l : Nat) : Int)) <|
  LoadT .str (a8.add x6.toNat) fun u9 =>
  CallT Go.Proofs.Tryd.prog 65 [.pointer c_3, .string u9] (.tup []) <|
  again7 c_3 s4p s4l s4c x5 (addI .i64 x6 1)) (
  k (.tuple #[]))
theorem F63_L1_rule {k : Value → W} (I : Option Addr → Option Addr → Nat → Nat → Int → Int → W) (μ : Option Addr → Option Addr → Nat → Nat → Int → Int → World → Nat)
  (hr : ∀ (c_3 : Option Addr) (s4p : Option Addr) (s4l : Nat) (s4c : Nat) (x5 : Int) (x6 : Int) (w : World), I c_3 s4p s4l s4c x5 x6 w → F63_L1 k (fun c_3' s4p' s4l' s4c' x5' x6' w' => I c_3' s4p' s4l' s4c' x5' x6' w' ∧ μ c_3' s4p' s4l' s4c' x5' x6' w' < μ c_3 s4p s4l s4c x5 x6 w) c_3 s4p s4l s4c x5 x6 w)
  {w : World} {c_3 : Option Addr} {s4p : Option Addr} {s4l : Nat} {s4c : Nat} {x5 : Int} {x6 : Int} (h : I c_3 s4p s4l s4c x5 x6 w) : Loop [.ptr, .slice, (.int .i64), (.int .i64)] (F63_L1 k) c_3 s4p s4l s4c x5 x6 w :=
  Loop_intro (ts := [.ptr, .slice, (.int .i64), (.int .i64)]) (s := (c_3, (s4p, s4l, s4c), x5, x6, ())) (fun s w => I s.1 s.2.1.1 s.2.1.2.1 s.2.1.2.2 s.2.2.1 s.2.2.2.1 w) (fun s w => μ s.1 s.2.1.1 s.2.1.2.1 s.2.1.2.2 s.2.2.1 s.2.2.2.1 w) h (fun s w h => hr s.1 s.2.1.1 s.2.1.2.1 s.2.1.2.2 s.2.2.1 s.2.2.2.1 w h)
def F63 (k : Value → W) (c_1 : Option Addr) (keys_2p : Option Addr) (keys_2l : Nat) (keys_2c : Nat) : W :=
 Loop [.ptr, .slice, (.int .i64), (.int .i64)] (F63_L1 k) c_1 keys_2p keys_2l keys_2c ((keys_2l : Nat) : Int) 0
theorem F63_eq (k : Value → W) (c_1 : Option Addr) (keys_2p : Option Addr) (keys_2l : Nat) (keys_2c : Nat) : compF Go.Proofs.Tryd.prog Go.Proofs.Tryd.f63 [(1, [(0, .ptr), (6, .slice), (7, (.int .i64)), (8, (.int .i64))])] (Go.Proofs.Tryd.f63.body.getD .skip) [.pointer c_1, .slice keys_2p keys_2l keys_2c] k = F63 k c_1 keys_2p keys_2l keys_2c := by kernel_rfl
theorem F63_calls {c_1 : Option Addr} {keys_2p : Option Addr} {keys_2l : Nat} {keys_2c : Nat} {w : World} {R : Ending → World → Prop} (h : F63 (fun v w => R (.returned v) w) c_1 keys_2p keys_2l keys_2c w) : Calls Go.Proofs.Tryd.prog 63 #[.pointer c_1, .slice keys_2p keys_2l keys_2c] w R :=
  calls_of_compF noNum follows [(1, [(0, .ptr), (6, .slice), (7, (.int .i64)), (8, (.int .i64))])] (f := 63) (fn := Go.Proofs.Tryd.f63) (body := Go.Proofs.Tryd.f63.body.getD .skip) (args := [.pointer c_1, .slice keys_2p keys_2l keys_2c]) rfl rfl (Nat.le_of_ble_eq_true rfl) ((congrFun (F63_eq _ c_1 keys_2p keys_2l keys_2c) w).mpr h)
theorem F63_call {c_1 : Option Addr} {keys_2p : Option Addr} {keys_2l : Nat} {keys_2c : Nat} {w : World} {g : Fn W (RTy.leaves (.tup []))} (h : F63 (fun v => Back (.tup []) g (.returned v)) c_1 keys_2p keys_2l keys_2c w) : CallT Go.Proofs.Tryd.prog 63 [.pointer c_1, .slice keys_2p keys_2l keys_2c] (.tup []) g w := F63_calls h

/-! ## cache.cache).Put -/
def F62 (k : Value → W) (c_1 : Option Addr) (key_2 : ByteArray) (item_3 : Value) : W :=
 CallT Go.Proofs.Tryd.prog 65 [.pointer c_1, .string key_2] (.tup []) <|
 NextT Go.Proofs.Tryd.prog (callMethod item_3 "Size" [].toArray) (.s (.one (.int .u64))) fun x4 =>
 CallT Go.Proofs.Tryd.prog 66 [.pointer c_1, .int .u64 x4] (.tup []) <|
 Req (oneC item_3 = true) <|
 New [item_3, .pointer none] 80 fun n5 =>
 NN c_1 fun a6 =>
 LoadT .any (a6.add 4) fun v7 =>
 NextT Go.Proofs.Tryd.prog (callV v7 [.string key_2].toArray) (.s (.one .ptr)) fun p8 =>
 CallT Go.Proofs.Tryd.prog 67 [.pointer (some ⟨n5, 0, none⟩), .pointer p8] (.tup []) <|
 NN c_1 fun a9 =>
 LoadT .any (a9.add 5) fun v10 =>
 NextT Go.Proofs.Tryd.prog (callV v10 [.string key_2].toArray) (.s (.one .ptr)) fun p11 =>
 CallT Go.Proofs.Tryd.prog 67 [.pointer (some ⟨n5, 0, none⟩), .pointer p11] (.tup []) <|
 NN c_1 fun a12 =>
 LoadT .map (a12.add 2) fun m13 =>
 RawU Go.Proofs.Tryd.prog (Instr.mapUpdate 70 (.map m13) (.string key_2) (.pointer (some ⟨n5, 0, none⟩))) <|
 Drw <|
 NN c_1 fun a14 =>
 LoadT (.int .u64) (a14.add 1) fun x15 =>
 NextT Go.Proofs.Tryd.prog (callMethod item_3 "Size" [].toArray) (.s (.one (.int .u64))) fun x16 =>
 Chk1 (a14.add 1) (.int .u64 x15) <|
 Store1 (a14.add 1) (.int .u64 (addI .u64 x15 x16)) <|
 k (.tuple #[])
theorem F62_eq (k : Value → W) (c_1 : Option Addr) (key_2 : ByteArray) (item_3 : Value) : compF Go.Proofs.Tryd.prog Go.Proofs.Tryd.f62 [] (Go.Proofs.Tryd.f62.body.getD .skip) [.pointer c_1, .string key_2, item_3] k = F62 k c_1 key_2 item_3 := by kernel_rfl
theorem F62_calls {c_1 : Option Addr} {key_2 : ByteArray} {item_3 : Value} {w : World} {R : Ending → World → Prop} (h : F62 (fun v w => R (.returned v) w) c_1 key_2 item_3 w) : Calls Go.Proofs.Tryd.prog 62 #[.pointer c_1, .string key_2, item_3] w R :=
  calls_of_compF noNum follows [] (f := 62) (fn := Go.Proofs.Tryd.f62) (body := Go.Proofs.Tryd.f62.body.getD .skip) (args := [.pointer c_1, .string key_2, item_3]) rfl rfl (Nat.le_of_ble_eq_true rfl) ((congrFun (F62_eq _ c_1 key_2 item_3) w).mpr h)
theorem F62_call {c_1 : Option Addr} {key_2 : ByteArray} {item_3 : Value} {w : World} {g : Fn W (RTy.leaves (.tup []))} (h : F62 (fun v => Back (.tup []) g (.returned v)) c_1 key_2 item_3 w) : CallT Go.Proofs.Tryd.prog 62 [.pointer c_1, .string key_2, item_3] (.tup []) g w := F62_calls h

/-! ## cache.cache).Get -/
def F61_L1 (k : Value → W) (again9 : Option Addr → Option Addr → Nat → Nat → Option Addr → Nat → Nat → Int → Int → W) (c_4 : Option Addr) (items_5p : Option Addr) (items_5l : Nat) (items_5c : Nat) (s6p : Option Addr) (s6l : Nat) (s6c : Nat) (x7 : Int) (x8 : Int) : W :=
 BIf (decide (x8 < x7)) (
  NN s6p fun a10 =>
  Req (0 ≤ x8 ∧ x8 < ((s6l : Nat) : Int)) <|
  LoadT .str (a10.add x8.toNat) fun u11 =>
  NN c_4 fun a12 =>
  LoadT .map (a12.add 2) fun m13 =>
  RawS Go.Proofs.Tryd.prog (Instr.lookup 70 (.map m13) (.string u11) false) (.s (.one .ptr)) fun p14 =>
  BIf p14.isNone (
   NN items_5p fun a15 =>
   Req (0 ≤ x8 ∧ x8 < ((items_5l : Nat) : Int)) <|
   Store1 (a15.add x8.toNat) .nilIface <|
   again9 c_4 items_5p items_5l items_5c s6p s6l s6c x7 (addI .i64 x8 1)) (
   NN c_4 fun a16 =>
   LoadT .any (a16.add 5) fun v17 =>
   NextT Go.Proofs.Tryd.prog (callV v17 [.string u11].toArray) (.s (.one .ptr)) fun p18 =>
   NN p14 fun a19 =>
   LoadT .any a19 fun v20 =>
   NN items_5p fun a21 =>
   Req (0 ≤ x8 ∧ x8 < ((items_5l : Nat) : Int)) <|
   Req (oneC v20 = true) <|
   Store1 (a21.add x8.toNat) v20 <|
   again9 c_4 items_5p items_5l items_5c s6p s6l s6c x7 (addI .i64 x8 1))) (
  k (.slice items_5p items_5l items_5c))
theorem F61_L1_rule {k : Value → W} (I : Option Addr → Option Addr → Nat → Nat → Option Addr → Nat → Nat → Int → Int → W) (μ : Option Addr → Option Addr → Nat → Nat → Option Addr → Nat → Nat → Int → Int → World → Nat)
  (hr : ∀ (c_4 : Option Addr) (items_5p : Option Addr) (items_5l : Nat) (items_5c : Nat) (s6p : Option Addr) (s6l : Nat) (s6c : Nat) (x7 : Int) (x8 : Int) (w : World), I c_4 items_5p items_5l items_5c s6p s6l s6c x7 x8 w → F61_L1 k (fun c_4' items_5p' items_5l' items_5c' s6p' s6l' s6c' x7' x8' w' => I c_4' items_5p' items_5l' items_5c' s6p' s6l' s6c' x7' x8' w' ∧ μ c_4' items_5p' items_5l' items_5c' s6p' s6l' s6c' x7' x8' w' < μ c_4 items_5p items_5l items_5c s6p s6l s6c x7 x8 w) c_4 items_5p items_5l items_5c s6p s6l s6c x7 x8 w)
  {w : World} {c_4 : Option Addr} {items_5p : Option Addr} {items_5l : Nat} {items_5c : Nat} {s6p : Option Addr} {s6l : Nat} {s6c : Nat} {x7 : Int} {x8 : Int} (h : I c_4 items_5p items_5l items_5c s6p s6l s6c x7 x8 w) : Loop [.ptr, .slice, .slice, (.int .i64), (.int .i64)] (F61_L1 k) c_4 items_5p items_5l items_5c s6p s6l s6c x7 x8 w :=
  Loop_intro (ts := [.ptr, .slice, .slice, (.int .i64), (.int .i64)]) (s := (c_4, (items_5p, items_5l, items_5c), (s6p, s6l, s6c), x7, x8, ())) (fun s w => I s.1 s.2.1.1 s.2.1.2.1 s.2.1.2.2 s.2.2.1.1 s.2.2.1.2.1 s.2.2.1.2.2 s.2.2.2.1 s.2.2.2.2.1 w) (fun s w => μ s.1 s.2.1.1 s.2.1.2.1 s.2.1.2.2 s.2.2.1.1 s.2.2.1.2.1 s.2.2.1.2.2 s.2.2.2.1 s.2.2.2.2.1 w) h (fun s w h => hr s.1 s.2.1.1 s.2.1.2.1 s.2.1.2.2 s.2.2.1.1 s.2.2.1.2.1 s.2.2.1.2.2 s.2.2.2.1 s.2.2.2.2.1 w h)
def F61 (k : Value → W) (c_1 : Option Addr) (keys_2p : Option Addr) (keys_2l : Nat) (keys_2c : Nat) : W :=
 RawT Go.Proofs.Tryd.prog (Instr.makeSlice 54 (.int .i64 ((keys_2l : Nat) : Int)) (.int .i64 ((keys_2l : Nat) : Int))) (.s (.one .slice)) fun s3p s3l s3c =>
 Loop [.ptr, .slice, .slice, (.int .i64), (.int .i64)] (F61_L1 k) c_1 s3p s3l s3c keys_2p keys_2l keys_2c ((keys_2l : Nat) : Int) 0
theorem F61_eq (k : Value → W) (c_1 : Option Addr) (keys_2p : Option Addr) (keys_2l : Nat) (keys_2c : Nat) : compF Go.Proofs.Tryd.prog Go.Proofs.Tryd.f61 [(3, [(0, .ptr), (5, .slice), (12, .slice), (13, (.int .i64)), (14, (.int .i64))])] (Go.Proofs.Tryd.f61.body.getD .skip) [.pointer c_1, .slice keys_2p keys_2l keys_2c] k = F61 k c_1 keys_2p keys_2l keys_2c := by kernel_rfl
theorem F61_calls {c_1 : Option Addr} {keys_2p : Option Addr} {keys_2l : Nat} {keys_2c : Nat} {w : World} {R : Ending → World → Prop} (h : F61 (fun v w => R (.returned v) w) c_1 keys_2p keys_2l keys_2c w) : Calls Go.Proofs.Tryd.prog 61 #[.pointer c_1, .slice keys_2p keys_2l keys_2c] w R :=
  calls_of_compF noNum follows [(3, [(0, .ptr), (5, .slice), (12, .slice), (13, (.int .i64)), (14, (.int .i64))])] (f := 61) (fn := Go.Proofs.Tryd.f61) (body := Go.Proofs.Tryd.f61.body.getD .skip) (args := [.pointer c_1, .slice keys_2p keys_2l keys_2c]) rfl rfl (Nat.le_of_ble_eq_true rfl) ((congrFun (F61_eq _ c_1 keys_2p keys_2l keys_2c) w).mpr h)
theorem F61_call {c_1 : Option Addr} {keys_2p : Option Addr} {keys_2l : Nat} {keys_2c : Nat} {w : World} {g : Fn W (RTy.leaves (.s (.one .slice)))} (h : F61 (fun v => Back (.s (.one .slice)) g (.returned v)) c_1 keys_2p keys_2l keys_2c w) : CallT Go.Proofs.Tryd.prog 61 [.pointer c_1, .slice keys_2p keys_2l keys_2c] (.s (.one .slice)) g w := F61_calls h

/-! ## impl.caItem).Size -/
def F60 (k : Value → W) (x1 : Int) (x2 : Int) : W :=
 New [.int .i64 x1, .int .i64 x2] 53 fun n3 =>
 LoadT (.int .i64) ⟨n3, 0, none⟩ fun x4 =>
 k (.int .u64 (IntKind.wrap .u64 x4))
theorem F60_eq (k : Value → W) (x1 : Int) (x2 : Int) : compF Go.Proofs.Tryd.prog Go.Proofs.Tryd.f60 [] (Go.Proofs.Tryd.f60.body.getD .skip) [.agg #[.int .i64 x1, .int .i64 x2]] k = F60 k x1 x2 := by kernel_rfl
theorem F60_calls {x1 : Int} {x2 : Int} {w : World} {R : Ending → World → Prop} (h : F60 (fun v w => R (.returned v) w) x1 x2 w) : Calls Go.Proofs.Tryd.prog 60 #[.agg #[.int .i64 x1, .int .i64 x2]] w R :=
  calls_of_compF noNum follows [] (f := 60) (fn := Go.Proofs.Tryd.f60) (body := Go.Proofs.Tryd.f60.body.getD .skip) (args := [.agg #[.int .i64 x1, .int .i64 x2]]) rfl rfl (Nat.le_of_ble_eq_true rfl) ((congrFun (F60_eq _ x1 x2) w).mpr h)
theorem F60_call {x1 : Int} {x2 : Int} {w : World} {g : Fn W (RTy.leaves (.s (.one (.int .u64))))} (h : F60 (fun v => Back (.s (.one (.int .u64))) g (.returned v)) x1 x2 w) : CallT Go.Proofs.Tryd.prog 60 [.agg #[.int .i64 x1, .int .i64 x2]] (.s (.one (.int .u64))) g w := F60_calls h

end Go.Proofs.YtmaejciimpnogaaDoor.E
