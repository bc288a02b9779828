/-
  Printed by this session's own program eng.py out of Lean's print of the loaded functions: what each function's body asks, in the engine's words; each is checked against the program by the kernel.
-/
import Derived.Test.YtaacaokocamlcaaDoorEng
import Derived.Test.YtaacaokocamlcaaDoorFnsA
namespace Go.Proofs.YtaacaokocamlcaaDoor.E
open Go
set_option linter.unusedVariables false
set_option maxRecDepth 100000
/-! ## impl.trieItem).Key -/
def F82 (k : Value → W) (x1 : Int) (x2 : Int) : W :=
 New [.int .u64 x1, .int .i64 x2] 57 fun n3 =>
 LoadT (.int .u64) ⟨n3, 0, none⟩ fun x4 =>
 k (.int .u64 x4)
theorem F82_eq (k : Value → W) (x1 : Int) (x2 : Int) : compF Go.Proofs.Tryd.prog Go.Proofs.Tryd.f82 [] (Go.Proofs.Tryd.f82.body.getD .skip) [.agg #[.int .u64 x1, .int .i64 x2]] k = F82 k x1 x2 := by kernel_rfl
theorem F82_calls {x1 : Int} {x2 : Int} {w : World} {R : Ending → World → Prop} (h : F82 (fun v w => R (.returned v) w) x1 x2 w) : Calls Go.Proofs.Tryd.prog 82 #[.agg #[.int .u64 x1, .int .i64 x2]] w R :=
  calls_of_compF noNum follows [] (f := 82) (fn := Go.Proofs.Tryd.f82) (body := Go.Proofs.Tryd.f82.body.getD .skip) (args := [.agg #[.int .u64 x1, .int .i64 x2]]) rfl rfl (Nat.le_of_ble_eq_true rfl) ((congrFun (F82_eq _ x1 x2) w).mpr h)
theorem F82_call {x1 : Int} {x2 : Int} {w : World} {g : Fn W (RTy.leaves (.s (.one (.int .u64))))} (h : F82 (fun v => Back (.s (.one (.int .u64))) g (.returned v)) x1 x2 w) : CallT Go.Proofs.Tryd.prog 82 [.agg #[.int .u64 x1, .int .i64 x2]] (.s (.one (.int .u64))) g w := F82_calls h

/-! ## yfast.entriesWrapper).Key -/
def F84 (k : Value → W) (ew_1 : Option Addr) : W :=
 NN ew_1 fun a2 =>
 LoadT (.int .u64) a2 fun x3 =>
 k (.int .u64 x3)
theorem F84_eq (k : Value → W) (ew_1 : Option Addr) : compF Go.Proofs.Tryd.prog Go.Proofs.Tryd.f84 [] (Go.Proofs.Tryd.f84.body.getD .skip) [.pointer ew_1] k = F84 k ew_1 := by kernel_rfl
theorem F84_calls {ew_1 : Option Addr} {w : World} {R : Ending → World → Prop} (h : F84 (fun v w => R (.returned v) w) ew_1 w) : Calls Go.Proofs.Tryd.prog 84 #[.pointer ew_1] w R :=
  calls_of_compF noNum follows [] (f := 84) (fn := Go.Proofs.Tryd.f84) (body := Go.Proofs.Tryd.f84.body.getD .skip) (args := [.pointer ew_1]) rfl rfl (Nat.le_of_ble_eq_true rfl) ((congrFun (F84_eq _ ew_1) w).mpr h)
theorem F84_call {ew_1 : Option Addr} {w : World} {g : Fn W (RTy.leaves (.s (.one (.int .u64))))} (h : F84 (fun v => Back (.s (.one (.int .u64))) g (.returned v)) ew_1 w) : CallT Go.Proofs.Tryd.prog 84 [.pointer ew_1] (.s (.one (.int .u64))) g w := F84_calls h

/-! ## impl.entry -/
def F26 (k : Value → W) (x_1 : Value) : W :=
 New [.slice none 0 0, .int .u64 0, .bool false] 39 fun n2 =>
 RawS Go.Proofs.Tryd.prog (Instr.typeAssert x_1 20 57 true) (.tup [(.agg [(.int .u64), (.int .i64)]), (.one .bool)]) fun x3 x4 b5 =>
 New [.int .u64 0, .int .i64 0] 57 fun n6 =>
 Store1 ⟨n6, 0, none⟩ (.int .u64 x3) <|
 Store1 ⟨n6, 1, none⟩ (.int .i64 x4) <|
 BIf b5 (
  LoadT (.int .u64) ⟨n6, 0, none⟩ fun x7 =>
  LoadT (.int .i64) ⟨n6, 1, none⟩ fun x8 =>
  RawT Go.Proofs.Tryd.prog (Instr.buildSlice 26 1 [(0, .agg #[.int .u64 x7, .int .i64 x8])].toArray) (.s (.one .slice)) fun s9p s9l s9c =>
  Store1 ⟨n2, 0, none⟩ (.slice s9p s9l s9c) <|
  Store1 ⟨n2, 1, none⟩ (.int .u64 0) <|
  Store1 ⟨n2, 2, none⟩ (.bool false) <|
  LoadT .slice ⟨n2, 0, none⟩ fun s10p s10l s10c =>
  LoadT (.int .u64) ⟨n2, 1, none⟩ fun x11 =>
  LoadT .bool ⟨n2, 2, none⟩ fun b12 =>
  k (.agg #[.slice s10p s10l s10c, .int .u64 x11, .bool b12])) (
  Store1 ⟨n2, 0, none⟩ (.slice none 0 0) <|
  Store1 ⟨n2, 1, none⟩ (.int .u64 0) <|
  Store1 ⟨n2, 2, none⟩ (.bool false) <|
  LoadT .slice ⟨n2, 0, none⟩ fun s13p s13l s13c =>
  LoadT (.int .u64) ⟨n2, 1, none⟩ fun x14 =>
  LoadT .bool ⟨n2, 2, none⟩ fun b15 =>
  k (.agg #[.slice s13p s13l s13c, .int .u64 x14, .bool b15]))
theorem F26_eq (k : Value → W) (x_1 : Value) : compF Go.Proofs.Tryd.prog Go.Proofs.Tryd.f26 [] (Go.Proofs.Tryd.f26.body.getD .skip) [x_1] k = F26 k x_1 := by kernel_rfl
theorem F26_calls {x_1 : Value} {w : World} {R : Ending → World → Prop} (h : F26 (fun v w => R (.returned v) w) x_1 w) : Calls Go.Proofs.Tryd.prog 26 #[x_1] w R :=
  calls_of_compF noNum follows [] (f := 26) (fn := Go.Proofs.Tryd.f26) (body := Go.Proofs.Tryd.f26.body.getD .skip) (args := [x_1]) rfl rfl (Nat.le_of_ble_eq_true rfl) ((congrFun (F26_eq _ x_1) w).mpr h)
theorem F26_call {x_1 : Value} {w : World} {g : Fn W (RTy.leaves (.s (.agg [.slice, (.int .u64), .bool])))} (h : F26 (fun v => Back (.s (.agg [.slice, (.int .u64), .bool])) g (.returned v)) x_1 w) : CallT Go.Proofs.Tryd.prog 26 [x_1] (.s (.agg [.slice, (.int .u64), .bool])) g w := F26_calls h

/-! ## xfast.XFastTrie).Get -/
def F27 (k : Value → W) (xft_1 : Option Addr) (key_2 : Int) : W :=
 Drw <|
 NN xft_1 fun a3 =>
 LoadT .slice a3 fun s4p s4l s4c =>
 NN xft_1 fun a5 =>
 LoadT (.int .u8) (a5.add 3) fun x6 =>
 NN s4p fun a7 =>
 Req (0 ≤ subI .u8 x6 1 ∧ subI .u8 x6 1 < ((s4l : Nat) : Int)) <|
 LoadT .map (a7.add ((subI .u8 x6 1).toNat)) fun m8 =>
 RawS Go.Proofs.Tryd.prog (Instr.lookup 88 (.map m8) (.int .u64 key_2) false) (.s (.one .ptr)) fun p9 =>
 Chk1 (a5.add 3) (.int .u8 x6) <|
 Chk1 a3 (.slice s4p s4l s4c) <|
 BIf p9.isNone (
  k .nilIface) (
  NN p9 fun a10 =>
  LoadT .any a10 fun v11 =>
  k v11)
theorem F27_eq (k : Value → W) (xft_1 : Option Addr) (key_2 : Int) : compF Go.Proofs.Tryd.prog Go.Proofs.Tryd.f27 [] (Go.Proofs.Tryd.f27.body.getD .skip) [.pointer xft_1, .int .u64 key_2] k = F27 k xft_1 key_2 := by kernel_rfl
theorem F27_calls {xft_1 : Option Addr} {key_2 : Int} {w : World} {R : Ending → World → Prop} (h : F27 (fun v w => R (.returned v) w) xft_1 key_2 w) : Calls Go.Proofs.Tryd.prog 27 #[.pointer xft_1, .int .u64 key_2] w R :=
  calls_of_compF noNum follows [] (f := 27) (fn := Go.Proofs.Tryd.f27) (body := Go.Proofs.Tryd.f27.body.getD .skip) (args := [.pointer xft_1, .int .u64 key_2]) rfl rfl (Nat.le_of_ble_eq_true rfl) ((congrFun (F27_eq _ xft_1 key_2) w).mpr h)
theorem F27_call {xft_1 : Option Addr} {key_2 : Int} {w : World} {g : Fn W (RTy.leaves (.s (.one .any)))} (h : F27 (fun v => Back (.s (.one .any)) g (.returned v)) xft_1 key_2 w) : CallT Go.Proofs.Tryd.prog 27 [.pointer xft_1, .int .u64 key_2] (.s (.one .any)) g w := F27_calls h

/-! ## impl.first -/
def F28 (k : Value → W) (l_1p : Option Addr) (l_1l : Nat) (l_1c : Nat) : W :=
 BIf (((l_1l : Nat) : Int) == 0) (
  k (.int .u64 0)) (
  NN l_1p fun a2 =>
  Req (0 ≤ (0 : Int) ∧ (0 : Int) < ((l_1l : Nat) : Int)) <|
  LoadT (.int .u64) (a2.add ((0 : Int).toNat)) fun x3 =>
  k (.int .u64 x3))
theorem F28_eq (k : Value → W) (l_1p : Option Addr) (l_1l : Nat) (l_1c : Nat) : compF Go.Proofs.Tryd.prog Go.Proofs.Tryd.f28 [] (Go.Proofs.Tryd.f28.body.getD .skip) [.slice l_1p l_1l l_1c] k = F28 k l_1p l_1l l_1c := by kernel_rfl
theorem F28_calls {l_1p : Option Addr} {l_1l : Nat} {l_1c : Nat} {w : World} {R : Ending → World → Prop} (h : F28 (fun v w => R (.returned v) w) l_1p l_1l l_1c w) : Calls Go.Proofs.Tryd.prog 28 #[.slice l_1p l_1l l_1c] w R :=
  calls_of_compF noNum follows [] (f := 28) (fn := Go.Proofs.Tryd.f28) (body := Go.Proofs.Tryd.f28.body.getD .skip) (args := [.slice l_1p l_1l l_1c]) rfl rfl (Nat.le_of_ble_eq_true rfl) ((congrFun (F28_eq _ l_1p l_1l l_1c) w).mpr h)
theorem F28_call {l_1p : Option Addr} {l_1l : Nat} {l_1c : Nat} {w : World} {g : Fn W (RTy.leaves (.s (.one (.int .u64))))} (h : F28 (fun v => Back (.s (.one (.int .u64))) g (.returned v)) l_1p l_1l l_1c w) : CallT Go.Proofs.Tryd.prog 28 [.slice l_1p l_1l l_1c] (.s (.one (.int .u64))) g w := F28_calls h

/-! ## xfast.XFastTrie).Len -/
def F30 (k : Value → W) (xft_1 : Option Addr) : W :=
 NN xft_1 fun a2 =>
 LoadT (.int .u64) (a2.add 2) fun x3 =>
 k (.int .u64 x3)
theorem F30_eq (k : Value → W) (xft_1 : Option Addr) : compF Go.Proofs.Tryd.prog Go.Proofs.Tryd.f30 [] (Go.Proofs.Tryd.f30.body.getD .skip) [.pointer xft_1] k = F30 k xft_1 := by kernel_rfl
theorem F30_calls {xft_1 : Option Addr} {w : World} {R : Ending → World → Prop} (h : F30 (fun v w => R (.returned v) w) xft_1 w) : Calls Go.Proofs.Tryd.prog 30 #[.pointer xft_1] w R :=
  calls_of_compF noNum follows [] (f := 30) (fn := Go.Proofs.Tryd.f30) (body := Go.Proofs.Tryd.f30.body.getD .skip) (args := [.pointer xft_1]) rfl rfl (Nat.le_of_ble_eq_true rfl) ((congrFun (F30_eq _ xft_1) w).mpr h)
theorem F30_call {xft_1 : Option Addr} {w : World} {g : Fn W (RTy.leaves (.s (.one (.int .u64))))} (h : F30 (fun v => Back (.s (.one (.int .u64))) g (.returned v)) xft_1 w) : CallT Go.Proofs.Tryd.prog 30 [.pointer xft_1] (.s (.one (.int .u64))) g w := F30_calls h

/-! ## xfast.XFastTrie).Min -/
def F31 (k : Value → W) (xft_1 : Option Addr) : W :=
 NN xft_1 fun a2 =>
 LoadT .ptr (a2.add 5) fun p3 =>
 BIf p3.isNone (
  k .nilIface) (
  NN xft_1 fun a4 =>
  LoadT .ptr (a4.add 5) fun p5 =>
  NN p5 fun a6 =>
  LoadT .any a6 fun v7 =>
  k v7)
theorem F31_eq (k : Value → W) (xft_1 : Option Addr) : compF Go.Proofs.Tryd.prog Go.Proofs.Tryd.f31 [] (Go.Proofs.Tryd.f31.body.getD .skip) [.pointer xft_1] k = F31 k xft_1 := by kernel_rfl
theorem F31_calls {xft_1 : Option Addr} {w : World} {R : Ending → World → Prop} (h : F31 (fun v w => R (.returned v) w) xft_1 w) : Calls Go.Proofs.Tryd.prog 31 #[.pointer xft_1] w R :=
  calls_of_compF noNum follows [] (f := 31) (fn := Go.Proofs.Tryd.f31) (body := Go.Proofs.Tryd.f31.body.getD .skip) (args := [.pointer xft_1]) rfl rfl (Nat.le_of_ble_eq_true rfl) ((congrFun (F31_eq _ xft_1) w).mpr h)
theorem F31_call {xft_1 : Option Addr} {w : World} {g : Fn W (RTy.leaves (.s (.one .any)))} (h : F31 (fun v => Back (.s (.one .any)) g (.returned v)) xft_1 w) : CallT Go.Proofs.Tryd.prog 31 [.pointer xft_1] (.s (.one .any)) g w := F31_calls h

/-! ## xfast.XFastTrie).Max -/
def F32 (k : Value → W) (xft_1 : Option Addr) : W :=
 NN xft_1 fun a2 =>
 LoadT .ptr (a2.add 6) fun p3 =>
 BIf p3.isNone (
  k .nilIface) (
  NN xft_1 fun a4 =>
  LoadT .ptr (a4.add 6) fun p5 =>
  NN p5 fun a6 =>
  LoadT .any a6 fun v7 =>
  k v7)
theorem F32_eq (k : Value → W) (xft_1 : Option Addr) : compF Go.Proofs.Tryd.prog Go.Proofs.Tryd.f32 [] (Go.Proofs.Tryd.f32.body.getD .skip) [.pointer xft_1] k = F32 k xft_1 := by kernel_rfl
theorem F32_calls {xft_1 : Option Addr} {w : World} {R : Ending → World → Prop} (h : F32 (fun v w => R (.returned v) w) xft_1 w) : Calls Go.Proofs.Tryd.prog 32 #[.pointer xft_1] w R :=
  calls_of_compF noNum follows [] (f := 32) (fn := Go.Proofs.Tryd.f32) (body := Go.Proofs.Tryd.f32.body.getD .skip) (args := [.pointer xft_1]) rfl rfl (Nat.le_of_ble_eq_true rfl) ((congrFun (F32_eq _ xft_1) w).mpr h)
theorem F32_call {xft_1 : Option Addr} {w : World} {g : Fn W (RTy.leaves (.s (.one .any)))} (h : F32 (fun v => Back (.s (.one .any)) g (.returned v)) xft_1 w) : CallT Go.Proofs.Tryd.prog 32 [.pointer xft_1] (.s (.one .any)) g w := F32_calls h

/-! ## xfast.XFastTrie).Exists -/
def F29 (k : Value → W) (xft_1 : Option Addr) (key_2 : Int) : W :=
 Drw <|
 NN xft_1 fun a3 =>
 LoadT .slice a3 fun s4p s4l s4c =>
 NN xft_1 fun a5 =>
 LoadT (.int .u8) (a5.add 3) fun x6 =>
 NN s4p fun a7 =>
 Req (0 ≤ subI .u8 x6 1 ∧ subI .u8 x6 1 < ((s4l : Nat) : Int)) <|
 LoadT .map (a7.add ((subI .u8 x6 1).toNat)) fun m8 =>
 RawS Go.Proofs.Tryd.prog (Instr.lookup 88 (.map m8) (.int .u64 key_2) true) (.tup [(.one .ptr), (.one .bool)]) fun p9 b10 =>
 Chk1 (a5.add 3) (.int .u8 x6) <|
 Chk1 a3 (.slice s4p s4l s4c) <|
 k (.bool b10)
theorem F29_eq (k : Value → W) (xft_1 : Option Addr) (key_2 : Int) : compF Go.Proofs.Tryd.prog Go.Proofs.Tryd.f29 [] (Go.Proofs.Tryd.f29.body.getD .skip) [.pointer xft_1, .int .u64 key_2] k = F29 k xft_1 key_2 := by kernel_rfl
theorem F29_calls {xft_1 : Option Addr} {key_2 : Int} {w : World} {R : Ending → World → Prop} (h : F29 (fun v w => R (.returned v) w) xft_1 key_2 w) : Calls Go.Proofs.Tryd.prog 29 #[.pointer xft_1, .int .u64 key_2] w R :=
  calls_of_compF noNum follows [] (f := 29) (fn := Go.Proofs.Tryd.f29) (body := Go.Proofs.Tryd.f29.body.getD .skip) (args := [.pointer xft_1, .int .u64 key_2]) rfl rfl (Nat.le_of_ble_eq_true rfl) ((congrFun (F29_eq _ xft_1 key_2) w).mpr h)
theorem F29_call {xft_1 : Option Addr} {key_2 : Int} {w : World} {g : Fn W (RTy.leaves (.s (.one .bool)))} (h : F29 (fun v => Back (.s (.one .bool)) g (.returned v)) xft_1 key_2 w) : CallT Go.Proofs.Tryd.prog 29 [.pointer xft_1, .int .u64 key_2] (.s (.one .bool)) g w := F29_calls h

/-! ## impl.XFRun -/
def F9_J1 (k : Value → W) (again10 : Option Addr → Option Addr → Nat → Nat → Option Addr → Nat → Nat → Int → Int → W) (t_38 : Option Addr) (out_39p : Option Addr) (out_39l : Nat) (out_39c : Nat) (said_40 : Addr) (s41p : Option Addr) (s41l : Nat) (s41c : Nat) (x42 : Int) (x43 : Int) : W :=
 LoadT .slice (said_40.add 0) fun s44p s44l s44c =>
 LoadT (.int .u64) (said_40.add 1) fun x45 =>
 LoadT .bool (said_40.add 2) fun b46 =>
 RawT Go.Proofs.Tryd.prog (Instr.buildSlice 29 1 [(0, .agg #[.slice s44p s44l s44c, .int .u64 x45, .bool b46])].toArray) (.s (.one .slice)) fun s47p s47l s47c =>
 NextT Go.Proofs.Tryd.prog (builtin .append #[29, 29] 29 [false, false].toArray [.slice out_39p out_39l out_39c, .slice s47p s47l s47c].toArray) (.s (.one .slice)) fun s48p s48l s48c =>
 again10 t_38 s48p s48l s48c s41p s41l s41c x42 (addI .i64 x43 1)
def F9_L2 (k : Value → W) (again10 : Option Addr → Option Addr → Nat → Nat → Option Addr → Nat → Nat → Int → Int → W) (again29 : Option Addr → Option Addr → Nat → Nat → Addr → Option Addr → Nat → Nat → Option Addr → Nat → Nat → Int → Int → Option Addr → Nat → Nat → Int → Int → W) (t_19 : Option Addr) (out_20p : Option Addr) (out_20l : Nat) (out_20c : Nat) (said_21 : Addr) (l_22p : Option Addr) (l_22l : Nat) (l_22c : Nat) (s23p : Option Addr) (s23l : Nat) (s23c : Nat) (x24 : Int) (x25 : Int) (s26p : Option Addr) (s26l : Nat) (s26c : Nat) (x27 : Int) (x28 : Int) : W :=
 BIf (decide (x28 < x27)) (
  NN s26p fun a30 =>
  Req (0 ≤ x28 ∧ x28 < ((s26l : Nat) : Int)) <|
  LoadT (.int .u64) ((a30.add (x28.toNat * 2)).add 0) fun x31 =>
  LoadT (.int .i64) ((a30.add (x28.toNat * 2)).add 1) fun x32 =>
  New [.int .u64 0, .int .i64 0] 35 fun n33 =>
  Store1 ⟨n33, 0, none⟩ (.int .u64 x31) <|
  Store1 ⟨n33, 1, none⟩ (.int .i64 x32) <|
  LoadT (.int .u64) ⟨n33, 0, none⟩ fun x34 =>
  LoadT (.int .i64) ⟨n33, 1, none⟩ fun x35 =>
  RawT Go.Proofs.Tryd.prog (Instr.buildSlice 55 1 [(0, .iface 57 (.agg #[.int .u64 x34, .int .i64 x35]))].toArray) (.s (.one .slice)) fun s36p s36l s36c =>
  NextT Go.Proofs.Tryd.prog (builtin .append #[55, 55] 55 [false, false].toArray [.slice l_22p l_22l l_22c, .slice s36p s36l s36c].toArray) (.s (.one .slice)) fun s37p s37l s37c =>
  again29 t_19 out_20p out_20l out_20c said_21 s37p s37l s37c s23p s23l s23c x24 x25 s26p s26l s26c x27 (addI .i64 x28 1)) (
  CallT Go.Proofs.Tryd.prog 24 [.pointer t_19, .slice l_22p l_22l l_22c] (.tup []) <|
  F9_J1 k again10 t_19 out_20p out_20l out_20c said_21 s23p s23l s23c x24 x25)
theorem F9_L2_rule {k : Value → W} {again10 : Option Addr → Option Addr → Nat → Nat → Option Addr → Nat → Nat → Int → Int → W} (I : Option Addr → Option Addr → Nat → Nat → Addr → Option Addr → Nat → Nat → Option Addr → Nat → Nat → Int → Int → Option Addr → Nat → Nat → Int → Int → W) (μ : Option Addr → Option Addr → Nat → Nat → Addr → Option Addr → Nat → Nat → Option Addr → Nat → Nat → Int → Int → Option Addr → Nat → Nat → Int → Int → World → Nat)
  (hr : ∀ (t_19 : Option Addr) (out_20p : Option Addr) (out_20l : Nat) (out_20c : Nat) (said_21 : Addr) (l_22p : Option Addr) (l_22l : Nat) (l_22c : Nat) (s23p : Option Addr) (s23l : Nat) (s23c : Nat) (x24 : Int) (x25 : Int) (s26p : Option Addr) (s26l : Nat) (s26c : Nat) (x27 : Int) (x28 : Int) (w : World), I t_19 out_20p out_20l out_20c said_21 l_22p l_22l l_22c s23p s23l s23c x24 x25 s26p s26l s26c x27 x28 w → F9_L2 k again10 (fun t_19' out_20p' out_20l' out_20c' said_21' l_22p' l_22l' l_22c' s23p' s23l' s23c' x24' x25' s26p' s26l' s26c' x27' x28' w' => I t_19' out_20p' out_20l' out_20c' said_21' l_22p' l_22l' l_22c' s23p' s23l' s23c' x24' x25' s26p' s26l' s26c' x27' x28' w' ∧ μ t_19' out_20p' out_20l' out_20c' said_21' l_22p' l_22l' l_22c' s23p' s23l' s23c' x24' x25' s26p' s26l' s26c' x27' x28' w' < μ t_19 out_20p out_20l out_20c said_21 l_22p l_22l l_22c s23p s23l s23c x24 x25 s26p s26l s26c x27 x28 w) t_19 out_20p out_20l out_20c said_21 l_22p l_22l l_22c s23p s23l s23c x24 x25 s26p s26l s26c x27 x28 w)
  {w : World} {t_19 : Option Addr} {out_20p : Option Addr} {out_20l : Nat} {out_20c : Nat} {said_21 : Addr} {l_22p : Option Addr} {l_22l : Nat} {l_22c : Nat} {s23p : Option Addr} {s23l : Nat} {s23c : Nat} {x24 : Int} {x25 : Int} {s26p : Option Addr} {s26l : Nat} {s26c : Nat} {x27 : Int} {x28 : Int} (h : I t_19 out_20p out_20l out_20c said_21 l_22p l_22l l_22c s23p s23l s23c x24 x25 s26p s26l s26c x27 x28 w) : Loop [.ptr, .slice, .addr, .slice, .slice, (.int .i64), (.int .i64), .slice, (.int .i64), (.int .i64)] (F9_L2 k again10) t_19 out_20p out_20l out_20c said_21 l_22p l_22l l_22c s23p s23l s23c x24 x25 s26p s26l s26c x27 x28 w :=
  Loop_intro (ts := [.ptr, .slice, .addr, .slice, .slice, (.int .i64), (.int .i64), .slice, (.int .i64), (.int .i64)]) (s := (t_19, (out_20p, out_20l, out_20c), said_21, (l_22p, l_22l, l_22c), (s23p, s23l, s23c), x24, x25, (s26p, s26l, s26c), x27, x28, ())) (fun s w => I s.1 s.2.1.1 s.2.1.2.1 s.2.1.2.2 s.2.2.1 s.2.2.2.1.1 s.2.2.2.1.2.1 s.2.2.2.1.2.2 s.2.2.2.2.1.1 s.2.2.2.2.1.2.1 s.2.2.2.2.1.2.2 s.2.2.2.2.2.1 s.2.2.2.2.2.2.1 s.2.2.2.2.2.2.2.1.1 s.2.2.2.2.2.2.2.1.2.1 s.2.2.2.2.2.2.2.1.2.2 s.2.2.2.2.2.2.2.2.1 s.2.2.2.2.2.2.2.2.2.1 w) (fun s w => μ s.1 s.2.1.1 s.2.1.2.1 s.2.1.2.2 s.2.2.1 s.2.2.2.1.1 s.2.2.2.1.2.1 s.2.2.2.1.2.2 s.2.2.2.2.1.1 s.2.2.2.2.1.2.1 s.2.2.2.2.1.2.2 s.2.2.2.2.2.1 s.2.2.2.2.2.2.1 s.2.2.2.2.2.2.2.1.1 s.2.2.2.2.2.2.2.1.2.1 s.2.2.2.2.2.2.2.1.2.2 s.2.2.2.2.2.2.2.2.1 s.2.2.2.2.2.2.2.2.2.1 w) h (fun s w h => hr s.1 s.2.1.1 s.2.1.2.1 s.2.1.2.2 s.2.2.1 s.2.2.2.1.1 s.2.2.2.1.2.1 s.2.2.2.1.2.2 s.2.2.2.2.1.1 s.2.2.2.2.1.2.1 s.2.2.2.2.1.2.2 s.2.2.2.2.2.1 s.2.2.2.2.2.2.1 s.2.2.2.2.2.2.2.1.1 s.2.2.2.2.2.2.2.1.2.1 s.2.2.2.2.2.2.2.1.2.2 s.2.2.2.2.2.2.2.2.1 s.2.2.2.2.2.2.2.2.2.1 w h)
def F9_L1 (k : Value → W) (again10 : Option Addr → Option Addr → Nat → Nat → Option Addr → Nat → Nat → Int → Int → W) (t_5 : Option Addr) (out_6p : Option Addr) (out_6l : Nat) (out_6c : Nat) (s7p : Option Addr) (s7l : Nat) (s7c : Nat) (x8 : Int) (x9 : Int) : W :=
 BIf (decide (x9 < x8)) (
  NN s7p fun a11 =>
  Req (0 ≤ x9 ∧ x9 < ((s7l : Nat) : Int)) <|
  LoadT (.int .i64) ((a11.add (x9.toNat * 3)).add 0) fun x12 =>
  LoadT .slice ((a11.add (x9.toNat * 3)).add 1) fun s13p s13l s13c =>
  LoadT .slice ((a11.add (x9.toNat * 3)).add 2) fun s14p s14l s14c =>
  New [.int .i64 0, .slice none 0 0, .slice none 0 0] 33 fun n15 =>
  Store1 ⟨n15, 0, none⟩ (.int .i64 x12) <|
  Store1 ⟨n15, 1, none⟩ (.slice s13p s13l s13c) <|
  Store1 ⟨n15, 2, none⟩ (.slice s14p s14l s14c) <|
  New [.slice none 0 0, .int .u64 0, .bool false] 39 fun n16 =>
  LoadT (.int .i64) ⟨n15, 0, none⟩ fun x17 =>
  BIf (x17 == 1) (
   LoadT .slice ⟨n15, 1, none⟩ fun s18p s18l s18c =>
   Loop [.ptr, .slice, .addr, .slice, .slice, (.int .i64), (.int .i64), .slice, (.int .i64), (.int .i64)] (F9_L2 k again10) t_5 out_6p out_6l out_6c ⟨n16, 0, none⟩ none 0 0 s7p s7l s7c x8 x9 s18p s18l s18c ((s18l : Nat) : Int) 0) (
   BIf (x17 == 2) (
    LoadT .slice ⟨n15, 2, none⟩ fun s49p s49l s49c =>
    CallT Go.Proofs.Tryd.prog 25 [.pointer t_5, .slice s49p s49l s49c] (.tup []) <|
    F9_J1 k again10 t_5 out_6p out_6l out_6c ⟨n16, 0, none⟩ s7p s7l s7c x8 x9) (
    BIf (x17 == 3) (
     LoadT .slice ⟨n15, 2, none⟩ fun s50p s50l s50c =>
     CallT Go.Proofs.Tryd.prog 28 [.slice s50p s50l s50c] (.s (.one (.int .u64))) fun x51 =>
     CallT Go.Proofs.Tryd.prog 27 [.pointer t_5, .int .u64 x51] (.s (.one .any)) fun v52 =>
     CallT Go.Proofs.Tryd.prog 26 [v52] (.s (.agg [.slice, (.int .u64), .bool])) fun s53p s53l s53c x54 b55 =>
     Store1 ⟨n16, 0, none⟩ (.slice s53p s53l s53c) <|
     Store1 ⟨n16, 1, none⟩ (.int .u64 x54) <|
     Store1 ⟨n16, 2, none⟩ (.bool b55) <|
     F9_J1 k again10 t_5 out_6p out_6l out_6c ⟨n16, 0, none⟩ s7p s7l s7c x8 x9) (
     BIf (x17 == 4) (
      LoadT .slice ⟨n15, 2, none⟩ fun s56p s56l s56c =>
      CallT Go.Proofs.Tryd.prog 28 [.slice s56p s56l s56c] (.s (.one (.int .u64))) fun x57 =>
      CallT Go.Proofs.Tryd.prog 29 [.pointer t_5, .int .u64 x57] (.s (.one .bool)) fun b58 =>
      Store1 ⟨n16, 2, none⟩ (.bool b58) <|
      F9_J1 k again10 t_5 out_6p out_6l out_6c ⟨n16, 0, none⟩ s7p s7l s7c x8 x9) (
      BIf (x17 == 5) (
       CallT Go.Proofs.Tryd.prog 30 [.pointer t_5] (.s (.one (.int .u64))) fun x59 =>
       Store1 ⟨n16, 1, none⟩ (.int .u64 x59) <|
       F9_J1 k again10 t_5 out_6p out_6l out_6c ⟨n16, 0, none⟩ s7p s7l s7c x8 x9) (
       BIf (x17 == 6) (
        CallT Go.Proofs.Tryd.prog 31 [.pointer t_5] (.s (.one .any)) fun v60 =>
        CallT Go.Proofs.Tryd.prog 26 [v60] (.s (.agg [.slice, (.int .u64), .bool])) fun s61p s61l s61c x62 b63 =>
        Store1 ⟨n16, 0, none⟩ (.slice s61p s61l s61c) <|
        Store1 ⟨n16, 1, none⟩ (.int .u64 x62) <|
        Store1 ⟨n16, 2, none⟩ (.bool b63) <|
        F9_J1 k again10 t_5 out_6p out_6l out_6c ⟨n16, 0, none⟩ s7p s7l s7c x8 x9) (
        BIf (x17 == 7) (
         CallT Go.Proofs.Tryd.prog 32 [.pointer t_5] (.s (.one .any)) fun v64 =>
         CallT Go.Proofs.Tryd.prog 26 [v64] (.s (.agg [.slice, (.int .u64), .bool])) fun s65p s65l s65c x66 b67 =>
         Store1 ⟨n16, 0, none⟩ (.slice s65p s65l s65c) <|
         Store1 ⟨n16, 1, none⟩ (.int .u64 x66) <|
         Store1 ⟨n16, 2, none⟩ (.bool b67) <|
         F9_J1 k again10 t_5 out_6p out_6l out_6c ⟨n16, 0, none⟩ s7p s7l s7c x8 x9) (
         F9_J1 k again10 t_5 out_6p out_6l out_6c ⟨n16, 0, none⟩ s7p s7l s7c x8 x9)))))))) (
  k (.slice out_6p out_6l out_6c))
theorem F9_L1_rule {k : Value → W} (I : Option Addr → Option Addr → Nat → Nat → Option Addr → Nat → Nat → Int → Int → W) (μ : Option Addr → Option Addr → Nat → Nat → Option Addr → Nat → Nat → Int → Int → World → Nat)
  (hr : ∀ (t_5 : Option Addr) (out_6p : Option Addr) (out_6l : Nat) (out_6c : Nat) (s7p : Option Addr) (s7l : Nat) (s7c : Nat) (x8 : Int) (x9 : Int) (w : World), I t_5 out_6p out_6l out_6c s7p s7l s7c x8 x9 w → F9_L1 k (fun t_5' out_6p' out_6l' out_6c' s7p' s7l' s7c' x8' x9' w' => I t_5' out_6p' out_6l' out_6c' s7p' s7l' s7c' x8' x9' w' ∧ μ t_5' out_6p' out_6l' out_6c' s7p' s7l' s7c' x8' x9' w' < μ t_5 out_6p out_6l out_6c s7p s7l s7c x8 x9 w) t_5 out_6p out_6l out_6c s7p s7l s7c x8 x9 w)
  {w : World} {t_5 : Option Addr} {out_6p : Option Addr} {out_6l : Nat} {out_6c : Nat} {s7p : Option Addr} {s7l : Nat} {s7c : Nat} {x8 : Int} {x9 : Int} (h : I t_5 out_6p out_6l out_6c s7p s7l s7c x8 x9 w) : Loop [.ptr, .slice, .slice, (.int .i64), (.int .i64)] (F9_L1 k) t_5 out_6p out_6l out_6c s7p s7l s7c x8 x9 w :=
  Loop_intro (ts := [.ptr, .slice, .slice, (.int .i64), (.int .i64)]) (s := (t_5, (out_6p, out_6l, out_6c), (s7p, s7l, s7c), x8, x9, ())) (fun s w => I s.1 s.2.1.1 s.2.1.2.1 s.2.1.2.2 s.2.2.1.1 s.2.2.1.2.1 s.2.2.1.2.2 s.2.2.2.1 s.2.2.2.2.1 w) (fun s w => μ s.1 s.2.1.1 s.2.1.2.1 s.2.1.2.2 s.2.2.1.1 s.2.2.1.2.1 s.2.2.1.2.2 s.2.2.2.1 s.2.2.2.2.1 w) h (fun s w h => hr s.1 s.2.1.1 s.2.1.2.1 s.2.1.2.2 s.2.2.1.1 s.2.2.1.2.1 s.2.2.1.2.2 s.2.2.2.1 s.2.2.2.2.1 w h)
def F9 (k : Value → W) (bits_1 : Int) (steps_2p : Option Addr) (steps_2l : Nat) (steps_2c : Nat) : W :=
 CallT Go.Proofs.Tryd.prog 23 [.int .i64 bits_1] (.s (.one .any)) fun v3 =>
 CallT Go.Proofs.Tryd.prog 22 [v3] (.s (.one .ptr)) fun p4 =>
 Loop [.ptr, .slice, .slice, (.int .i64), (.int .i64)] (F9_L1 k) p4 none 0 0 steps_2p steps_2l steps_2c ((steps_2l : Nat) : Int) 0
theorem F9_eq (k : Value → W) (bits_1 : Int) (steps_2p : Option Addr) (steps_2l : Nat) (steps_2c : Nat) : compF Go.Proofs.Tryd.prog Go.Proofs.Tryd.f9 [(4, [(5, .ptr), (6, .slice), (16, .slice), (17, (.int .i64)), (18, (.int .i64))]), (11, [(5, .ptr), (6, .slice), (9, .addr), (10, .slice), (16, .slice), (17, (.int .i64)), (18, (.int .i64)), (27, .slice), (28, (.int .i64)), (29, (.int .i64))])] (Go.Proofs.Tryd.f9.body.getD .skip) [.int .i64 bits_1, .slice steps_2p steps_2l steps_2c] k = F9 k bits_1 steps_2p steps_2l steps_2c := by kernel_rfl
theorem F9_calls {bits_1 : Int} {steps_2p : Option Addr} {steps_2l : Nat} {steps_2c : Nat} {w : World} {R : Ending → World → Prop} (h : F9 (fun v w => R (.returned v) w) bits_1 steps_2p steps_2l steps_2c w) : Calls Go.Proofs.Tryd.prog 9 #[.int .i64 bits_1, .slice steps_2p steps_2l steps_2c] w R :=
  calls_of_compF noNum follows [(4, [(5, .ptr), (6, .slice), (16, .slice), (17, (.int .i64)), (18, (.int .i64))]), (11, [(5, .ptr), (6, .slice), (9, .addr), (10, .slice), (16, .slice), (17, (.int .i64)), (18, (.int .i64)), (27, .slice), (28, (.int .i64)), (29, (.int .i64))])] (f := 9) (fn := Go.Proofs.Tryd.f9) (body := Go.Proofs.Tryd.f9.body.getD .skip) (args := [.int .i64 bits_1, .slice steps_2p steps_2l steps_2c]) rfl rfl (Nat.le_of_ble_eq_true rfl) ((congrFun (F9_eq _ bits_1 steps_2p steps_2l steps_2c) w).mpr h)
theorem F9_call {bits_1 : Int} {steps_2p : Option Addr} {steps_2l : Nat} {steps_2c : Nat} {w : World} {g : Fn W (RTy.leaves (.s (.one .slice)))} (h : F9 (fun v => Back (.s (.one .slice)) g (.returned v)) bits_1 steps_2p steps_2l steps_2c w) : CallT Go.Proofs.Tryd.prog 9 [.int .i64 bits_1, .slice steps_2p steps_2l steps_2c] (.s (.one .slice)) g w := F9_calls h

end Go.Proofs.YtaacaokocamlcaaDoor.E
